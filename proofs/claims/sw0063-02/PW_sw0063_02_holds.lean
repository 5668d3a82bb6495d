import PyProof.Rows.All
import PyProof.Rows.ListMulArg
import PyProof.Rows.SortWalk
import KE.KEqSeq
import Wide.FinOn
import OpenK.AllK
import Wide.All
import PySem.Challenge.RW_sw0063_02

set_option Elab.async false
set_option maxRecDepth 100000
set_option maxHeartbeats 0
set_option linter.unusedVariables false
set_option linter.unusedSimpArgs false

open PySem PySem.W PyProof.Rows
set_option Elab.async false
set_option maxRecDepth 100000
namespace Mine.Head

section
variable (p : Program) (w : World) (n₀ : Nat) (ann : Option Value)

noncomputable def Go {α : Type} (c : Code) (B : List Frame) (n : Nat) (s : Shared) (q : Pos) (t : Sem α) (s' : Shared) (q' : Pos) (a : α) : Prop :=
  ∀ (K : α → Sem Fin) (H : Value → Sem Fin) (gd : Bool → Bool) (lv : List Value → List Value) (N : Nat) (r : Shared),
    topRun table p w n₀ ann N s' ⟨K a, c, q', B⟩ = some r → topRun table p w n₀ ann (n + N) s ⟨t.wrap K H gd lv, c, q, B⟩ = some r

theorem top_step {t t' : Thread} {s s' r : Shared} {N : Nat} (h1 : through t = false) (h2 : stepOk n₀ ann t = true) (h3 : step (denote table) p w s t = .go s' t')
    (h : topRun table p w n₀ ann N s' t' = some r) : topRun table p w n₀ ann (1 + N) s t = some r := by
  rw [Nat.add_comm]
  unfold topRun
  rw [h1, h2, h3]
  exact h
end

section
variable {p : Program} {w : World} {n₀ : Nat} {ann : Option Value} {α β : Type} {c : Code} {F : Frame} {B : List Frame} {s s' s'' : Shared} {q q' q'' : Pos} {n n' : Nat}

theorem go_pure {a : α} : Go p w n₀ ann c B 0 s q (pure a) s q a := by
  intro K H gd lv N r h
  rw [Nat.zero_add]; exact h
theorem go_cast {t : Sem α} {a : α} {m : Nat} (h : Go p w n₀ ann c B n s q t s' q' a) (e : n = m) : Go p w n₀ ann c B m s q t s' q' a := e ▸ h
theorem go_eq {t t' : Sem α} {a : α} (e : t = t') (h : Go p w n₀ ann c B n s q t' s' q' a) : Go p w n₀ ann c B n s q t s' q' a := e ▸ h
theorem go_bind {m : Sem α} {f : α → Sem β} {a : α} {b : β} (h : Go p w n₀ ann c B n s q m s' q' a) (h' : Go p w n₀ ann c B n' s' q' (f a) s'' q'' b) :
    Go p w n₀ ann c B (n + n') s q (m >>= f) s'' q'' b := by
  intro K H gd lv N r hr
  rw [Sem.bind_eq_wrap', Sem.wrap_wrap, Nat.add_assoc]
  exact h _ _ _ _ _ _ (h' K H gd lv N r hr)
theorem go_keep {vs : List Value} {t : Sem α} {a : α} (h : Go p w n₀ ann c B n s q t s' q' a) : Go p w n₀ ann c B n s q (t.keep vs) s' q' a := by
  intro K H gd lv N r hr
  rw [Sem.keep_eq_wrap, Sem.wrap_wrap]
  exact h _ _ _ _ _ _ hr
theorem go_holding {vs : List Value} {t : Sem α} {a : α} (h : Go p w n₀ ann c B n s q t s' q' a) : Go p w n₀ ann c B n s q (holding vs t) s' q' a := by
  unfold holding
  split
  · exact h
  · exact go_keep h
theorem go_onRaise {t : Sem α} {k : Value → Sem Unit} {a : α} (h : Go p w n₀ ann c B n s q t s' q' a) : Go p w n₀ ann c B n s q (t.onRaise k) s' q' a := by
  intro K H gd lv N r hr
  rw [Sem.onRaise_eq_wrap, Sem.wrap_wrap]
  exact h _ _ _ _ _ _ hr
theorem go_tryCatch {t : Sem α} {k : Value → Sem α} {a : α} (h : Go p w n₀ ann c B n s q t s' q' a) : Go p w n₀ ann c B n s q (t.tryCatch k) s' q' a := by
  intro K H gd lv N r hr
  rw [Sem.tryCatch_eq_wrap, Sem.wrap_wrap]
  exact h _ _ _ _ _ _ hr

theorem go_nil {m : Sem α} {f : α → Sem β} {a : α} {b : β} (e : m = pure a) (h : Go p w n₀ ann c B n s q (f a) s' q' b) : Go p w n₀ ann c B n s q (m >>= f) s' q' b := by
  subst e; exact h
theorem go_rule {tag : String} : Go p w n₀ ann c (F :: B) 1 s q (rule tag) s q () := fun _ _ _ _ _ _ h => by obtain ⟨hp, g, d, t, os⟩ := s; exact top_step p w n₀ ann rfl rfl rfl h
theorem go_standAt {q' : Pos} : Go p w n₀ ann c (F :: B) 1 s q (standAt q') s q' () := fun _ _ _ _ _ _ h => by obtain ⟨hp, g, d, t, os⟩ := s; exact top_step p w n₀ ann rfl rfl rfl h
theorem go_point {vs : List Value} : Go p w n₀ ann c (F :: B) 1 s q (Sem.point vs Sem.pure) s q () := fun _ _ _ _ _ _ h => by obtain ⟨hp, g, d, t, os⟩ := s; exact top_step p w n₀ ann rfl rfl rfl h
theorem go_ask : Go p w n₀ ann c (F :: B) 1 s q ask s q ⟨p, w.params⟩ := fun _ _ _ _ _ _ h => by obtain ⟨hp, g, d, t, os⟩ := s; exact top_step p w n₀ ann rfl rfl rfl h
theorem go_fresh : Go p w n₀ ann c (F :: B) 1 s q fresh { s with toks := s.toks + 1 } q s.toks := fun _ _ _ _ _ _ h => by obtain ⟨hp, g, d, t, os⟩ := s; exact top_step p w n₀ ann rfl rfl rfl h
theorem go_mkInt {i : Int} : Go p w n₀ ann c (F :: B) 1 s q (mkInt i) { s with toks := s.toks + 1 } q (.int i s.toks) := go_bind (n := 1) (n' := 0) (f := fun t => pure (Value.int i t)) go_fresh go_pure
theorem go_mkText {x : Str} : Go p w n₀ ann c (F :: B) 1 s q (mkText x) { s with toks := s.toks + 1 } q (.str x s.toks) := go_bind (n := 1) (n' := 0) (f := fun t => pure (Value.str x t)) go_fresh go_pure
theorem go_alloc {o : Obj} : Go p w n₀ ann c (F :: B) 1 s q (alloc o) { s with heap := s.heap.push o } q s.heap.objs.size := fun _ _ _ _ _ _ h => by obtain ⟨hp, g, d, t, os⟩ := s; exact top_step p w n₀ ann rfl rfl rfl h
theorem go_loadPart {a : Addr} {part : Option Value} {o : Obj} (ho : s.heap.get? a = some o) : Go p w n₀ ann c (F :: B) 1 s q (loadPart a part) s q o := fun K H gd lv _ _ h => by
  obtain ⟨hp, g, d, t, os⟩ := s
  refine top_step p w n₀ ann rfl rfl ?_ h
  show (match hp.get? a with | some o => _ | none => _) = _
  rw [show hp.get? a = some o from ho]
  rfl
theorem go_load {a : Addr} {o : Obj} (ho : s.heap.get? a = some o) : Go p w n₀ ann c (F :: B) 1 s q (load a) s q o := go_loadPart ho
theorem go_updatePart {a : Addr} {part : Option Value} {f : Obj → Obj} {o : Obj} (ho : s.heap.get? a = some o) (hk : (Nat.ble n₀ a || a == mainNs || a == cStatics || ann == some (.ref a)) = true) :
    Go p w n₀ ann c (F :: B) 1 s q (updatePart a part f) { s with heap := s.heap.update a f } q () := fun K H gd lv _ _ h => by
  obtain ⟨hp, g, d, t, os⟩ := s
  refine top_step p w n₀ ann rfl ?_ ?_ h
  · show (_ && _) = true
    exact Bool.and_eq_true_iff.mpr ⟨rfl, hk⟩
  · show (if (hp.get? a).isSome = true then _ else _) = _
    rw [show hp.get? a = some o from ho]
    rfl


theorem go_run {c' : Code} {t : Sem Fin} {f : Fin} {N : Nat} {r : Shared} (h : Go p w n₀ ann c' (F :: B) n s q t s' q' f)
    (k : topRun table p w n₀ ann N s' ⟨.pure f, c', q', F :: B⟩ = some r) : topRun table p w n₀ ann (n + N) s ⟨t, c', q, F :: B⟩ = some r := by
  have h3 := h Sem.pure Sem.raise id id N r k
  rw [← Sem.bind_eq_wrap, Sem.bind_pure] at h3
  exact h3

theorem go_call_builtin {id : String} {args : List Value} {b : Builtin} {v : Value} (hc : checkBuiltinCall id ⟨args, []⟩ = pure ()) (hb : entryFor table id = some b)
    (h : ∀ F', Go p w n₀ ann (.builtin id ⟨args, []⟩) (F' :: F :: B) n s q (b ⟨args, []⟩) s' q' (.done (.ret v))) (hl : id.startsWith "lifetime." = false) :
    Go p w n₀ ann c (F :: B) (1 + (1 + (n + 1))) s q (call (.builtin id) args) s' q v := fun K H gd lv N r hr => by
  obtain ⟨hp, gs, d, t, os⟩ := s
  have e1 : 1 + (1 + (n + 1)) + N = 1 + (1 + (n + (1 + N))) := by omega
  rw [e1]
  refine top_step p w n₀ ann rfl rfl rfl ?_
  have e2 : denote table (.call (.builtin id) ⟨args, []⟩) = .pure (.again (.builtin id ⟨args, []⟩)) := by
    show (do checkBuiltinCall id ⟨args, []⟩; again (.builtin id ⟨args, []⟩)) = _
    rw [hc]; rfl
  rw [e2]
  refine top_step p w n₀ ann rfl ?_ rfl ?_
  · show ((!id.startsWith "lifetime." || _) && _ && _ && _) = true
    rw [hl]; rfl
  have e3 : denote table (.builtin id ⟨args, []⟩) = b ⟨args, []⟩ := by
    show (match entryFor table id with | some b => b _ | none => _) = _
    rw [hb]
  rw [e3]
  obtain ⟨hp', gs', d', t', os'⟩ := s'
  refine go_run (h _) ?_
  exact top_step p w n₀ ann rfl rfl rfl hr

theorem check_hash (k : Int) (t : Tok) : checkBuiltinCall "int.__hash__" ⟨[.int k t], []⟩ = pure () := by kernel_rfl
theorem go_hash {k : Int} {t : Tok} : Go p w n₀ ann c (F :: B) 5 s q (pyHash (.int k t)) { s with toks := s.toks + 1 } q (hashInt k) := by
  have hr := rawHash_range k
  have hT : typeOf (.int k t) = pure (.type "int") := rfl
  have hs : specialOf (.int k t) "__hash__" = pure (some (.builtin "int.__hash__")) := by
    unfold specialOf
    rw [hT, pure_bind]
    exact slot_int_hash.lookup
  have hc : Go p w n₀ ann c (F :: B) 4 s q (call (.builtin "int.__hash__") [.int k t]) { s with toks := s.toks + 1 } q (.int (rawHash k) s.toks) :=
    go_call_builtin (n := 1) (check_hash k t) entry_int_hash (fun F' => go_bind (m := mkInt (rawHash k)) (f := fun v => ret v) (n := 1) (n' := 0) go_mkInt go_pure) (by decide +kernel)
  have hb : ∀ refuse : Sem Value, Go p w n₀ ann c (F :: B) 5 s q (callSpecialIfBoundUnlessNone? (.int k t) "__hash__" refuse) { s with toks := s.toks + 1 } q (some (.int (rawHash k) s.toks)) := by
    intro refuse
    unfold callSpecialIfBoundUnlessNone? bindSpecialIfBound?
    rw [hs]
    refine go_holding ?_
    refine go_cast (n := 1 + 4) (go_bind (s' := s) (q' := q) (a := some (.builtin "int.__hash__", [.int k t])) ?_ ?_) rfl
    · refine go_bind (n := 0) (n' := 1) go_pure ?_
      refine go_bind (n := 1) (n' := 0) go_ask ?_
      split
      · refine go_bind (n := 0) (n' := 0) (a := (.builtin "int.__hash__", [.int k t])) ?_ go_pure
        exact go_eq (slot_int_hash.bind _) go_pure
      · refine go_tryCatch ?_
        refine go_bind (n := 0) (n' := 0) (a := (.builtin "int.__hash__", [.int k t])) ?_ go_pure
        exact go_eq (slot_int_hash.bind _) go_pure
    · exact go_bind (n := 4) (n' := 0) hc go_pure
  unfold pyHash pyHashByItsType
  dsimp only
  rw [hs]
  refine go_nil (a := ()) rfl ?_
  refine go_nil rfl ?_
  rw [if_neg (by rw [beq_builtin_none]; exact Bool.false_ne_true)]
  refine go_nil rfl ?_
  rw [if_neg (by exact Bool.false_ne_true)]
  refine go_bind (n := 5) (n' := 0) (hb _) ?_
  refine go_eq (t' := if (decide (-(2 : Int) ^ 63 ≤ rawHash k) && decide (rawHash k < 2 ^ 63)) = true then pure (hashInt k) else _) rfl ?_
  rw [if_pos (by rw [decide_eq_true hr.1, decide_eq_true hr.2]; rfl)]
  exact go_pure
end
end Mine.Head

open PySem PySem.W PyProof.Rows
set_option Elab.async false
set_option maxRecDepth 100000
namespace Mine.Head

noncomputable def dob (es : List DictEntry) : Obj := ⟨.type "dict", none, .dict es.toArray es.length, #[]⟩
noncomputable def hp (P : List Obj) (o : Obj) (R : List Obj) (lf : Life) : Heap := ⟨(P ++ o :: R).toArray, lf⟩
theorem hp_get {P R : List Obj} {o : Obj} {lf : Life} (hf : o.isFreed = false) : (hp P o R lf).get? P.length = some o := by
  refine Heap.get?_some_iff.mpr ⟨?_, hf⟩
  simp [hp]
theorem hp_upd {P R : List Obj} {o : Obj} {lf : Life} {f : Obj → Obj} : (hp P o R lf).update P.length f = hp P (f o) R lf := by
  show Heap.mk _ _ = Heap.mk _ _
  refine congrArg (Heap.mk · lf) ?_
  apply Array.ext_getElem?
  intro i
  rw [Array.getElem?_modify]
  simp only [List.getElem?_toArray]
  by_cases h : P.length = i
  · subst h; simp
  · rw [if_neg h]
    by_cases hi : i < P.length
    · rw [List.getElem?_append_left hi, List.getElem?_append_left hi]
    · rw [List.getElem?_append_right (by omega), List.getElem?_append_right (by omega)]
      have : i - P.length ≠ 0 := by omega
      obtain ⟨j, hj⟩ := Nat.exists_eq_succ_of_ne_zero this
      rw [hj]; rfl
theorem dob_free (es : List DictEntry) : (dob es).isFreed = false := rfl
theorem dob_push (es : List DictEntry) (e : DictEntry) : Obj.mapDictKeys (·.push e) (dob es) = dob (es ++ [e]) := by
  unfold dob Obj.mapDictKeys
  simp

section
variable {p : Program} {w : World} {n₀ : Nat} {ann : Option Value} {α β : Type} {c : Code} {F : Frame} {B : List Frame} {s s' s'' : Shared} {q q' q'' : Pos} {n n' : Nat}

theorem go_dictEntries {a : Addr} {part : Option Value} {es : List DictEntry} (ho : s.heap.get? a = some (dob es)) : Go p w n₀ ann c (F :: B) 1 s q (dictEntries a part) s q es.toArray := by
  unfold dictEntries
  exact go_bind (n := 1) (n' := 0) (go_loadPart ho) go_pure
theorem go_dictEpoch {a : Addr} {part : Option Value} {es : List DictEntry} (ho : s.heap.get? a = some (dob es)) : Go p w n₀ ann c (F :: B) 1 s q (dictEpoch a part) s q es.length := by
  unfold dictEpoch
  exact go_bind (n := 1) (n' := 0) (go_loadPart ho) go_pure
theorem no_places {es : List DictEntry} {h : Int} (hn : h ∉ es.map (·.hash)) : placesWithHash es.toArray.size (fun i => (es.toArray[i]?).map (·.hash)) h = [] := by
  unfold placesWithHash
  rw [List.filter_eq_nil_iff]
  intro i _ hi
  have hi := beq_iff_eq.mp hi
  obtain ⟨e, he, hh⟩ := Option.map_eq_some_iff.mp hi
  rw [List.getElem?_toArray] at he
  exact hn (List.mem_map.mpr ⟨e, List.mem_of_getElem? he, hh⟩)
theorem go_dictFind {a : Addr} {es : List DictEntry} {k : Int} {t : Tok} {h : Int} (ho : s.heap.get? a = some (dob es)) (hn : h ∉ es.map (·.hash)) :
    Go p w n₀ ann c (F :: B) 1 s q (dictFind a (.int k t) h) s q none := by
  unfold dictFind
  refine go_holding ?_
  refine go_bind (n := 1) (n' := 0) (go_dictEntries ho) ?_
  dsimp only
  rw [no_places hn]
  refine go_eq (t' := dictWalkPlain a (.int k t) h es.toArray []) rfl ?_
  exact go_eq (t' := pure none) rfl go_pure
theorem go_updateKeys {a : Addr} {part : Option Value} {es : List DictEntry} {e : DictEntry} (ho : s.heap.get? a = some (dob es)) (hk : (Nat.ble n₀ a || a == mainNs || a == cStatics || ann == some (.ref a)) = true) (hs : es.length ≤ sizeLine) :
    Go p w n₀ ann c (F :: B) 3 s q (updateDictKeys a (·.push e) part) { s with heap := s.heap.update a (Obj.mapDictKeys (·.push e)) } q () := by
  unfold updateDictKeys
  refine go_bind (n := 1) (n' := 2) (go_loadPart ho) ?_
  refine go_bind (n := 1) (n' := 1) (go_updatePart ho hk) ?_
  unfold lookBehind
  have hg := Heap.get?_update_self (Obj.mapDictKeys (·.push e)) ho (by rw [dob_push]; rfl)
  refine go_bind (n := 1) (n' := 0) (go_loadPart hg) ?_
  have hp : (Obj.mapDictKeys (fun x => x.push e) (dob es)).data.pastItsLine = none := by
    rw [dob_push]
    exact pastItsLine_dict (by simp; omega)
  rw [hp]
  exact go_pure
theorem go_dictSet {a : Addr} {es : List DictEntry} {k : Int} {t : Tok} {v : Value} (ho : s.heap.get? a = some (dob es)) (hn : hashInt k ∉ es.map (·.hash)) (hk : (Nat.ble n₀ a || a == mainNs || a == cStatics || ann == some (.ref a)) = true) (hs : es.length ≤ sizeLine) :
    Go p w n₀ ann c (F :: B) 10 s q (dictSet a (.int k t) v) { s with heap := s.heap.update a (Obj.mapDictKeys (·.push ⟨hashInt k, .int k t, v⟩)), toks := s.toks + 1 } q () := by
  unfold dictSet
  refine go_holding ?_
  refine go_bind (n := 5) (n' := 5) go_hash ?_
  unfold dictSetHashed
  refine go_holding ?_
  refine go_bind (n := 1) (n' := 4) (go_dictFind (s := { s with toks := s.toks + 1 }) ho hn) ?_
  refine go_bind (n := 1) (n' := 3) go_rule ?_
  exact go_updateKeys (s := { s with toks := s.toks + 1 }) ho hk hs
theorem go_dictPut {a : Addr} {es : List DictEntry} {k : Int} {t : Tok} {h : Int} {v : Value} (ho : s.heap.get? a = some (dob es)) (hn : h ∉ es.map (·.hash)) (hk : (Nat.ble n₀ a || a == mainNs || a == cStatics || ann == some (.ref a)) = true) (hs : es.length ≤ sizeLine) :
    Go p w n₀ ann c (F :: B) 4 s q (dictPut a h (.int k t) v) { s with heap := s.heap.update a (Obj.mapDictKeys (·.push ⟨h, .int k t, v⟩)) } q () := by
  unfold dictPut
  refine go_bind (n := 1) (n' := 3) (go_dictFind ho hn) ?_
  exact go_updateKeys ho hk hs

abbrev itemT (q : Pos) (x : Int × Str) : Sem Value × Sem Value := (mkInt x.1, do let v ← mkText x.2; standAt q; pure v)
noncomputable def ents : Nat → List (Int × Str) → List DictEntry
  | _, [] => []
  | t, x :: r => ⟨hashInt x.1, .int x.1 t, .str x.2 (t + 1)⟩ :: ents (t + 3) r
theorem ents_hash : ∀ (L : List (Int × Str)) (t : Nat), (ents t L).map (·.hash) = L.map fun x => hashInt x.1
  | [], _ => rfl
  | x :: r, t => by
    show hashInt x.1 :: _ = hashInt x.1 :: _
    rw [ents_hash r]
theorem ents_length : ∀ (L : List (Int × Str)) (t : Nat), (ents t L).length = L.length
  | [], _ => rfl
  | x :: r, t => by
    show _ + 1 = _ + 1
    rw [ents_length r]
theorem go_item {x : Int × Str} : Go p w n₀ ann c (F :: B) 2 s q (itemT q x).2 { s with toks := s.toks + 1 } q (.str x.2 s.toks) :=
  go_bind (n := 1) (n' := 1) go_mkText (go_bind (n := 1) (n' := 0) go_standAt go_pure)

theorem go_fill {g : Array GenState} {d : Drawn} {os : OsState} {P R : List Obj} {lf : Life} (hk : (Nat.ble n₀ P.length || P.length == mainNs || P.length == cStatics || ann == some (.ref P.length)) = true) (f : Sem Value × Sem Value → PUnit → Sem (ForInStep PUnit))
    (hf : ∀ x u, f (itemT q x) u = (do let kv ← (itemT q x).1; let vv ← holding [kv] (itemT q x).2; holding [kv, vv] (dictSet P.length kv vv); pure (.yield ⟨⟩))) :
    ∀ (L : List (Int × Str)) (es : List DictEntry) (tk : Nat), (es.map (·.hash) ++ L.map fun x => hashInt x.1).Nodup → es.length + L.length ≤ sizeLine →
      Go p w n₀ ann c (F :: B) (13 * L.length) ⟨hp P (dob es) R lf, g, d, tk, os⟩ q (forIn (L.map (itemT q)) PUnit.unit f) ⟨hp P (dob (es ++ ents tk L)) R lf, g, d, tk + 3 * L.length, os⟩ q PUnit.unit
  | [], es, tk, _, _ => by
    rw [List.map_nil, List.forIn_nil, ents, List.append_nil]
    exact go_pure
  | x :: L, es, tk, hn, hs => by
    rw [List.map_cons, List.forIn_cons, hf]
    have hx : hashInt x.1 ∉ es.map (·.hash) := by
      rw [List.map_cons, List.nodup_append] at hn
      intro hm
      exact hn.2.2 _ hm _ (.head _) rfl
    have hl : (x :: L).length = L.length + 1 := rfl
    rw [hl] at hs ⊢
    have e : 13 * (L.length + 1) = (1 + (2 + (10 + 0))) + 13 * L.length := by omega
    rw [e]
    refine go_bind (a := .yield PUnit.unit) (s' := ⟨hp P (dob (es ++ [⟨hashInt x.1, .int x.1 tk, .str x.2 (tk + 1)⟩])) R lf, g, d, tk + 3, os⟩) (q' := q) ?_ ?_
    · refine go_bind go_mkInt ?_
      refine go_bind (go_holding go_item) ?_
      refine go_bind (s' := ⟨hp P (dob (es ++ [⟨hashInt x.1, .int x.1 tk, .str x.2 (tk + 1)⟩])) R lf, g, d, tk + 3, os⟩) (q' := q) (a := ()) (go_holding ?_) go_pure
      have := go_dictSet (p := p) (w := w) (n₀ := n₀) (ann := ann) (c := c) (F := F) (B := B) (s := ⟨hp P (dob es) R lf, g, d, tk + 2, os⟩) (q := q) (k := x.1) (t := tk) (v := .str x.2 (tk + 1)) (hp_get rfl) hx hk (by omega)
      rw [show (⟨hp P (dob es) R lf, g, d, tk + 2, os⟩ : Shared).heap = hp P (dob es) R lf from rfl, hp_upd, dob_push] at this
      exact this
    · have := go_fill (g := g) (d := d) (os := os) (R := R) (lf := lf) hk f hf L (es ++ [⟨hashInt x.1, .int x.1 tk, .str x.2 (tk + 1)⟩]) (tk + 3) (by simpa using hn) (by simp; omega)
      rw [show tk + 3 + 3 * L.length = tk + 3 * (L.length + 1) by omega, List.append_assoc] at this
      exact this

noncomputable def entl : Nat → List (Int × Str) → List DictEntry
  | _, [] => []
  | t, x :: r => ⟨hashInt x.1, .int x.1 t, .str x.2 (t + 1)⟩ :: entl (t + 2) r
noncomputable def prs : Nat → List (Int × Str) → List (Value × Value)
  | _, [] => []
  | t, x :: r => (.int x.1 t, .str x.2 (t + 1)) :: prs (t + 2) r
theorem entl_hash : ∀ (L : List (Int × Str)) (t : Nat), (entl t L).map (·.hash) = L.map fun x => hashInt x.1
  | [], _ => rfl
  | x :: r, t => by
    show hashInt x.1 :: _ = hashInt x.1 :: _
    rw [entl_hash r]
theorem entl_length : ∀ (L : List (Int × Str)) (t : Nat), (entl t L).length = L.length
  | [], _ => rfl
  | x :: r, t => by
    show _ + 1 = _ + 1
    rw [entl_length r]
theorem go_evalPairs {h : Heap} {g : Array GenState} {d : Drawn} {os : OsState} : ∀ (L : List (Int × Str)) (tk : Nat),
    Go p w n₀ ann c (F :: B) (3 * L.length) ⟨h, g, d, tk, os⟩ q (evalPairs (L.map (itemT q))) ⟨h, g, d, tk + 2 * L.length, os⟩ q (prs tk L)
  | [], tk => go_pure
  | x :: L, tk => by
    have hl : (x :: L).length = L.length + 1 := rfl
    rw [hl]
    have e : 3 * (L.length + 1) = 1 + (2 + (3 * L.length + 0)) := by omega
    rw [e]
    refine go_bind (m := mkInt x.1) go_mkInt ?_
    refine go_bind (go_holding go_item) ?_
    have := go_evalPairs (h := h) (g := g) (d := d) (os := os) L (tk + 2)
    rw [show tk + 2 + 2 * L.length = tk + 2 * (L.length + 1) by omega] at this
    exact go_bind (go_holding this) go_pure
theorem go_setAll {g : Array GenState} {d : Drawn} {os : OsState} {P R : List Obj} {lf : Life} (hk : (Nat.ble n₀ P.length || P.length == mainNs || P.length == cStatics || ann == some (.ref P.length)) = true) (f : Value × Value → PUnit → Sem (ForInStep PUnit))
    (hf : ∀ x u, f x u = (do dictSet P.length x.1 x.2; pure (.yield ⟨⟩))) :
    ∀ (L : List (Int × Str)) (es : List DictEntry) (t tk : Nat), (es.map (·.hash) ++ L.map fun x => hashInt x.1).Nodup → es.length + L.length ≤ sizeLine →
      Go p w n₀ ann c (F :: B) (10 * L.length) ⟨hp P (dob es) R lf, g, d, tk, os⟩ q (forIn (prs t L) PUnit.unit f) ⟨hp P (dob (es ++ entl t L)) R lf, g, d, tk + L.length, os⟩ q PUnit.unit
  | [], es, t, tk, _, _ => by
    rw [prs, List.forIn_nil, entl, List.append_nil]
    exact go_pure
  | x :: L, es, t, tk, hn, hs => by
    rw [prs, List.forIn_cons, hf]
    have hx : hashInt x.1 ∉ es.map (·.hash) := by
      rw [List.map_cons, List.nodup_append] at hn
      intro hm
      exact hn.2.2 _ hm _ (.head _) rfl
    have hl : (x :: L).length = L.length + 1 := rfl
    rw [hl] at hs ⊢
    have e : 10 * (L.length + 1) = (10 + 0) + 10 * L.length := by omega
    rw [e]
    refine go_bind (a := .yield PUnit.unit) (s' := ⟨hp P (dob (es ++ [⟨hashInt x.1, .int x.1 t, .str x.2 (t + 1)⟩])) R lf, g, d, tk + 1, os⟩) (q' := q) ?_ ?_
    · refine go_bind (s' := ⟨hp P (dob (es ++ [⟨hashInt x.1, .int x.1 t, .str x.2 (t + 1)⟩])) R lf, g, d, tk + 1, os⟩) (q' := q) (a := ()) ?_ go_pure
      have := go_dictSet (p := p) (w := w) (n₀ := n₀) (ann := ann) (c := c) (F := F) (B := B) (s := ⟨hp P (dob es) R lf, g, d, tk, os⟩) (q := q) (k := x.1) (t := t) (v := .str x.2 (t + 1)) (hp_get rfl) hx hk (by omega)
      rw [show (⟨hp P (dob es) R lf, g, d, tk, os⟩ : Shared).heap = hp P (dob es) R lf from rfl, hp_upd, dob_push] at this
      exact this
    · have := go_setAll (g := g) (d := d) (os := os) (R := R) (lf := lf) hk f hf L (es ++ [⟨hashInt x.1, .int x.1 t, .str x.2 (t + 1)⟩]) (t + 2) (tk + 1) (by simpa using hn) (by simp; omega)
      rw [show tk + 1 + L.length = tk + (L.length + 1) by omega, List.append_assoc] at this
      exact this

theorem hp_get2 {P R : List Obj} {o o' : Obj} {lf : Life} {j : Nat} (hj : R[j]? = some o') (hf : o'.isFreed = false) : (hp P o R lf).get? (P.length + 1 + j) = some o' := by
  refine Heap.get?_some_iff.mpr ⟨?_, hf⟩
  unfold hp
  rw [List.getElem?_toArray, List.getElem?_append_right (by omega), show P.length + 1 + j - P.length = j + 1 by omega]
  exact hj
theorem dict_sub : isSubtype (.type "dict") (.type "dict") = pure true := by rw [isSubtype_type]; kernel_rfl
theorem dict_iter_look : typeLookup (.type "dict") "__iter__" = pure (some (.builtin "dict.__iter__")) := by rw [typeLookup_type, builtinLookup_eq_fast]; kernel_rfl

theorem go_turns {g : Array GenState} {d : Drawn} {os : OsState} {P R : List Obj} {lf : Life} {tk : Nat} {es2 : List DictEntry} (f : Nat → PUnit → Sem (ForInStep PUnit))
    (turn : ∀ es i e, es2[i]? = some e → e.hash ∉ es.map (·.hash) → es.length ≤ sizeLine →
      Go p w n₀ ann c (F :: B) 6 ⟨hp P (dob es) R lf, g, d, tk, os⟩ q (f i PUnit.unit) ⟨hp P (dob (es ++ [e])) R lf, g, d, tk, os⟩ q (.yield PUnit.unit)) :
    ∀ (k i : Nat) (es : List DictEntry), i + k = es2.length → (es.map (·.hash) ++ (es2.drop i).map (·.hash)).Nodup → es.length + k ≤ sizeLine →
      Go p w n₀ ann c (F :: B) (6 * k) ⟨hp P (dob es) R lf, g, d, tk, os⟩ q (forIn (List.range' i k) PUnit.unit f) ⟨hp P (dob (es ++ es2.drop i)) R lf, g, d, tk, os⟩ q PUnit.unit
  | 0, i, es, hi, _, _ => by
    rw [List.range'_zero, List.forIn_nil, List.drop_of_length_le (by omega), List.append_nil]
    exact go_pure
  | k + 1, i, es, hi, hn, hs => by
    rw [List.range'_succ, List.forIn_cons]
    have hlt : i < es2.length := by omega
    have hd : es2.drop i = es2[i] :: es2.drop (i + 1) := List.drop_eq_getElem_cons hlt
    rw [hd, List.map_cons] at hn
    have hx : es2[i].hash ∉ es.map (·.hash) := by
      rw [List.nodup_append] at hn
      intro hm
      exact hn.2.2 _ hm _ (.head _) rfl
    have e : 6 * (k + 1) = 6 + 6 * k := by omega
    rw [e]
    refine go_bind (turn es i es2[i] (List.getElem?_eq_getElem hlt) hx (by omega)) ?_
    have := go_turns f turn k (i + 1) (es ++ [es2[i]]) (by omega) (by simpa using hn) (by simp; omega)
    rw [List.append_assoc, List.singleton_append, ← hd] at this
    exact this

theorem go_merge {g : Array GenState} {d : Drawn} {os : OsState} {P R : List Obj} {lf : Life} {tk j : Nat} {es es2 : List DictEntry} (hk : (Nat.ble n₀ P.length || P.length == mainNs || P.length == cStatics || ann == some (.ref P.length)) = true)
    (hj : R[j]? = some (dob es2)) (hn : (es.map (·.hash) ++ es2.map (·.hash)).Nodup) (hs : es.length + es2.length ≤ sizeLine) (h1 : 1 ≤ es.length) (hsys : 1 ≤ P.length) (hkeys : ∀ e ∈ es2, ∃ k t, e.key = .int k t) :
    Go p w n₀ ann c (F :: B) (5 + 6 * es2.length) ⟨hp P (dob es) R lf, g, d, tk, os⟩ q (mergeMapping P.length (.ref (P.length + 1 + j)) false) ⟨hp P (dob (es ++ es2)) R lf, g, d, tk, os⟩ q () := by
  have ga : ∀ es, (hp P (dob es) R lf).get? (P.length + 1 + j) = some (dob es2) := fun es => hp_get2 hj rfl
  have gd : ∀ es, (hp P (dob es) R lf).get? P.length = some (dob es) := fun es => hp_get rfl
  unfold mergeMapping
  rw [show 5 + 6 * es2.length = 1 + (1 + (3 + 6 * es2.length)) by omega]
  refine go_bind (n := 1) (a := true) (s' := ⟨hp P (dob es) R lf, g, d, tk, os⟩) (q' := q) ?_ ?_
  · unfold isInstance
    exact go_bind (n := 1) (n' := 0) (a := .type "dict") (s' := ⟨hp P (dob es) R lf, g, d, tk, os⟩) (q' := q) (go_bind (n := 1) (n' := 0) (go_loadPart (ga es)) go_pure) (go_eq dict_sub go_pure)
  rw [if_pos rfl]
  refine go_bind (n := 1) (a := some (.builtin "dict.__iter__")) (s' := ⟨hp P (dob es) R lf, g, d, tk, os⟩) (q' := q) ?_ ?_
  · unfold specialOf
    exact go_bind (n := 1) (n' := 0) (a := .type "dict") (s' := ⟨hp P (dob es) R lf, g, d, tk, os⟩) (q' := q) (go_bind (n := 1) (n' := 0) (go_loadPart (ga es)) go_pure) (go_eq dict_iter_look go_pure)
  refine go_nil (a := true) (by rw [beq_self_eq_true]) ?_
  dsimp only
  rw [if_neg (by
    have : ¬ P.length + 1 + j = sysModules := by unfold sysModules; omega
    simpa using this)]
  rw [show 3 + 6 * es2.length = 1 + (1 + (1 + 6 * es2.length)) by omega]
  refine go_bind (go_dictEntries (gd es)) ?_
  rw [if_neg (by
    cases es with
    | nil => simp at h1
    | cons a l => simp)]
  refine go_bind (go_dictEntries (ga es)) ?_
  refine go_bind (go_dictEpoch (ga es)) ?_
  have hr : List.range es2.toArray.size = List.range' 0 es2.length := by rw [List.range_eq_range', List.size_toArray]
  rw [hr]
  rw [show 6 * es2.length = 6 * es2.length + 0 from rfl]
  refine go_bind (go_turns _ ?turn es2.length 0 es (by omega) hn hs) go_pure
  case turn =>
    intro es i e he hx hle
    have hmem : e ∈ es2 := List.mem_of_getElem? he
    obtain ⟨k, t, hkey⟩ := hkeys e hmem
    obtain ⟨eh, ek, ev⟩ := e
    dsimp only at hkey
    subst hkey
    rw [show (6 : Nat) = 1 + (4 + (1 + 0)) from rfl]
    refine go_bind (go_dictEntries (ga es)) ?_
    rw [List.getElem?_toArray, he]
    dsimp only
    refine go_bind (s' := ⟨hp P (dob (es ++ [⟨eh, .int k t, ev⟩])) R lf, g, d, tk, os⟩) (q' := q) (a := ()) ?_ ?_
    · refine go_holding ?_
      rw [if_neg Bool.false_ne_true]
      have := go_dictPut (p := p) (w := w) (n₀ := n₀) (ann := ann) (c := c) (F := F) (B := B) (s := ⟨hp P (dob es) R lf, g, d, tk, os⟩) (q := q) (h := eh) (k := k) (t := t) (v := ev) (gd es) hx hk hle
      rw [show (⟨hp P (dob es) R lf, g, d, tk, os⟩ : Shared).heap = hp P (dob es) R lf from rfl, hp_upd, dob_push] at this
      exact this
    · refine go_bind (go_dictEpoch (ga _)) ?_
      rw [if_neg (by simp)]
      exact go_pure
end
end Mine.Head

open PySem PySem.W PyProof.Rows
set_option Elab.async false
set_option maxRecDepth 100000
namespace Mine.Head
section
variable {p : Program} {w : World} {n₀ : Nat} {ann : Option Value} {α β : Type} {c : Code} {F : Frame} {B : List Frame} {s s' s'' : Shared} {q q' q'' : Pos} {n n' : Nat}

theorem ents_append : ∀ (A C : List (Int × Str)) (t : Nat), ents t (A ++ C) = ents t A ++ ents (t + 3 * A.length) C
  | [], C, t => rfl
  | x :: A, C, t => by
    show _ :: ents (t + 3) (A ++ C) = _ :: (ents (t + 3) A ++ _)
    rw [ents_append A C, show t + 3 + 3 * A.length = t + 3 * (x :: A).length by show _ = t + 3 * (A.length + 1); omega]
theorem ents_keys : ∀ (L : List (Int × Str)) (t : Nat), ∀ e ∈ ents t L, ∃ k u, e.key = .int k u
  | [], _, _, h => nomatch h
  | x :: L, t, e, h => by
    rcases List.mem_cons.mp h with rfl | h
    · exact ⟨_, _, rfl⟩
    · exact ents_keys L _ e h
theorem entl_keys : ∀ (L : List (Int × Str)) (t : Nat), ∀ e ∈ entl t L, ∃ k u, e.key = .int k u
  | [], _, _, h => nomatch h
  | x :: L, t, e, h => by
    rcases List.mem_cons.mp h with rfl | h
    · exact ⟨_, _, rfl⟩
    · exact entl_keys L _ e h
theorem hp_push {P : List Obj} {lf : Life} : (⟨P.toArray, lf⟩ : Heap).push (dob []) = hp P (dob []) [] lf := by
  show Heap.mk _ _ = Heap.mk _ _
  rw [List.push_toArray]
theorem hp_move {P R : List Obj} {o x : Obj} {lf : Life} : hp (P ++ o :: R) x [] lf = hp P o (R ++ [x]) lf := by
  unfold hp
  simp
theorem hp_flat {P R : List Obj} {o : Obj} {lf : Life} : hp P o R lf = ⟨(P ++ o :: R).toArray, lf⟩ := rfl

theorem go_subLong {g : Array GenState} {d : Drawn} {os : OsState} {P : List Obj} {lf : Life} {tk : Nat} (hk : Nat.ble n₀ P.length = true) (L : List (Int × Str)) (hl : 15 < L.length) (hn : (L.map fun x => hashInt x.1).Nodup) (hs : L.length ≤ sizeLine) :
    Go p w n₀ ann c (F :: B) (2 + 13 * L.length) ⟨⟨P.toArray, lf⟩, g, d, tk, os⟩ q (subDict (L.map (itemT q))) ⟨hp P (dob (ents tk L)) [] lf, g, d, tk + 3 * L.length, os⟩ q P.length := by
  have hk' : (Nat.ble n₀ P.length || P.length == mainNs || P.length == cStatics || ann == some (.ref P.length)) = true := by rw [hk]; rfl
  unfold subDict
  rw [show 2 + 13 * L.length = 1 + (1 + (13 * L.length + 0)) by omega]
  have ha := go_alloc (p := p) (w := w) (n₀ := n₀) (ann := ann) (c := c) (F := F) (B := B) (q := q) (s := ⟨⟨P.toArray, lf⟩, g, d, tk, os⟩) (o := dob [])
  rw [show (⟨⟨P.toArray, lf⟩, g, d, tk, os⟩ : Shared).heap = ⟨P.toArray, lf⟩ from rfl, hp_push, show (⟨P.toArray, lf⟩ : Heap).objs.size = P.length from List.size_toArray ..] at ha
  refine go_bind (a := P.length) (s' := ⟨hp P (dob []) [] lf, g, d, tk, os⟩) (q' := q) ha ?_
  rw [show 1 + (13 * L.length + 0) = (1 + 13 * L.length) + 0 by omega]
  refine go_bind (a := ()) (s' := ⟨hp P (dob (ents tk L)) [] lf, g, d, tk + 3 * L.length, os⟩) (q' := q) ?_ go_pure
  refine go_holding ?_
  rw [if_neg (by rw [List.length_map]; omega)]
  refine go_bind go_rule ?_
  rw [show 13 * L.length = 13 * L.length + 0 from rfl]
  have := go_fill (p := p) (w := w) (n₀ := n₀) (ann := ann) (c := c) (F := F) (B := B) (q := q) (g := g) (d := d) (os := os) (R := []) (lf := lf) hk' (f := fun x r => do let kv ← x.1; let vv ← holding [kv] x.2; holding [kv, vv] (dictSet P.length kv vv); pure (.yield ⟨⟩)) (fun x u => rfl) L [] tk (by simpa using hn) (by simpa using hs)
  rw [List.nil_append] at this
  exact go_bind this go_pure

theorem go_subShort {g : Array GenState} {d : Drawn} {os : OsState} {P : List Obj} {lf : Life} {tk : Nat} (hk : Nat.ble n₀ P.length = true) (L : List (Int × Str)) (hl : L.length ≤ 15) (hn : (L.map fun x => hashInt x.1).Nodup) :
    Go p w n₀ ann c (F :: B) (1 + (3 * L.length + 10 * L.length)) ⟨⟨P.toArray, lf⟩, g, d, tk, os⟩ q (subDict (L.map (itemT q))) ⟨hp P (dob (entl tk L)) [] lf, g, d, tk + 2 * L.length + L.length, os⟩ q P.length := by
  have hk' : (Nat.ble n₀ P.length || P.length == mainNs || P.length == cStatics || ann == some (.ref P.length)) = true := by rw [hk]; rfl
  unfold subDict
  have ha := go_alloc (p := p) (w := w) (n₀ := n₀) (ann := ann) (c := c) (F := F) (B := B) (q := q) (s := ⟨⟨P.toArray, lf⟩, g, d, tk, os⟩) (o := dob [])
  rw [show (⟨⟨P.toArray, lf⟩, g, d, tk, os⟩ : Shared).heap = ⟨P.toArray, lf⟩ from rfl, hp_push, show (⟨P.toArray, lf⟩ : Heap).objs.size = P.length from List.size_toArray ..] at ha
  refine go_bind (a := P.length) (s' := ⟨hp P (dob []) [] lf, g, d, tk, os⟩) (q' := q) ha ?_
  rw [show 3 * L.length + 10 * L.length = (3 * L.length + (10 * L.length + 0)) + 0 by omega]
  refine go_bind (a := ()) (s' := ⟨hp P (dob (entl tk L)) [] lf, g, d, tk + 2 * L.length + L.length, os⟩) (q' := q) ?_ go_pure
  refine go_holding ?_
  rw [if_pos (by rw [List.length_map]; exact hl)]
  refine go_bind (go_evalPairs L tk) ?_
  refine go_holding ?_
  have := go_setAll (p := p) (w := w) (n₀ := n₀) (ann := ann) (c := c) (F := F) (B := B) (q := q) (g := g) (d := d) (os := os) (R := []) (lf := lf) hk' (f := fun x r => do dictSet P.length x.1 x.2; pure (.yield ⟨⟩)) (fun x u => rfl) L [] tk (tk + 2 * L.length) (by simpa using hn) (by simp; exact Nat.le_trans hl (by decide))
  rw [List.nil_append] at this
  exact go_bind this go_pure

abbrev itemO (q : Pos) (x : Int × Str) : Option (Sem Value) × Sem Value := (some (itemT q x).1, (itemT q x).2)
theorem acc_run (f : Option (Sem Value) × Sem Value → (Option Addr × List (Sem Value × Sem Value)) → Sem (ForInStep ((Option Addr × List (Sem Value × Sem Value)))))
    (hf1 : ∀ x mn run, ¬ (run ++ [itemT q x]).length = 17 → f (itemO q x) ⟨mn, run⟩ = pure (.yield ⟨mn, run ++ [itemT q x]⟩)) :
    ∀ (L : List (Int × Str)) (run : List (Sem Value × Sem Value)) (mn : Option Addr), run.length + L.length < 17 → forIn (L.map (itemO q)) ((mn, run) : Option Addr × List (Sem Value × Sem Value)) f = pure ⟨mn, run ++ L.map (itemT q)⟩
  | [], run, mn, _ => by rw [List.map_nil, List.forIn_nil, List.map_nil, List.append_nil]
  | x :: L, run, mn, h => by
    have h' : run.length + (L.length + 1) < 17 := h
    rw [List.map_cons, List.forIn_cons, hf1 _ _ _ (by simp; omega), pure_bind]
    dsimp only
    rw [acc_run f hf1 L _ mn (by simp; omega)]
    simp
theorem acc_17 (f : Option (Sem Value) × Sem Value → (Option Addr × List (Sem Value × Sem Value)) → Sem (ForInStep ((Option Addr × List (Sem Value × Sem Value))))) (flush : List (Sem Value × Sem Value) → Option Addr → Sem (Option Addr))
    (hf1 : ∀ x mn run, ¬ (run ++ [itemT q x]).length = 17 → f (itemO q x) ⟨mn, run⟩ = pure (.yield ⟨mn, run ++ [itemT q x]⟩))
    (hf2 : ∀ x mn run, (run ++ [itemT q x]).length = 17 → f (itemO q x) ⟨mn, run⟩ = (flush (run ++ [itemT q x]) mn >>= fun m => pure (.yield ⟨m, []⟩))) (C : List (Option (Sem Value) × Sem Value)) :
    ∀ (L : List (Int × Str)) (run : List (Sem Value × Sem Value)) (mn : Option Addr), run.length + L.length = 17 → L ≠ [] →
      forIn (L.map (itemO q) ++ C) ((mn, run) : Option Addr × List (Sem Value × Sem Value)) f = (flush (run ++ L.map (itemT q)) mn >>= fun m => forIn C ((m, []) : Option Addr × List (Sem Value × Sem Value)) f)
  | [], run, mn, _, h => absurd rfl h
  | [x], run, mn, h, _ => by
    rw [List.map_cons, List.cons_append, List.forIn_cons, hf2 _ _ _ (by simpa using h), bind_assoc]
    refine congrArg _ (funext fun m => ?_)
    rw [pure_bind]
    rfl
  | x :: y :: L, run, mn, h, _ => by
    have h' : run.length + (L.length + 1 + 1) = 17 := h
    rw [List.map_cons, List.cons_append, List.forIn_cons, hf1 _ _ _ (by simp; omega), pure_bind]
    dsimp only
    rw [acc_17 f flush hf1 hf2 C (y :: L) _ mn (by simp; omega) (by simp)]
    simp

noncomputable def subs : Nat → Nat → List (Int × Str) → List Obj
  | 0, _, _ => []
  | m + 1, t, L => dob (ents t (L.take 17)) :: subs m (t + 51) (L.drop 17)
theorem go_flushes {g : Array GenState} {d : Drawn} {os : OsState} {P : List Obj} {lf : Life} (hk : Nat.ble n₀ P.length = true) (hP : 1 ≤ P.length)
    (f : Option (Sem Value) × Sem Value → (Option Addr × List (Sem Value × Sem Value)) → Sem (ForInStep ((Option Addr × List (Sem Value × Sem Value))))) (flush : List (Sem Value × Sem Value) → Option Addr → Sem (Option Addr))
    (hf1 : ∀ x mn run, ¬ (run ++ [itemT q x]).length = 17 → f (itemO q x) ⟨mn, run⟩ = pure (.yield ⟨mn, run ++ [itemT q x]⟩))
    (hf2 : ∀ x mn run, (run ++ [itemT q x]).length = 17 → f (itemO q x) ⟨mn, run⟩ = (flush (run ++ [itemT q x]) mn >>= fun m => pure (.yield ⟨m, []⟩)))
    (hfl : ∀ (A : List (Int × Str)) (es : List DictEntry) (R : List Obj) (tk : Nat), A.length = 17 → (es.map (·.hash) ++ A.map fun x => hashInt x.1).Nodup → 1 ≤ es.length → es.length + 17 ≤ sizeLine →
      Go p w n₀ ann c (F :: B) 330 ⟨hp P (dob es) R lf, g, d, tk, os⟩ q (flush (A.map (itemT q)) (some P.length)) ⟨hp P (dob (es ++ ents tk A)) (R ++ [dob (ents tk A)]) lf, g, d, tk + 51, os⟩ q (some P.length)) :
    ∀ (m : Nat) (L : List (Int × Str)) (es : List DictEntry) (R : List Obj) (tk : Nat), 17 * m ≤ L.length → L.length < 17 * m + 17 → (es.map (·.hash) ++ L.map fun x => hashInt x.1).Nodup → 1 ≤ es.length → es.length + L.length ≤ sizeLine →
      Go p w n₀ ann c (F :: B) (330 * m) ⟨hp P (dob es) R lf, g, d, tk, os⟩ q (forIn (L.map (itemO q)) ((some P.length, []) : Option Addr × List (Sem Value × Sem Value)) f)
        ⟨hp P (dob (es ++ ents tk (L.take (17 * m)))) (R ++ subs m tk L) lf, g, d, tk + 51 * m, os⟩ q ⟨some P.length, (L.drop (17 * m)).map (itemT q)⟩
  | 0, L, es, R, tk, _, hl, _, _, _ => by
    rw [acc_run f hf1 L [] (some P.length) (by simpa using hl)]
    simp only [Nat.mul_zero, List.take_zero, ents, List.append_nil, subs, List.drop_zero, List.nil_append, Nat.add_zero]
    exact go_pure
  | m + 1, L, es, R, tk, h1, hl, hn, he, hs => by
    have e : L = L.take 17 ++ L.drop 17 := (List.take_append_drop 17 L).symm
    have hA : (L.take 17).length = 17 := by rw [List.length_take]; omega
    have hne : L.take 17 ≠ [] := fun z => by rw [z] at hA; cases hA
    have hB : (L.drop 17).length = L.length - 17 := List.length_drop ..
    have hm : L.map (itemO q) = (L.take 17).map (itemO q) ++ (L.drop 17).map (itemO q) := by rw [← List.map_append, ← e]
    have hh : (L.map fun x => hashInt x.1) = ((L.take 17).map fun x => hashInt x.1) ++ ((L.drop 17).map fun x => hashInt x.1) := by rw [← List.map_append, ← e]
    rw [hm, acc_17 f flush hf1 hf2 _ (L.take 17) [] (some P.length) (by simpa using hA) hne, List.nil_append]
    rw [show 330 * (m + 1) = 330 + 330 * m by omega]
    rw [hh, ← List.append_assoc] at hn
    refine go_bind (hfl (L.take 17) es R tk hA (List.nodup_append.mp hn).1 he (by omega)) ?_
    have := go_flushes hk hP f flush hf1 hf2 hfl m (L.drop 17) (es ++ ents tk (L.take 17)) (R ++ [dob (ents tk (L.take 17))]) (tk + 51) (by omega) (by omega)
      (by rw [List.map_append, ents_hash]; exact hn) (by simp; omega) (by rw [List.length_append, ents_length]; omega)
    have t1 : L.take (17 * (m + 1)) = L.take 17 ++ (L.drop 17).take (17 * m) := by
      rw [show 17 * (m + 1) = 17 + 17 * m by omega, List.take_add]
    have t2 : L.drop (17 * (m + 1)) = (L.drop 17).drop (17 * m) := by rw [List.drop_drop]; congr 1; omega
    rw [t1, t2, ents_append, hA, show tk + 51 * (m + 1) = tk + 51 + 51 * m by omega, ← List.append_assoc]
    rw [List.append_assoc R] at this
    exact this

theorem go_display {g : Array GenState} {d : Drawn} {os : OsState} {P : List Obj} {lf : Life} {tk : Nat} (hk : Nat.ble n₀ P.length = true) (hP : 1 ≤ P.length) (L : List (Int × Str)) (m r : Nat) (hL : L.length = 17 + 17 * m + r) (hr : r ≤ 15) (hr0 : 1 ≤ r)
    (hn : (L.map fun x => hashInt x.1).Nodup) (hs : L.length ≤ sizeLine) :
    Go p w n₀ ann c (F :: B) (223 + (330 * m + (1 + 13 * r + (5 + 6 * r)))) ⟨⟨P.toArray, lf⟩, g, d, tk, os⟩ q (dictDisplay (L.map (itemO q)))
      ⟨hp P (dob (ents tk (L.take (17 + 17 * m)) ++ entl (tk + 51 + 51 * m) (L.drop (17 + 17 * m)))) (subs m (tk + 51) (L.drop 17) ++ [dob (entl (tk + 51 + 51 * m) (L.drop (17 + 17 * m)))]) lf, g, d, tk + 51 + 51 * m + 3 * r, os⟩ q (.ref P.length) := by
  have e : L = L.take 17 ++ L.drop 17 := (List.take_append_drop 17 L).symm
  have hA : (L.take 17).length = 17 := by rw [List.length_take]; omega
  have hne : L.take 17 ≠ [] := fun z => by rw [z] at hA; cases hA
  have hB : (L.drop 17).length = 17 * m + r := by rw [List.length_drop]; omega
  have hm : L.map (itemO q) = (L.take 17).map (itemO q) ++ (L.drop 17).map (itemO q) := by rw [← List.map_append, ← e]
  have hh : (L.map fun x => hashInt x.1) = ((L.take 17).map fun x => hashInt x.1) ++ ((L.drop 17).map fun x => hashInt x.1) := by rw [← List.map_append, ← e]
  have hn' := hn
  rw [hh] at hn'
  have hnA := (List.nodup_append.mp hn').1
  have fl0 : Go p w n₀ ann c (F :: B) 223 ⟨⟨P.toArray, lf⟩, g, d, tk, os⟩ q (subDict ((L.take 17).map (itemT q)) >>= fun x => pure (some x)) ⟨hp P (dob (ents tk (L.take 17))) [] lf, g, d, tk + 51, os⟩ q (some P.length) := by
    have := go_subLong (p := p) (w := w) (n₀ := n₀) (ann := ann) (c := c) (F := F) (B := B) (q := q) (g := g) (d := d) (os := os) (lf := lf) (tk := tk) hk (L.take 17) (by omega) hnA (by omega)
    rw [hA] at this
    exact go_bind (n := 223) (n' := 0) this go_pure
  have flm : ∀ (A : List (Int × Str)) (sub : List DictEntry) (es : List DictEntry) (R : List Obj) (tk tk' k : Nat), 1 ≤ A.length → sub.length = A.length → (∀ e ∈ sub, ∃ k u, e.key = .int k u) → (es.map (·.hash) ++ sub.map (·.hash)).Nodup → 1 ≤ es.length → es.length + A.length ≤ sizeLine →
      (∀ P' : List Obj, Nat.ble n₀ P'.length = true → Go p w n₀ ann c (F :: B) k ⟨⟨P'.toArray, lf⟩, g, d, tk, os⟩ q (subDict (A.map (itemT q))) ⟨hp P' (dob sub) [] lf, g, d, tk', os⟩ q P'.length) →
      Go p w n₀ ann c (F :: B) (k + (5 + 6 * A.length)) ⟨hp P (dob es) R lf, g, d, tk, os⟩ q (do
          let sub ← holding [Value.ref P.length] (subDict (A.map (itemT q)))
          (holding [Value.ref P.length, Value.ref sub] (mergeMapping P.length (Value.ref sub) false)).onRaise fun x => do
            let _ ← holding [Value.ref P.length, x] (runValue (Code.builtin "proto.let_go" { }))
            pure ()
          pure (some P.length)) ⟨hp P (dob (es ++ sub)) (R ++ [dob sub]) lf, g, d, tk', os⟩ q (some P.length) := by
    intro A sub es R tk tk' k hA1 hsub hkeys hnd he hsz hgo
    have hP' : Nat.ble n₀ (P ++ dob es :: R).length = true := by
      have := Nat.le_of_ble_eq_true hk
      exact Nat.ble_eq_true_of_le (by simp; omega)
    have h1 := hgo (P ++ dob es :: R) hP'
    rw [hp_move, ← hp_flat, show (P ++ dob es :: R).length = P.length + 1 + R.length by simp; omega] at h1
    refine go_bind (go_holding h1) ?_
    have hj : (R ++ [dob sub])[R.length]? = some (dob sub) := by simp
    have h2 := go_merge (p := p) (w := w) (n₀ := n₀) (ann := ann) (c := c) (F := F) (B := B) (q := q) (g := g) (d := d) (os := os) (P := P) (lf := lf) (tk := tk') (es := es) (by rw [hk]; rfl) hj hnd (by omega) he hP hkeys
    rw [hsub] at h2
    exact go_bind (n := 5 + 6 * A.length) (n' := 0) (go_onRaise (go_holding h2)) go_pure
  unfold dictDisplay
  extract_lets flush mn0 rn0
  simp only [mn0, rn0]
  rw [show 223 + (330 * m + (1 + 13 * r + (5 + 6 * r))) = (223 + 330 * m) + ((1 + 13 * r + (5 + 6 * r)) + 0) by omega]
  have hent : ents tk (L.take (17 + 17 * m)) = ents tk (L.take 17) ++ ents (tk + 51) ((L.drop 17).take (17 * m)) := by
    rw [List.take_add, ents_append, hA]
  have hdr : L.drop (17 + 17 * m) = (L.drop 17).drop (17 * m) := by rw [List.drop_drop]
  have hlast : ((L.drop 17).drop (17 * m)).length = r := by rw [List.length_drop]; omega
  have htake : ((L.drop 17).take (17 * m)).length = 17 * m := by rw [List.length_take, hB]; omega
  have hsplit : (L.drop 17).map (fun x => hashInt x.1) = ((L.drop 17).take (17 * m)).map (fun x => hashInt x.1) ++ ((L.drop 17).drop (17 * m)).map (fun x => hashInt x.1) := by rw [← List.map_append, List.take_append_drop]
  refine go_bind (a := (some P.length, ((L.drop 17).drop (17 * m)).map (itemT q))) (s' := ⟨hp P (dob (ents tk (L.take 17) ++ ents (tk + 51) ((L.drop 17).take (17 * m)))) (subs m (tk + 51) (L.drop 17)) lf, g, d, tk + 51 + 51 * m, os⟩) (q' := q) ?_ ?_
  · have hf1 : ∀ (x : Int × Str) (mn : Option Addr) (run : List (Sem Value × Sem Value)), ¬ (run ++ [itemT q x]).length = 17 → (if ((run ++ [itemT q x]).length == 17) = true then (flush (run ++ [itemT q x]) mn >>= fun m => pure (ForInStep.yield (m, ([] : List (Sem Value × Sem Value))))) else pure (ForInStep.yield (mn, run ++ [itemT q x]))) = pure (.yield (mn, run ++ [itemT q x])) := by
      intro x mn run h
      rw [if_neg (by simpa using h)]
    have hf2 : ∀ (x : Int × Str) (mn : Option Addr) (run : List (Sem Value × Sem Value)), (run ++ [itemT q x]).length = 17 → (if ((run ++ [itemT q x]).length == 17) = true then (flush (run ++ [itemT q x]) mn >>= fun m => pure (ForInStep.yield (m, ([] : List (Sem Value × Sem Value))))) else pure (ForInStep.yield (mn, run ++ [itemT q x]))) = (flush (run ++ [itemT q x]) mn >>= fun m => pure (.yield (m, []))) := by
      intro x mn run h
      rw [if_pos (by simpa using h)]
    rw [hm, acc_17 _ flush hf1 hf2 _ (L.take 17) [] none (by simpa using hA) hne, List.nil_append]
    refine go_bind (s' := ⟨hp P (dob (ents tk (L.take 17))) [] lf, g, d, tk + 51, os⟩) (q' := q) (a := some P.length) ?_ ?_
    · refine go_eq ?_ fl0
      show (if ((L.take 17).map (itemT q)).isEmpty = true then _ else _) = _
      rw [if_neg (by rw [List.isEmpty_iff]; intro z; rw [List.map_eq_nil_iff] at z; exact hne z)]
    · have hfl : ∀ (A : List (Int × Str)) (es : List DictEntry) (R : List Obj) (tk : Nat), A.length = 17 → (es.map (·.hash) ++ A.map fun x => hashInt x.1).Nodup → 1 ≤ es.length → es.length + 17 ≤ sizeLine →
          Go p w n₀ ann c (F :: B) 330 ⟨hp P (dob es) R lf, g, d, tk, os⟩ q (flush (A.map (itemT q)) (some P.length)) ⟨hp P (dob (es ++ ents tk A)) (R ++ [dob (ents tk A)]) lf, g, d, tk + 51, os⟩ q (some P.length) := by
        intro A es R tk hA17 hnd he hsz
        have h := flm A (ents tk A) es R tk (tk + 51) 223 (by omega) (ents_length _ _) (ents_keys _ _) (by rw [ents_hash]; exact hnd) he (by omega) (fun P' hP' => by
          have := go_subLong (p := p) (w := w) (n₀ := n₀) (ann := ann) (c := c) (F := F) (B := B) (q := q) (g := g) (d := d) (os := os) (lf := lf) (tk := tk) hP' A (by omega) (List.nodup_append.mp hnd).2.1 (by omega)
          rw [hA17] at this
          exact this)
        rw [hA17] at h
        refine go_eq ?_ h
        show (if (A.map (itemT q)).isEmpty = true then _ else _) = _
        rw [if_neg (by rw [List.isEmpty_iff]; intro z; rw [List.map_eq_nil_iff] at z; rw [z] at hA17; cases hA17)]
      rw [← List.nil_append (subs m (tk + 51) (L.drop 17))]
      exact go_flushes hk hP _ flush hf1 hf2 hfl m (L.drop 17) (ents tk (L.take 17)) [] (tk + 51) (by omega) (by omega) (by rw [ents_hash]; exact hn') (by rw [ents_length]; omega) (by rw [ents_length]; omega)
  · dsimp only
    rw [hent, hdr]
    rw [hsplit] at hn'
    refine go_bind (a := some P.length) (s' := ⟨hp P (dob ((ents tk (L.take 17) ++ ents (tk + 51) ((L.drop 17).take (17 * m))) ++ entl (tk + 51 + 51 * m) ((L.drop 17).drop (17 * m)))) (subs m (tk + 51) (L.drop 17) ++ [dob (entl (tk + 51 + 51 * m) ((L.drop 17).drop (17 * m)))]) lf, g, d, tk + 51 + 51 * m + 3 * r, os⟩) (q' := q) ?_ go_pure
    have h := flm ((L.drop 17).drop (17 * m)) (entl (tk + 51 + 51 * m) ((L.drop 17).drop (17 * m))) (ents tk (L.take 17) ++ ents (tk + 51) ((L.drop 17).take (17 * m))) (subs m (tk + 51) (L.drop 17)) (tk + 51 + 51 * m) (tk + 51 + 51 * m + 3 * r) (1 + 13 * r) (by omega) (entl_length _ _) (entl_keys _ _)
      (by rw [entl_hash, List.map_append, ents_hash, ents_hash, List.append_assoc]; exact hn') (by rw [List.length_append, ents_length]; omega) (by rw [List.length_append, ents_length, ents_length, htake, hA, hlast]; omega) (fun P' hP' => by
        have := go_subShort (p := p) (w := w) (n₀ := n₀) (ann := ann) (c := c) (F := F) (B := B) (q := q) (g := g) (d := d) (os := os) (lf := lf) (tk := tk + 51 + 51 * m) hP' ((L.drop 17).drop (17 * m)) (by omega) (List.nodup_append.mp (List.nodup_append.mp hn').2.1).2.1
        rw [hlast, show tk + 51 + 51 * m + 2 * r + r = tk + 51 + 51 * m + 3 * r by omega] at this
        exact go_cast this (by omega))
    rw [hlast] at h
    refine go_eq ?_ h
    show (if (((L.drop 17).drop (17 * m)).map (itemT q)).isEmpty = true then _ else _) = _
    rw [if_neg (by rw [List.isEmpty_iff]; intro z; rw [List.map_eq_nil_iff] at z; rw [z] at hlast; simp at hlast; omega)]
end
end Mine.Head

open PySem PySem.W PyProof.Rows
set_option Elab.async false
set_option maxRecDepth 100000
namespace Mine.Head
theorem rising_nodup : ∀ (l : List Int), (l.zip (l.drop 1)).all (fun x => decide (x.1 < x.2)) = true → l.Nodup := by
  have key : ∀ (l : List Int) (a : Int), ((a :: l).zip l).all (fun x => decide (x.1 < x.2)) = true → (∀ b ∈ l, a < b) ∧ (a :: l).Nodup := by
    intro l
    induction l with
    | nil => intro a _; exact And.intro (fun b h => absurd h (List.not_mem_nil)) (by simp)
    | cons b l ih =>
      intro a h
      simp only [List.zip_cons_cons, List.all_cons, Bool.and_eq_true, decide_eq_true_eq] at h
      obtain ⟨h1, h2⟩ := ih b h.2
      have hlt : ∀ x ∈ b :: l, a < x := by
        intro x hx
        rcases List.mem_cons.mp hx with rfl | hx
        · exact h.1
        · have := h1 x hx; omega
      exact ⟨hlt, List.nodup_cons.mpr ⟨fun hm => by have := hlt a hm; omega, h2⟩⟩
  intro l h
  cases l with
  | nil => simp
  | cons a l => exact (key l a h).2
section
variable {p : Program} {w : World} {n₀ : Nat} {ann : Option Value} {α β : Type} {c : Code} {F : Frame} {B : List Frame} {s s' s'' : Shared} {q q' q'' : Pos} {n n' : Nat}

theorem go_nsSet {a : Addr} {o : Obj} {es : Array DictEntry} {ep : Nat} {nm : Str} {v : Value} (ho : s.heap.get? a = some o) (hd : o.data = .dict es ep) (hr : aRefKeyMayBeTheName nm es = false)
    (hk : (Nat.ble n₀ a || a == mainNs || a == cStatics || ann == some (.ref a)) = true) :
    Go p w n₀ ann c (F :: B) 4 s q (nsSet a nm v) { s with heap := s.heap.update a (Obj.putName nm (PyData.keyHash w.params nm) (.str nm s.toks) v), toks := s.toks + 1 } q () := by
  unfold nsSet
  rw [show (4 : Nat) = (1 + 0) + (1 + (1 + 1)) from rfl]
  refine go_bind (a := PyData.keyHash w.params nm) (s' := s) (q' := q) ?_ ?_
  · unfold strHash
    exact go_bind go_ask go_pure
  refine go_bind go_mkText ?_
  refine go_bind (go_loadPart (s := { s with toks := s.toks + 1 }) ho) ?_
  rw [hd]
  dsimp only
  rw [hr, if_neg Bool.false_ne_true]
  exact go_updatePart (s := { s with toks := s.toks + 1 }) ho hk

theorem go_bindMain {env : Env} {o : Obj} {es : Array DictEntry} {ep : Nat} {nm : Str} {v : Value} (hl : env.locals = mainNs) (hg : env.globals = mainNs) (hkind : env.scope.kind = .module) (hn : env.kindOf nm = some .local)
    (ho : s.heap.get? mainNs = some o) (hd : o.data = .dict es ep) (hr : aRefKeyMayBeTheName nm es = false) (hv : ∃ a, v = .ref a) :
    Go p w n₀ ann c (F :: B) 6 s q (bindName env nm v) { s with heap := s.heap.update mainNs (Obj.putName nm (PyData.keyHash w.params nm) (.str nm s.toks) v), toks := s.toks + 1 } q () := by
  obtain ⟨a, rfl⟩ := hv
  unfold bindName
  rw [show (6 : Nat) = 1 + (4 + 1) from rfl]
  refine go_bind (a := ()) (s' := s) (q' := q) (go_holding go_point) ?_
  refine go_bind (a := ()) (s' := { s with heap := s.heap.update mainNs (Obj.putName nm (PyData.keyHash w.params nm) (.str nm s.toks) (.ref a)), toks := s.toks + 1 }) (q' := q) ?_ go_point
  refine go_eq ?_ (go_nsSet ho hd hr (by simp))
  unfold storeName
  rw [hn, hkind, hl, hg]
  rfl

theorem go_assignDict {env : Env} {nm : Str} {npos dpos apos : Pos} {ks : List (Option Expr)} {vs : List Expr} {L : List (Int × Str)} {N : Nat} {a : Addr} {o : Obj} {es : Array DictEntry} {ep : Nat}
    (hit : (evalEachOpt ks env).zip ((evalEach vs env).map fun v => do let x ← v; standAt dpos; pure x) = L.map (itemO dpos))
    (hl : env.locals = mainNs) (hg : env.globals = mainNs) (hkind : env.scope.kind = .module) (hn : env.kindOf nm = some .local)
    (h : Go p w n₀ ann c (F :: B) N s dpos (dictDisplay (L.map (itemO dpos))) s' dpos (.ref a))
    (ho : s'.heap.get? mainNs = some o) (hd : o.data = .dict es ep) (hr : aRefKeyMayBeTheName nm es = false) :
    Go p w n₀ ann c (F :: B) (N + 9) s q (exec (.Assign [.Name nm npos] (.Dict ks vs dpos) apos) env) { s' with heap := s'.heap.update mainNs (Obj.putName nm (PyData.keyHash w.params nm) (.str nm s'.toks) (.ref a)), toks := s'.toks + 1 } npos .next := by
  refine go_eq (t' := do
    standAt apos
    let v ← (do standAt dpos; dictDisplay ((evalEachOpt ks env).zip ((evalEach vs env).map fun v => do let x ← v; standAt dpos; pure x)))
    (do (do standAt npos; bindName env nm v); pure Flow.next)) rfl ?_
  rw [hit]
  rw [show N + 9 = 1 + ((1 + N) + ((1 + 6) + 0)) by omega]
  refine go_bind go_standAt ?_
  refine go_bind (go_bind go_standAt h) ?_
  exact go_bind (go_bind go_standAt (go_bindMain hl hg hkind hn ho hd hr ⟨a, rfl⟩)) go_pure

theorem piece_go {st : Stmt} {rest : List Stmt} {env : Env} {N : Nat} {r : Shared} {q₀ : Pos} (h : Go p w n₀ ann c [topFrame q₀] n s q (exec st env) s' q' .next)
    (k : topRun table p w n₀ ann N s' (restOf rest env c q' [topFrame q₀]) = some r) : topRun table p w n₀ ann (n + N) s (restOf (st :: rest) env c q [topFrame q₀]) = some r := by
  unfold restOf at k ⊢
  rw [execs_cons_wrap]
  exact h _ _ _ _ _ _ k
end
end Mine.Head

open PySem PySem.W PyProof.Rows
set_option Elab.async false
set_option maxRecDepth 100000
set_option maxHeartbeats 0
set_option linter.unusedVariables false
namespace Mine.Head
noncomputable section
abbrev pw : Program := PySem.Challenge.pw_sw0063_02
noncomputable def st (i : Nat) : Stmt := pw.main.body[i]?.getD (.Pass ⟨0, 0, 0, 0⟩)
noncomputable def dArgs : Stmt → Arguments
  | .FunctionDef _ a .. => a
  | _ => { posonlyargs := [], args := [], vararg := none, kwonlyargs := [], kw_defaults := [], kwarg := none, defaults := [] }
noncomputable def dBody : Stmt → List Stmt
  | .FunctionDef _ _ b .. => b
  | _ => []
noncomputable def dScope : Stmt → Scope
  | .FunctionDef _ _ _ _ _ _ s .. => s
  | _ => pw.main.scope
noncomputable def inCls : Stmt → Nat → Stmt
  | .ClassDef _ _ _ b .., j => b[j]?.getD (.Pass ⟨0, 0, 0, 0⟩)
  | s, _ => s
noncomputable def b3 : List (Int × Str) := match st 9 with
  | .Assign _ (.Dict ks vs _) _ => (ks.zip vs).map fun x => (match x.1 with | some (.Constant (.int i) _ _) => i | _ => 0, match x.2 with | .Constant (.str x) _ _ => x | _ => Str.ofString "")
  | _ => []
noncomputable def b3main : Obj := dob (ents 337 (b3.take (17 + 17 * 37)) ++ entl (337 + 51 + 51 * 37) (b3.drop (17 + 17 * 37)))
noncomputable def b3subs : List Obj := subs 37 (337 + 51) (b3.drop 17) ++ [dob (entl (337 + 51 + 51 * 37) (b3.drop (17 + 17 * 37)))]
noncomputable def b3sub (i : Nat) : Obj := b3subs[i]?.getD (dob [])

noncomputable def o11xa (P : Params) : Obj := ⟨(.type "tuple"), none, (.seq (List.toArray []) 0), (List.toArray [])⟩
noncomputable def o12xa (P : Params) : Obj := ⟨.none, none, (.fields (List.toArray [])), (List.toArray [])⟩
noncomputable def o13xa (P : Params) : Obj := ⟨(.type "code"), none, (.fields (List.toArray [(.str (Str.ofString "<module>") 182), (.str (Str.ofString "<module>") 183), (.str (Str.ofString "/claim/cut.py") 184), (.int 1 0), (.int 0 0), (.int 0 0), (.int 0 0), (.int 0 0), (.ref 11), (.bool false), (.int 181 0), (.ref 12), .none, .none, .none, .none, (.int 185 0), (.int 1 0), (.str (Str.ofString "/claim/cut.py") 186)])), (List.toArray [])⟩
noncomputable def o14xa (P : Params) : Obj := ⟨(.type "frame"), none, .plain, (List.toArray [(some (.ref 13)), (some (.ref 3)), (some (.ref 3)), none, (some (.str (Str.ofString "__main__") 164)), none, (some (.ref 0))])⟩
noncomputable def tra (P : Params) : BT := (.node (boot_o_0 P) (.node (boot_o_1 P) (.node (boot_o_3 P) (.node (boot_o_7 P) .nil .nil) (.node (o11xa P) .nil .nil)) (.node (boot_o_5 P) (.node (boot_o_9 P) .nil .nil) (.node (o13xa P) .nil .nil))) (.node (boot_o_2 P) (.node (boot_o_4 P) (.node (boot_o_8 P) .nil .nil) (.node (o12xa P) .nil .nil)) (.node (boot_o_6 P) (.node (boot_o_10 P) .nil .nil) (.node (o14xa P) .nil .nil))))
noncomputable def Sa (w : World) (os : OsState) : SharedT := ⟨tra w.params, 15, {}, #[], {}, 187, os⟩
noncomputable def o3x0 (P : Params) : Obj := ⟨(.type "dict"), none, (.dict (List.toArray [⟨PyData.keyHash P (Str.ofString "__name__"), (.str (Str.ofString "__name__") 165), (.str (Str.ofString "cpy313.netrc") 187)⟩, ⟨PyData.keyHash P (Str.ofString "__doc__"), (.str (Str.ofString "__doc__") 166), .none⟩, ⟨PyData.keyHash P (Str.ofString "__package__"), (.str (Str.ofString "__package__") 167), .none⟩, ⟨PyData.keyHash P (Str.ofString "__loader__"), (.str (Str.ofString "__loader__") 168), (.builtin "__main__.__loader__#opaque")⟩, ⟨PyData.keyHash P (Str.ofString "__spec__"), (.str (Str.ofString "__spec__") 169), .none⟩, ⟨PyData.keyHash P (Str.ofString "__annotations__"), (.str (Str.ofString "__annotations__") 170), (.ref 6)⟩, ⟨PyData.keyHash P (Str.ofString "__builtins__"), (.str (Str.ofString "__builtins__") 171), (.ref 4)⟩, ⟨PyData.keyHash P (Str.ofString "__file__"), (.str (Str.ofString "__file__") 173), (.str (Str.ofString "/claim/cut.py") 172)⟩, ⟨PyData.keyHash P (Str.ofString "__cached__"), (.str (Str.ofString "__cached__") 174), .none⟩]) 9), (List.toArray [])⟩
noncomputable def tr0 (P : Params) : BT := (.node (boot_o_0 P) (.node (boot_o_1 P) (.node (o3x0 P) (.node (boot_o_7 P) .nil .nil) (.node (o11xa P) .nil .nil)) (.node (boot_o_5 P) (.node (boot_o_9 P) .nil .nil) (.node (o13xa P) .nil .nil))) (.node (boot_o_2 P) (.node (boot_o_4 P) (.node (boot_o_8 P) .nil .nil) (.node (o12xa P) .nil .nil)) (.node (boot_o_6 P) (.node (boot_o_10 P) .nil .nil) (.node (o14xa P) .nil .nil))))
noncomputable def S0 (w : World) (os : OsState) : SharedT := ⟨tr0 w.params, 15, {}, #[], {}, 189, os⟩
noncomputable def o3x1 (P : Params) : Obj := ⟨(.type "dict"), none, (.dict (List.toArray [⟨PyData.keyHash P (Str.ofString "__name__"), (.str (Str.ofString "__name__") 165), (.str (Str.ofString "cpy313.netrc") 187)⟩, ⟨PyData.keyHash P (Str.ofString "__doc__"), (.str (Str.ofString "__doc__") 166), .none⟩, ⟨PyData.keyHash P (Str.ofString "__package__"), (.str (Str.ofString "__package__") 167), .none⟩, ⟨PyData.keyHash P (Str.ofString "__loader__"), (.str (Str.ofString "__loader__") 168), (.builtin "__main__.__loader__#opaque")⟩, ⟨PyData.keyHash P (Str.ofString "__spec__"), (.str (Str.ofString "__spec__") 169), .none⟩, ⟨PyData.keyHash P (Str.ofString "__annotations__"), (.str (Str.ofString "__annotations__") 170), (.ref 6)⟩, ⟨PyData.keyHash P (Str.ofString "__builtins__"), (.str (Str.ofString "__builtins__") 171), (.ref 4)⟩, ⟨PyData.keyHash P (Str.ofString "__file__"), (.str (Str.ofString "__file__") 173), (.str (Str.ofString "/claim/cut.py") 172)⟩, ⟨PyData.keyHash P (Str.ofString "__cached__"), (.str (Str.ofString "__cached__") 174), .none⟩, ⟨PyData.keyHash P (Str.ofString "_netrclex"), (.str (Str.ofString "_netrclex") 246), (.ref 52)⟩]) 10), (List.toArray [])⟩
noncomputable def o12x1 (P : Params) : Obj := ⟨.none, none, (.fields (List.toArray [(.int 2 0), (.int 0 0), (.ref 20)])), (List.toArray [])⟩
noncomputable def o15x1 (P : Params) : Obj := ⟨(.type "tuple"), none, (.seq (List.toArray []) 0), (List.toArray [])⟩
noncomputable def o16x1 (P : Params) : Obj := ⟨(.type "builtin_function_or_method"), none, (.fields (List.toArray [(.builtin "type.__prepare__"), (.type "type")])), (List.toArray [])⟩
noncomputable def o17x1 (P : Params) : Obj := ⟨(.type "dict"), none, (.dict (List.toArray [⟨PyData.keyHash P (Str.ofString "__module__"), (.str (Str.ofString "__module__") 196), (.str (Str.ofString "cpy313.netrc") 187)⟩, ⟨PyData.keyHash P (Str.ofString "__qualname__"), (.str (Str.ofString "__qualname__") 198), (.str (Str.ofString "_netrclex") 197)⟩, ⟨PyData.keyHash P (Str.ofString "__firstlineno__"), (.str (Str.ofString "__firstlineno__") 200), (.int 2 199)⟩, ⟨PyData.keyHash P (Str.ofString "__init__"), (.str (Str.ofString "__init__") 208), (.ref 28)⟩, ⟨PyData.keyHash P (Str.ofString "_read_char"), (.str (Str.ofString "_read_char") 216), (.ref 35)⟩, ⟨PyData.keyHash P (Str.ofString "get_token"), (.str (Str.ofString "get_token") 226), (.ref 42)⟩, ⟨PyData.keyHash P (Str.ofString "push_token"), (.str (Str.ofString "push_token") 234), (.ref 49)⟩, ⟨PyData.keyHash P (Str.ofString "__static_attributes__"), (.str (Str.ofString "__static_attributes__") 239), (.ref 50)⟩]) 8), (List.toArray [])⟩
noncomputable def o18x1 (P : Params) : Obj := ⟨(.type "tuple"), none, (.seq (List.toArray []) 0), (List.toArray [])⟩
noncomputable def o19x1 (P : Params) : Obj := ⟨.none, none, (.fields (List.toArray [(.int 4 0), (.int 4 0), (.ref 27), (.int 10 0), (.int 4 0), (.ref 34), (.int 16 0), (.int 4 0), (.ref 41), (.int 43 0), (.int 4 0), (.ref 48)])), (List.toArray [])⟩
noncomputable def o20x1 (P : Params) : Obj := ⟨(.type "code"), none, (.fields (List.toArray [(.str (Str.ofString "_netrclex") 191), (.str (Str.ofString "_netrclex") 192), (.str (Str.ofString "/claim/cut.py") 193), (.int 2 0), (.int 0 0), (.int 0 0), (.int 0 0), (.int 0 0), (.ref 18), (.bool false), (.int 181 0), (.ref 19), .none, .none, .none, .none, (.int 194 0), (.int 2 0), (.str (Str.ofString "/claim/cut.py") 195)])), (List.toArray [])⟩
noncomputable def o21x1 (P : Params) : Obj := ⟨(.type "frame"), none, .plain, (List.toArray [(some (.ref 20)), (some (.ref 3)), (some (.ref 17)), none, (some (.str (Str.ofString "cpy313.netrc") 187)), none, (some (.ref 0))])⟩
noncomputable def o22x1 (P : Params) : Obj := ⟨(.type "tuple"), none, (.seq (List.toArray []) 0), (List.toArray [])⟩
noncomputable def o23x1 (P : Params) : Obj := ⟨.none, none, (.fields (List.toArray [])), (List.toArray [])⟩
noncomputable def o24x1 (P : Params) : Obj := ⟨(.type "tuple"), none, (.seq (List.toArray [(.str (Str.ofString "self") 204), (.str (Str.ofString "fp") 205)]) 0), (List.toArray [])⟩
noncomputable def o25x1 (P : Params) : Obj := ⟨(.type "tuple"), none, (.seq (List.toArray []) 0), (List.toArray [])⟩
noncomputable def o26x1 (P : Params) : Obj := ⟨.none, none, (.func { name := (Str.ofString "__init__"), qualname := (Str.ofString "_netrclex.__init__"), params := dArgs (inCls (st 1) 0), body := .stmts (dBody (inCls (st 1) 0)), scope := dScope (inCls (st 1) 0), globals := 0, closure := [], defaults := .none, kwdefaults := .none, doc := .none, pyModule := .none, annotations := none, code := .none, closureTuple := .none, builtins := 0 }), (List.toArray [])⟩
noncomputable def o27x1 (P : Params) : Obj := ⟨(.type "code"), none, (.fields (List.toArray [(.str (Str.ofString "__init__") 201), (.str (Str.ofString "_netrclex.__init__") 202), (.str (Str.ofString "/claim/cut.py") 203), (.int 4 0), (.int 2 0), (.int 0 0), (.int 0 0), (.int 3 0), (.ref 22), (.bool true), (.int 181 0), (.ref 23), .none, (.ref 24), (.ref 25), (.ref 26), (.int 206 0), (.int 4 0), (.str (Str.ofString "/claim/cut.py") 207)])), (List.toArray [])⟩
noncomputable def o28x1 (P : Params) : Obj := ⟨(.type "function"), none, (.func { name := (Str.ofString "__init__"), qualname := (Str.ofString "_netrclex.__init__"), params := dArgs (inCls (st 1) 0), body := .stmts (dBody (inCls (st 1) 0)), scope := dScope (inCls (st 1) 0), globals := 3, closure := [], defaults := .none, kwdefaults := .none, doc := .none, pyModule := (.str (Str.ofString "cpy313.netrc") 187), annotations := none, code := (.ref 27), closureTuple := .none, builtins := 0 }), (List.toArray [])⟩
noncomputable def o29x1 (P : Params) : Obj := ⟨(.type "tuple"), none, (.seq (List.toArray []) 0), (List.toArray [])⟩
noncomputable def o30x1 (P : Params) : Obj := ⟨.none, none, (.fields (List.toArray [])), (List.toArray [])⟩
noncomputable def o31x1 (P : Params) : Obj := ⟨(.type "tuple"), none, (.seq (List.toArray [(.str (Str.ofString "self") 212), (.str (Str.ofString "ch") 213)]) 0), (List.toArray [])⟩
noncomputable def o32x1 (P : Params) : Obj := ⟨(.type "tuple"), none, (.seq (List.toArray []) 0), (List.toArray [])⟩
noncomputable def o33x1 (P : Params) : Obj := ⟨.none, none, (.func { name := (Str.ofString "_read_char"), qualname := (Str.ofString "_netrclex._read_char"), params := dArgs (inCls (st 1) 1), body := .stmts (dBody (inCls (st 1) 1)), scope := dScope (inCls (st 1) 1), globals := 0, closure := [], defaults := .none, kwdefaults := .none, doc := .none, pyModule := .none, annotations := none, code := .none, closureTuple := .none, builtins := 0 }), (List.toArray [])⟩
noncomputable def o34x1 (P : Params) : Obj := ⟨(.type "code"), none, (.fields (List.toArray [(.str (Str.ofString "_read_char") 209), (.str (Str.ofString "_netrclex._read_char") 210), (.str (Str.ofString "/claim/cut.py") 211), (.int 10 0), (.int 1 0), (.int 0 0), (.int 0 0), (.int 3 0), (.ref 29), (.bool true), (.int 181 0), (.ref 30), .none, (.ref 31), (.ref 32), (.ref 33), (.int 214 0), (.int 10 0), (.str (Str.ofString "/claim/cut.py") 215)])), (List.toArray [])⟩
noncomputable def o35x1 (P : Params) : Obj := ⟨(.type "function"), none, (.func { name := (Str.ofString "_read_char"), qualname := (Str.ofString "_netrclex._read_char"), params := dArgs (inCls (st 1) 1), body := .stmts (dBody (inCls (st 1) 1)), scope := dScope (inCls (st 1) 1), globals := 3, closure := [], defaults := .none, kwdefaults := .none, doc := .none, pyModule := (.str (Str.ofString "cpy313.netrc") 187), annotations := none, code := (.ref 34), closureTuple := .none, builtins := 0 }), (List.toArray [])⟩
noncomputable def o36x1 (P : Params) : Obj := ⟨(.type "tuple"), none, (.seq (List.toArray []) 0), (List.toArray [])⟩
noncomputable def o37x1 (P : Params) : Obj := ⟨.none, none, (.fields (List.toArray [])), (List.toArray [])⟩
noncomputable def o38x1 (P : Params) : Obj := ⟨(.type "tuple"), none, (.seq (List.toArray [(.str (Str.ofString "self") 220), (.str (Str.ofString "token") 221), (.str (Str.ofString "fiter") 222), (.str (Str.ofString "ch") 223)]) 0), (List.toArray [])⟩
noncomputable def o39x1 (P : Params) : Obj := ⟨(.type "tuple"), none, (.seq (List.toArray []) 0), (List.toArray [])⟩
noncomputable def o40x1 (P : Params) : Obj := ⟨.none, none, (.func { name := (Str.ofString "get_token"), qualname := (Str.ofString "_netrclex.get_token"), params := dArgs (inCls (st 1) 2), body := .stmts (dBody (inCls (st 1) 2)), scope := dScope (inCls (st 1) 2), globals := 0, closure := [], defaults := .none, kwdefaults := .none, doc := .none, pyModule := .none, annotations := none, code := .none, closureTuple := .none, builtins := 0 }), (List.toArray [])⟩
noncomputable def o41x1 (P : Params) : Obj := ⟨(.type "code"), none, (.fields (List.toArray [(.str (Str.ofString "get_token") 217), (.str (Str.ofString "_netrclex.get_token") 218), (.str (Str.ofString "/claim/cut.py") 219), (.int 16 0), (.int 1 0), (.int 0 0), (.int 0 0), (.int 3 0), (.ref 36), (.bool true), (.int 181 0), (.ref 37), .none, (.ref 38), (.ref 39), (.ref 40), (.int 224 0), (.int 16 0), (.str (Str.ofString "/claim/cut.py") 225)])), (List.toArray [])⟩
noncomputable def o42x1 (P : Params) : Obj := ⟨(.type "function"), none, (.func { name := (Str.ofString "get_token"), qualname := (Str.ofString "_netrclex.get_token"), params := dArgs (inCls (st 1) 2), body := .stmts (dBody (inCls (st 1) 2)), scope := dScope (inCls (st 1) 2), globals := 3, closure := [], defaults := .none, kwdefaults := .none, doc := .none, pyModule := (.str (Str.ofString "cpy313.netrc") 187), annotations := none, code := (.ref 41), closureTuple := .none, builtins := 0 }), (List.toArray [])⟩
noncomputable def o43x1 (P : Params) : Obj := ⟨(.type "tuple"), none, (.seq (List.toArray []) 0), (List.toArray [])⟩
noncomputable def o44x1 (P : Params) : Obj := ⟨.none, none, (.fields (List.toArray [])), (List.toArray [])⟩
noncomputable def o45x1 (P : Params) : Obj := ⟨(.type "tuple"), none, (.seq (List.toArray [(.str (Str.ofString "self") 230), (.str (Str.ofString "token") 231)]) 0), (List.toArray [])⟩
noncomputable def o46x1 (P : Params) : Obj := ⟨(.type "tuple"), none, (.seq (List.toArray []) 0), (List.toArray [])⟩
noncomputable def o47x1 (P : Params) : Obj := ⟨.none, none, (.func { name := (Str.ofString "push_token"), qualname := (Str.ofString "_netrclex.push_token"), params := dArgs (inCls (st 1) 3), body := .stmts (dBody (inCls (st 1) 3)), scope := dScope (inCls (st 1) 3), globals := 0, closure := [], defaults := .none, kwdefaults := .none, doc := .none, pyModule := .none, annotations := none, code := .none, closureTuple := .none, builtins := 0 }), (List.toArray [])⟩
noncomputable def o48x1 (P : Params) : Obj := ⟨(.type "code"), none, (.fields (List.toArray [(.str (Str.ofString "push_token") 227), (.str (Str.ofString "_netrclex.push_token") 228), (.str (Str.ofString "/claim/cut.py") 229), (.int 43 0), (.int 2 0), (.int 0 0), (.int 0 0), (.int 3 0), (.ref 43), (.bool true), (.int 181 0), (.ref 44), .none, (.ref 45), (.ref 46), (.ref 47), (.int 232 0), (.int 43 0), (.str (Str.ofString "/claim/cut.py") 233)])), (List.toArray [])⟩
noncomputable def o49x1 (P : Params) : Obj := ⟨(.type "function"), none, (.func { name := (Str.ofString "push_token"), qualname := (Str.ofString "_netrclex.push_token"), params := dArgs (inCls (st 1) 3), body := .stmts (dBody (inCls (st 1) 3)), scope := dScope (inCls (st 1) 3), globals := 3, closure := [], defaults := .none, kwdefaults := .none, doc := .none, pyModule := (.str (Str.ofString "cpy313.netrc") 187), annotations := none, code := (.ref 48), closureTuple := .none, builtins := 0 }), (List.toArray [])⟩
noncomputable def o50x1 (P : Params) : Obj := ⟨(.type "tuple"), none, (.seq (List.toArray [(.str (Str.ofString "instream") 235), (.str (Str.ofString "lineno") 236), (.str (Str.ofString "pushback") 237), (.str (Str.ofString "whitespace") 238)]) 0), (List.toArray [])⟩
noncomputable def o51x1 (P : Params) : Obj := ⟨(.type "dict"), none, (.dict (List.toArray [⟨PyData.keyHash P (Str.ofString "__module__"), (.str (Str.ofString "__module__") 196), (.str (Str.ofString "cpy313.netrc") 187)⟩, ⟨PyData.keyHash P (Str.ofString "__firstlineno__"), (.str (Str.ofString "__firstlineno__") 200), (.int 2 199)⟩, ⟨PyData.keyHash P (Str.ofString "__init__"), (.str (Str.ofString "__init__") 208), (.ref 28)⟩, ⟨PyData.keyHash P (Str.ofString "_read_char"), (.str (Str.ofString "_read_char") 216), (.ref 35)⟩, ⟨PyData.keyHash P (Str.ofString "get_token"), (.str (Str.ofString "get_token") 226), (.ref 42)⟩, ⟨PyData.keyHash P (Str.ofString "push_token"), (.str (Str.ofString "push_token") 234), (.ref 49)⟩, ⟨PyData.keyHash P (Str.ofString "__static_attributes__"), (.str (Str.ofString "__static_attributes__") 239), (.ref 50)⟩, ⟨PyData.keyHash P (Str.ofString "__dict__"), (.str (Str.ofString "__dict__") 241), (.ref 53)⟩, ⟨PyData.keyHash P (Str.ofString "__weakref__"), (.str (Str.ofString "__weakref__") 243), (.ref 54)⟩, ⟨PyData.keyHash P (Str.ofString "__doc__"), (.str (Str.ofString "__doc__") 244), .none⟩]) 4), (List.toArray [])⟩
noncomputable def o52x1 (P : Params) : Obj := ⟨(.type "type"), none, (.cls { name := (Str.ofString "_netrclex"), bases := [(.type "object")], mro := [(.ref 52), (.type "object")], ns := 51, qualname := (Str.ofString "_netrclex"), hasDict := true, slotNames := [], subclasses := [], abstract := false, collection := none, hasDel := false }), (List.toArray [none, none, (some (.str (Str.ofString "_netrclex") 189)), (some (.str (Str.ofString "_netrclex") 197)), (some (.builtin "object.__new__")), (some (.bool true))])⟩
noncomputable def o53x1 (P : Params) : Obj := ⟨(.type "getset_descriptor"), none, (.fields (List.toArray [(.str (Str.ofString "__dict__") 240), (.ref 52), (.builtin "function.__dict__"), (.builtin "function.__dict__#set")])), (List.toArray [])⟩
noncomputable def o54x1 (P : Params) : Obj := ⟨(.type "getset_descriptor"), none, (.fields (List.toArray [(.str (Str.ofString "__weakref__") 242), (.ref 52), (.builtin "ExceptionGroup.__weakref__"), .none])), (List.toArray [])⟩
noncomputable def o55x1 (P : Params) : Obj := ⟨(.type "super"), none, (.fields (List.toArray [(.ref 52), (.ref 52), (.ref 52)])), (List.toArray [])⟩
noncomputable def o56x1 (P : Params) : Obj := ⟨(.type "builtin_function_or_method"), none, (.fields (List.toArray [(.builtin "object.__init_subclass__"), (.ref 52)])), (List.toArray [])⟩
noncomputable def tr1 (P : Params) : BT := (.node (boot_o_0 P) (.node (boot_o_1 P) (.node (o3x1 P) (.node (boot_o_7 P) (.node (o15x1 P) (.node (o31x1 P) .nil .nil) (.node (o47x1 P) .nil .nil)) (.node (o23x1 P) (.node (o39x1 P) .nil .nil) (.node (o55x1 P) .nil .nil))) (.node (o11xa P) (.node (o19x1 P) (.node (o35x1 P) .nil .nil) (.node (o51x1 P) .nil .nil)) (.node (o27x1 P) (.node (o43x1 P) .nil .nil) .nil))) (.node (boot_o_5 P) (.node (boot_o_9 P) (.node (o17x1 P) (.node (o33x1 P) .nil .nil) (.node (o49x1 P) .nil .nil)) (.node (o25x1 P) (.node (o41x1 P) .nil .nil) .nil)) (.node (o13xa P) (.node (o21x1 P) (.node (o37x1 P) .nil .nil) (.node (o53x1 P) .nil .nil)) (.node (o29x1 P) (.node (o45x1 P) .nil .nil) .nil)))) (.node (boot_o_2 P) (.node (boot_o_4 P) (.node (boot_o_8 P) (.node (o16x1 P) (.node (o32x1 P) .nil .nil) (.node (o48x1 P) .nil .nil)) (.node (o24x1 P) (.node (o40x1 P) .nil .nil) (.node (o56x1 P) .nil .nil))) (.node (o12x1 P) (.node (o20x1 P) (.node (o36x1 P) .nil .nil) (.node (o52x1 P) .nil .nil)) (.node (o28x1 P) (.node (o44x1 P) .nil .nil) .nil))) (.node (boot_o_6 P) (.node (boot_o_10 P) (.node (o18x1 P) (.node (o34x1 P) .nil .nil) (.node (o50x1 P) .nil .nil)) (.node (o26x1 P) (.node (o42x1 P) .nil .nil) .nil)) (.node (o14xa P) (.node (o22x1 P) (.node (o38x1 P) .nil .nil) (.node (o54x1 P) .nil .nil)) (.node (o30x1 P) (.node (o46x1 P) .nil .nil) .nil)))))
noncomputable def S1 (w : World) (os : OsState) : SharedT := ⟨tr1 w.params, 57, {}, #[], {}, 247, os⟩
noncomputable def o3x6 (P : Params) : Obj := ⟨(.type "dict"), none, (.dict (List.toArray [⟨PyData.keyHash P (Str.ofString "__name__"), (.str (Str.ofString "__name__") 165), (.str (Str.ofString "cpy313.stringprep") 268)⟩, ⟨PyData.keyHash P (Str.ofString "__doc__"), (.str (Str.ofString "__doc__") 166), .none⟩, ⟨PyData.keyHash P (Str.ofString "__package__"), (.str (Str.ofString "__package__") 167), .none⟩, ⟨PyData.keyHash P (Str.ofString "__loader__"), (.str (Str.ofString "__loader__") 168), (.builtin "__main__.__loader__#opaque")⟩, ⟨PyData.keyHash P (Str.ofString "__spec__"), (.str (Str.ofString "__spec__") 169), .none⟩, ⟨PyData.keyHash P (Str.ofString "__annotations__"), (.str (Str.ofString "__annotations__") 170), (.ref 6)⟩, ⟨PyData.keyHash P (Str.ofString "__builtins__"), (.str (Str.ofString "__builtins__") 171), (.ref 4)⟩, ⟨PyData.keyHash P (Str.ofString "__file__"), (.str (Str.ofString "__file__") 173), (.str (Str.ofString "/claim/cut.py") 172)⟩, ⟨PyData.keyHash P (Str.ofString "__cached__"), (.str (Str.ofString "__cached__") 174), .none⟩, ⟨PyData.keyHash P (Str.ofString "_netrclex"), (.str (Str.ofString "_netrclex") 246), (.ref 52)⟩, ⟨PyData.keyHash P (Str.ofString "_strcoll"), (.str (Str.ofString "_strcoll") 256), (.ref 63)⟩, ⟨PyData.keyHash P (Str.ofString "CHAR_MAX"), (.str (Str.ofString "CHAR_MAX") 258), (.int 127 257)⟩, ⟨PyData.keyHash P (Str.ofString "_grouping_intervals"), (.str (Str.ofString "_grouping_intervals") 267), (.ref 70)⟩]) 13), (List.toArray [])⟩
noncomputable def o12x6 (P : Params) : Obj := ⟨.none, none, (.fields (List.toArray [(.int 2 0), (.int 0 0), (.ref 20), (.int 46 0), (.int 0 0), (.ref 62), (.int 49 0), (.int 0 0), (.ref 69)])), (List.toArray [])⟩
noncomputable def o57x6 (P : Params) : Obj := ⟨(.type "tuple"), none, (.seq (List.toArray []) 0), (List.toArray [])⟩
noncomputable def o58x6 (P : Params) : Obj := ⟨.none, none, (.fields (List.toArray [])), (List.toArray [])⟩
noncomputable def o59x6 (P : Params) : Obj := ⟨(.type "tuple"), none, (.seq (List.toArray [(.str (Str.ofString "a") 252), (.str (Str.ofString "b") 253)]) 0), (List.toArray [])⟩
noncomputable def o60x6 (P : Params) : Obj := ⟨(.type "tuple"), none, (.seq (List.toArray []) 0), (List.toArray [])⟩
noncomputable def o61x6 (P : Params) : Obj := ⟨.none, none, (.func { name := (Str.ofString "_strcoll"), qualname := (Str.ofString "_strcoll"), params := dArgs (st 3), body := .stmts (dBody (st 3)), scope := dScope (st 3), globals := 0, closure := [], defaults := .none, kwdefaults := .none, doc := .none, pyModule := .none, annotations := none, code := .none, closureTuple := .none, builtins := 0 }), (List.toArray [])⟩
noncomputable def o62x6 (P : Params) : Obj := ⟨(.type "code"), none, (.fields (List.toArray [(.str (Str.ofString "_strcoll") 249), (.str (Str.ofString "_strcoll") 250), (.str (Str.ofString "/claim/cut.py") 251), (.int 46 0), (.int 2 0), (.int 0 0), (.int 0 0), (.int 3 0), (.ref 57), (.bool true), (.int 181 0), (.ref 58), .none, (.ref 59), (.ref 60), (.ref 61), (.int 254 0), (.int 46 0), (.str (Str.ofString "/claim/cut.py") 255)])), (List.toArray [])⟩
noncomputable def o63x6 (P : Params) : Obj := ⟨(.type "function"), none, (.func { name := (Str.ofString "_strcoll"), qualname := (Str.ofString "_strcoll"), params := dArgs (st 3), body := .stmts (dBody (st 3)), scope := dScope (st 3), globals := 3, closure := [], defaults := .none, kwdefaults := .none, doc := .none, pyModule := (.str (Str.ofString "cpy313.locale") 247), annotations := none, code := (.ref 62), closureTuple := .none, builtins := 0 }), (List.toArray [])⟩
noncomputable def o64x6 (P : Params) : Obj := ⟨(.type "tuple"), none, (.seq (List.toArray []) 0), (List.toArray [])⟩
noncomputable def o65x6 (P : Params) : Obj := ⟨.none, none, (.fields (List.toArray [])), (List.toArray [])⟩
noncomputable def o66x6 (P : Params) : Obj := ⟨(.type "tuple"), none, (.seq (List.toArray [(.str (Str.ofString "grouping") 262), (.str (Str.ofString "last_interval") 263), (.str (Str.ofString "interval") 264)]) 0), (List.toArray [])⟩
noncomputable def o67x6 (P : Params) : Obj := ⟨(.type "tuple"), none, (.seq (List.toArray []) 0), (List.toArray [])⟩
noncomputable def o68x6 (P : Params) : Obj := ⟨.none, none, (.func { name := (Str.ofString "_grouping_intervals"), qualname := (Str.ofString "_grouping_intervals"), params := dArgs (st 5), body := .stmts (dBody (st 5)), scope := dScope (st 5), globals := 0, closure := [], defaults := .none, kwdefaults := .none, doc := .none, pyModule := .none, annotations := none, code := .none, closureTuple := .none, builtins := 0 }), (List.toArray [])⟩
noncomputable def o69x6 (P : Params) : Obj := ⟨(.type "code"), none, (.fields (List.toArray [(.str (Str.ofString "_grouping_intervals") 259), (.str (Str.ofString "_grouping_intervals") 260), (.str (Str.ofString "/claim/cut.py") 261), (.int 49 0), (.int 1 0), (.int 0 0), (.int 0 0), (.int 35 0), (.ref 64), (.bool true), (.int 181 0), (.ref 65), .none, (.ref 66), (.ref 67), (.ref 68), (.int 265 0), (.int 49 0), (.str (Str.ofString "/claim/cut.py") 266)])), (List.toArray [])⟩
noncomputable def o70x6 (P : Params) : Obj := ⟨(.type "function"), none, (.func { name := (Str.ofString "_grouping_intervals"), qualname := (Str.ofString "_grouping_intervals"), params := dArgs (st 5), body := .stmts (dBody (st 5)), scope := dScope (st 5), globals := 3, closure := [], defaults := .none, kwdefaults := .none, doc := .none, pyModule := (.str (Str.ofString "cpy313.locale") 247), annotations := none, code := (.ref 69), closureTuple := .none, builtins := 0 }), (List.toArray [])⟩
noncomputable def tr6 (P : Params) : BT := (.node (boot_o_0 P) (.node (boot_o_1 P) (.node (o3x6 P) (.node (boot_o_7 P) (.node (o15x1 P) (.node (o31x1 P) (.node (o63x6 P) .nil .nil) .nil) (.node (o47x1 P) .nil .nil)) (.node (o23x1 P) (.node (o39x1 P) .nil .nil) (.node (o55x1 P) .nil .nil))) (.node (o11xa P) (.node (o19x1 P) (.node (o35x1 P) (.node (o67x6 P) .nil .nil) .nil) (.node (o51x1 P) .nil .nil)) (.node (o27x1 P) (.node (o43x1 P) .nil .nil) (.node (o59x6 P) .nil .nil)))) (.node (boot_o_5 P) (.node (boot_o_9 P) (.node (o17x1 P) (.node (o33x1 P) (.node (o65x6 P) .nil .nil) .nil) (.node (o49x1 P) .nil .nil)) (.node (o25x1 P) (.node (o41x1 P) .nil .nil) (.node (o57x6 P) .nil .nil))) (.node (o13xa P) (.node (o21x1 P) (.node (o37x1 P) (.node (o69x6 P) .nil .nil) .nil) (.node (o53x1 P) .nil .nil)) (.node (o29x1 P) (.node (o45x1 P) .nil .nil) (.node (o61x6 P) .nil .nil))))) (.node (boot_o_2 P) (.node (boot_o_4 P) (.node (boot_o_8 P) (.node (o16x1 P) (.node (o32x1 P) (.node (o64x6 P) .nil .nil) .nil) (.node (o48x1 P) .nil .nil)) (.node (o24x1 P) (.node (o40x1 P) .nil .nil) (.node (o56x1 P) .nil .nil))) (.node (o12x6 P) (.node (o20x1 P) (.node (o36x1 P) (.node (o68x6 P) .nil .nil) .nil) (.node (o52x1 P) .nil .nil)) (.node (o28x1 P) (.node (o44x1 P) .nil .nil) (.node (o60x6 P) .nil .nil)))) (.node (boot_o_6 P) (.node (boot_o_10 P) (.node (o18x1 P) (.node (o34x1 P) (.node (o66x6 P) .nil .nil) .nil) (.node (o50x1 P) .nil .nil)) (.node (o26x1 P) (.node (o42x1 P) .nil .nil) (.node (o58x6 P) .nil .nil))) (.node (o14xa P) (.node (o22x1 P) (.node (o38x1 P) (.node (o70x6 P) .nil .nil) .nil) (.node (o54x1 P) .nil .nil)) (.node (o30x1 P) (.node (o46x1 P) .nil .nil) (.node (o62x6 P) .nil .nil))))))
noncomputable def S6 (w : World) (os : OsState) : SharedT := ⟨tr6 w.params, 71, {}, #[], {}, 270, os⟩
noncomputable def o3x7 (P : Params) : Obj := ⟨(.type "dict"), none, (.dict (List.toArray [⟨PyData.keyHash P (Str.ofString "__name__"), (.str (Str.ofString "__name__") 165), (.str (Str.ofString "cpy313.stringprep") 268)⟩, ⟨PyData.keyHash P (Str.ofString "__doc__"), (.str (Str.ofString "__doc__") 166), .none⟩, ⟨PyData.keyHash P (Str.ofString "__package__"), (.str (Str.ofString "__package__") 167), .none⟩, ⟨PyData.keyHash P (Str.ofString "__loader__"), (.str (Str.ofString "__loader__") 168), (.builtin "__main__.__loader__#opaque")⟩, ⟨PyData.keyHash P (Str.ofString "__spec__"), (.str (Str.ofString "__spec__") 169), .none⟩, ⟨PyData.keyHash P (Str.ofString "__annotations__"), (.str (Str.ofString "__annotations__") 170), (.ref 6)⟩, ⟨PyData.keyHash P (Str.ofString "__builtins__"), (.str (Str.ofString "__builtins__") 171), (.ref 4)⟩, ⟨PyData.keyHash P (Str.ofString "__file__"), (.str (Str.ofString "__file__") 173), (.str (Str.ofString "/claim/cut.py") 172)⟩, ⟨PyData.keyHash P (Str.ofString "__cached__"), (.str (Str.ofString "__cached__") 174), .none⟩, ⟨PyData.keyHash P (Str.ofString "_netrclex"), (.str (Str.ofString "_netrclex") 246), (.ref 52)⟩, ⟨PyData.keyHash P (Str.ofString "_strcoll"), (.str (Str.ofString "_strcoll") 256), (.ref 63)⟩, ⟨PyData.keyHash P (Str.ofString "CHAR_MAX"), (.str (Str.ofString "CHAR_MAX") 258), (.int 127 257)⟩, ⟨PyData.keyHash P (Str.ofString "_grouping_intervals"), (.str (Str.ofString "_grouping_intervals") 267), (.ref 70)⟩, ⟨PyData.keyHash P (Str.ofString "b1_set"), (.str (Str.ofString "b1_set") 329), (.ref 78)⟩]) 14), (List.toArray [])⟩
noncomputable def o71x7 (P : Params) : Obj := ⟨(.type "list"), none, (.seq (List.toArray [(.int 173 270), (.int 847 271), (.int 6150 272), (.int 6155 273), (.int 6156 274), (.int 6157 275), (.int 8203 276), (.int 8204 277), (.int 8205 278), (.int 8288 279), (.int 65279 280)]) 0), (List.toArray [])⟩
noncomputable def o72x7 (P : Params) : Obj := ⟨(.type "range"), none, (.fields (List.toArray [(.int 65024 281), (.int 65040 282), (.int 1 283)])), (List.toArray [])⟩
noncomputable def o73x7 (P : Params) : Obj := ⟨(.type "list"), none, (.seq (List.toArray [(.int 65024 286), (.int 65025 287), (.int 65026 288), (.int 65027 289), (.int 65028 290), (.int 65029 291), (.int 65030 292), (.int 65031 293), (.int 65032 294), (.int 65033 295), (.int 65034 296), (.int 65035 297), (.int 65036 298), (.int 65037 299), (.int 65038 300), (.int 65039 301)]) 18), (List.toArray [])⟩
noncomputable def o74x7 (P : Params) : Obj := ⟨(.type "range_iterator"), none, (.fields (List.toArray [(.int 65040 0), (.int 0 0), (.int 1 0)])), (List.toArray [])⟩
noncomputable def o75x7 (P : Params) : Obj := ⟨(.type "tuple"), none, (.seq (List.toArray []) 0), (List.toArray [])⟩
noncomputable def o76x7 (P : Params) : Obj := ⟨(.type "StopIteration"), none, (.fields (List.toArray [(.ref 75), .none, .none, .none, (.bool false), .none])), (List.toArray [])⟩
noncomputable def o77x7 (P : Params) : Obj := ⟨(.type "list"), none, (.seq (List.toArray [(.int 173 270), (.int 847 271), (.int 6150 272), (.int 6155 273), (.int 6156 274), (.int 6157 275), (.int 8203 276), (.int 8204 277), (.int 8205 278), (.int 8288 279), (.int 65279 280), (.int 65024 286), (.int 65025 287), (.int 65026 288), (.int 65027 289), (.int 65028 290), (.int 65029 291), (.int 65030 292), (.int 65031 293), (.int 65032 294), (.int 65033 295), (.int 65034 296), (.int 65035 297), (.int 65036 298), (.int 65037 299), (.int 65038 300), (.int 65039 301)]) 0), (List.toArray [])⟩
noncomputable def o78x7 (P : Params) : Obj := ⟨(.type "set"), none, (.set (List.toArray [(65024, (.int 65024 286)), (65025, (.int 65025 287)), (65026, (.int 65026 288)), (65027, (.int 65027 289)), (65028, (.int 65028 290)), (65029, (.int 65029 291)), (6150, (.int 6150 272)), (65030, (.int 65030 292)), (65031, (.int 65031 293)), (65032, (.int 65032 294)), (65033, (.int 65033 295)), (6155, (.int 6155 273)), (6156, (.int 6156 274)), (6157, (.int 6157 275)), (8203, (.int 8203 276)), (8204, (.int 8204 277)), (8205, (.int 8205 278)), (65034, (.int 65034 296)), (65035, (.int 65035 297)), (65036, (.int 65036 298)), (65037, (.int 65037 299)), (65038, (.int 65038 300)), (65039, (.int 65039 301)), (173, (.int 173 270)), (847, (.int 847 271)), (8288, (.int 8288 279)), (65279, (.int 65279 280))]) 29 ⟨127, (List.toArray [0, 1, 2, 3, 4, 5, 6, 7, 8, 9, 10, 11, 12, 13, 14, 15, 16, 17, 18, 19, 20, 21, 22, 45, 79, 96, 127]), (List.toArray []), 0, !(P.followText "set-order"), 2, true⟩), (List.toArray [])⟩
noncomputable def o79x7 (P : Params) : Obj := ⟨(.type "list_iterator"), none, (.fields (List.toArray [.none, (.int 27 0)])), (List.toArray [])⟩
noncomputable def o80x7 (P : Params) : Obj := ⟨(.type "tuple"), none, (.seq (List.toArray []) 0), (List.toArray [])⟩
noncomputable def o81x7 (P : Params) : Obj := ⟨(.type "StopIteration"), none, (.fields (List.toArray [(.ref 80), .none, .none, .none, (.bool false), .none])), (List.toArray [])⟩
noncomputable def tr7 (P : Params) : BT := (.node (boot_o_0 P) (.node (boot_o_1 P) (.node (o3x7 P) (.node (boot_o_7 P) (.node (o15x1 P) (.node (o31x1 P) (.node (o63x6 P) .nil .nil) .nil) (.node (o47x1 P) (.node (o79x7 P) .nil .nil) .nil)) (.node (o23x1 P) (.node (o39x1 P) (.node (o71x7 P) .nil .nil) .nil) (.node (o55x1 P) .nil .nil))) (.node (o11xa P) (.node (o19x1 P) (.node (o35x1 P) (.node (o67x6 P) .nil .nil) .nil) (.node (o51x1 P) .nil .nil)) (.node (o27x1 P) (.node (o43x1 P) (.node (o75x7 P) .nil .nil) .nil) (.node (o59x6 P) .nil .nil)))) (.node (boot_o_5 P) (.node (boot_o_9 P) (.node (o17x1 P) (.node (o33x1 P) (.node (o65x6 P) .nil .nil) .nil) (.node (o49x1 P) (.node (o81x7 P) .nil .nil) .nil)) (.node (o25x1 P) (.node (o41x1 P) (.node (o73x7 P) .nil .nil) .nil) (.node (o57x6 P) .nil .nil))) (.node (o13xa P) (.node (o21x1 P) (.node (o37x1 P) (.node (o69x6 P) .nil .nil) .nil) (.node (o53x1 P) .nil .nil)) (.node (o29x1 P) (.node (o45x1 P) (.node (o77x7 P) .nil .nil) .nil) (.node (o61x6 P) .nil .nil))))) (.node (boot_o_2 P) (.node (boot_o_4 P) (.node (boot_o_8 P) (.node (o16x1 P) (.node (o32x1 P) (.node (o64x6 P) .nil .nil) .nil) (.node (o48x1 P) (.node (o80x7 P) .nil .nil) .nil)) (.node (o24x1 P) (.node (o40x1 P) (.node (o72x7 P) .nil .nil) .nil) (.node (o56x1 P) .nil .nil))) (.node (o12x6 P) (.node (o20x1 P) (.node (o36x1 P) (.node (o68x6 P) .nil .nil) .nil) (.node (o52x1 P) .nil .nil)) (.node (o28x1 P) (.node (o44x1 P) (.node (o76x7 P) .nil .nil) .nil) (.node (o60x6 P) .nil .nil)))) (.node (boot_o_6 P) (.node (boot_o_10 P) (.node (o18x1 P) (.node (o34x1 P) (.node (o66x6 P) .nil .nil) .nil) (.node (o50x1 P) .nil .nil)) (.node (o26x1 P) (.node (o42x1 P) (.node (o74x7 P) .nil .nil) .nil) (.node (o58x6 P) .nil .nil))) (.node (o14xa P) (.node (o22x1 P) (.node (o38x1 P) (.node (o70x6 P) .nil .nil) .nil) (.node (o54x1 P) .nil .nil)) (.node (o30x1 P) (.node (o46x1 P) (.node (o78x7 P) .nil .nil) .nil) (.node (o62x6 P) .nil .nil))))))
noncomputable def S7 (w : World) (os : OsState) : SharedT := ⟨tr7 w.params, 82, {}, #[], {}, 330, os⟩
noncomputable def o3x8 (P : Params) : Obj := ⟨(.type "dict"), none, (.dict (List.toArray [⟨PyData.keyHash P (Str.ofString "__name__"), (.str (Str.ofString "__name__") 165), (.str (Str.ofString "cpy313.stringprep") 268)⟩, ⟨PyData.keyHash P (Str.ofString "__doc__"), (.str (Str.ofString "__doc__") 166), .none⟩, ⟨PyData.keyHash P (Str.ofString "__package__"), (.str (Str.ofString "__package__") 167), .none⟩, ⟨PyData.keyHash P (Str.ofString "__loader__"), (.str (Str.ofString "__loader__") 168), (.builtin "__main__.__loader__#opaque")⟩, ⟨PyData.keyHash P (Str.ofString "__spec__"), (.str (Str.ofString "__spec__") 169), .none⟩, ⟨PyData.keyHash P (Str.ofString "__annotations__"), (.str (Str.ofString "__annotations__") 170), (.ref 6)⟩, ⟨PyData.keyHash P (Str.ofString "__builtins__"), (.str (Str.ofString "__builtins__") 171), (.ref 4)⟩, ⟨PyData.keyHash P (Str.ofString "__file__"), (.str (Str.ofString "__file__") 173), (.str (Str.ofString "/claim/cut.py") 172)⟩, ⟨PyData.keyHash P (Str.ofString "__cached__"), (.str (Str.ofString "__cached__") 174), .none⟩, ⟨PyData.keyHash P (Str.ofString "_netrclex"), (.str (Str.ofString "_netrclex") 246), (.ref 52)⟩, ⟨PyData.keyHash P (Str.ofString "_strcoll"), (.str (Str.ofString "_strcoll") 256), (.ref 63)⟩, ⟨PyData.keyHash P (Str.ofString "CHAR_MAX"), (.str (Str.ofString "CHAR_MAX") 258), (.int 127 257)⟩, ⟨PyData.keyHash P (Str.ofString "_grouping_intervals"), (.str (Str.ofString "_grouping_intervals") 267), (.ref 70)⟩, ⟨PyData.keyHash P (Str.ofString "b1_set"), (.str (Str.ofString "b1_set") 329), (.ref 78)⟩, ⟨PyData.keyHash P (Str.ofString "in_table_b1"), (.str (Str.ofString "in_table_b1") 336), (.ref 88)⟩]) 15), (List.toArray [])⟩
noncomputable def o12x8 (P : Params) : Obj := ⟨.none, none, (.fields (List.toArray [(.int 2 0), (.int 0 0), (.ref 20), (.int 46 0), (.int 0 0), (.ref 62), (.int 49 0), (.int 0 0), (.ref 69), (.int 63 0), (.int 0 0), (.ref 87)])), (List.toArray [])⟩
noncomputable def o82x8 (P : Params) : Obj := ⟨(.type "tuple"), none, (.seq (List.toArray []) 0), (List.toArray [])⟩
noncomputable def o83x8 (P : Params) : Obj := ⟨.none, none, (.fields (List.toArray [])), (List.toArray [])⟩
noncomputable def o84x8 (P : Params) : Obj := ⟨(.type "tuple"), none, (.seq (List.toArray [(.str (Str.ofString "code") 333)]) 0), (List.toArray [])⟩
noncomputable def o85x8 (P : Params) : Obj := ⟨(.type "tuple"), none, (.seq (List.toArray []) 0), (List.toArray [])⟩
noncomputable def o86x8 (P : Params) : Obj := ⟨.none, none, (.func { name := (Str.ofString "in_table_b1"), qualname := (Str.ofString "in_table_b1"), params := dArgs (st 8), body := .stmts (dBody (st 8)), scope := dScope (st 8), globals := 0, closure := [], defaults := .none, kwdefaults := .none, doc := .none, pyModule := .none, annotations := none, code := .none, closureTuple := .none, builtins := 0 }), (List.toArray [])⟩
noncomputable def o87x8 (P : Params) : Obj := ⟨(.type "code"), none, (.fields (List.toArray [(.str (Str.ofString "in_table_b1") 330), (.str (Str.ofString "in_table_b1") 331), (.str (Str.ofString "/claim/cut.py") 332), (.int 63 0), (.int 1 0), (.int 0 0), (.int 0 0), (.int 3 0), (.ref 82), (.bool true), (.int 181 0), (.ref 83), .none, (.ref 84), (.ref 85), (.ref 86), (.int 334 0), (.int 63 0), (.str (Str.ofString "/claim/cut.py") 335)])), (List.toArray [])⟩
noncomputable def o88x8 (P : Params) : Obj := ⟨(.type "function"), none, (.func { name := (Str.ofString "in_table_b1"), qualname := (Str.ofString "in_table_b1"), params := dArgs (st 8), body := .stmts (dBody (st 8)), scope := dScope (st 8), globals := 3, closure := [], defaults := .none, kwdefaults := .none, doc := .none, pyModule := (.str (Str.ofString "cpy313.stringprep") 268), annotations := none, code := (.ref 87), closureTuple := .none, builtins := 0 }), (List.toArray [])⟩
noncomputable def tr8 (P : Params) : BT := (.node (boot_o_0 P) (.node (boot_o_1 P) (.node (o3x8 P) (.node (boot_o_7 P) (.node (o15x1 P) (.node (o31x1 P) (.node (o63x6 P) .nil .nil) .nil) (.node (o47x1 P) (.node (o79x7 P) .nil .nil) .nil)) (.node (o23x1 P) (.node (o39x1 P) (.node (o71x7 P) .nil .nil) .nil) (.node (o55x1 P) (.node (o87x8 P) .nil .nil) .nil))) (.node (o11xa P) (.node (o19x1 P) (.node (o35x1 P) (.node (o67x6 P) .nil .nil) .nil) (.node (o51x1 P) (.node (o83x8 P) .nil .nil) .nil)) (.node (o27x1 P) (.node (o43x1 P) (.node (o75x7 P) .nil .nil) .nil) (.node (o59x6 P) .nil .nil)))) (.node (boot_o_5 P) (.node (boot_o_9 P) (.node (o17x1 P) (.node (o33x1 P) (.node (o65x6 P) .nil .nil) .nil) (.node (o49x1 P) (.node (o81x7 P) .nil .nil) .nil)) (.node (o25x1 P) (.node (o41x1 P) (.node (o73x7 P) .nil .nil) .nil) (.node (o57x6 P) .nil .nil))) (.node (o13xa P) (.node (o21x1 P) (.node (o37x1 P) (.node (o69x6 P) .nil .nil) .nil) (.node (o53x1 P) (.node (o85x8 P) .nil .nil) .nil)) (.node (o29x1 P) (.node (o45x1 P) (.node (o77x7 P) .nil .nil) .nil) (.node (o61x6 P) .nil .nil))))) (.node (boot_o_2 P) (.node (boot_o_4 P) (.node (boot_o_8 P) (.node (o16x1 P) (.node (o32x1 P) (.node (o64x6 P) .nil .nil) .nil) (.node (o48x1 P) (.node (o80x7 P) .nil .nil) .nil)) (.node (o24x1 P) (.node (o40x1 P) (.node (o72x7 P) .nil .nil) .nil) (.node (o56x1 P) (.node (o88x8 P) .nil .nil) .nil))) (.node (o12x8 P) (.node (o20x1 P) (.node (o36x1 P) (.node (o68x6 P) .nil .nil) .nil) (.node (o52x1 P) (.node (o84x8 P) .nil .nil) .nil)) (.node (o28x1 P) (.node (o44x1 P) (.node (o76x7 P) .nil .nil) .nil) (.node (o60x6 P) .nil .nil)))) (.node (boot_o_6 P) (.node (boot_o_10 P) (.node (o18x1 P) (.node (o34x1 P) (.node (o66x6 P) .nil .nil) .nil) (.node (o50x1 P) (.node (o82x8 P) .nil .nil) .nil)) (.node (o26x1 P) (.node (o42x1 P) (.node (o74x7 P) .nil .nil) .nil) (.node (o58x6 P) .nil .nil))) (.node (o14xa P) (.node (o22x1 P) (.node (o38x1 P) (.node (o70x6 P) .nil .nil) .nil) (.node (o54x1 P) (.node (o86x8 P) .nil .nil) .nil)) (.node (o30x1 P) (.node (o46x1 P) (.node (o78x7 P) .nil .nil) .nil) (.node (o62x6 P) .nil .nil))))))
noncomputable def S8 (w : World) (os : OsState) : SharedT := ⟨tr8 w.params, 89, {}, #[], {}, 337, os⟩
noncomputable def o3x9 (P : Params) : Obj := ⟨(.type "dict"), none, (.dict (List.toArray [⟨PyData.keyHash P (Str.ofString "__name__"), (.str (Str.ofString "__name__") 165), (.str (Str.ofString "cpy313.stringprep") 268)⟩, ⟨PyData.keyHash P (Str.ofString "__doc__"), (.str (Str.ofString "__doc__") 166), .none⟩, ⟨PyData.keyHash P (Str.ofString "__package__"), (.str (Str.ofString "__package__") 167), .none⟩, ⟨PyData.keyHash P (Str.ofString "__loader__"), (.str (Str.ofString "__loader__") 168), (.builtin "__main__.__loader__#opaque")⟩, ⟨PyData.keyHash P (Str.ofString "__spec__"), (.str (Str.ofString "__spec__") 169), .none⟩, ⟨PyData.keyHash P (Str.ofString "__annotations__"), (.str (Str.ofString "__annotations__") 170), (.ref 6)⟩, ⟨PyData.keyHash P (Str.ofString "__builtins__"), (.str (Str.ofString "__builtins__") 171), (.ref 4)⟩, ⟨PyData.keyHash P (Str.ofString "__file__"), (.str (Str.ofString "__file__") 173), (.str (Str.ofString "/claim/cut.py") 172)⟩, ⟨PyData.keyHash P (Str.ofString "__cached__"), (.str (Str.ofString "__cached__") 174), .none⟩, ⟨PyData.keyHash P (Str.ofString "_netrclex"), (.str (Str.ofString "_netrclex") 246), (.ref 52)⟩, ⟨PyData.keyHash P (Str.ofString "_strcoll"), (.str (Str.ofString "_strcoll") 256), (.ref 63)⟩, ⟨PyData.keyHash P (Str.ofString "CHAR_MAX"), (.str (Str.ofString "CHAR_MAX") 258), (.int 127 257)⟩, ⟨PyData.keyHash P (Str.ofString "_grouping_intervals"), (.str (Str.ofString "_grouping_intervals") 267), (.ref 70)⟩, ⟨PyData.keyHash P (Str.ofString "b1_set"), (.str (Str.ofString "b1_set") 329), (.ref 78)⟩, ⟨PyData.keyHash P (Str.ofString "in_table_b1"), (.str (Str.ofString "in_table_b1") 336), (.ref 88)⟩, ⟨PyData.keyHash P (Str.ofString "b3_exceptions"), (.str (Str.ofString "b3_exceptions") 2287), (.ref 89)⟩]) 16), (List.toArray [])⟩
noncomputable def o89x9 (_P : Params) : Obj := b3main
noncomputable def o90x9 (_P : Params) : Obj := b3sub 0
noncomputable def o91x9 (_P : Params) : Obj := b3sub 1
noncomputable def o92x9 (_P : Params) : Obj := b3sub 2
noncomputable def o93x9 (_P : Params) : Obj := b3sub 3
noncomputable def o94x9 (_P : Params) : Obj := b3sub 4
noncomputable def o95x9 (_P : Params) : Obj := b3sub 5
noncomputable def o96x9 (_P : Params) : Obj := b3sub 6
noncomputable def o97x9 (_P : Params) : Obj := b3sub 7
noncomputable def o98x9 (_P : Params) : Obj := b3sub 8
noncomputable def o99x9 (_P : Params) : Obj := b3sub 9
noncomputable def o100x9 (_P : Params) : Obj := b3sub 10
noncomputable def o101x9 (_P : Params) : Obj := b3sub 11
noncomputable def o102x9 (_P : Params) : Obj := b3sub 12
noncomputable def o103x9 (_P : Params) : Obj := b3sub 13
noncomputable def o104x9 (_P : Params) : Obj := b3sub 14
noncomputable def o105x9 (_P : Params) : Obj := b3sub 15
noncomputable def o106x9 (_P : Params) : Obj := b3sub 16
noncomputable def o107x9 (_P : Params) : Obj := b3sub 17
noncomputable def o108x9 (_P : Params) : Obj := b3sub 18
noncomputable def o109x9 (_P : Params) : Obj := b3sub 19
noncomputable def o110x9 (_P : Params) : Obj := b3sub 20
noncomputable def o111x9 (_P : Params) : Obj := b3sub 21
noncomputable def o112x9 (_P : Params) : Obj := b3sub 22
noncomputable def o113x9 (_P : Params) : Obj := b3sub 23
noncomputable def o114x9 (_P : Params) : Obj := b3sub 24
noncomputable def o115x9 (_P : Params) : Obj := b3sub 25
noncomputable def o116x9 (_P : Params) : Obj := b3sub 26
noncomputable def o117x9 (_P : Params) : Obj := b3sub 27
noncomputable def o118x9 (_P : Params) : Obj := b3sub 28
noncomputable def o119x9 (_P : Params) : Obj := b3sub 29
noncomputable def o120x9 (_P : Params) : Obj := b3sub 30
noncomputable def o121x9 (_P : Params) : Obj := b3sub 31
noncomputable def o122x9 (_P : Params) : Obj := b3sub 32
noncomputable def o123x9 (_P : Params) : Obj := b3sub 33
noncomputable def o124x9 (_P : Params) : Obj := b3sub 34
noncomputable def o125x9 (_P : Params) : Obj := b3sub 35
noncomputable def o126x9 (_P : Params) : Obj := b3sub 36
noncomputable def o127x9 (_P : Params) : Obj := b3sub 37
noncomputable def tr9 (P : Params) : BT := (.node (boot_o_0 P) (.node (boot_o_1 P) (.node (o3x9 P) (.node (boot_o_7 P) (.node (o15x1 P) (.node (o31x1 P) (.node (o63x6 P) (.node (o127x9 P) .nil .nil) .nil) (.node (o95x9 P) .nil .nil)) (.node (o47x1 P) (.node (o79x7 P) .nil .nil) (.node (o111x9 P) .nil .nil))) (.node (o23x1 P) (.node (o39x1 P) (.node (o71x7 P) .nil .nil) (.node (o103x9 P) .nil .nil)) (.node (o55x1 P) (.node (o87x8 P) .nil .nil) (.node (o119x9 P) .nil .nil)))) (.node (o11xa P) (.node (o19x1 P) (.node (o35x1 P) (.node (o67x6 P) .nil .nil) (.node (o99x9 P) .nil .nil)) (.node (o51x1 P) (.node (o83x8 P) .nil .nil) (.node (o115x9 P) .nil .nil))) (.node (o27x1 P) (.node (o43x1 P) (.node (o75x7 P) .nil .nil) (.node (o107x9 P) .nil .nil)) (.node (o59x6 P) (.node (o91x9 P) .nil .nil) (.node (o123x9 P) .nil .nil))))) (.node (boot_o_5 P) (.node (boot_o_9 P) (.node (o17x1 P) (.node (o33x1 P) (.node (o65x6 P) .nil .nil) (.node (o97x9 P) .nil .nil)) (.node (o49x1 P) (.node (o81x7 P) .nil .nil) (.node (o113x9 P) .nil .nil))) (.node (o25x1 P) (.node (o41x1 P) (.node (o73x7 P) .nil .nil) (.node (o105x9 P) .nil .nil)) (.node (o57x6 P) (.node (o89x9 P) .nil .nil) (.node (o121x9 P) .nil .nil)))) (.node (o13xa P) (.node (o21x1 P) (.node (o37x1 P) (.node (o69x6 P) .nil .nil) (.node (o101x9 P) .nil .nil)) (.node (o53x1 P) (.node (o85x8 P) .nil .nil) (.node (o117x9 P) .nil .nil))) (.node (o29x1 P) (.node (o45x1 P) (.node (o77x7 P) .nil .nil) (.node (o109x9 P) .nil .nil)) (.node (o61x6 P) (.node (o93x9 P) .nil .nil) (.node (o125x9 P) .nil .nil)))))) (.node (boot_o_2 P) (.node (boot_o_4 P) (.node (boot_o_8 P) (.node (o16x1 P) (.node (o32x1 P) (.node (o64x6 P) .nil .nil) (.node (o96x9 P) .nil .nil)) (.node (o48x1 P) (.node (o80x7 P) .nil .nil) (.node (o112x9 P) .nil .nil))) (.node (o24x1 P) (.node (o40x1 P) (.node (o72x7 P) .nil .nil) (.node (o104x9 P) .nil .nil)) (.node (o56x1 P) (.node (o88x8 P) .nil .nil) (.node (o120x9 P) .nil .nil)))) (.node (o12x8 P) (.node (o20x1 P) (.node (o36x1 P) (.node (o68x6 P) .nil .nil) (.node (o100x9 P) .nil .nil)) (.node (o52x1 P) (.node (o84x8 P) .nil .nil) (.node (o116x9 P) .nil .nil))) (.node (o28x1 P) (.node (o44x1 P) (.node (o76x7 P) .nil .nil) (.node (o108x9 P) .nil .nil)) (.node (o60x6 P) (.node (o92x9 P) .nil .nil) (.node (o124x9 P) .nil .nil))))) (.node (boot_o_6 P) (.node (boot_o_10 P) (.node (o18x1 P) (.node (o34x1 P) (.node (o66x6 P) .nil .nil) (.node (o98x9 P) .nil .nil)) (.node (o50x1 P) (.node (o82x8 P) .nil .nil) (.node (o114x9 P) .nil .nil))) (.node (o26x1 P) (.node (o42x1 P) (.node (o74x7 P) .nil .nil) (.node (o106x9 P) .nil .nil)) (.node (o58x6 P) (.node (o90x9 P) .nil .nil) (.node (o122x9 P) .nil .nil)))) (.node (o14xa P) (.node (o22x1 P) (.node (o38x1 P) (.node (o70x6 P) .nil .nil) (.node (o102x9 P) .nil .nil)) (.node (o54x1 P) (.node (o86x8 P) .nil .nil) (.node (o118x9 P) .nil .nil))) (.node (o30x1 P) (.node (o46x1 P) (.node (o78x7 P) .nil .nil) (.node (o110x9 P) .nil .nil)) (.node (o62x6 P) (.node (o94x9 P) .nil .nil) (.node (o126x9 P) .nil .nil)))))))
noncomputable def S9 (w : World) (os : OsState) : SharedT := ⟨tr9 w.params, 128, {}, #[], {}, 2288, os⟩
noncomputable def o3x18 (P : Params) : Obj := ⟨(.type "dict"), none, (.dict (List.toArray [⟨PyData.keyHash P (Str.ofString "__name__"), (.str (Str.ofString "__name__") 165), (.str (Str.ofString "law_sw0063_02") 2296)⟩, ⟨PyData.keyHash P (Str.ofString "__doc__"), (.str (Str.ofString "__doc__") 166), .none⟩, ⟨PyData.keyHash P (Str.ofString "__package__"), (.str (Str.ofString "__package__") 167), .none⟩, ⟨PyData.keyHash P (Str.ofString "__loader__"), (.str (Str.ofString "__loader__") 168), (.builtin "__main__.__loader__#opaque")⟩, ⟨PyData.keyHash P (Str.ofString "__spec__"), (.str (Str.ofString "__spec__") 169), .none⟩, ⟨PyData.keyHash P (Str.ofString "__annotations__"), (.str (Str.ofString "__annotations__") 170), (.ref 6)⟩, ⟨PyData.keyHash P (Str.ofString "__builtins__"), (.str (Str.ofString "__builtins__") 171), (.ref 4)⟩, ⟨PyData.keyHash P (Str.ofString "__file__"), (.str (Str.ofString "__file__") 173), (.str (Str.ofString "/claim/cut.py") 172)⟩, ⟨PyData.keyHash P (Str.ofString "__cached__"), (.str (Str.ofString "__cached__") 174), .none⟩, ⟨PyData.keyHash P (Str.ofString "_netrclex"), (.str (Str.ofString "_netrclex") 246), (.ref 52)⟩, ⟨PyData.keyHash P (Str.ofString "_strcoll"), (.str (Str.ofString "_strcoll") 256), (.ref 63)⟩, ⟨PyData.keyHash P (Str.ofString "CHAR_MAX"), (.str (Str.ofString "CHAR_MAX") 258), (.int 127 257)⟩, ⟨PyData.keyHash P (Str.ofString "_grouping_intervals"), (.str (Str.ofString "_grouping_intervals") 267), (.ref 70)⟩, ⟨PyData.keyHash P (Str.ofString "b1_set"), (.str (Str.ofString "b1_set") 329), (.ref 78)⟩, ⟨PyData.keyHash P (Str.ofString "in_table_b1"), (.str (Str.ofString "in_table_b1") 336), (.ref 88)⟩, ⟨PyData.keyHash P (Str.ofString "b3_exceptions"), (.str (Str.ofString "b3_exceptions") 2287), (.ref 89)⟩, ⟨PyData.keyHash P (Str.ofString "map_table_b3"), (.str (Str.ofString "map_table_b3") 2295), (.ref 134)⟩, ⟨PyData.keyHash P (Str.ofString "_law_totals"), (.str (Str.ofString "_law_totals") 2306), (.ref 141)⟩, ⟨PyData.keyHash P (Str.ofString "_law_word"), (.str (Str.ofString "_law_word") 2312), (.ref 146)⟩, ⟨PyData.keyHash P (Str.ofString "_law_code"), (.str (Str.ofString "_law_code") 2318), (.ref 151)⟩, ⟨PyData.keyHash P (Str.ofString "_law_lexer"), (.str (Str.ofString "_law_lexer") 2329), (.ref 158)⟩, ⟨PyData.keyHash P (Str.ofString "_law_prepared"), (.str (Str.ofString "_law_prepared") 2335), (.ref 163)⟩, ⟨PyData.keyHash P (Str.ofString "_law_marks"), (.str (Str.ofString "_law_marks") 2345), (.ref 170)⟩, ⟨PyData.keyHash P (Str.ofString "law"), (.str (Str.ofString "law") 2351), (.ref 175)⟩]) 24), (List.toArray [])⟩
noncomputable def o12x18 (P : Params) : Obj := ⟨.none, none, (.fields (List.toArray [(.int 2 0), (.int 0 0), (.ref 20), (.int 46 0), (.int 0 0), (.ref 62), (.int 49 0), (.int 0 0), (.ref 69), (.int 63 0), (.int 0 0), (.ref 87), (.int 66 0), (.int 0 0), (.ref 133), (.int 72 0), (.int 0 0), (.ref 140), (.int 77 0), (.int 0 0), (.ref 145), (.int 93 0), (.int 0 0), (.ref 150), (.int 100 0), (.int 0 0), (.ref 157), (.int 109 0), (.int 0 0), (.ref 162), (.int 111 0), (.int 0 0), (.ref 169), (.int 118 0), (.int 0 0), (.ref 174)])), (List.toArray [])⟩
noncomputable def o128x18 (P : Params) : Obj := ⟨(.type "tuple"), none, (.seq (List.toArray []) 0), (List.toArray [])⟩
noncomputable def o129x18 (P : Params) : Obj := ⟨.none, none, (.fields (List.toArray [])), (List.toArray [])⟩
noncomputable def o130x18 (P : Params) : Obj := ⟨(.type "tuple"), none, (.seq (List.toArray [(.str (Str.ofString "code") 2291), (.str (Str.ofString "r") 2292)]) 0), (List.toArray [])⟩
noncomputable def o131x18 (P : Params) : Obj := ⟨(.type "tuple"), none, (.seq (List.toArray []) 0), (List.toArray [])⟩
noncomputable def o132x18 (P : Params) : Obj := ⟨.none, none, (.func { name := (Str.ofString "map_table_b3"), qualname := (Str.ofString "map_table_b3"), params := dArgs (st 10), body := .stmts (dBody (st 10)), scope := dScope (st 10), globals := 0, closure := [], defaults := .none, kwdefaults := .none, doc := .none, pyModule := .none, annotations := none, code := .none, closureTuple := .none, builtins := 0 }), (List.toArray [])⟩
noncomputable def o133x18 (P : Params) : Obj := ⟨(.type "code"), none, (.fields (List.toArray [(.str (Str.ofString "map_table_b3") 2288), (.str (Str.ofString "map_table_b3") 2289), (.str (Str.ofString "/claim/cut.py") 2290), (.int 66 0), (.int 1 0), (.int 0 0), (.int 0 0), (.int 3 0), (.ref 128), (.bool true), (.int 181 0), (.ref 129), .none, (.ref 130), (.ref 131), (.ref 132), (.int 2293 0), (.int 66 0), (.str (Str.ofString "/claim/cut.py") 2294)])), (List.toArray [])⟩
noncomputable def o134x18 (P : Params) : Obj := ⟨(.type "function"), none, (.func { name := (Str.ofString "map_table_b3"), qualname := (Str.ofString "map_table_b3"), params := dArgs (st 10), body := .stmts (dBody (st 10)), scope := dScope (st 10), globals := 3, closure := [], defaults := .none, kwdefaults := .none, doc := .none, pyModule := (.str (Str.ofString "cpy313.stringprep") 268), annotations := none, code := (.ref 133), closureTuple := .none, builtins := 0 }), (List.toArray [])⟩
noncomputable def o135x18 (P : Params) : Obj := ⟨(.type "tuple"), none, (.seq (List.toArray []) 0), (List.toArray [])⟩
noncomputable def o136x18 (P : Params) : Obj := ⟨.none, none, (.fields (List.toArray [])), (List.toArray [])⟩
noncomputable def o137x18 (P : Params) : Obj := ⟨(.type "tuple"), none, (.seq (List.toArray [(.str (Str.ofString "script") 2301), (.str (Str.ofString "totals") 2302), (.str (Str.ofString "k") 2303)]) 0), (List.toArray [])⟩
noncomputable def o138x18 (P : Params) : Obj := ⟨(.type "tuple"), none, (.seq (List.toArray []) 0), (List.toArray [])⟩
noncomputable def o139x18 (P : Params) : Obj := ⟨.none, none, (.func { name := (Str.ofString "_law_totals"), qualname := (Str.ofString "_law_totals"), params := dArgs (st 12), body := .stmts (dBody (st 12)), scope := dScope (st 12), globals := 0, closure := [], defaults := .none, kwdefaults := .none, doc := .none, pyModule := .none, annotations := none, code := .none, closureTuple := .none, builtins := 0 }), (List.toArray [])⟩
noncomputable def o140x18 (P : Params) : Obj := ⟨(.type "code"), none, (.fields (List.toArray [(.str (Str.ofString "_law_totals") 2298), (.str (Str.ofString "_law_totals") 2299), (.str (Str.ofString "/claim/cut.py") 2300), (.int 72 0), (.int 1 0), (.int 0 0), (.int 0 0), (.int 3 0), (.ref 135), (.bool true), (.int 181 0), (.ref 136), .none, (.ref 137), (.ref 138), (.ref 139), (.int 2304 0), (.int 72 0), (.str (Str.ofString "/claim/cut.py") 2305)])), (List.toArray [])⟩
noncomputable def o141x18 (P : Params) : Obj := ⟨(.type "function"), none, (.func { name := (Str.ofString "_law_totals"), qualname := (Str.ofString "_law_totals"), params := dArgs (st 12), body := .stmts (dBody (st 12)), scope := dScope (st 12), globals := 3, closure := [], defaults := .none, kwdefaults := .none, doc := .none, pyModule := (.str (Str.ofString "law_sw0063_02") 2296), annotations := none, code := (.ref 140), closureTuple := .none, builtins := 0 }), (List.toArray [])⟩
noncomputable def o142x18 (P : Params) : Obj := ⟨(.type "tuple"), none, (.seq (List.toArray []) 0), (List.toArray [])⟩
noncomputable def o143x18 (P : Params) : Obj := ⟨.none, none, (.fields (List.toArray [])), (List.toArray [])⟩
noncomputable def o144x18 (P : Params) : Obj := ⟨.none, none, (.func { name := (Str.ofString "_law_word"), qualname := (Str.ofString "_law_word"), params := dArgs (st 13), body := .stmts (dBody (st 13)), scope := dScope (st 13), globals := 0, closure := [], defaults := .none, kwdefaults := .none, doc := .none, pyModule := .none, annotations := none, code := .none, closureTuple := .none, builtins := 0 }), (List.toArray [])⟩
noncomputable def o145x18 (P : Params) : Obj := ⟨(.type "code"), none, (.fields (List.toArray [(.str (Str.ofString "_law_word") 2307), (.str (Str.ofString "_law_word") 2308), (.str (Str.ofString "/claim/cut.py") 2309), (.int 77 0), (.int 2 0), (.int 0 0), (.int 0 0), (.int 3 0), (.ref 142), (.bool true), (.int 181 0), (.ref 143), .none, .none, .none, (.ref 144), (.int 2310 0), (.int 77 0), (.str (Str.ofString "/claim/cut.py") 2311)])), (List.toArray [])⟩
noncomputable def o146x18 (P : Params) : Obj := ⟨(.type "function"), none, (.func { name := (Str.ofString "_law_word"), qualname := (Str.ofString "_law_word"), params := dArgs (st 13), body := .stmts (dBody (st 13)), scope := dScope (st 13), globals := 3, closure := [], defaults := .none, kwdefaults := .none, doc := .none, pyModule := (.str (Str.ofString "law_sw0063_02") 2296), annotations := none, code := (.ref 145), closureTuple := .none, builtins := 0 }), (List.toArray [])⟩
noncomputable def o147x18 (P : Params) : Obj := ⟨(.type "tuple"), none, (.seq (List.toArray []) 0), (List.toArray [])⟩
noncomputable def o148x18 (P : Params) : Obj := ⟨.none, none, (.fields (List.toArray [])), (List.toArray [])⟩
noncomputable def o149x18 (P : Params) : Obj := ⟨.none, none, (.func { name := (Str.ofString "_law_code"), qualname := (Str.ofString "_law_code"), params := dArgs (st 14), body := .stmts (dBody (st 14)), scope := dScope (st 14), globals := 0, closure := [], defaults := .none, kwdefaults := .none, doc := .none, pyModule := .none, annotations := none, code := .none, closureTuple := .none, builtins := 0 }), (List.toArray [])⟩
noncomputable def o150x18 (P : Params) : Obj := ⟨(.type "code"), none, (.fields (List.toArray [(.str (Str.ofString "_law_code") 2313), (.str (Str.ofString "_law_code") 2314), (.str (Str.ofString "/claim/cut.py") 2315), (.int 93 0), (.int 1 0), (.int 0 0), (.int 0 0), (.int 3 0), (.ref 147), (.bool true), (.int 181 0), (.ref 148), .none, .none, .none, (.ref 149), (.int 2316 0), (.int 93 0), (.str (Str.ofString "/claim/cut.py") 2317)])), (List.toArray [])⟩
noncomputable def o151x18 (P : Params) : Obj := ⟨(.type "function"), none, (.func { name := (Str.ofString "_law_code"), qualname := (Str.ofString "_law_code"), params := dArgs (st 14), body := .stmts (dBody (st 14)), scope := dScope (st 14), globals := 3, closure := [], defaults := .none, kwdefaults := .none, doc := .none, pyModule := (.str (Str.ofString "law_sw0063_02") 2296), annotations := none, code := (.ref 150), closureTuple := .none, builtins := 0 }), (List.toArray [])⟩
noncomputable def o152x18 (P : Params) : Obj := ⟨(.type "tuple"), none, (.seq (List.toArray []) 0), (List.toArray [])⟩
noncomputable def o153x18 (P : Params) : Obj := ⟨.none, none, (.fields (List.toArray [])), (List.toArray [])⟩
noncomputable def o154x18 (P : Params) : Obj := ⟨(.type "tuple"), none, (.seq (List.toArray [(.str (Str.ofString "text") 2322), (.str (Str.ofString "read") 2323), (.str (Str.ofString "stream") 2324)]) 0), (List.toArray [])⟩
noncomputable def o155x18 (P : Params) : Obj := ⟨(.type "tuple"), none, (.seq (List.toArray [(.str (Str.ofString "text") 2325), (.str (Str.ofString "place") 2326)]) 0), (List.toArray [])⟩
noncomputable def o156x18 (P : Params) : Obj := ⟨.none, none, (.func { name := (Str.ofString "_law_lexer"), qualname := (Str.ofString "_law_lexer"), params := dArgs (st 15), body := .stmts (dBody (st 15)), scope := dScope (st 15), globals := 0, closure := [], defaults := .none, kwdefaults := .none, doc := .none, pyModule := .none, annotations := none, code := .none, closureTuple := .none, builtins := 0 }), (List.toArray [])⟩
noncomputable def o157x18 (P : Params) : Obj := ⟨(.type "code"), none, (.fields (List.toArray [(.str (Str.ofString "_law_lexer") 2319), (.str (Str.ofString "_law_lexer") 2320), (.str (Str.ofString "/claim/cut.py") 2321), (.int 100 0), (.int 1 0), (.int 0 0), (.int 0 0), (.int 3 0), (.ref 152), (.bool true), (.int 181 0), (.ref 153), .none, (.ref 154), (.ref 155), (.ref 156), (.int 2327 0), (.int 100 0), (.str (Str.ofString "/claim/cut.py") 2328)])), (List.toArray [])⟩
noncomputable def o158x18 (P : Params) : Obj := ⟨(.type "function"), none, (.func { name := (Str.ofString "_law_lexer"), qualname := (Str.ofString "_law_lexer"), params := dArgs (st 15), body := .stmts (dBody (st 15)), scope := dScope (st 15), globals := 3, closure := [], defaults := .none, kwdefaults := .none, doc := .none, pyModule := (.str (Str.ofString "law_sw0063_02") 2296), annotations := none, code := (.ref 157), closureTuple := .none, builtins := 0 }), (List.toArray [])⟩
noncomputable def o159x18 (P : Params) : Obj := ⟨(.type "tuple"), none, (.seq (List.toArray []) 0), (List.toArray [])⟩
noncomputable def o160x18 (P : Params) : Obj := ⟨.none, none, (.fields (List.toArray [])), (List.toArray [])⟩
noncomputable def o161x18 (P : Params) : Obj := ⟨.none, none, (.func { name := (Str.ofString "_law_prepared"), qualname := (Str.ofString "_law_prepared"), params := dArgs (st 16), body := .stmts (dBody (st 16)), scope := dScope (st 16), globals := 0, closure := [], defaults := .none, kwdefaults := .none, doc := .none, pyModule := .none, annotations := none, code := .none, closureTuple := .none, builtins := 0 }), (List.toArray [])⟩
noncomputable def o162x18 (P : Params) : Obj := ⟨(.type "code"), none, (.fields (List.toArray [(.str (Str.ofString "_law_prepared") 2330), (.str (Str.ofString "_law_prepared") 2331), (.str (Str.ofString "/claim/cut.py") 2332), (.int 109 0), (.int 1 0), (.int 0 0), (.int 0 0), (.int 3 0), (.ref 159), (.bool true), (.int 181 0), (.ref 160), .none, .none, .none, (.ref 161), (.int 2333 0), (.int 109 0), (.str (Str.ofString "/claim/cut.py") 2334)])), (List.toArray [])⟩
noncomputable def o163x18 (P : Params) : Obj := ⟨(.type "function"), none, (.func { name := (Str.ofString "_law_prepared"), qualname := (Str.ofString "_law_prepared"), params := dArgs (st 16), body := .stmts (dBody (st 16)), scope := dScope (st 16), globals := 3, closure := [], defaults := .none, kwdefaults := .none, doc := .none, pyModule := (.str (Str.ofString "law_sw0063_02") 2296), annotations := none, code := (.ref 162), closureTuple := .none, builtins := 0 }), (List.toArray [])⟩
noncomputable def o164x18 (P : Params) : Obj := ⟨(.type "tuple"), none, (.seq (List.toArray []) 0), (List.toArray [])⟩
noncomputable def o165x18 (P : Params) : Obj := ⟨.none, none, (.fields (List.toArray [])), (List.toArray [])⟩
noncomputable def o166x18 (P : Params) : Obj := ⟨(.type "tuple"), none, (.seq (List.toArray [(.str (Str.ofString "row") 2339), (.str (Str.ofString "end") 2340), (.str (Str.ofString "marks") 2341), (.str (Str.ofString "size") 2342)]) 0), (List.toArray [])⟩
noncomputable def o167x18 (P : Params) : Obj := ⟨(.type "tuple"), none, (.seq (List.toArray []) 0), (List.toArray [])⟩
noncomputable def o168x18 (P : Params) : Obj := ⟨.none, none, (.func { name := (Str.ofString "_law_marks"), qualname := (Str.ofString "_law_marks"), params := dArgs (st 17), body := .stmts (dBody (st 17)), scope := dScope (st 17), globals := 0, closure := [], defaults := .none, kwdefaults := .none, doc := .none, pyModule := .none, annotations := none, code := .none, closureTuple := .none, builtins := 0 }), (List.toArray [])⟩
noncomputable def o169x18 (P : Params) : Obj := ⟨(.type "code"), none, (.fields (List.toArray [(.str (Str.ofString "_law_marks") 2336), (.str (Str.ofString "_law_marks") 2337), (.str (Str.ofString "/claim/cut.py") 2338), (.int 111 0), (.int 2 0), (.int 0 0), (.int 0 0), (.int 3 0), (.ref 164), (.bool true), (.int 181 0), (.ref 165), .none, (.ref 166), (.ref 167), (.ref 168), (.int 2343 0), (.int 111 0), (.str (Str.ofString "/claim/cut.py") 2344)])), (List.toArray [])⟩
noncomputable def o170x18 (P : Params) : Obj := ⟨(.type "function"), none, (.func { name := (Str.ofString "_law_marks"), qualname := (Str.ofString "_law_marks"), params := dArgs (st 17), body := .stmts (dBody (st 17)), scope := dScope (st 17), globals := 3, closure := [], defaults := .none, kwdefaults := .none, doc := .none, pyModule := (.str (Str.ofString "law_sw0063_02") 2296), annotations := none, code := (.ref 169), closureTuple := .none, builtins := 0 }), (List.toArray [])⟩
noncomputable def o171x18 (P : Params) : Obj := ⟨(.type "tuple"), none, (.seq (List.toArray []) 0), (List.toArray [])⟩
noncomputable def o172x18 (P : Params) : Obj := ⟨.none, none, (.fields (List.toArray [])), (List.toArray [])⟩
noncomputable def o173x18 (P : Params) : Obj := ⟨.none, none, (.func { name := (Str.ofString "law"), qualname := (Str.ofString "law"), params := dArgs (st 18), body := .stmts (dBody (st 18)), scope := dScope (st 18), globals := 0, closure := [], defaults := .none, kwdefaults := .none, doc := .none, pyModule := .none, annotations := none, code := .none, closureTuple := .none, builtins := 0 }), (List.toArray [])⟩
noncomputable def o174x18 (P : Params) : Obj := ⟨(.type "code"), none, (.fields (List.toArray [(.str (Str.ofString "law") 2346), (.str (Str.ofString "law") 2347), (.str (Str.ofString "/claim/cut.py") 2348), (.int 118 0), (.int 1 0), (.int 0 0), (.int 0 0), (.int 3 0), (.ref 171), (.bool true), (.int 181 0), (.ref 172), .none, .none, .none, (.ref 173), (.int 2349 0), (.int 118 0), (.str (Str.ofString "/claim/cut.py") 2350)])), (List.toArray [])⟩
noncomputable def o175x18 (P : Params) : Obj := ⟨(.type "function"), none, (.func { name := (Str.ofString "law"), qualname := (Str.ofString "law"), params := dArgs (st 18), body := .stmts (dBody (st 18)), scope := dScope (st 18), globals := 3, closure := [], defaults := .none, kwdefaults := .none, doc := .none, pyModule := (.str (Str.ofString "law_sw0063_02") 2296), annotations := none, code := (.ref 174), closureTuple := .none, builtins := 0 }), (List.toArray [])⟩
noncomputable def tr18 (P : Params) : BT := (.node (boot_o_0 P) (.node (boot_o_1 P) (.node (o3x18 P) (.node (boot_o_7 P) (.node (o15x1 P) (.node (o31x1 P) (.node (o63x6 P) (.node (o127x9 P) .nil .nil) .nil) (.node (o95x9 P) (.node (o159x18 P) .nil .nil) .nil)) (.node (o47x1 P) (.node (o79x7 P) (.node (o143x18 P) .nil .nil) .nil) (.node (o111x9 P) (.node (o175x18 P) .nil .nil) .nil))) (.node (o23x1 P) (.node (o39x1 P) (.node (o71x7 P) (.node (o135x18 P) .nil .nil) .nil) (.node (o103x9 P) (.node (o167x18 P) .nil .nil) .nil)) (.node (o55x1 P) (.node (o87x8 P) (.node (o151x18 P) .nil .nil) .nil) (.node (o119x9 P) .nil .nil)))) (.node (o11xa P) (.node (o19x1 P) (.node (o35x1 P) (.node (o67x6 P) (.node (o131x18 P) .nil .nil) .nil) (.node (o99x9 P) (.node (o163x18 P) .nil .nil) .nil)) (.node (o51x1 P) (.node (o83x8 P) (.node (o147x18 P) .nil .nil) .nil) (.node (o115x9 P) .nil .nil))) (.node (o27x1 P) (.node (o43x1 P) (.node (o75x7 P) (.node (o139x18 P) .nil .nil) .nil) (.node (o107x9 P) (.node (o171x18 P) .nil .nil) .nil)) (.node (o59x6 P) (.node (o91x9 P) (.node (o155x18 P) .nil .nil) .nil) (.node (o123x9 P) .nil .nil))))) (.node (boot_o_5 P) (.node (boot_o_9 P) (.node (o17x1 P) (.node (o33x1 P) (.node (o65x6 P) (.node (o129x18 P) .nil .nil) .nil) (.node (o97x9 P) (.node (o161x18 P) .nil .nil) .nil)) (.node (o49x1 P) (.node (o81x7 P) (.node (o145x18 P) .nil .nil) .nil) (.node (o113x9 P) .nil .nil))) (.node (o25x1 P) (.node (o41x1 P) (.node (o73x7 P) (.node (o137x18 P) .nil .nil) .nil) (.node (o105x9 P) (.node (o169x18 P) .nil .nil) .nil)) (.node (o57x6 P) (.node (o89x9 P) (.node (o153x18 P) .nil .nil) .nil) (.node (o121x9 P) .nil .nil)))) (.node (o13xa P) (.node (o21x1 P) (.node (o37x1 P) (.node (o69x6 P) (.node (o133x18 P) .nil .nil) .nil) (.node (o101x9 P) (.node (o165x18 P) .nil .nil) .nil)) (.node (o53x1 P) (.node (o85x8 P) (.node (o149x18 P) .nil .nil) .nil) (.node (o117x9 P) .nil .nil))) (.node (o29x1 P) (.node (o45x1 P) (.node (o77x7 P) (.node (o141x18 P) .nil .nil) .nil) (.node (o109x9 P) (.node (o173x18 P) .nil .nil) .nil)) (.node (o61x6 P) (.node (o93x9 P) (.node (o157x18 P) .nil .nil) .nil) (.node (o125x9 P) .nil .nil)))))) (.node (boot_o_2 P) (.node (boot_o_4 P) (.node (boot_o_8 P) (.node (o16x1 P) (.node (o32x1 P) (.node (o64x6 P) (.node (o128x18 P) .nil .nil) .nil) (.node (o96x9 P) (.node (o160x18 P) .nil .nil) .nil)) (.node (o48x1 P) (.node (o80x7 P) (.node (o144x18 P) .nil .nil) .nil) (.node (o112x9 P) .nil .nil))) (.node (o24x1 P) (.node (o40x1 P) (.node (o72x7 P) (.node (o136x18 P) .nil .nil) .nil) (.node (o104x9 P) (.node (o168x18 P) .nil .nil) .nil)) (.node (o56x1 P) (.node (o88x8 P) (.node (o152x18 P) .nil .nil) .nil) (.node (o120x9 P) .nil .nil)))) (.node (o12x18 P) (.node (o20x1 P) (.node (o36x1 P) (.node (o68x6 P) (.node (o132x18 P) .nil .nil) .nil) (.node (o100x9 P) (.node (o164x18 P) .nil .nil) .nil)) (.node (o52x1 P) (.node (o84x8 P) (.node (o148x18 P) .nil .nil) .nil) (.node (o116x9 P) .nil .nil))) (.node (o28x1 P) (.node (o44x1 P) (.node (o76x7 P) (.node (o140x18 P) .nil .nil) .nil) (.node (o108x9 P) (.node (o172x18 P) .nil .nil) .nil)) (.node (o60x6 P) (.node (o92x9 P) (.node (o156x18 P) .nil .nil) .nil) (.node (o124x9 P) .nil .nil))))) (.node (boot_o_6 P) (.node (boot_o_10 P) (.node (o18x1 P) (.node (o34x1 P) (.node (o66x6 P) (.node (o130x18 P) .nil .nil) .nil) (.node (o98x9 P) (.node (o162x18 P) .nil .nil) .nil)) (.node (o50x1 P) (.node (o82x8 P) (.node (o146x18 P) .nil .nil) .nil) (.node (o114x9 P) .nil .nil))) (.node (o26x1 P) (.node (o42x1 P) (.node (o74x7 P) (.node (o138x18 P) .nil .nil) .nil) (.node (o106x9 P) (.node (o170x18 P) .nil .nil) .nil)) (.node (o58x6 P) (.node (o90x9 P) (.node (o154x18 P) .nil .nil) .nil) (.node (o122x9 P) .nil .nil)))) (.node (o14xa P) (.node (o22x1 P) (.node (o38x1 P) (.node (o70x6 P) (.node (o134x18 P) .nil .nil) .nil) (.node (o102x9 P) (.node (o166x18 P) .nil .nil) .nil)) (.node (o54x1 P) (.node (o86x8 P) (.node (o150x18 P) .nil .nil) .nil) (.node (o118x9 P) .nil .nil))) (.node (o30x1 P) (.node (o46x1 P) (.node (o78x7 P) (.node (o142x18 P) .nil .nil) .nil) (.node (o110x9 P) (.node (o174x18 P) .nil .nil) .nil)) (.node (o62x6 P) (.node (o94x9 P) (.node (o158x18 P) .nil .nil) .nil) (.node (o126x9 P) .nil .nil)))))))
noncomputable def S18 (w : World) (os : OsState) : SharedT := ⟨tr18 w.params, 176, {}, #[], {}, 2352, os⟩

noncomputable def env : Env := { scope := pw.main.scope, locals := mainNs, globals := mainNs, cells := [], code := .ref 13, frame := some 14 }
abbrev b0 : List Stmt := behindTheImports pw
abbrev cE : Code := .body b0 env
abbrev q0 : Pos := ⟨0, 0, 0, 0⟩
abbrev ann0 : Option Value := some (.ref 6)

theorem pc0 (w : World) : (fun os => segRunT treeTable pw w 11 ann0 1 10 (Sa w os) (piecesOf [st 0] env cE q0 [topFrame q0])) = fun os => some (Flow.next, S0 w os, cE, ⟨1, 0, 1, 8⟩) := by
  rw [PySem.W.Fast.te10110043849684766642, PySem.W.Fast.te14364793385576792824]; kernel_rfl

theorem pc1 (w : World) : (fun os => segRunT treeTable pw w 11 ann0 1 324 (S0 w os) (piecesOf [st 1] env cE ⟨1, 0, 1, 8⟩ [topFrame q0])) = fun os => some (Flow.next, S1 w os, cE, ⟨2, 0, 44, 35⟩) := by
  rw [PySem.W.Fast.te10110043849684766642, PySem.W.Fast.te14364793385576792824]; kernel_rfl

theorem pc6 (w : World) : (fun os => segRunT treeTable pw w 11 ann0 1 89 (S1 w os) (piecesOf [st 2, st 3, st 4, st 5, st 6] env cE ⟨2, 0, 44, 35⟩ [topFrame q0])) = fun os => some (Flow.next, S6 w os, cE, ⟨61, 0, 61, 8⟩) := by
  rw [PySem.W.Fast.te10110043849684766642, PySem.W.Fast.te14364793385576792824]; kernel_rfl

theorem pc7 : ∀ w : World, (fun os => segRunT treeTable pw w 11 ann0 1 999 (S6 w os) (piecesOf [st 7] env cE ⟨61, 0, 61, 8⟩ [topFrame q0])) = fun os => some (Flow.next, S7 w os, cE, ⟨62, 0, 62, 6⟩) := by
  refine byRow2 "special-get-raises" (P := fun w => (fun os => segRunT treeTable pw w 11 ann0 1 999 (S6 w os) (piecesOf [st 7] env cE ⟨61, 0, 61, 8⟩ [topFrame q0])) = fun os => some (Flow.next, S7 w os, cE, ⟨62, 0, 62, 6⟩)) (fun w => ?_) (fun w => ?_)
  · rw [PySem.W.Fast.te10110043849684766642, PySem.W.Fast.te14364793385576792824]; kernel_rfl
  · rw [PySem.W.Fast.te10110043849684766642, PySem.W.Fast.te14364793385576792824]; kernel_rfl

theorem pc8 (w : World) : (fun os => segRunT treeTable pw w 11 ann0 1 30 (S7 w os) (piecesOf [st 8] env cE ⟨62, 0, 62, 6⟩ [topFrame q0])) = fun os => some (Flow.next, S8 w os, cE, ⟨63, 0, 64, 30⟩) := by
  rw [PySem.W.Fast.te10110043849684766642, PySem.W.Fast.te14364793385576792824]; kernel_rfl

theorem pc18 (w : World) : (fun os => segRunT treeTable pw w 11 ann0 1 240 (S9 w os) (piecesOf [st 10, st 11, st 12, st 13, st 14, st 15, st 16, st 17, st 18] env cE ⟨65, 0, 65, 13⟩ [topFrame q0])) = fun os => some (Flow.next, S18 w os, cE, ⟨118, 0, 175, 97⟩) := by
  rw [PySem.W.Fast.te10110043849684766642, PySem.W.Fast.te14364793385576792824]; kernel_rfl

end
end Mine.Head

open PySem PySem.W PyProof.Rows
set_option Elab.async false
set_option maxRecDepth 100000
set_option maxHeartbeats 0
set_option linter.unusedVariables false
namespace Mine.Head
noncomputable section

noncomputable def nm3 : Str := Str.ofString "b3_exceptions"
noncomputable def at3 : Stmt → Pos × Pos × Pos × List (Option Expr) × List Expr
  | .Assign [.Name _ np] (.Dict ks vs dp) ap => (np, dp, ap, ks, vs)
  | s => (q0, q0, q0, [], [])
noncomputable def dp3 : Pos := (at3 (st 9)).2.1
noncomputable def ks3 : List (Option Expr) := (at3 (st 9)).2.2.2.1
noncomputable def vs3 : List Expr := (at3 (st 9)).2.2.2.2
theorem st3_is : st 9 = .Assign [.Name nm3 ⟨65, 0, 65, 13⟩] (.Dict ks3 vs3 dp3) (at3 (st 9)).2.2.1 := by kernel_rfl
theorem items3 : (evalEachOpt ks3 env).zip ((evalEach vs3 env).map fun v => do let x ← v; standAt dp3; pure x) = b3.map (itemO dp3) := by kernel_rfl
theorem b3_len : b3.length = 17 + 17 * 37 + 4 := by decide +kernel
theorem b3_nodup : (b3.map fun x => hashInt x.1).Nodup := by
  have e : (b3.map fun x => hashInt x.1) = b3.map fun x => x.1 := by decide +kernel
  rw [e]
  have s : ((b3.map fun x => x.1).zip ((b3.map fun x => x.1).drop 1)).all (fun x => decide (x.1 < x.2)) = true := by decide +kernel
  exact rising_nodup _ s
noncomputable def L8 (P : Params) : List Obj := [boot_o_0 P, boot_o_1 P, boot_o_2 P, o3x8 P, boot_o_4 P, boot_o_5 P, boot_o_6 P, boot_o_7 P, boot_o_8 P, boot_o_9 P, boot_o_10 P, o11xa P, o12x8 P, o13xa P, o14xa P, o15x1 P, o16x1 P, o17x1 P, o18x1 P, o19x1 P, o20x1 P, o21x1 P, o22x1 P, o23x1 P, o24x1 P, o25x1 P, o26x1 P, o27x1 P, o28x1 P, o29x1 P, o30x1 P, o31x1 P, o32x1 P, o33x1 P, o34x1 P, o35x1 P, o36x1 P, o37x1 P, o38x1 P, o39x1 P, o40x1 P, o41x1 P, o42x1 P, o43x1 P, o44x1 P, o45x1 P, o46x1 P, o47x1 P, o48x1 P, o49x1 P, o50x1 P, o51x1 P, o52x1 P, o53x1 P, o54x1 P, o55x1 P, o56x1 P, o57x6 P, o58x6 P, o59x6 P, o60x6 P, o61x6 P, o62x6 P, o63x6 P, o64x6 P, o65x6 P, o66x6 P, o67x6 P, o68x6 P, o69x6 P, o70x6 P, o71x7 P, o72x7 P, o73x7 P, o74x7 P, o75x7 P, o76x7 P, o77x7 P, o78x7 P, o79x7 P, o80x7 P, o81x7 P, o82x8 P, o83x8 P, o84x8 P, o85x8 P, o86x8 P, o87x8 P, o88x8 P]
theorem S8_is (w : World) (os : OsState) : (S8 w os).abs = ⟨⟨(L8 w.params).toArray, {}⟩, #[], {}, 337, os⟩ := by
  show Shared.mk (absHeap (tr8 w.params) 89 {}) #[] {} 337 os = _
  rw [show absHeap (tr8 w.params) 89 {} = ⟨(L8 w.params).toArray, {}⟩ from by kernel_rfl]
theorem S9_is (w : World) (os : OsState) : (S9 w os).abs = ⟨(hp (L8 w.params) b3main b3subs {}).update mainNs (Obj.putName nm3 (PyData.keyHash w.params nm3) (.str nm3 (337 + 51 + 51 * 37 + 3 * 4)) (.ref 89)), #[], {}, 337 + 51 + 51 * 37 + 3 * 4 + 1, os⟩ := by
  show Shared.mk (absHeap (tr9 w.params) 128 {}) #[] {} 2288 os = _
  rw [show absHeap (tr9 w.params) 128 {} = (hp (L8 w.params) b3main b3subs {}).update mainNs (Obj.putName nm3 (PyData.keyHash w.params nm3) (.str nm3 (337 + 51 + 51 * 37 + 3 * 4)) (.ref 89)) from by kernel_rfl]
noncomputable def es3 (P : Params) : Array DictEntry := match (o3x8 P).data with
  | .dict es _ => es
  | _ => #[]
noncomputable def ep3 (P : Params) : Nat := match (o3x8 P).data with
  | .dict _ n => n
  | _ => 0
theorem pc9 (w : World) (os : OsState) {rest : List Stmt} {N : Nat} {r : Shared} (k : topRun treeTable pw w 11 ann0 N (S9 w os).abs (restOf rest env cE ⟨65, 0, 65, 13⟩ [topFrame q0]) = some r) :
    topRun treeTable pw w 11 ann0 (12524 + N) (S8 w os).abs (restOf (st 9 :: rest) env cE ⟨63, 0, 64, 30⟩ [topFrame q0]) = some r := by
  rw [← table_eq_tree] at k ⊢
  rw [S9_is] at k
  rw [S8_is, st3_is]
  have hlen : (L8 w.params).length = 89 := rfl
  have h := go_display (p := pw) (w := w) (n₀ := 11) (ann := ann0) (c := cE) (F := topFrame q0) (B := []) (q := dp3) (g := #[]) (d := {}) (os := os) (P := L8 w.params) (lf := {}) (tk := 337) (by rw [hlen]; rfl) (by rw [hlen]; decide) b3 37 4 b3_len (by decide) (by decide) b3_nodup (by rw [b3_len]; decide)
  have hg := go_assignDict (q := ⟨63, 0, 64, 30⟩) (nm := nm3) (npos := ⟨65, 0, 65, 13⟩) (apos := (at3 (st 9)).2.2.1) (o := o3x8 w.params) (es := es3 w.params) (ep := ep3 w.params) items3 rfl rfl rfl (by kernel_rfl) h (by
    rw [hp_flat]
    exact Heap.get?_some_iff.mpr ⟨rfl, rfl⟩) rfl (by kernel_rfl)
  exact piece_go hg k

theorem pre (w : World) (os : OsState) : topGo treeTable pw w 11 ann0 12 ⟨boot_heap w.params, #[], boot_drawn, boot_toks, os⟩ (topStub pw) = some ((Sa w os).abs, ⟨denote treeTable cE, cE, q0, [topFrame q0]⟩) := by
  have h : (fun os => topGo treeTable pw w 11 ann0 12 ⟨boot_heap w.params, #[], boot_drawn, boot_toks, os⟩ (topStub pw)) = fun os => some ((Sa w os).abs, ⟨denote treeTable cE, cE, q0, [topFrame q0]⟩) := by
    rw [PySem.W.Fast.te15667345088766844465, PySem.W.Fast.te14364793385576792824, PySem.W.Fast.te11892475500146522536]; kernel_rfl
  exact congrFun h os
theorem blk (w : World) (os : OsState) : segRun treeTable pw w 11 ann0 1 1 (Sa w os).abs (blockOf b0 env cE q0 [topFrame q0]) = some (Flow.next, (Sa w os).abs, cE, q0) := by kernel_rfl

theorem b0_is : b0 = [st 0] ++ ([st 1] ++ ([st 2, st 3, st 4, st 5, st 6] ++ ([st 7] ++ ([st 8] ++ (st 9 :: ([st 10, st 11, st 12, st 13, st 14, st 15, st 16, st 17, st 18] ++ ([]))))))) := by kernel_rfl
theorem run (w : World) (os : OsState) : topRun treeTable pw w 11 ann0 (12 + (1 + (10 + (324 + (89 + (999 + (30 + (12524 + (240 + 2))))))))) ⟨boot_heap w.params, #[], boot_drawn, boot_toks, os⟩ (topStub pw) = some (S18 w os).abs := by
  refine go_top (pre w os) ?_
  refine piece_block (blk w os) ?_
  rw [show restOf b0 env cE q0 [topFrame q0] = restOf ([st 0] ++ ([st 1] ++ ([st 2, st 3, st 4, st 5, st 6] ++ ([st 7] ++ ([st 8] ++ (st 9 :: ([st 10, st 11, st 12, st 13, st 14, st 15, st 16, st 17, st 18] ++ ([])))))))) env cE q0 [topFrame q0] from by rw [← b0_is]]
  refine piece_app (segRun_of (congrFun (pc0 w) os)) ?_
  refine piece_app (segRun_of (congrFun (pc1 w) os)) ?_
  refine piece_app (segRun_of (congrFun (pc6 w) os)) ?_
  refine piece_app (segRun_of (congrFun (pc7 w) os)) ?_
  refine piece_app (segRun_of (congrFun (pc8 w) os)) ?_
  refine pc9 w os ?_
  refine piece_app (segRun_of (congrFun (pc18 w) os)) ?_
  rfl
noncomputable def q : Program := { pw with main := { pw.main with body := [st 18] } }
noncomputable def own : List Str := [Str.ofString "b1_set", Str.ofString "in_table_b1", Str.ofString "b3_exceptions", Str.ofString "map_table_b3", Str.ofString "_strcoll", Str.ofString "CHAR_MAX", Str.ofString "_grouping_intervals", Str.ofString "_netrclex", Str.ofString "_law_totals", Str.ofString "_law_word", Str.ofString "_law_code", Str.ofString "_law_lexer", Str.ofString "_law_prepared", Str.ofString "_law_marks"]
theorem left {α : Type} (Yf : Shared → α) (Ya : World → α) (hY : ∀ w os, Yf (S18 w os).abs = Ya w) : LeftO pw q own (fun _ => true) Yf Ya 100000 := by
  refine LeftO.of_pieces (H₀ := boot_heap) (H₁ := fun P => absHeap (tr18 P) 176 {}) (gs₀ := #[]) (gs₁ := #[]) (d₀ := boot_drawn) (d₁ := {}) (k₀ := boot_toks) (k₁ := 2352) (m₀ := 11) (ann := ann0) (M := 12 + (1 + (10 + (324 + (89 + (999 + (30 + (12524 + (240 + 2))))))))) ?_ ?_ run (by decide) ?_
  · exact boot_open (by kernel_rfl) (by decide) (fun s => rfl)
  · intro w; kernel_rfl
  · intro w
    have h1 : (fun os : OsState => (staticsOk (importedModules pw.main.body) (boot_heap w.params) (absHeap (tr18 w.params) 176 {}) && namesBound pw (absHeap (tr18 w.params) 176 {}) && gensDone (S18 w os).abs && laidKept (boot_heap w.params) (absHeap (tr18 w.params) 176 {}))) = fun _ => true := by kernel_rfl
    have h2 : (fun os : OsState => openSeen q own (importedModules pw.main.body) (fun _ => true) true (S18 w os).abs) = fun _ => openGood q own := by
      rw [PySem.W.Fast.te4187177175401517315]
      kernel_rfl
    funext os
    exact looks_pair (congrFun h1 os) (looks_pair (congrFun h2 os) (hY w os))

end
end Mine.Head

set_option Elab.async false
set_option linter.unusedVariables false
namespace Mine
open PySem PyProof.Rows PySem.W

noncomputable def nt : Value → Value
  | .int i _ => .int i 0
  | .float b _ => .float b 0
  | .str x _ => .str x 0
  | .bytes b _ => .bytes b 0
  | v => v

theorem nt_int {v : Value} {i : Int} {t : Tok} (h : nt v = .int i t) : ∃ t, v = .int i t := by
  cases v <;> simp [nt] at h
  exact ⟨_, by rw [h.1]⟩
theorem nt_str {v : Value} {x : Str} {t : Tok} (h : nt v = .str x t) : ∃ t, v = .str x t := by
  cases v <;> simp [nt] at h
  exact ⟨_, by rw [h.1]⟩
theorem nt_bool {v : Value} {b : Bool} (h : nt v = .bool b) : v = .bool b := by
  cases v <;> simp [nt] at h
  rw [h]
theorem nt_ref {v : Value} {b : Addr} (h : nt v = .ref b) : v = .ref b := by
  cases v <;> simp [nt] at h
  rw [h]
theorem nt_none {v : Value} (h : nt v = .none) : v = .none := by
  cases v <;> simp [nt] at h
  rfl
theorem nt_type {v : Value} {b : String} (h : nt v = .type b) : v = .type b := by
  cases v <;> simp [nt] at h
  rw [h]
theorem nt_builtin {v : Value} {b : String} (h : nt v = .builtin b) : v = .builtin b := by
  cases v <;> simp [nt] at h
  rw [h]
@[simp] theorem nt_nt (v : Value) : nt (nt v) = nt v := by cases v <;> rfl

inductive Ch
  | any
  | tab
  | clos (name qual : Str) (params : Arguments) (body : List Stmt) (scope : Scope) (cl : List (Str × Addr)) (code : Addr)
  | code (qual : Str)
  | ob (o : Obj)
  | lst (xs : List Value)
  | sq (xs : List Value)
  | tup (xs : List Value)
  | ns (l : List (Str × Value))
  | cell (v : Option Value)
  | lit (l : Addr) (i : Nat)
  | tit (l : Addr) (i : Nat)
  | sit (x : Str) (i : Nat)
  | cit (q : Addr) (y : Str)
  | citE
  | slc (lo hi : Option Int)
  | inst (cls dx : Addr)
  | at (l : List (Str × Value))
  | rng (a b c : Int)
  | rit (x left step : Int)

noncomputable def Fits (o : Obj) : Ch → Prop
  | .any => True
  | .clos name qual params body scope cl code => o.cls = .type "function" ∧ ∃ fd, o.data = .func fd ∧ fd.name = name ∧ fd.qualname = qual ∧ fd.params = params ∧ fd.body = .stmts body ∧ fd.scope = scope ∧ fd.closure = cl ∧ fd.code = .ref code ∧
      fd.globals = mainGlobals ∧ fd.builtins = builtinsNs ∧ fd.defaults = .none ∧ fd.kwdefaults = .none ∧ fd.annotations = none
  | .code qual => ∃ vs t, o.data = .fields vs ∧ vs[1]? = some (.str qual t)
  | .tab => o = { cls := .none, data := .fields #[] }
  | .ob o' => o = o'
  | .lst xs => ∃ vs ep, o = { cls := .type "list", data := .seq vs ep } ∧ vs.toList.map nt = xs
  | .sq xs => o.cls = .type "list" ∧ ∃ vs ep, o.data = .seq vs ep ∧ vs.toList.map nt = xs
  | .tup xs => ∃ vs, o = { cls := .type "tuple", data := .seq vs 0 } ∧ vs.toList.map nt = xs
  | .ns l => ∃ es ep, o.data = .dict es ep ∧ StrKeys es ∧ ∀ x v, (x, v) ∈ l → ∃ w, nsFind es x = some w ∧ nt w = v
  | .cell v => ∃ v', o.data = .cell v' ∧ v'.map nt = v
  | .lit l i => o.cls = .type "list_iterator" ∧ o.data = .fields #[.ref l, .int i 0]
  | .tit l i => o.cls = .type "tuple_iterator" ∧ o.data = .fields #[.ref l, .int i 0]
  | .sit x i => ∃ t, o.data = .fields #[.str x t, .int i 0] ∧ ((o.cls = .type "str_ascii_iterator" ∧ x.cps.all (· < 128) = true) ∨ (o.cls = .type "str_iterator" ∧ x.cps.all (· < 128) = false))
  | .cit q y => ∃ t, o = { cls := .type "callable_iterator", data := .fields #[.ref q, .str y t, .bool false] }
  | .citE => o = { cls := .type "callable_iterator", data := .fields #[.none, .none, .bool true] }
  | .slc lo hi => ∃ l u : Option (Int × Tok), o = { cls := .type "slice", data := .fields #[partValue l, partValue u, .none] } ∧ l.map (·.1) = lo ∧ u.map (·.1) = hi
  | .inst cls dx => o.cls = .ref cls ∧ (∀ c, o.data ≠ .cls c) ∧ o.dict = some dx
  | .at l => ∃ es ep, o.data = .dict es ep ∧ StrKeys es ∧ UniqKeys es ∧ ∀ y, (nsFind es y).map nt = l.lookup y
  | .rng a b c => ∃ t u v, o = { cls := .type "range", dict := none, data := .fields #[.int a t, .int b u, .int c v], slots := #[] }
  | .rit x left step => o = { cls := .type "range_iterator", dict := none, data := .fields #[rawInt x, rawInt left, rawInt step], slots := #[] }

abbrev St := List (Addr × Ch)

structure Cx where
  B : Heap
  os : OsState
  K : Frag
  arg : Addr × Obj
  mg : Str → Option Value
  mb : Str → Option Value
  gp : Array GenState → Prop := AllBare

structure Inv (C : Cx) (S : St) (s : Shared) : Prop where
  old : OldK C.B s.heap
  is : ∀ p ∈ S, ∃ o, s.heap.get? p.1 = some o ∧ Fits o p.2
  nod : (S.map (·.1)).Nodup
  above : ∀ p ∈ S, p.2 ≠ .tab → C.B.get? p.1 = none
  known : C.K.In s.heap
  small : ∀ a o, C.K.lookup a = some o → ∃ o', C.B.get? a = some o'
  arg : s.heap.get? C.arg.1 = some C.arg.2
  argB : ∃ o, C.B.get? C.arg.1 = some o
  g : s.heap.Ns mainGlobals C.mg
  b : s.heap.Ns builtinsNs C.mb
  nss : (∃ o, C.B.get? builtinsNs = some o) ∧ (∃ o, C.B.get? mainGlobals = some o) ∧ ∃ o, C.B.get? cStatics = some o
  nolimit : s.heap.NoLimit
  os : s.os = C.os
  gens : C.gp s.gens

theorem old_ext {B h h' : Heap} {a : Addr} (K : OldK B h) (ha : B.get? a = none) (hk : Heap.ExtBut a h h') : OldK B h' := by
  have ne : ∀ b o, B.get? b = some o → b ≠ a := fun b o e x => by rw [x, ha] at e; cases e
  refine ⟨fun b o e => ?_, fun b o e => ?_⟩
  · have hb := ne b o e
    rcases K.old b o e with x | ⟨t, hc, vs, more, hv, x⟩ | ⟨rfl, hc, ⟨o', es, n, ho', r⟩, z⟩
    · exact .inl (hk _ _ hb x)
    · exact .inr (.inl ⟨t, hc, vs, more, hv, hk _ _ hb x⟩)
    · exact .inr (.inr ⟨rfl, hc, ⟨o', es, n, hk _ _ hb ho', r⟩, fun key => by rw [OldK.staticOf_congr ((hk _ _ hb ho').trans ho'.symm) key]; exact z key⟩)
  · obtain ⟨o', ho'⟩ := K.there b o e
    exact ⟨o', hk _ _ (ne b o e) ho'⟩

inductive Upd (a : Addr) (c : Ch) : St → Ch → St → Prop
  | head {c₀ S} : Upd a c ((a, c₀) :: S) c₀ ((a, c) :: S)
  | tail {p S c₀ S'} : Upd a c S c₀ S' → Upd a c (p :: S) c₀ (p :: S')
inductive Rem (p : Addr × Ch) : St → St → Prop
  | head {S} : Rem p (p :: S) S
  | tail {q S S'} : Rem p S S' → Rem p (q :: S) (q :: S')

theorem Rem.mem {p : Addr × Ch} {S S' : St} (u : Rem p S S') : p ∈ S := by
  induction u with
  | head => exact List.mem_cons_self
  | tail _ ih => exact List.mem_cons_of_mem _ ih
theorem Rem.sub {p : Addr × Ch} {S S' : St} (u : Rem p S S') : S'.Sublist S := by
  induction u with
  | head => exact List.sublist_cons_self _ _
  | tail _ ih => exact ih.cons_cons _
theorem Rem.perm {p : Addr × Ch} {S S' : St} (u : Rem p S S') : (p :: S').Perm S := by
  induction u with
  | head => exact .refl _
  | tail _ ih => exact (List.Perm.swap _ _ _).trans (ih.cons _)
theorem Rem.ne {p : Addr × Ch} {S S' : St} (u : Rem p S S') (hn : (S.map (·.1)).Nodup) : ∀ q ∈ S', q.1 ≠ p.1 := by
  have h := (u.perm.map (·.1)).nodup_iff.mpr hn
  intro q hq e
  exact (List.nodup_cons.mp h).1 (List.mem_map.mpr ⟨q, hq, e⟩)

theorem Upd.mem {a c c₀} {S S' : St} (u : Upd a c S c₀ S') : (a, c₀) ∈ S := by
  induction u with
  | head => exact List.mem_cons_self
  | tail _ ih => exact List.mem_cons_of_mem _ ih
theorem Upd.map {a c c₀} {S S' : St} (u : Upd a c S c₀ S') : S'.map (·.1) = S.map (·.1) := by
  induction u with
  | head => rfl
  | tail _ ih => simp only [List.map_cons, ih]
theorem Upd.all {a c c₀} {S S' : St} (u : Upd a c S c₀ S') (hn : (S.map (·.1)).Nodup) : ∀ p ∈ S', p = (a, c) ∨ (p ∈ S ∧ p.1 ≠ a) := by
  induction u with
  | head =>
    intro p hp
    rcases List.mem_cons.mp hp with rfl | hp
    · exact .inl rfl
    · refine .inr ⟨List.mem_cons_of_mem _ hp, fun e => ?_⟩
      exact (List.nodup_cons.mp hn).1 (List.mem_map.mpr ⟨p, hp, e⟩)
  | tail u ih =>
    rename_i q S c₁ S'
    intro p hp
    rcases List.mem_cons.mp hp with rfl | hp
    · refine .inr ⟨List.mem_cons_self, fun e => ?_⟩
      exact (List.nodup_cons.mp hn).1 (List.mem_map.mpr ⟨_, u.mem, e.symm⟩)
    · rcases ih (List.nodup_cons.mp hn).2 p hp with h | ⟨h, h'⟩
      · exact .inl h
      · exact .inr ⟨List.mem_cons_of_mem _ h, h'⟩

theorem ns_ext {h h' : Heap} {a b : Addr} {m} (hn : h.Ns b m) (hk : Heap.ExtBut a h h') (hb : b ≠ a) : h'.Ns b m :=
  let ⟨o, es, ep, ho, r⟩ := hn; ⟨o, es, ep, hk _ _ hb ho, r⟩
theorem nolimit_ext {h h' : Heap} {a : Addr} (hn : h.NoLimit) (hk : Heap.ExtBut a h h') (hb : cStatics ≠ a) : h'.NoLimit :=
  let ⟨mc, p, q⟩ := hn; ⟨mc, ns_ext p hk hb, q⟩

namespace Inv
variable {C : Cx} {S S' : St} {s : Shared}

theorem tok (I : Inv C S s) (t : Nat) : Inv C S { s with toks := t } := ⟨I.old, I.is, I.nod, I.above, I.known, I.small, I.arg, I.argB, I.g, I.b, I.nss, I.nolimit, I.os, I.gens⟩

theorem drop (I : Inv C S s) (h : S'.Sublist S) : Inv C S' s :=
  ⟨I.old, fun p hp => I.is p (h.subset hp), I.nod.sublist (h.map _), fun p hp => I.above p (h.subset hp), I.known, I.small, I.arg, I.argB, I.g, I.b, I.nss, I.nolimit, I.os, I.gens⟩

theorem perm (I : Inv C S s) (h : S'.Perm S) : Inv C S' s :=
  ⟨I.old, fun p hp => I.is p (h.subset hp), (h.map _).nodup_iff.mpr I.nod, fun p hp => I.above p (h.subset hp), I.known, I.small, I.arg, I.argB, I.g, I.b, I.nss, I.nolimit, I.os, I.gens⟩

theorem ext (I : Inv C S s) {a : Addr} (ha : C.B.get? a = none) (hS : ∀ p ∈ S', (p ∈ S ∧ p.1 ≠ a) ∨ (C.B.get? p.1 = none ∧ ∃ o, h'.get? p.1 = some o ∧ Fits o p.2)) (hn : (S'.map (·.1)).Nodup)
    (hk : Heap.ExtBut a s.heap h') (tk : Nat) : Inv C S' { s with heap := h', toks := tk } := by
  have ne : ∀ b, (∃ o, C.B.get? b = some o) → b ≠ a := fun b ⟨o, e⟩ x => by rw [x, ha] at e; cases e
  refine ⟨old_ext I.old ha hk, ?_, hn, ?_, fun b o e => hk _ _ (ne _ (I.small b o e)) (I.known b o e), I.small, hk _ _ (ne _ I.argB) I.arg, I.argB, ns_ext I.g hk (ne _ I.nss.2.1), ns_ext I.b hk (ne _ I.nss.1), I.nss, nolimit_ext I.nolimit hk (ne _ I.nss.2.2), I.os, I.gens⟩
  · intro p hp
    rcases hS p hp with ⟨hm, hne⟩ | ⟨_, h⟩
    · obtain ⟨o, h1, h2⟩ := I.is p hm
      exact ⟨o, hk _ _ hne h1, h2⟩
    · exact h
  · intro p hp ht
    rcases hS p hp with ⟨hm, hne⟩ | ⟨h, _⟩
    · exact I.above p hm ht
    · exact h

theorem size_fresh (I : Inv C S s) : C.B.get? s.heap.objs.size = none := by
  cases e : C.B.get? s.heap.objs.size with
  | none => rfl
  | some o => obtain ⟨o', h⟩ := I.old.there _ _ e; exact absurd (Heap.lt_size h) (Nat.lt_irrefl _)

theorem alloc (I : Inv C S s) {o : Obj} {c : Ch} (ho : o.isFreed = false) (hf : Fits o c) (tk : Nat) : Inv C ((s.heap.objs.size, c) :: S) { s with heap := s.heap.push o, toks := tk } := by
  have hlt : ∀ p ∈ S, p.1 ≠ s.heap.objs.size := fun p hp e => by obtain ⟨o', h, _⟩ := I.is p hp; exact Nat.lt_irrefl _ (e ▸ Heap.lt_size h)
  refine I.ext (a := s.heap.objs.size) I.size_fresh ?_ ?_ (fun b o' _ e => Heap.get?_push_of_some o e) tk
  · intro p hp
    rcases List.mem_cons.mp hp with rfl | hp
    · exact .inr ⟨I.size_fresh, o, Heap.get?_push_size _ ho, hf⟩
    · exact .inl ⟨hp, hlt p hp⟩
  · refine List.nodup_cons.mpr ⟨fun hm => ?_, I.nod⟩
    obtain ⟨p, hp, e⟩ := List.mem_map.mp hm
    exact hlt p hp e

theorem upd (I : Inv C S s) {a : Addr} {c c₀ : Ch} {h' : Heap} (u : Upd a c S c₀ S') (hs : Heap.ExtBut a s.heap h') (hf : ∃ o, h'.get? a = some o ∧ Fits o c) (tk : Nat) (hc : c₀ ≠ .tab := by nofun) : Inv C S' { s with heap := h', toks := tk } := by
  have ha := I.above _ u.mem hc
  refine I.ext ha ?_ (by rw [u.map]; exact I.nod) hs tk
  intro p hp
  rcases u.all I.nod p hp with rfl | h
  · exact .inr ⟨ha, hf⟩
  · exact .inl h

theorem rem (I : Inv C S s) {a : Addr} {c : Ch} {h' : Heap} (u : Rem (a, c) S S') (hs : Heap.ExtBut a s.heap h') (tk : Nat) (hc : c ≠ .tab := by nofun) : Inv C S' { s with heap := h', toks := tk } :=
  I.ext (I.above _ u.mem hc) (fun p hp => .inl ⟨u.sub.subset hp, u.ne I.nod p hp⟩) (I.nod.sublist (u.sub.map _)) hs tk

theorem keep (I : Inv C S s) {h' : Heap} (hs : ∀ b o, s.heap.get? b = some o → h'.get? b = some o) (tk : Nat) : Inv C S { s with heap := h', toks := tk } :=
  I.ext (a := s.heap.objs.size) I.size_fresh (fun p hp => .inl ⟨hp, fun e => by obtain ⟨o', h, _⟩ := I.is p hp; exact Nat.lt_irrefl _ (e ▸ Heap.lt_size h)⟩) I.nod (fun b o _ e => hs b o e) tk

theorem get (I : Inv C S s) {a : Addr} {c : Ch} (hm : (a, c) ∈ S) : ∃ o, s.heap.get? a = some o ∧ Fits o c := I.is _ hm

end Inv

noncomputable def VG {α β : Type} (M : Model) (A : Around) (C : Cx) (nf : α → β) (S : St) (m : Sem α) (Φ : β → St → Prop) : Prop :=
  ∀ (s : Shared) (Q : α → Shared → Prop) (E : Value → Shared → Prop), Inv C S s → (∀ a s' S', Inv C S' s' → Φ (nf a) S' → Q a s') → wpAny M A m Q E s

abbrev VP (M : Model) (A : Around) (C : Cx) (S : St) (m : Sem Value) (Φ : Value → St → Prop) : Prop := VG M A C nt S m Φ
abbrev VB (M : Model) (A : Around) (C : Cx) (S : St) (m : Sem Bool) (Φ : Bool → St → Prop) : Prop := VG M A C (fun x => x) S m Φ
abbrev VU (M : Model) (A : Around) (C : Cx) (S : St) (m : Sem Unit) (Φ : Unit → St → Prop) : Prop := VG M A C (fun x => x) S m Φ
noncomputable def ntF : Flow → Flow
  | .ret v => .ret (nt v)
  | f => f
abbrev VF (M : Model) (A : Around) (C : Cx) (S : St) (m : Sem Flow) (Φ : Flow → St → Prop) : Prop := VG M A C ntF S m Φ

section
variable {prog : Program} {w : World} {A : Around} {C : Cx} {S : St} {env : Env}

theorem VG.mono {α β : Type} {M : Model} {nf : α → β} {m : Sem α} {Φ Ψ : β → St → Prop} (h : VG M A C nf S m Φ) (k : ∀ b S', Φ b S' → Ψ b S') : VG M A C nf S m Ψ :=
  fun s Q E I hq => h s Q E I fun a s' S' I' p => hq a s' S' I' (k _ _ p)

theorem VG.bind {α β α' β' : Type} {M : Model} {nf : α → β} {nf' : α' → β'} {m : Sem α} {f : α → Sem α'} {Φ : β' → St → Prop}
    (h : VG M A C nf S m fun b S' => ∀ a, nf a = b → VG M A C nf' S' (f a) Φ) : VG M A C nf' S (m >>= f) Φ :=
  fun s Q E I hq => wpAny_bind (h s _ E I fun a s' S' I' p => p a rfl s' Q E I' hq)

theorem VG.pure {α β : Type} {M : Model} {nf : α → β} {a : α} {Φ : β → St → Prop} (h : Φ (nf a) S) : VG M A C nf S (pure a) Φ :=
  fun s Q E I hq => wpAny_pure (hq a s S I h)

theorem VG.drop {α β : Type} {M : Model} {nf : α → β} {m : Sem α} {Φ : β → St → Prop} {S' : St} (hs : S'.Sublist S) (h : VG M A C nf S' m Φ) : VG M A C nf S m Φ :=
  fun s Q E I hq => h s Q E (I.drop hs) hq

end
end Mine

set_option Elab.async false
set_option linter.unusedVariables false
namespace Mine
open PySem PyProof.Rows PySem.Calls PySem.W

inductive SetAt (x : Str) (v : Value) : List (Str × Value) → List (Str × Value) → Prop
  | here {u l} : SetAt x v ((x, u) :: l) ((x, v) :: l)
  | there {p l l'} : SetAt x v l l' → SetAt x v (p :: l) (p :: l')
  | new : SetAt x v [] [(x, v)]

theorem SetAt.has {x v l l'} (h : SetAt x v l l') : (x, v) ∈ l' := by
  induction h with
  | here => exact List.mem_cons_self
  | there _ ih => exact List.mem_cons_of_mem _ ih
  | new => exact List.mem_cons_self
theorem SetAt.all {x v l l'} (h : SetAt x v l l') (hn : (l'.map Prod.fst).Nodup) : ∀ y u, (y, u) ∈ l' → (y = x ∧ u = v) ∨ (y ≠ x ∧ (y, u) ∈ l) := by
  induction h with
  | here =>
    intro y u hm
    rcases List.mem_cons.mp hm with e | hm
    · cases e; exact .inl ⟨rfl, rfl⟩
    · refine .inr ⟨fun e => (List.nodup_cons.mp hn).1 (List.mem_map.mpr ⟨_, hm, e⟩), List.mem_cons_of_mem _ hm⟩
  | there h' ih =>
    rename_i p l l'
    intro y u hm
    rcases List.mem_cons.mp hm with e | hm
    · refine .inr ⟨fun ex => (List.nodup_cons.mp hn).1 (List.mem_map.mpr ⟨_, h'.has, ?_⟩), e ▸ List.mem_cons_self⟩
      rw [← e]; exact ex.symm
    · rcases ih (List.nodup_cons.mp hn).2 y u hm with a | ⟨a, b⟩
      · exact .inl a
      · exact .inr ⟨a, List.mem_cons_of_mem _ b⟩
  | new =>
    intro y u hm
    rcases List.mem_cons.mp hm with e | hm
    · cases e; exact .inl ⟨rfl, rfl⟩
    · cases hm

theorem fits_ns {h : Heap} {a : Addr} {m : Str → Option Value} {l : List (Str × Value)} (hn : h.Ns a m) (hl : ∀ x v, (x, v) ∈ l → ∃ w, m x = some w ∧ nt w = v) :
    ∃ o, h.get? a = some o ∧ Fits o (.ns l) := by
  obtain ⟨o, es, ep, ho, hd, hk, hf⟩ := hn
  exact ⟨o, ho, es, ep, hd, hk, fun x v hm => by rw [hf]; exact hl x v hm⟩

theorem Inv.ns {C : Cx} {S : St} {s : Shared} (I : Inv C S s) {a : Addr} {l} (hm : (a, Ch.ns l) ∈ S) : ∃ m, s.heap.Ns a m ∧ ∀ x v, (x, v) ∈ l → ∃ w, m x = some w ∧ nt w = v := by
  obtain ⟨o, ho, es, ep, hd, hk, hl⟩ := I.get hm
  exact ⟨nsFind es, ⟨o, es, ep, ho, hd, hk, fun _ => rfl⟩, hl⟩

theorem Inv.cellAt {C : Cx} {S : St} {s : Shared} (I : Inv C S s) {a : Addr} {v : Option Value} (hm : (a, Ch.cell v) ∈ S) : ∃ v', s.heap.IsCell a v' ∧ v'.map nt = v := by
  obtain ⟨o, ho, v', hd, hv⟩ := I.get hm
  exact ⟨v', ⟨o, ho, hd⟩, hv⟩

section
variable {M : Model} {A : Around} {C : Cx} {S S' : St} {env : Env}

theorem V.load_local {x : Str} {v : Value} {l} {Φ : Value → St → Prop} (hm : (env.locals, Ch.ns l) ∈ S) (hx : (x, v) ∈ l) (h : Φ v S)
    (hk : env.scope.kind = .function := by with_unfolding_all rfl) (hl : env.kindOf x = some .local := by with_unfolding_all rfl) : VP M A C S (loadName env x) Φ := fun s Q E I hq => by
  obtain ⟨m, hn, hh⟩ := I.ns hm
  obtain ⟨w, hw, rfl⟩ := hh x v hx
  exact wpAny_loadName_local hk hl hn hw (hq _ _ _ I h)
theorem V.load_cell {x : Str} {v : Value} {c : Addr} {Φ : Value → St → Prop} (hc : env.cells.lookup x = some c) (hm : (c, Ch.cell (some v)) ∈ S) (h : Φ v S)
    (hk : env.scope.kind = .function := by with_unfolding_all rfl) (hl : env.kindOf x = some .cell := by with_unfolding_all rfl) : VP M A C S (loadName env x) Φ := fun s Q E I hq => by
  obtain ⟨v', hn, hh⟩ := I.cellAt hm
  cases v' with
  | none => cases hh
  | some w => cases hh; exact wpAny_loadName_cell hk hl hc hn (hq _ _ _ I h)
theorem V.load_free {x : Str} {v : Value} {c : Addr} {Φ : Value → St → Prop} (hc : env.cells.lookup x = some c) (hm : (c, Ch.cell (some v)) ∈ S) (h : Φ v S)
    (hk : env.scope.kind = .function := by with_unfolding_all rfl) (hl : env.kindOf x = some .free := by with_unfolding_all rfl) (hd : (x == ("__classdict__" : Str)) = false := by decide) : VP M A C S (loadName env x) Φ := fun s Q E I hq => by
  obtain ⟨v', hn, hh⟩ := I.cellAt hm
  cases v' with
  | none => cases hh
  | some w => cases hh; exact wpAny_loadName_free hk hl hc hn (hq _ _ _ I h) hd

theorem V.store_local {x : Str} {v : Value} {l l'} {Φ : Unit → St → Prop} (hu : Upd env.locals (.ns l') S (.ns l) S') (hx : SetAt x (nt v) l l') (h : Φ () S')
    (hn : decide (l'.map Prod.fst).Nodup = true := by kernel_rfl) (hl : env.kindOf x = some .local := by with_unfolding_all rfl)
    (hp : (env.scope.kind == .class || (env.scope.kind == .module && env.locals != env.globals)) = false := by with_unfolding_all rfl) : VU M A C S (storeName env x v) Φ := fun s Q E I hq => by
  obtain ⟨m, hm, hh⟩ := I.ns hu.mem
  refine wpAny_storeName_local hl hm (fun h' hn' hs => hq () _ S' (I.upd hu hs.extBut (fits_ns hn' fun y u hyu => ?_) _) h) hp
  rcases hx.all (of_decide_eq_true hn) y u hyu with ⟨rfl, rfl⟩ | ⟨hne, hm'⟩
  · exact ⟨v, by simp, rfl⟩
  · simpa [hne] using hh y u hm'
theorem V.store_cell {x : Str} {v : Value} {c : Addr} {v₀} {Φ : Unit → St → Prop} (hc : env.cells.lookup x = some c) (hu : Upd c (.cell (some (nt v))) S (.cell v₀) S') (h : Φ () S')
    (hk : env.scope.kind = .function := by with_unfolding_all rfl) (hl : env.kindOf x = some .cell := by with_unfolding_all rfl) : VU M A C S (storeName env x v) Φ := fun s Q E I hq => by
  obtain ⟨v', hn, hh⟩ := I.cellAt hu.mem
  refine wpAny_storeName_cell hk hl hc hn fun h' hc' hs => ?_
  obtain ⟨o, ho, hd⟩ := hc'
  exact hq () _ S' (I.upd hu hs.extBut ⟨o, ho, some v, hd, rfl⟩ _) h

theorem V.name {x : Str} {pos : Pos} {Φ : Value → St → Prop} (h : VP M A C S (loadName env x) Φ) (hd : (x == ("__debug__" : Str)) = false := by decide) :
    VP M A C S (eval (.Name x pos) env) Φ := fun s Q E I hq => wpAny_Name (h s Q E I hq) hd

theorem V.c_int {i : Int} {k pos} {Φ : Value → St → Prop} (h : Φ (.int i 0) S) : VP M A C S (eval (.Constant (.int i) k pos) env) Φ :=
  fun s Q E I hq => wpAny_Constant_int (hq _ _ _ (I.tok _) h)
theorem V.c_str {x : Str} {k pos} {Φ : Value → St → Prop} (h : Φ (.str x 0) S) : VP M A C S (eval (.Constant (.str x) k pos) env) Φ :=
  fun s Q E I hq => Constant_str (hq _ _ _ (I.tok _) h)
theorem V.c_none {k pos} {Φ : Value → St → Prop} (h : Φ .none S) : VP M A C S (eval (.Constant .none k pos) env) Φ :=
  fun s Q E I hq => show wpAny M A (pure Value.none) Q E s from wpAny_pure (hq _ _ _ I h)

theorem V.binop {l op r pos} {Φ : Value → St → Prop}
    (h : VP M A C S (eval l env) fun a S₁ => VP M A C S₁ (eval r env) fun b S₂ => ∀ a' b', nt a' = a → nt b' = b → VP M A C S₂ (binaryOp op a' b') Φ) :
    VP M A C S (eval (.BinOp l op r pos) env) Φ := fun s Q E I hq =>
  wpAny_BinOp (h s _ E I fun a s₁ S₁ I₁ h₁ => h₁ s₁ _ E I₁ fun b s₂ S₂ I₂ h₂ => h₂ a b rfl rfl s₂ Q E I₂ hq)
theorem V.cmp {l op r pos} {Φ : Value → St → Prop}
    (h : VP M A C S (eval l env) fun a S₁ => VP M A C S₁ (eval r env) fun b S₂ => ∀ a' b', nt a' = a → nt b' = b → VP M A C S₂ (compareOp op a' b') Φ)
    (hm : behindInMarks op r = false := by with_unfolding_all rfl) :
    VP M A C S (eval (.Compare l [op] [r] pos) env) Φ := fun s Q E I hq =>
  wpAny_Compare1 (h s _ E I fun a s₁ S₁ I₁ h₁ => h₁ s₁ _ E I₁ fun b s₂ S₂ I₂ h₂ => h₂ a b rfl rfl s₂ Q E I₂ hq) hm
theorem V.truthy_bool {b : Bool} {Φ : Bool → St → Prop} (h : Φ b S) : VB M A C S (truthy (.bool b)) Φ := fun s Q E I hq => wpAny_truthy_bool (hq b s S I h)
theorem V.t_cmp {l op r pos whole} {Φ : Bool → St → Prop}
    (h : VP M A C S (eval l env) fun a S₁ => VP M A C S₁ (eval r env) fun b S₂ => ∀ a' b', nt a' = a → nt b' = b → VP M A C S₂ (compareOp op a' b') fun c S₃ => ∃ b, c = .bool b ∧ Φ b S₃)
    (hm : behindInMarks op r = false := by with_unfolding_all rfl) :
    VB M A C S (isTrue (.Compare l [op] [r] pos) env whole) Φ := fun s Q E I hq =>
  wpAny_isTrue_Compare1 (h s _ E I fun a s₁ S₁ I₁ h₁ => h₁ s₁ _ E I₁ fun b s₂ S₂ I₂ h₂ => h₂ a b rfl rfl s₂ _ E I₂ fun c s₃ S₃ I₃ h₃ => by
    obtain ⟨b, hb, h₃⟩ := h₃
    obtain rfl := nt_bool hb
    exact wpAny_truthy_bool (hq b s₃ S₃ I₃ h₃)) hm

theorem V.execs_nil {Φ : Flow → St → Prop} (h : Φ .next S) : VF M A C S (execs [] env) Φ := fun s Q E I hq => wpAny_execs_nil (hq .next s S I h)
theorem V.execs_cons {st rest} {Φ : Flow → St → Prop} (h : VF M A C S (exec st env) fun f S₁ => match f with | .next => VF M A C S₁ (execs rest env) Φ | f => Φ f S₁) :
    VF M A C S (execs (st :: rest) env) Φ := fun s Q E I hq =>
  wpAny_execs_cons (h s _ E I fun f s₁ S₁ I₁ h₁ => by
    cases f with
    | next => exact h₁ s₁ Q E I₁ hq
    | ret v => exact hq _ _ _ I₁ h₁
    | brk => exact hq _ _ _ I₁ h₁
    | cont => exact hq _ _ _ I₁ h₁)

theorem V.if_ {test body orelse pos} {Φ : Flow → St → Prop}
    (h : VB M A C S (isTrue test env (eval test env)) fun b S₁ => (b = true → VF M A C S₁ (execs body env) Φ) ∧ (b = false → VF M A C S₁ (execs orelse env) Φ)) :
    VF M A C S (exec (.If test body orelse pos) env) Φ := fun s Q E I hq =>
  wpAny_If (h s _ E I fun b s₁ S₁ I₁ h₁ => by
    cases b with
    | true => exact h₁.1 rfl s₁ Q E I₁ hq
    | false => exact h₁.2 rfl s₁ Q E I₁ hq)
theorem V.ret {e pos} {Φ : Flow → St → Prop} (h : VP M A C S (eval e env) fun v S' => Φ (.ret v) S') : VF M A C S (exec (.Return (some e) pos) env) Φ := fun s Q E I hq =>
  wpAny_Return_some (h s _ E I fun v s₁ S₁ I₁ h₁ => hq (.ret v) s₁ S₁ I₁ h₁)
theorem V.ret_none {pos} {Φ : Flow → St → Prop} (h : Φ (.ret .none) S) : VF M A C S (exec (.Return none pos) env) Φ := fun s Q E I hq =>
  wpAny_Return_none (hq (.ret .none) s S I h)
theorem V.brk {pos} {Φ : Flow → St → Prop} (h : Φ .brk S) : VF M A C S (exec (.Break pos) env) Φ := fun s Q E I hq _ _ _ => hq .brk s S I h
theorem V.cont {pos} {Φ : Flow → St → Prop} (h : Φ .cont S) : VF M A C S (exec (.Continue pos) env) Φ := fun s Q E I hq _ _ _ => hq .cont s S I h
theorem V.pass {pos} {Φ : Flow → St → Prop} (h : Φ .next S) : VF M A C S (exec (.Pass pos) env) Φ := fun s Q E I hq _ _ _ => hq .next s S I h

theorem V.assign_name {x pos' value pos} {Φ : Flow → St → Prop}
    (h : VP M A C S (eval value env) fun v S₁ => ∀ v', nt v' = v → VU M A C S₁ (storeName env x v') fun _ S₂ => Φ .next S₂)
    (hs : swapsWith value (some (.Name x pos')) pos.line env = pure false := by with_unfolding_all rfl) : VF M A C S (exec (.Assign [.Name x pos'] value pos) env) Φ := fun s Q E I hq =>
  wpAny_Assign_Name (h s _ E I fun v s₁ S₁ I₁ h₁ => h₁ v rfl s₁ _ E I₁ fun _ s₂ S₂ I₂ h₂ => hq .next s₂ S₂ I₂ h₂) hs
theorem V.aug_name {x pos' op value pos} {Φ : Flow → St → Prop}
    (h : VP M A C S (loadName env x) fun a S₁ => VP M A C S₁ (eval value env) fun b S₂ => ∀ a' b', nt a' = a → nt b' = b → VP M A C S₂ (inplaceOp op a' b') fun c S₃ =>
      ∀ c', nt c' = c → VU M A C S₃ (storeName env x c') fun _ S₄ => Φ .next S₄) : VF M A C S (exec (.AugAssign (.Name x pos') op value pos) env) Φ := fun s Q E I hq =>
  wpAny_AugAssign_Name (h s _ E I fun a s₁ S₁ I₁ h₁ => h₁ s₁ _ E I₁ fun b s₂ S₂ I₂ h₂ => h₂ a b rfl rfl s₂ _ E I₂ fun c s₃ S₃ I₃ h₃ => h₃ c rfl s₃ _ E I₃ fun _ s₄ S₄ I₄ h₄ => hq .next s₄ S₄ I₄ h₄)
end
end Mine

set_option Elab.async false
set_option linter.unusedVariables false
namespace Mine
open PySem PyProof.Rows PySem.Calls PySem.W

abbrev VN (M : Model) (A : Around) (C : Cx) (S : St) (m : Sem (Option Value)) (Φ : Option Value → St → Prop) : Prop := VG M A C (Option.map nt) S m Φ
noncomputable def VK (M : Model) (A : Around) (C : Cx) (S : St) (c : Code) (Φ : Flow → St → Prop) : Prop :=
  ∀ (s : Shared) (R : Result → Shared → Prop), Inv C S s → (∀ f s' S', Inv C S' s' → Φ (ntF f) S' → R (.ok f) s') → codeAny M A c R s

noncomputable def IsL (C : Cx) (S : St) (l : Addr) (xs : List Value) : Prop := ∀ s, Inv C S s → ∃ vs, s.heap.IsList l vs ∧ vs.toList.map nt = xs
theorem IsL.lst {C : Cx} {S : St} {l : Addr} {xs : List Value} (hm : (l, Ch.lst xs) ∈ S) : IsL C S l xs := fun s I => by
  obtain ⟨o, ho, vs, ep, rfl, hx⟩ := I.get hm
  exact ⟨vs, ⟨_, ho, rfl, ep, rfl⟩, hx⟩
theorem IsL.sq {C : Cx} {S : St} {l : Addr} {xs : List Value} (hm : (l, Ch.sq xs) ∈ S) : IsL C S l xs := fun s I => by
  obtain ⟨o, ho, hc, vs, ep, hd, hx⟩ := I.get hm
  exact ⟨vs, ⟨_, ho, hc, ep, hd⟩, hx⟩
theorem IsL.arg {C : Cx} {S : St} {xs : List Value} {vs : Array Value} {ep : Nat} (hc : C.arg.2.cls = .type "list") (hd : C.arg.2.data = .seq vs ep) (hx : vs.toList.map nt = xs) : IsL C S C.arg.1 xs := fun s I =>
  ⟨vs, ⟨_, I.arg, hc, ep, hd⟩, hx⟩
theorem listAt {C : Cx} {S : St} {s : Shared} (I : Inv C S s) {a : Addr} {xs : List Value} (hm : (a, Ch.lst xs) ∈ S) : ∃ vs, s.heap.IsList a vs ∧ vs.toList.map nt = xs := by
  obtain ⟨o, ho, vs, ep, rfl, hx⟩ := I.get hm
  exact ⟨vs, ⟨_, ho, rfl, ep, rfl⟩, hx⟩
theorem litAt {C : Cx} {S : St} {s : Shared} (I : Inv C S s) {a l : Addr} {i : Nat} (hm : (a, Ch.lit l i) ∈ S) : s.heap.IsListIter a l i := by
  obtain ⟨o, ho, h1, h2⟩ := I.get hm
  exact ⟨o, ho, h1, h2⟩
theorem tupAt {C : Cx} {S : St} {s : Shared} (I : Inv C S s) {a : Addr} {xs : List Value} (hm : (a, Ch.tup xs) ∈ S) : ∃ vs, s.heap.IsTuple a vs ∧ vs.toList.map nt = xs := by
  obtain ⟨o, ho, vs, rfl, hx⟩ := I.get hm
  exact ⟨vs, ⟨_, ho, rfl, 0, rfl⟩, hx⟩
theorem getElem_map {vs : Array Value} {xs : List Value} (h : vs.toList.map nt = xs) {i : Nat} {v : Value} (hv : xs[i]? = some v) : ∃ x, vs[i]? = some x ∧ nt x = v := by
  subst h
  rw [List.getElem?_map] at hv
  obtain ⟨x, hx, e⟩ := Option.map_eq_some_iff.mp hv
  exact ⟨x, by simpa using hx, e⟩
theorem getElem_map_none {vs : Array Value} {xs : List Value} (h : vs.toList.map nt = xs) {i : Nat} (hv : xs[i]? = none) : vs[i]? = none := by
  subst h
  rw [List.getElem?_map] at hv
  simpa using hv
theorem Inv.allocs {C : Cx} {S : St} {s : Shared} (I : Inv C S s) {o : Obj} {c : Ch} (ho : o.isFreed = false) (hf : Fits o c) : Inv C ((s.heap.objs.size, c) :: S) { s with heap := s.heap.push o } := I.alloc ho hf s.toks

section
variable {prog : Program} {w : World} {A : Around} {C : Cx} {S S' : St} {env : Env}

theorem V.iter_list {l : Addr} {xs : List Value} {Φ : Value → St → Prop} (hl : IsL C S l xs) (h : ∀ it, Φ (.ref it) ((it, .lit l 0) :: S)) : VP (model prog w) A C S (pyIter (.ref l)) Φ := fun s Q E I hq => by
  obtain ⟨vs, hv, _⟩ := hl s I
  exact wpAny_pyIter_list hv (hq _ _ _ (I.allocs (c := .lit l 0) rfl ⟨rfl, rfl⟩) (h _))
theorem V.iter_tup {l : Addr} {xs : List Value} {Φ : Value → St → Prop} (hl : (l, Ch.tup xs) ∈ S) (h : ∀ it, Φ (.ref it) ((it, .tit l 0) :: S)) : VP (model prog w) A C S (pyIter (.ref l)) Φ := fun s Q E I hq => by
  obtain ⟨vs, hv, _⟩ := tupAt I hl
  exact wpAny_pyIter_tuple hv (hq _ _ _ (I.allocs (c := .tit l 0) rfl ⟨rfl, rfl⟩) (h _))
theorem V.iter_lit {l it : Addr} {i : Nat} {Φ : Value → St → Prop} (hl : (it, Ch.lit l i) ∈ S) (h : Φ (.ref it) S) : VP (model prog w) A C S (pyIter (.ref it)) Φ := fun s Q E I hq =>
  wpAny_pyIter_listiter (litAt I hl) (hq _ _ _ I h)
theorem V.iter_range {r : Addr} {a b c : Int} {Φ : Value → St → Prop} (hl : (r, Ch.rng a b c) ∈ S) (hs : Builtin.Range.small a b c = true) (h : ∀ it, Φ (.ref it) ((it, .rit a (Builtin.Range.rangeSize a b c) c) :: S)) :
    VP (model prog w) A C S (pyIter (.ref r)) Φ := fun s Q E I hq => by
  obtain ⟨o, ho, t, u, v, rfl⟩ := I.get hl
  exact wpAny_pyIter_range ho hs (hq _ _ _ (I.allocs (c := .rit a (Builtin.Range.rangeSize a b c) c) rfl rfl) (h _))
theorem V.iter_rit {it : Addr} {x left c : Int} {Φ : Value → St → Prop} (hl : (it, Ch.rit x left c) ∈ S) (h : Φ (.ref it) S) : VP (model prog w) A C S (pyIter (.ref it)) Φ := fun s Q E I hq => by
  obtain ⟨o, ho, rfl⟩ := I.get hl
  exact wpAny_pyIter_rangeiter ho (hq _ _ _ I h)
theorem V.iter_str {x : Str} {t : Tok} {Φ : Value → St → Prop} (h : ∀ it, Φ (.ref it) ((it, .sit x 0) :: S)) : VP (model prog w) A C S (pyIter (.str x t)) Φ := fun s Q E I hq => by
  cases ha : x.cps.all (· < 128) with
  | true => exact wpAny_pyIter_ascii ha (hq _ _ _ (I.allocs (c := .sit x 0) rfl ⟨t, rfl, .inl ⟨rfl, ha⟩⟩) (h _))
  | false => exact wpAny_pyIter_wide ha (hq _ _ _ (I.allocs (c := .sit x 0) rfl ⟨t, rfl, .inr ⟨rfl, ha⟩⟩) (h _))
theorem V.iter_sit {it : Addr} {x : Str} {i : Nat} {Φ : Value → St → Prop} (hl : (it, Ch.sit x i) ∈ S) (h : Φ (.ref it) S) : VP (model prog w) A C S (pyIter (.ref it)) Φ := fun s Q E I hq => by
  obtain ⟨o, ho, t, hd, ⟨hc, ha⟩ | ⟨hc, ha⟩⟩ := I.get hl
  · exact wpAny_pyIter_striter_ascii ⟨o, ho, hc, hd⟩ (hq _ _ _ I h)
  · exact wpAny_pyIter_striter_wide ⟨o, ho, hc, hd⟩ (hq _ _ _ I h)
theorem V.iter_tit {l it : Addr} {i : Nat} {Φ : Value → St → Prop} (hl : (it, Ch.tit l i) ∈ S) (h : Φ (.ref it) S) : VP (model prog w) A C S (pyIter (.ref it)) Φ := fun s Q E I hq => by
  obtain ⟨o, ho, h1, h2⟩ := I.get hl
  exact wpAny_pyIter_tupleiter ⟨o, ho, h1, h2⟩ (hq _ _ _ I h)

theorem V.next_list {it l : Addr} {i : Nat} {xs : List Value} {v : Value} {Φ : Option Value → St → Prop} (hu : Upd it (.lit l (i + 1)) S (.lit l i) S') (hl : IsL C S l xs) (hv : xs[i]? = some v) (h : Φ (some v) S') :
    VN (model prog w) A C S (pyNext (.ref it)) Φ := fun s Q E I hq => by
  obtain ⟨vs, hl', hx⟩ := hl s I
  obtain ⟨x, hx', rfl⟩ := getElem_map hx hv
  refine wpAny_pyNext_list_item (litAt I hu.mem) hl' hx' fun h' ⟨o, ho, h1, h2⟩ hs => hq _ _ S' (I.upd hu hs.extBut ⟨o, ho, h1, h2⟩ _) h
theorem V.next_list_end {it l : Addr} {i : Nat} {xs : List Value} {Φ : Option Value → St → Prop} (hu : Rem (it, .lit l i) S S') (hl : IsL C S l xs) (hv : xs[i]? = none) (h : Φ none S') (hA : A.handled = none) :
    VN (model prog w) A C S (pyNext (.ref it)) Φ := fun s Q E I hq => by
  obtain ⟨vs, hl', hx⟩ := hl s I
  exact wpAny_pyNext_list_end hA (litAt I hu.mem) hl' (getElem_map_none hx hv) fun h' hs => hq none _ S' (I.rem hu hs _) h
theorem V.next_tup {it l : Addr} {i : Nat} {xs : List Value} {v : Value} {Φ : Option Value → St → Prop} (hu : Upd it (.tit l (i + 1)) S (.tit l i) S') (hl : (l, Ch.tup xs) ∈ S) (hv : xs[i]? = some v) (h : Φ (some v) S') :
    VN (model prog w) A C S (pyNext (.ref it)) Φ := fun s Q E I hq => by
  obtain ⟨vs, hl', hx⟩ := tupAt I hl
  obtain ⟨x, hx', rfl⟩ := getElem_map hx hv
  obtain ⟨o, ho, h1, h2⟩ := I.get hu.mem
  refine wpAny_pyNext_tuple_item ⟨o, ho, h1, h2⟩ hl' hx' fun h' ⟨o, ho, h1, h2⟩ hs => hq _ _ S' (I.upd hu hs.extBut ⟨o, ho, h1, h2⟩ _) h
theorem V.next_tup_end {it l : Addr} {i : Nat} {xs : List Value} {Φ : Option Value → St → Prop} (hu : Rem (it, .tit l i) S S') (hl : (l, Ch.tup xs) ∈ S) (hv : xs[i]? = none) (h : Φ none S') (hA : A.handled = none) :
    VN (model prog w) A C S (pyNext (.ref it)) Φ := fun s Q E I hq => by
  obtain ⟨vs, hl', hx⟩ := tupAt I hl
  obtain ⟨o, ho, h1, h2⟩ := I.get hu.mem
  exact wpAny_pyNext_tuple_end hA ⟨o, ho, h1, h2⟩ hl' (getElem_map_none hx hv) fun h' hs => hq none _ S' (I.rem hu hs _) h
theorem V.next_range {it : Addr} {x left c : Int} {Φ : Option Value → St → Prop} (hu : Upd it (.rit (x + c) (left - 1) c) S (.rit x left c) S') (hl : 0 < left) (h : Φ (some (.int x 0)) S') :
    VN (model prog w) A C S (pyNext (.ref it)) Φ := fun s Q E I hq => by
  obtain ⟨o, ho, rfl⟩ := I.get hu.mem
  exact wpAny_pyNext_range_item ho hl fun h' ho' hs => hq _ _ S' (I.upd hu hs.extBut ⟨_, ho', rfl⟩ _) h
theorem V.next_range_end {it : Addr} {x left c : Int} {Φ : Option Value → St → Prop} (hu : Rem (it, .rit x left c) S S') (hl : left ≤ 0) (h : Φ none S') (hA : A.handled = none) :
    VN (model prog w) A C S (pyNext (.ref it)) Φ := fun s Q E I hq => by
  obtain ⟨o, ho, rfl⟩ := I.get hu.mem
  exact wpAny_pyNext_range_end hA ho hl fun h' hs => hq none _ S' (I.rem hu hs _) h
theorem V.next_str {it : Addr} {x : Str} {i c : Nat} {Φ : Option Value → St → Prop} (hu : Upd it (.sit x (i + 1)) S (.sit x i) S') (hv : x.cps[i]? = some c) (h : Φ (some (.str ⟨#[c]⟩ 0)) S') :
    VN (model prog w) A C S (pyNext (.ref it)) Φ := fun s Q E I hq => by
  obtain ⟨o, ho, t, hd, ⟨hc, ha⟩ | ⟨hc, ha⟩⟩ := I.get hu.mem
  · refine wpAny_pyNext_ascii_item ⟨o, ho, hc, hd⟩ hv fun h' ⟨o', ho', hc', hd'⟩ hs => hq _ _ S' (I.upd hu hs.extBut ⟨o', ho', t, hd', .inl ⟨hc', ha⟩⟩ _) h
  · refine wpAny_pyNext_wide_item ⟨o, ho, hc, hd⟩ hv fun h' ⟨o', ho', hc', hd'⟩ hs => hq _ _ S' (I.upd hu hs.extBut ⟨o', ho', t, hd', .inr ⟨hc', ha⟩⟩ _) h
theorem V.next_str_end {it : Addr} {x : Str} {i : Nat} {Φ : Option Value → St → Prop} (hu : Rem (it, .sit x i) S S') (hv : x.cps[i]? = none) (h : Φ none S') (hA : A.handled = none) :
    VN (model prog w) A C S (pyNext (.ref it)) Φ := fun s Q E I hq => by
  obtain ⟨o, ho, t, hd, ⟨hc, ha⟩ | ⟨hc, ha⟩⟩ := I.get hu.mem
  · exact wpAny_pyNext_ascii_end hA ⟨o, ho, hc, hd⟩ hv fun h' hs => hq none _ S' (I.rem hu hs _) h
  · exact wpAny_pyNext_wide_end hA ⟨o, ho, hc, hd⟩ hv fun h' hs => hq none _ S' (I.rem hu hs _) h

theorem V.while_ {test body orelse pos} {Φ : Flow → St → Prop} (I : Nat → St → Prop)
    (turn : ∀ n S, I n S → VB (model prog w) A C S (isTrue test env (eval test env)) fun b S₁ =>
      (b = true → VF (model prog w) A C S₁ (execs body env) fun f S₂ => match f with | .next | .cont => ∃ m, m < n ∧ I m S₂ | .brk => Φ .next S₂ | .ret v => Φ (.ret v) S₂) ∧
      (b = false → VF (model prog w) A C S₁ (execs orelse env) Φ))
    (n : Nat) (h : I n S) : VF (model prog w) A C S (exec (.While test body orelse pos) env) Φ := fun s Q E J hq => by
  refine wpAny_While (codeAny_whileLoop (fun n s => ∃ S, Inv C S s ∧ I n S) ?_ n ⟨S, J, h⟩)
  rintro n s ⟨S, J, h⟩
  refine turn n S h s _ _ J fun b s₁ S₁ J₁ h₁ => ?_
  cases b with
  | true =>
    rw [if_pos (by rfl)]
    refine h₁.1 rfl s₁ _ _ J₁ fun f s₂ S₂ J₂ h₂ => ?_
    cases f with
    | next => obtain ⟨m, hm, h⟩ := h₂; exact ⟨m, hm, S₂, J₂, h⟩
    | cont => obtain ⟨m, hm, h⟩ := h₂; exact ⟨m, hm, S₂, J₂, h⟩
    | brk => exact hq _ _ _ J₂ h₂
    | ret v => exact hq _ _ _ J₂ h₂
  | false =>
    rw [if_neg (by decide)]
    exact h₁.2 rfl s₁ _ _ J₁ fun f s₂ S₂ J₂ h₂ => hq _ _ _ J₂ h₂

theorem V.forLoop {target it body orelse} {Φ : Flow → St → Prop} (I : Nat → St → Prop)
    (turn : ∀ n S, I n S → VN (model prog w) A C S (pyNext it) fun r S₁ => match r with
      | none => VF (model prog w) A C S₁ (execs orelse env) Φ
      | some v => ∀ v', nt v' = v → VU (model prog w) A C S₁ (assign target env v') fun _ S₂ => VF (model prog w) A C S₂ (execs body env) fun f S₃ => match f with
          | .next | .cont => ∃ m, m < n ∧ I m S₃ | .brk => Φ .next S₃ | .ret v => Φ (.ret v) S₃)
    (n : Nat) (h : I n S) (ht : ∀ v, letOwnedTupleGo target it v = pure () := by intro _; with_unfolding_all rfl) : VK (model prog w) A C S (.forLoop target it body orelse env) Φ := fun s R J hq => by
  refine codeAny_forLoop (fun n s => ∃ S, Inv C S s ∧ I n S) ?_ n ⟨S, J, h⟩ ht
  rintro n s ⟨S, J, h⟩
  refine turn n S h s _ _ J fun r s₁ S₁ J₁ h₁ => ?_
  cases r with
  | none => exact h₁ s₁ _ _ J₁ fun f s₂ S₂ J₂ h₂ => hq _ _ _ J₂ h₂
  | some v =>
    refine h₁ v rfl s₁ _ _ J₁ fun _ s₂ S₂ J₂ h₂ => h₂ s₂ _ _ J₂ fun f s₃ S₃ J₃ h₃ => ?_
    cases f with
    | next => obtain ⟨m, hm, h⟩ := h₃; exact ⟨m, hm, S₃, J₃, h⟩
    | cont => obtain ⟨m, hm, h⟩ := h₃; exact ⟨m, hm, S₃, J₃, h⟩
    | brk => exact hq _ _ _ J₃ h₃
    | ret v => exact hq _ _ _ J₃ h₃

theorem V.for_ {target iter body orelse pos} {Φ : Flow → St → Prop}
    (h : VP (model prog w) A C S (eval iter env) fun x S₁ => ∀ x', nt x' = x → VP (model prog w) A C S₁ (pyIter x') fun it S₂ => ∀ it', nt it' = it → VK (model prog w) A C S₂ (.forLoop target it' body orelse env) Φ)
    (hs : ∀ x, foldedSetIterable iter env x = pure x := by intro _; with_unfolding_all rfl) : VF (model prog w) A C S (exec (.For target iter body orelse pos) env) Φ := fun s Q E J hq =>
  wpAny_For (h s _ _ J fun x s₁ S₁ J₁ h₁ => h₁ x rfl s₁ _ _ J₁ fun it s₂ S₂ J₂ h₂ => h₂ it rfl s₂ _ J₂ fun f s₃ S₃ J₃ h₃ => hq _ _ _ J₃ h₃) hs

theorem V.assign_Name {x pos v} {Φ : Unit → St → Prop} (h : VU (model prog w) A C S (storeName env x v) Φ) : VU (model prog w) A C S (assign (.Name x pos) env v) Φ := fun s Q E J hq =>
  wpAny_assign_Name (h s Q E J hq)
end
end Mine

set_option Elab.async false
set_option linter.unusedVariables false
namespace Mine
open PySem PyProof.Rows PySem.Calls PySem.W

noncomputable def At (C : Cx) (S : St) (a : Addr) (o : Obj) : Prop := C.K.lookup a = some o ∨ (a, Ch.ob o) ∈ S
theorem At.get {C : Cx} {S : St} {s : Shared} (I : Inv C S s) {a : Addr} {o : Obj} (h : At C S a o) : s.heap.get? a = some o := by
  rcases h with h | h
  · exact I.known _ _ h
  · obtain ⟨o', h1, rfl⟩ := I.get h; exact h1

abbrev VL (M : Model) (A : Around) (C : Cx) (S : St) (m : Sem (List Value)) (Φ : List Value → St → Prop) : Prop := VG M A C (List.map nt) S m Φ

noncomputable def Code1 (C : Cx) (S : St) (fd : FuncData) : Prop :=
  ∃ c oc vs tq, fd.code = .ref c ∧ At C S c oc ∧ oc.data = .fields vs ∧ vs[1]? = some (.str fd.qualname tq)

theorem Code1.get {C : Cx} {S : St} {s : Shared} (I : Inv C S s) {fd : FuncData} (h : Code1 C S fd) : s.heap.CodeRec fd.code fd.qualname := by
  obtain ⟨c, oc, vs, tq, h1, h2, h3, h4⟩ := h
  exact ⟨c, oc, vs, tq, h1, h2.get I, h3, h4⟩

@[reducible] noncomputable def envF (fd : FuncData) (L a : Addr) (cells : List (Str × Addr)) : Env :=
  { scope := fd.scope, locals := L, globals := fd.globals, cells := cells, qual := fd.qualname ++ ".<locals>.", func := some a, code := fd.code, frame := some L, builtins := fd.builtins }
theorem envF_eq (fd : FuncData) (L a : Addr) (cells : List (Str × Addr)) : newEnv fd.scope L fd.globals cells (fd.qualname ++ ".<locals>.") (some a) fd.code none fd.builtins = envF fd L a cells := rfl

noncomputable def retOf : Flow → Value
  | .ret v => v
  | _ => .none

theorem lookup_rev {binds : List (Str × Value)} (hn : (binds.map Prod.fst).Nodup) {x : Str} {v : Value} (hm : (x, v) ∈ binds) : binds.reverse.lookup x = some v := by
  induction binds with
  | nil => cases hm
  | cons p r ih =>
    rw [List.map_cons, List.nodup_cons] at hn
    rw [List.reverse_cons, List.lookup_append]
    rcases List.mem_cons.mp hm with e | hm
    · subst e
      have : r.reverse.lookup x = none := by
        rw [List.lookup_eq_none_iff]
        intro p hp
        simp only [bne_iff_ne, ne_eq]
        intro e
        exact hn.1 (List.mem_map.mpr ⟨p, List.mem_reverse.mp hp, e.symm⟩)
      rw [this]; simp
    · rw [ih hn.2 hm]; rfl

section
variable {prog : Program} {w : World} {A : Around} {C : Cx} {S S' : St} {env : Env}

theorem V.newEnv {scope : Scope} {globals : Addr} {closure : List (Str × Addr)} {binds : List (Str × Value)} {qual : Str} {func : Option Addr} {code : Value} {around : Option Env} {builtins : Addr} {Φ : Env → St → Prop}
    (hc : ∀ x ∈ scope.names, x.2 ≠ .cell) (hl : ∀ x ∈ binds, scope.names.lookup x.1 = some .local) (hn : (binds.map Prod.fst).Nodup)
    (h : ∀ L, Φ (newEnv scope L globals closure qual func code around builtins) ((L, .ns (binds.map fun x => (x.1, nt x.2))) :: S)) (hk : scope.kind = .function := by with_unfolding_all rfl) :
    VG (model prog w) A C (fun x => x) S (newFunctionEnv scope globals closure binds qual func code around builtins) Φ := fun s Q E I hq => by
  refine wpAny_newFunctionEnv hc hl (fun h' hn' hs => hq _ _ ((s.heap.objs.size, .ns (binds.map fun x => (x.1, nt x.2))) :: S) ?_ (h _)) hk
  have hlt : ∀ p ∈ S, p.1 ≠ s.heap.objs.size := fun p hp e => by obtain ⟨o', h, _⟩ := I.is p hp; exact Nat.lt_irrefl _ (e ▸ Heap.lt_size h)
  refine I.ext (a := s.heap.objs.size) I.size_fresh ?_ ?_ (fun b o hb e => hs.extBut b o hb (Heap.get?_push_of_some _ e)) _
  · intro p hp
    rcases List.mem_cons.mp hp with rfl | hp
    · refine .inr ⟨I.size_fresh, fits_ns hn' fun x v hm => ?_⟩
      obtain ⟨⟨y, u⟩, hm', e⟩ := List.mem_map.mp hm
      cases e
      exact ⟨u, lookup_rev hn hm', rfl⟩
    · exact .inl ⟨hp, hlt p hp⟩
  · refine List.nodup_cons.mpr ⟨fun hm => ?_, I.nod⟩
    obtain ⟨p, hp, e⟩ := List.mem_map.mp hm
    exact hlt p hp e

theorem V.call_fn {a : Addr} {o : Obj} {fd : FuncData} {body : List Stmt} {vals : List Value} {binds : List (Str × Value)} {Φ : Value → St → Prop}
    (ho : At C S a o) (hd : o.data = .func fd) (hcd : Code1 C S fd) (hb : fd.body = .stmts body) (hbind : bindArgs fd ⟨vals, []⟩ = pure binds) (hroom : A.depth < recursionLimit)
    (hc : ∀ x ∈ fd.scope.names, x.2 ≠ .cell) (hl : (binds.all fun x => decide (fd.scope.names.lookup x.1 = some .local)) = true) (hn : decide (binds.map Prod.fst).Nodup = true)
    (h : ∀ L, VF (model prog w) (A.deeper (envF fd L a fd.closure)) C ((L, .ns (binds.map fun x => (x.1, nt x.2))) :: S) (execs body (envF fd L a fd.closure)) fun f S' => Φ (retOf f) S')
    (hco : fd.scope.isCoroutine = false := by with_unfolding_all rfl) (hgen : fd.scope.isGenerator = false := by with_unfolding_all rfl) (hk : fd.scope.kind = .function := by with_unfolding_all rfl) :
    VP (model prog w) A C S (call (.ref a) vals) Φ := fun s Q E I hq => by
  refine wpAny_call (codeAny_call_function hroom (ho.get I) hd hco hgen hb (hcd.get I) ?_)
  rw [hbind]
  refine wpAny_pure (V.newEnv (Φ := fun env' S' => ∃ L, env' = envF fd L a fd.closure ∧ S' = ((L, Ch.ns (binds.map fun x => (x.1, nt x.2))) :: S)) hc (locs hl) (of_decide_eq_true hn) (fun L => ?_) hk s _ _ I fun env' s' S' I' h' => ?_)
  · exact ⟨L, envF_eq .., rfl⟩
  · obtain ⟨L, rfl, rfl⟩ := h'
    refine ⟨I'.nolimit, codeAny_func (h L s' _ _ I' fun f s'' S'' I'' h'' => ?_)⟩
    cases f <;> exact hq _ _ _ I'' h''

theorem V.sp_nil {Φ : List Value → St → Prop} (h : Φ [] S) : VL (model prog w) A C S (spliced []) Φ := fun s Q E I hq => spliced_nil (hq [] s S I h)
theorem V.sp_cons {x : Sem Value} {rest : List (Bool × Sem Value)} {Φ : List Value → St → Prop} (h : VP (model prog w) A C S x fun v S₁ => VL (model prog w) A C S₁ (spliced rest) fun vs S₂ => Φ (v :: vs) S₂) :
    VL (model prog w) A C S (spliced ((false, x) :: rest)) Φ := fun s Q E I hq =>
  spliced_cons (h s _ E I fun v s₁ S₁ I₁ h₁ => h₁ s₁ _ E I₁ fun vs s₂ S₂ I₂ h₂ => hq (v :: vs) s₂ S₂ I₂ h₂)

theorem V.call_name {x : Str} {p pos : Pos} {args : List Expr} {trees : List (Bool × Sem Value)} {Φ : Value → St → Prop}
    (h : VP (model prog w) A C S (eval (.Name x p) env) fun f S₁ => ∀ f', nt f' = f → VP (model prog w) A C S₁ (callWith pos f' [] trees []) Φ)
    (ht : backTo pos (starEach args env) = trees := by with_unfolding_all rfl) :
    VP (model prog w) A C S (eval (.Call (.Name x p) args [] pos) env) Φ := fun s Q E I hq =>
  PyProof.Rows.Call_Name ht (h s _ E I fun f s₁ S₁ I₁ h₁ => h₁ f rfl s₁ Q E I₁ hq)



noncomputable def Callee (M : Model) (C : Cx) (S : St) (f : Value) : Prop := ∀ s, Inv C S s → ∃ k, (k = Keeper.frame ∨ k = Keeper.machine ∨ k = Keeper.boundFrame) ∧ Looks M s.heap (keeperOf f) k
theorem Callee.type {M : Model} {t : String} : Callee M C S (.type t) := fun _ _ => ⟨.machine, .inr (.inl rfl), Looks.of_pure rfl⟩
theorem Callee.builtin {M : Model} {t : String} : Callee M C S (.builtin t) := fun _ _ => ⟨.machine, .inr (.inl rfl), Looks.of_pure rfl⟩
theorem Callee.fn {M : Model} {a : Addr} {o : Obj} {fd : FuncData} (ho : At C S a o) (hd : o.data = .func fd) : Callee M C S (.ref a) := fun s I => by
  obtain ⟨c, d, dt, sl⟩ := o
  obtain rfl : dt = .func fd := hd
  exact ⟨.frame, .inl rfl, (Looks.ld (part := none) (ho.get I)).andThen .now⟩
theorem Callee.cls {M : Model} {a : Addr} (hk : keepIn C.K (.ref a) = true) : Callee M C S (.ref a) := fun s I => keeps_K hk _ I.known

theorem V.callWith0 {pos : Pos} {f : Value} {first : List Value} {Φ : Value → St → Prop} (hf : Callee (model prog w) C S f) (h : VP (model prog w) A C S (call f first) Φ) :
    VP (model prog w) A C S (callWith pos f first [] []) Φ := fun s Q E I hq =>
  callWith_of (P := fun h => ∃ k, (k = Keeper.frame ∨ k = Keeper.machine ∨ k = Keeper.boundFrame) ∧ Looks (model prog w) h (keeperOf f) k) rfl (fun _ p => p)
    (evalArgs_nil3 ⟨hf s I, by simpa using h s Q E I hq⟩)
theorem V.callWith1 {pos : Pos} {f : Value} {first : List Value} {x : Sem Value} {rest : List (Bool × Sem Value)} {Φ : Value → St → Prop}
    (h : VL (model prog w) A C S (spliced ((false, x) :: rest)) fun vs S₁ => Callee (model prog w) C S₁ f ∧ ∀ vs', vs'.map nt = vs → VP (model prog w) A C S₁ (call f (first ++ vs')) Φ) (hp : (((false, x) :: rest).any (·.1) || ([] : List (Option Str × Sem Value)).any (·.1.isNone)) = false := by with_unfolding_all rfl) :
    VP (model prog w) A C S (callWith pos f first ((false, x) :: rest) []) Φ := fun s Q E I hq =>
  callWith_of (P := fun h => ∃ k, (k = Keeper.frame ∨ k = Keeper.machine ∨ k = Keeper.boundFrame) ∧ Looks (model prog w) h (keeperOf f) k) hp (fun _ p => p)
    (evalArgs_plain (h s _ _ I fun vs s₁ S₁ I₁ h₁ => ⟨h₁.1 s₁ I₁, h₁.2 vs rfl s₁ _ _ I₁ hq⟩))

theorem V.call_meth {o : Expr} {name : Str} {apos pos : Pos} {args : List Expr} {trees : List (Bool × Sem Value)} {pl : Sem Bool} {Φ : Value → St → Prop}
    (h : VP (model prog w) A C S (eval o env) fun ov S₁ => ∀ ov', nt ov' = ov → VG (model prog w) A C (fun x => x) S₁ (getMethod ov' name pl) fun fx S₂ => VP (model prog w) A C S₂ (callWith pos fx.1 fx.2 trees []) Φ)
    (ht : backTo pos (starEach args env) = trees := by with_unfolding_all rfl)
    (he : eval (.Call (.Attribute o name apos) args [] pos) env = (do
      let ov ← eval o env
      standAt apos.atName
      let (f, first) ← holding [ov] (getMethod ov name pl)
      callWith pos f first (backTo pos (starEach args env)) []) := by with_unfolding_all rfl) :
    VP (model prog w) A C S (eval (.Call (.Attribute o name apos) args [] pos) env) Φ := fun s Q E I hq =>
  PyProof.Rows.MethodCall_ (pl := pl) (h s _ _ I fun ov s₁ S₁ I₁ h₁ => h₁ ov rfl s₁ _ _ I₁ fun fx s₂ S₂ I₂ h₂ => by rw [ht]; exact h₂ s₂ Q E I₂ hq) he

end
end Mine

set_option Elab.async false
set_option linter.unusedVariables false
namespace Mine
open PySem PyProof.Rows PySem.Calls PySem.W

structure Tbl (C : Cx) (gl bl : List (Str × Value)) : Prop where
  g : ∀ x v, (x, v) ∈ gl → ∃ v', C.mg x = some v' ∧ nt v' = v
  b : ∀ x v, (x, v) ∈ bl → C.mg x = none ∧ ∃ v', C.mb x = some v' ∧ nt v' = v

section
variable {prog : Program} {w : World} {A : Around} {C : Cx} {S S' : St} {env : Env}

theorem V.load_global {x : Str} {v : Value} {gl bl} {Φ : Value → St → Prop} (T : Tbl C gl bl) (hm : (x, v) ∈ gl) (h : Φ v S)
    (hk : env.scope.kind = .function := by with_unfolding_all rfl) (hx : env.kindOf x = some .globalImplicit := by with_unfolding_all rfl) (hg : env.globals = mainGlobals := by with_unfolding_all rfl) : VP (model prog w) A C S (loadName env x) Φ := fun s Q E I hq => by
  obtain ⟨v', h1, rfl⟩ := T.g x v hm
  rw [loadName_read hk hx]
  exact loadGlobal_global (hg ▸ I.g) h1 (hq _ _ _ I h)
theorem V.load_builtin {x : Str} {v : Value} {gl bl} {Φ : Value → St → Prop} (T : Tbl C gl bl) (hm : (x, v) ∈ bl) (h : Φ v S)
    (hk : env.scope.kind = .function := by with_unfolding_all rfl) (hx : env.kindOf x = some .globalImplicit := by with_unfolding_all rfl) (hg : env.globals = mainGlobals := by with_unfolding_all rfl) (hb : env.builtins = builtinsNs := by with_unfolding_all rfl) : VP (model prog w) A C S (loadName env x) Φ := fun s Q E I hq => by
  obtain ⟨h0, v', h1, rfl⟩ := T.b x v hm
  rw [loadName_read hk hx]
  exact loadGlobal_builtin (hg ▸ I.g) h0 (hb ▸ I.b) h1 (hq _ _ _ I h)

theorem VO {op2 : Value → Value → Sem Value} {a b : Value} {Φ : Value → St → Prop} (h : ∀ a' b', nt a' = a → nt b' = b → VP (model prog w) A C S (op2 a' b') Φ) :
    ∀ a' b', nt a' = a → nt b' = b → VP (model prog w) A C S (op2 a' b') Φ := h

theorem VO.add_int {a b : Int} {t u : Tok} {Φ : Value → St → Prop} (h : Φ (.int (a + b) 0) S) : ∀ a' b', nt a' = .int a t → nt b' = .int b u → VP (model prog w) A C S (binaryOp .Add a' b') Φ := by
  intro a' b' ha hb; obtain ⟨t, rfl⟩ := nt_int ha; obtain ⟨u, rfl⟩ := nt_int hb
  exact fun s Q E I hq => P.add_int (hq _ _ _ (I.tok _) h)
theorem VO.sub_int {a b : Int} {t u : Tok} {Φ : Value → St → Prop} (h : Φ (.int (a - b) 0) S) : ∀ a' b', nt a' = .int a t → nt b' = .int b u → VP (model prog w) A C S (binaryOp .Sub a' b') Φ := by
  intro a' b' ha hb; obtain ⟨t, rfl⟩ := nt_int ha; obtain ⟨u, rfl⟩ := nt_int hb
  exact fun s Q E I hq => P.sub_int (hq _ _ _ (I.tok _) h)
theorem VO.iadd_int {a b : Int} {t u : Tok} {Φ : Value → St → Prop} (h : Φ (.int (a + b) 0) S) : ∀ a' b', nt a' = .int a t → nt b' = .int b u → VP (model prog w) A C S (inplaceOp .Add a' b') Φ := by
  intro a' b' ha hb; obtain ⟨t, rfl⟩ := nt_int ha; obtain ⟨u, rfl⟩ := nt_int hb
  exact fun s Q E I hq => P.iadd_int (hq _ _ _ (I.tok _) h)
theorem VO.isub_int {a b : Int} {t u : Tok} {Φ : Value → St → Prop} (h : Φ (.int (a - b) 0) S) : ∀ a' b', nt a' = .int a t → nt b' = .int b u → VP (model prog w) A C S (inplaceOp .Sub a' b') Φ := by
  intro a' b' ha hb; obtain ⟨t, rfl⟩ := nt_int ha; obtain ⟨u, rfl⟩ := nt_int hb
  exact fun s Q E I hq => P.isub_int (hq _ _ _ (I.tok _) h)
theorem VO.mul_int {a b : Int} {t u : Tok} {Φ : Value → St → Prop} (h : Φ (.int (a * b) 0) S) (hm : IntMulOk a b) : ∀ a' b', nt a' = .int a t → nt b' = .int b u → VP (model prog w) A C S (binaryOp .Mult a' b') Φ := by
  intro a' b' ha hb; obtain ⟨t, rfl⟩ := nt_int ha; obtain ⟨u, rfl⟩ := nt_int hb
  exact fun s Q E I hq => P.mul_int (hq _ _ _ (I.tok _) h) hm
theorem VO.mod_int {a b : Int} {t u : Tok} {Φ : Value → St → Prop} (h : Φ (.int (a.fmod b) 0) S) (hb0 : b ≠ 0) : ∀ a' b', nt a' = .int a t → nt b' = .int b u → VP (model prog w) A C S (binaryOp .Mod a' b') Φ := by
  intro a' b' ha hb; obtain ⟨t, rfl⟩ := nt_int ha; obtain ⟨u, rfl⟩ := nt_int hb
  exact fun s Q E I hq => PyProof.Rows.mod_int' hb0 (hq _ _ _ (I.tok _) h)
theorem VO.fdiv_int {a b : Int} {t u : Tok} {Φ : Value → St → Prop} (h : Φ (.int (a.fdiv b) 0) S) (hb0 : b ≠ 0) (hs : b.natAbs < 1073741824) : ∀ a' b', nt a' = .int a t → nt b' = .int b u → VP (model prog w) A C S (binaryOp .FloorDiv a' b') Φ := by
  intro a' b' ha hb; obtain ⟨t, rfl⟩ := nt_int ha; obtain ⟨u, rfl⟩ := nt_int hb
  exact fun s Q E I hq => PyProof.Rows.floordiv_int hb0 (hq _ _ _ (I.tok _) h) (Or.inl (PyProof.noPylong_small hs))
theorem VO.pow_int {a b : Int} {t u : Tok} {Φ : Value → St → Prop} (h : Φ (.int (a ^ b.toNat) 0) S) (hb0 : 0 ≤ b) (hb1 : b ≤ 1000000) (hs : a.natAbs < 2 ^ 64) : ∀ a' b', nt a' = .int a t → nt b' = .int b u → VP (model prog w) A C S (binaryOp .Pow a' b') Φ := by
  intro a' b' ha hb; obtain ⟨t, rfl⟩ := nt_int ha; obtain ⟨u, rfl⟩ := nt_int hb
  exact fun s Q E I hq => PyProof.Rows.pow_int_small hb0 hb1 hs (hq _ _ _ (I.tok _) h)
theorem VO.eq_int {a b : Int} {t u : Tok} {Φ : Value → St → Prop} (h : Φ (.bool (a == b)) S) : ∀ a' b', nt a' = .int a t → nt b' = .int b u → VP (model prog w) A C S (compareOp .Eq a' b') Φ := by
  intro a' b' ha hb; obtain ⟨t, rfl⟩ := nt_int ha; obtain ⟨u, rfl⟩ := nt_int hb
  exact fun s Q E I hq => P.eq_int (hq _ _ _ I h)
theorem VO.ne_int {a b : Int} {t u : Tok} {Φ : Value → St → Prop} (h : Φ (.bool (a != b)) S) : ∀ a' b', nt a' = .int a t → nt b' = .int b u → VP (model prog w) A C S (compareOp .NotEq a' b') Φ := by
  intro a' b' ha hb; obtain ⟨t, rfl⟩ := nt_int ha; obtain ⟨u, rfl⟩ := nt_int hb
  exact fun s Q E I hq => P.ne_int (hq _ _ _ I h)
theorem VO.lt_int {a b : Int} {t u : Tok} {Φ : Value → St → Prop} (h : Φ (.bool (decide (a < b))) S) : ∀ a' b', nt a' = .int a t → nt b' = .int b u → VP (model prog w) A C S (compareOp .Lt a' b') Φ := by
  intro a' b' ha hb; obtain ⟨t, rfl⟩ := nt_int ha; obtain ⟨u, rfl⟩ := nt_int hb
  exact fun s Q E I hq => P.lt_int (hq _ _ _ I h)
theorem VO.le_int {a b : Int} {t u : Tok} {Φ : Value → St → Prop} (h : Φ (.bool (decide (a ≤ b))) S) : ∀ a' b', nt a' = .int a t → nt b' = .int b u → VP (model prog w) A C S (compareOp .LtE a' b') Φ := by
  intro a' b' ha hb; obtain ⟨t, rfl⟩ := nt_int ha; obtain ⟨u, rfl⟩ := nt_int hb
  exact fun s Q E I hq => P.le_int (hq _ _ _ I h)
theorem VO.gt_int {a b : Int} {t u : Tok} {Φ : Value → St → Prop} (h : Φ (.bool (decide (a > b))) S) : ∀ a' b', nt a' = .int a t → nt b' = .int b u → VP (model prog w) A C S (compareOp .Gt a' b') Φ := by
  intro a' b' ha hb; obtain ⟨t, rfl⟩ := nt_int ha; obtain ⟨u, rfl⟩ := nt_int hb
  exact fun s Q E I hq => P.gt_int (hq _ _ _ I h)
theorem VO.ge_int {a b : Int} {t u : Tok} {Φ : Value → St → Prop} (h : Φ (.bool (decide (a ≥ b))) S) : ∀ a' b', nt a' = .int a t → nt b' = .int b u → VP (model prog w) A C S (compareOp .GtE a' b') Φ := by
  intro a' b' ha hb; obtain ⟨t, rfl⟩ := nt_int ha; obtain ⟨u, rfl⟩ := nt_int hb
  exact fun s Q E I hq => P.ge_int (hq _ _ _ I h)

theorem VO.add_str {a b : Str} {t u : Tok} {Φ : Value → St → Prop} (h : Φ (.str (a ++ b) 0) S) (hsz : a.length + b.length ≤ sizeLine) : ∀ a' b', nt a' = .str a t → nt b' = .str b u → VP (model prog w) A C S (binaryOp .Add a' b') Φ := by
  intro a' b' ha hb; obtain ⟨t, rfl⟩ := nt_str ha; obtain ⟨u, rfl⟩ := nt_str hb
  exact fun s Q E I hq => PyProof.Rows.add_str (fun t' tk => hq _ _ _ (I.tok _) h) hsz
theorem VO.iadd_str {a b : Str} {t u : Tok} {Φ : Value → St → Prop} (h : Φ (.str (a ++ b) 0) S) (hsz : a.length + b.length ≤ sizeLine) : ∀ a' b', nt a' = .str a t → nt b' = .str b u → VP (model prog w) A C S (inplaceOp .Add a' b') Φ := by
  intro a' b' ha hb; obtain ⟨t, rfl⟩ := nt_str ha; obtain ⟨u, rfl⟩ := nt_str hb
  exact fun s Q E I hq => PyProof.Rows.iadd_str (fun t' tk => hq _ _ _ (I.tok _) h) hsz
theorem VO.sub_bool {a b : Bool} {Φ : Value → St → Prop} (h : Φ (.int (b2i a - b2i b) 0) S) : ∀ a' b', nt a' = .bool a → nt b' = .bool b → VP (model prog w) A C S (binaryOp .Sub a' b') Φ := by
  intro a' b' ha hb; obtain rfl := nt_bool ha; obtain rfl := nt_bool hb
  exact fun s Q E I hq => PyProof.Rows.sub_bool (hq _ _ _ (I.tok _) h)
theorem VO.eq_str {a b : Str} {t u : Tok} {Φ : Value → St → Prop} (h : Φ (.bool (a == b)) S) : ∀ a' b', nt a' = .str a t → nt b' = .str b u → VP (model prog w) A C S (compareOp .Eq a' b') Φ := by
  intro a' b' ha hb; obtain ⟨t, rfl⟩ := nt_str ha; obtain ⟨u, rfl⟩ := nt_str hb
  exact fun s Q E I hq => PyProof.Rows.eq_str (hq _ _ _ I h)
theorem VO.ne_str {a b : Str} {t u : Tok} {Φ : Value → St → Prop} (h : Φ (.bool (a != b)) S) : ∀ a' b', nt a' = .str a t → nt b' = .str b u → VP (model prog w) A C S (compareOp .NotEq a' b') Φ := by
  intro a' b' ha hb; obtain ⟨t, rfl⟩ := nt_str ha; obtain ⟨u, rfl⟩ := nt_str hb
  exact fun s Q E I hq => PyProof.Rows.ne_str (hq _ _ _ I h)
theorem VO.lt_str {a b : Str} {t u : Tok} {Φ : Value → St → Prop} (h : Φ (.bool (decide (a.cps.toList < b.cps.toList))) S) : ∀ a' b', nt a' = .str a t → nt b' = .str b u → VP (model prog w) A C S (compareOp .Lt a' b') Φ := by
  intro a' b' ha hb; obtain ⟨t, rfl⟩ := nt_str ha; obtain ⟨u, rfl⟩ := nt_str hb
  exact fun s Q E I hq => PyProof.Rows.lt_str (hq _ _ _ I h)
theorem VO.gt_str {a b : Str} {t u : Tok} {Φ : Value → St → Prop} (h : Φ (.bool (decide (b.cps.toList < a.cps.toList))) S) : ∀ a' b', nt a' = .str a t → nt b' = .str b u → VP (model prog w) A C S (compareOp .Gt a' b') Φ := by
  intro a' b' ha hb; obtain ⟨t, rfl⟩ := nt_str ha; obtain ⟨u, rfl⟩ := nt_str hb
  exact fun s Q E I hq => PySem.P.gt_str (hq _ _ _ I h)
theorem VO.in_str {a b : Str} {t u : Tok} {Φ : Value → St → Prop} (h : Φ (.bool !(Builtin.Str.occurrences b a 0 b.length 1).isEmpty) S) : ∀ a' b', nt a' = .str a t → nt b' = .str b u → VP (model prog w) A C S (compareOp .In a' b') Φ := by
  intro a' b' ha hb; obtain ⟨t, rfl⟩ := nt_str ha; obtain ⟨u, rfl⟩ := nt_str hb
  exact fun s Q E I hq => PyProof.Rows.in_str (hq _ _ _ I h)
theorem VO.notIn_str {a b : Str} {t u : Tok} {Φ : Value → St → Prop} (h : Φ (.bool !(!(Builtin.Str.occurrences b a 0 b.length 1).isEmpty)) S) : ∀ a' b', nt a' = .str a t → nt b' = .str b u → VP (model prog w) A C S (compareOp .NotIn a' b') Φ := by
  intro a' b' ha hb; obtain ⟨t, rfl⟩ := nt_str ha; obtain ⟨u, rfl⟩ := nt_str hb
  exact fun s Q E I hq => PyProof.Rows.notIn_str (hq _ _ _ I h)

theorem V.ord {c : Nat} {v : Value} {Φ : Value → St → Prop} (hv : nt v = .str ⟨#[c]⟩ 0) (h : Φ (.int c 0) S) : VP (model prog w) A C S (call (.builtin "ord") [v]) Φ := fun s Q E I hq => by
  obtain ⟨t, rfl⟩ := nt_str hv
  exact P.ord_of_char (hq _ _ _ (I.tok _) h)
theorem V.chr {i : Int} {v : Value} {Φ : Value → St → Prop} (hv : nt v = .int i 0) (hi : (decide (i < 0) || decide (i > 0x10FFFF)) = false) (h : Φ (.str ⟨#[i.toNat]⟩ 0) S) : VP (model prog w) A C S (call (.builtin "chr") [v]) Φ := fun s Q E I hq => by
  obtain ⟨t, rfl⟩ := nt_int hv
  exact P.chr_of_int hi (hq _ _ _ (I.tok _) h)
theorem V.len_str {x : Str} {v : Value} {Φ : Value → St → Prop} (hv : nt v = .str x 0) (hi : x.length ≤ sizeLine) (h : Φ (.int x.length 0) S) : VP (model prog w) A C S (call (.builtin "len") [v]) Φ := fun s Q E I hq => by
  obtain ⟨t, rfl⟩ := nt_str hv
  exact PyProof.Rows.len_str (by rw [sizeLine_eq] at hi; omega) (hq _ _ _ (I.tok _) h)
theorem V.len_list {l : Addr} {xs : List Value} {v : Value} {Φ : Value → St → Prop} (hv : nt v = .ref l) (hl : IsL C S l xs) (hi : xs.length ≤ sizeLine) (h : Φ (.int xs.length 0) S) : VP (model prog w) A C S (call (.builtin "len") [v]) Φ := fun s Q E I hq => by
  obtain rfl := nt_ref hv
  obtain ⟨vs, hl', hx⟩ := hl s I
  have e : (vs.size : Int) = xs.length := by rw [← hx]; simp
  refine PyProof.Rows.len_list hl' (by rw [sizeLine_eq] at hi; omega) ?_
  exact hq _ _ _ (I.tok _) (by show Φ (.int (vs.size : Int) 0) S; rw [e]; exact h)
theorem V.min2 {i j : Int} {v u : Value} {Φ : Value → St → Prop} (hv : nt v = .int i 0) (hu : nt u = .int j 0) (hA : A.handled = none) (h : Φ (.int (if j < i then j else i) 0) S) : VP (model prog w) A C S (call (.builtin "min") [v, u]) Φ := fun s Q E I hq => by
  obtain ⟨t, rfl⟩ := nt_int hv
  obtain ⟨t', rfl⟩ := nt_int hu
  refine min_two_ints hA fun h' tk hk => ?_
  split
  · rename_i hlt; rw [if_pos hlt] at h; exact hq _ _ _ (I.keep hk _) h
  · rename_i hlt; rw [if_neg hlt] at h; exact hq _ _ _ (I.keep hk _) h
theorem V.range1 {n : Int} {v : Value} {Φ : Value → St → Prop} (hv : nt v = .int n 0) (h : ∀ r, Φ (.ref r) ((r, .rng 0 n 1) :: S)) : VP (model prog w) A C S (call (.type "range") [v]) Φ := fun s Q E I hq => by
  obtain ⟨t, rfl⟩ := nt_int hv
  exact call_range_1 (hq _ _ _ (I.alloc (c := .rng 0 n 1) rfl ⟨_, _, _, rfl⟩ _) (h _))
theorem V.range2 {a b : Int} {v u : Value} {Φ : Value → St → Prop} (hv : nt v = .int a 0) (hu : nt u = .int b 0) (h : ∀ r, Φ (.ref r) ((r, .rng a b 1) :: S)) : VP (model prog w) A C S (call (.type "range") [v, u]) Φ := fun s Q E I hq => by
  obtain ⟨t, rfl⟩ := nt_int hv
  obtain ⟨t', rfl⟩ := nt_int hu
  exact call_range_2 (hq _ _ _ (I.alloc (c := .rng a b 1) rfl ⟨_, _, _, rfl⟩ _) (h _))
end
end Mine

set_option Elab.async false
set_option linter.unusedVariables false
namespace Mine
open PySem PyProof.Rows PySem.Calls PySem.W

section
variable {prog : Program} {w : World} {A : Around} {C : Cx} {S S' : St} {env : Env}

noncomputable def IsT (C : Cx) (S : St) (l : Addr) (xs : List Value) : Prop := ∀ s, Inv C S s → ∃ vs, IsTup s.heap l vs ∧ vs.toList.map nt = xs
theorem IsT.tup {l : Addr} {xs : List Value} (hm : (l, Ch.tup xs) ∈ S) : IsT C S l xs := fun s I => by
  obtain ⟨o, ho, vs, rfl, hx⟩ := I.get hm
  exact ⟨vs, ⟨_, ho, rfl, 0, rfl⟩, hx⟩

theorem wp_tail {E : Value → Shared → Prop} {s : Shared} {value slice : Expr} {o i : Value} {T id : String} {ops : List Value} {Q : Value → Shared → Prop} (hT : s.TypeIs o T)
    (hl : typeLookup (.type T) "__getitem__" = pure (some (.builtin id))) (h : wpAny (model prog w) A (getItem o i) Q E s)
    (hs : subscripted slice false o i = operate ops (getItem o i)) :
    wpAny (model prog w) A (subscriptTail value slice o i) Q E s := by
  unfold subscriptTail
  refine wpAny_bind ?_
  rw [getitemInPython_of_ne hT.not_modules]
  refine wpAny_bind (wpAny_specialOf hT hl ?_)
  have fin : wpAny (model prog w) A (subscripted slice false o i) (fun r s₃ => wpAny (model prog w) A (letTemporaryGo value o r >>= fun _ => pure r) Q E s₃) E s := by
    rw [hs]
    exact wpAny_operating (wpAny_mono h (fun r s₃ h₃ => wpAny_bind (wpAny_letTemporaryGo (wpAny_pure h₃))) fun _ _ x => x)
  first
    | exact wpAny_pure (wpAny_bind fin)
    | exact wpAny_bind (wpAny_pure (wpAny_bind fin))
    | exact wpAny_bind fin

theorem V.subscript {value slice : Expr} {pos : Pos} {Φ : Value → St → Prop}
    (h : VP (model prog w) A C S (eval value env) fun o S₁ => VP (model prog w) A C S₁ (eval slice env) fun i S₂ => ∀ o' i', nt o' = o → nt i' = i → VP (model prog w) A C S₂ (subscriptTail value slice o' i') Φ) :
    VP (model prog w) A C S (eval (.Subscript value slice pos) env) Φ := fun s Q E I hq =>
  Subscript_ (h s _ _ I fun o s₁ S₁ I₁ h₁ => h₁ s₁ _ _ I₁ fun i s₂ S₂ I₂ h₂ => h₂ o i rfl rfl s₂ Q E I₂ hq)

noncomputable def pyAt (n : Nat) (k : Int) : Nat := (if k < 0 then k + n else k).toNat
theorem list_at {s : Shared} {E : Value → Shared → Prop} {l : Addr} {vs : Array Value} {k : Int} {t : Tok} {x : Value} {Q : Value → Shared → Prop} (hl : s.heap.IsList l vs) (h0 : -(vs.size : Int) ≤ k) (hk : k < vs.size) (hz : vs.size ≤ sizeLine)
    (hx : vs[pyAt vs.size k]? = some x) (h : Q x s) : wpAny (model prog w) A (getItem (.ref l) (.int k t)) Q E s := by
  rw [sizeLine_eq] at hz
  by_cases hn : k < 0
  · exact wpAny_getItem_list_neg hl hn h0 (by omega) (by simpa [pyAt, hn] using hx) h
  · exact wpAny_getItem_list hl (by omega) (by omega) (by simpa [pyAt, hn] using hx) h

theorem V.item_list {l : Addr} {k : Int} {x : Value} {t : Tok} {xs : List Value} {Φ : Value → St → Prop} (hl : IsL C S l xs) (h0 : -(xs.length : Int) ≤ k) (hk : k < xs.length) (hz : xs.length ≤ sizeLine) (hx : xs[pyAt xs.length k]? = some x) (h : Φ x S) :
    VP (model prog w) A C S (getItem (.ref l) (.int k t)) Φ := fun s Q E I hq => by
  obtain ⟨vs, hv, e⟩ := hl s I
  have el : xs.length = vs.size := by rw [← e]; simp
  obtain ⟨y, hy, rfl⟩ := getElem_map e hx
  exact list_at hv (by omega) (by omega) (by omega) (el ▸ hy) (hq _ _ _ I h)
theorem V.tail_list {value slice : Expr} {l : Addr} {k : Int} {x : Value} {t : Tok} {xs : List Value} {Φ : Value → St → Prop} (hl : IsL C S l xs) (h0 : -(xs.length : Int) ≤ k) (hk : k < xs.length) (hz : xs.length ≤ sizeLine) (hx : xs[pyAt xs.length k]? = some x) (h : Φ x S)
    (hs : ∀ o i, subscripted slice false o i = operate [o, i] (getItem o i) := by intro _ _; with_unfolding_all rfl) :
    ∀ o' i', nt o' = .ref l → nt i' = .int k t → VP (model prog w) A C S (subscriptTail value slice o' i') Φ := by
  intro o' i' ho hi; obtain rfl := nt_ref ho; obtain ⟨t, rfl⟩ := nt_int hi
  intro s Q E I hq
  obtain ⟨vs, hv, e⟩ := hl s I
  exact wp_tail hv.typeIs slot_list_getitem.lookup (V.item_list hl h0 hk hz hx h s Q E I hq) (hs _ _)
theorem V.tail_tup {value slice : Expr} {l : Addr} {k : Nat} {x : Value} {t : Tok} {xs : List Value} {Φ : Value → St → Prop} (hl : IsT C S l xs) (hk : k < xs.length) (hz : xs.length ≤ sizeLine) (hx : xs[k]? = some x) (h : Φ x S)
    (hs : ∀ o i, subscripted slice false o i = operate [o, i] (getItem o i) := by intro _ _; with_unfolding_all rfl) :
    ∀ o' i', nt o' = .ref l → nt i' = .int k t → VP (model prog w) A C S (subscriptTail value slice o' i') Φ := by
  intro o' i' ho hi; obtain rfl := nt_ref ho; obtain ⟨t, rfl⟩ := nt_int hi
  intro s Q E I hq
  obtain ⟨vs, hv, e⟩ := hl s I
  have el : xs.length = vs.size := by rw [← e]; simp
  obtain ⟨y, hy, rfl⟩ := getElem_map e hx
  rw [sizeLine_eq] at hz
  have hj : seqIndex? (k : Int) vs.size = some k := by
    unfold seqIndex?
    have h1 : ¬ ((k : Int) < 0) := by omega
    have h2 : k < vs.size := by omega
    rw [if_neg h1]
    simp [h2]
  have hg : wpAny (model prog w) A (getItem (.ref l) (.int k t)) Q E s := getItem_tuple hv (by omega) (by omega) hj hy (hq _ _ _ I h)
  exact wp_tail hv.typeIs slot_tuple_getitem.lookup hg (hs _ _)
theorem V.tail_str {value slice : Expr} {x : Str} {k : Int} {c : Nat} {t u : Tok} {Φ : Value → St → Prop} (h0 : -(x.length : Int) ≤ k) (hk : k < x.length) (hz : x.length ≤ sizeLine) (hx : x.cps[pyAt x.length k]? = some c) (h : Φ (.str ⟨#[c]⟩ 0) S)
    (hs : ∀ o i, subscripted slice false o i = operate [o, i] (getItem o i) := by intro _ _; with_unfolding_all rfl) :
    ∀ o' i', nt o' = .str x u → nt i' = .int k t → VP (model prog w) A C S (subscriptTail value slice o' i') Φ := by
  intro o' i' ho hi; obtain ⟨u, rfl⟩ := nt_str ho; obtain ⟨t, rfl⟩ := nt_int hi
  intro s Q E I hq
  rw [sizeLine_eq] at hz
  refine wp_tail (typeIs_str s x u) slot_str_getitem.lookup (PyProof.Rows.getItem_str (c := c) (by simp; omega) ?_ (hq _ _ _ (I.tok _) h)) (hs _ _)
  unfold seqIndex?
  have hb : (decide (0 ≤ (if k < 0 then k + (x.length : Int) else k)) && decide ((if k < 0 then k + (x.length : Int) else k) < x.length)) = true := by
    split <;> simp <;> omega
  dsimp only
  rw [hb]
  simpa [pyAt] using hx

theorem V.list {elts : List Expr} {pos : Pos} {trees : List (Bool × Sem Value)} {Φ : Value → St → Prop} (h : VL (model prog w) A C S (spliced trees) fun vs S₁ => vs.length ≤ sizeLine ∧ ∀ a, Φ (.ref a) ((a, .lst vs) :: S₁))
    (ht : backTo pos (starEach elts env) = trees := by with_unfolding_all rfl) : VP (model prog w) A C S (eval (.List elts pos) env) Φ := fun s Q E I hq => by
  subst ht
  refine PyProof.Rows.List_ (h s _ _ I fun vs s₁ S₁ I₁ h₁ => wpAny_newObj_type (hq _ _ _ (I₁.allocs (c := .lst (vs.map nt)) rfl ⟨_, _, rfl, by simp⟩) (h₁.2 _)) ?_)
  show vs.toArray.size ≤ sizeLine
  rw [List.size_toArray]; simpa using h₁.1
theorem V.tuple {elts : List Expr} {k : Nat} {pos : Pos} {trees : List (Bool × Sem Value)} {Φ : Value → St → Prop} (h : VL (model prog w) A C S (spliced trees) fun vs S₁ => vs.length ≤ sizeLine ∧ ∀ a, Φ (.ref a) ((a, .tup vs) :: S₁))
    (ht : backTo pos (starEach elts env) = trees := by with_unfolding_all rfl) : VP (model prog w) A C S (eval (.Tuple elts k pos) env) Φ := fun s Q E I hq => by
  subst ht
  refine PyProof.Rows.Tuple_ (h s _ _ I fun vs s₁ S₁ I₁ h₁ => wpAny_newObj_type (hq _ _ _ (I₁.allocs (c := .tup (vs.map nt)) rfl ⟨_, rfl, by simp⟩) (h₁.2 _)) ?_)
  show vs.toArray.size ≤ sizeLine
  rw [List.size_toArray]; simpa using h₁.1

theorem V.ifexp {test body orelse pos} {Φ : Value → St → Prop}
    (h : VB (model prog w) A C S (isTrue test env (eval test env)) fun b S₁ => (b = true → VP (model prog w) A C S₁ (eval body env) Φ) ∧ (b = false → VP (model prog w) A C S₁ (eval orelse env) Φ)) :
    VP (model prog w) A C S (eval (.IfExp test body orelse pos) env) Φ := fun s Q E I hq =>
  wpAny_IfExp (h s _ E I fun b s₁ S₁ I₁ h₁ => by
    cases b with
    | true => exact h₁.1 rfl s₁ Q E I₁ hq
    | false => exact h₁.2 rfl s₁ Q E I₁ hq)
theorem V.t_not {x pos whole} {Φ : Bool → St → Prop} (h : VB (model prog w) A C S (isTrue x env (eval x env)) fun b S₁ => Φ (!b) S₁) : VB (model prog w) A C S (isTrue (.UnaryOp .Not x pos) env whole) Φ := fun s Q E I hq =>
  isTrue_not (h s _ E I fun b s₁ S₁ I₁ h₁ => hq _ _ _ I₁ h₁)
theorem V.t_and_nil {pos whole} {Φ : Bool → St → Prop} (h : Φ true S) : VB (model prog w) A C S (isTrue (.BoolOp .And [] pos) env whole) Φ := fun s Q E I hq => isTrue_and_nil (hq _ _ _ I h)
theorem V.t_or_nil {pos whole} {Φ : Bool → St → Prop} (h : Φ false S) : VB (model prog w) A C S (isTrue (.BoolOp .Or [] pos) env whole) Φ := fun s Q E I hq => isTrue_or_nil (hq _ _ _ I h)
theorem V.t_and {x rest pos whole} {Φ : Bool → St → Prop} (h : VB (model prog w) A C S (isTrue x env (eval x env)) fun b S₁ => (b = true → VB (model prog w) A C S₁ (isTrue (.BoolOp .And rest pos) env whole) Φ) ∧ (b = false → Φ false S₁)) :
    VB (model prog w) A C S (isTrue (.BoolOp .And (x :: rest) pos) env whole) Φ := fun s Q E I hq =>
  isTrue_and (h s _ E I fun b s₁ S₁ I₁ h₁ => by
    cases b with
    | true => exact h₁.1 rfl s₁ Q E I₁ hq
    | false => exact hq _ _ _ I₁ (h₁.2 rfl))
theorem V.t_or {x rest pos whole} {Φ : Bool → St → Prop} (h : VB (model prog w) A C S (isTrue x env (eval x env)) fun b S₁ => (b = false → VB (model prog w) A C S₁ (isTrue (.BoolOp .Or rest pos) env whole) Φ) ∧ (b = true → Φ true S₁)) :
    VB (model prog w) A C S (isTrue (.BoolOp .Or (x :: rest) pos) env whole) Φ := fun s Q E I hq =>
  isTrue_or (h s _ E I fun b s₁ S₁ I₁ h₁ => by
    cases b with
    | true => exact hq _ _ _ I₁ (h₁.2 rfl)
    | false => exact h₁.1 rfl s₁ Q E I₁ hq)
theorem V.t_plain {e : Expr} {whole : Sem Value} {Φ : Bool → St → Prop} (h : VP (model prog w) A C S whole fun v S₁ => ∀ v', nt v' = v → VB (model prog w) A C S₁ (truthy v') Φ)
    (he : isTrue e env whole = (do let v ← whole; standAt e.pos; holding [v] (truthy v)) := by with_unfolding_all rfl) : VB (model prog w) A C S (isTrue e env whole) Φ := fun s Q E I hq =>
  isTrue_plain (h s _ E I fun v s₁ S₁ I₁ h₁ => h₁ v rfl s₁ Q E I₁ hq) he

theorem V.expr {e pos} {Φ : Flow → St → Prop} (h : VP (model prog w) A C S (eval e env) fun v S₁ => v = .none ∧ Φ .next S₁)
    (hi : interactive env = false := by with_unfolding_all rfl) (hs : swapsWith e none pos.line env = pure false := by with_unfolding_all rfl) : VF (model prog w) A C S (exec (.Expr e pos) env) Φ := fun s Q E I hq =>
  wpAny_Expr (h s _ E I fun v s₁ S₁ I₁ h₁ => by obtain rfl := nt_none h₁.1; exact hq .next _ _ I₁ h₁.2) hi hs

theorem V.aug_sub {o i value : Expr} {tpos pos : Pos} {op : Operator} {Φ : Flow → St → Prop}
    (h : VP (model prog w) A C S (eval o env) fun ov S₁ => VP (model prog w) A C S₁ (eval i env) fun iv S₂ => ∀ ov' iv', nt ov' = ov → nt iv' = iv → VP (model prog w) A C S₂ (getItem ov' iv') fun old S₃ =>
      VP (model prog w) A C S₃ (eval value env) fun v S₄ => ∀ old' v', nt old' = old → nt v' = v → VP (model prog w) A C S₄ (inplaceOp op old' v') fun new S₅ => ∀ new', nt new' = new → VU (model prog w) A C S₅ (setItem ov' iv' new') fun _ S₆ => Φ .next S₆)
    (hi : ∀ ov iv new, augStore i ov iv new = (do holding [new, ov, iv] (setItem ov iv new); release [new, ov, iv] []; pure .next) := by intros; with_unfolding_all rfl) :
    VF (model prog w) A C S (exec (.AugAssign (.Subscript o i tpos) op value pos) env) Φ := fun s Q E I hq =>
  wpAny_AugAssign_SubscriptAny (h s _ E I fun ov s₁ S₁ I₁ h₁ => h₁ s₁ _ E I₁ fun iv s₂ S₂ I₂ h₂ => h₂ ov iv rfl rfl s₂ _ E I₂ fun old s₃ S₃ I₃ h₃ => h₃ s₃ _ E I₃ fun v s₄ S₄ I₄ h₄ => h₄ old v rfl rfl s₄ _ E I₄ fun new s₅ S₅ I₅ h₅ =>
    h₅ new rfl s₅ _ E I₅ fun _ s₆ S₆ I₆ h₆ => hq .next _ _ I₆ h₆) hi
theorem V.aug_attr {o value : Expr} {attr : Str} {tpos pos : Pos} {op : Operator} {Φ : Flow → St → Prop}
    (h : VP (model prog w) A C S (eval o env) fun ov S₁ => ∀ ov', nt ov' = ov → VP (model prog w) A C S₁ (getAttr ov' attr true) fun old S₃ =>
      VP (model prog w) A C S₃ (eval value env) fun v S₄ => ∀ old' v', nt old' = old → nt v' = v → VP (model prog w) A C S₄ (inplaceOp op old' v') fun new S₅ => ∀ new', nt new' = new → VU (model prog w) A C S₅ (setAttr ov' attr new') fun _ S₆ => Φ .next S₆) :
    VF (model prog w) A C S (exec (.AugAssign (.Attribute o attr tpos) op value pos) env) Φ := fun s Q E I hq =>
  wpAny_AugAssign_AttributeAny (h s _ E I fun ov s₁ S₁ I₁ h₁ => h₁ ov rfl s₁ _ E I₁ fun old s₃ S₃ I₃ h₃ => h₃ s₃ _ E I₃ fun v s₄ S₄ I₄ h₄ => h₄ old v rfl rfl s₄ _ E I₄ fun new s₅ S₅ I₅ h₅ =>
    h₅ new rfl s₅ _ E I₅ fun _ s₆ S₆ I₆ h₆ => hq .next _ _ I₆ h₆)

theorem set_map {vs : Array Value} {xs : List Value} (h : vs.toList.map nt = xs) (i : Nat) (v : Value) : (vs.setIfInBounds i v).toList.map nt = xs.set i (nt v) := by
  subst h; simp [List.map_set]
theorem V.setItem {l : Addr} {k : Int} {t : Tok} {v : Value} {xs : List Value} {c₀ : Ch} {Φ : Unit → St → Prop} (hc : c₀ = .lst xs ∨ c₀ = .sq xs) (hu : Upd l (.sq (xs.set k.toNat (nt v))) S c₀ S') (h0 : 0 ≤ k) (hk : k < xs.length) (hz : xs.length ≤ sizeLine) (h : Φ () S') :
    VU (model prog w) A C S (setItem (.ref l) (.int k t) v) Φ := fun s Q E I hq => by
  have hl : IsL C S l xs := by rcases hc with rfl | rfl; exact IsL.lst hu.mem; exact IsL.sq hu.mem
  obtain ⟨vs, hv, e⟩ := hl s I
  have el : xs.length = vs.size := by rw [← e]; simp
  rw [sizeLine_eq] at hz
  refine wpAny_setItem_list hv h0 (by omega) (by omega) fun h' ⟨o, ho, hcl, n, hd⟩ hs => hq _ _ S' (I.upd hu hs.extBut ⟨o, ho, hcl, _, n, hd, set_map e _ _⟩ _ (by rcases hc with rfl | rfl <;> nofun)) h

theorem V.unpack2 {l : Addr} {xs : List Value} {n : Nat} {Φ : List Value → St → Prop} (hl : IsT C S l xs) (hn : xs.length = n) (hA : A.handled = none) (h : Φ xs S) : VL (model prog w) A C S (unpackItems (.ref l) n none) Φ := fun s Q E I hq => by
  obtain ⟨vs, hv, e⟩ := hl s I
  obtain rfl : vs.size = n := by rw [← hn, ← e]; simp
  refine unpackItems_tuple hA hv fun h' hs => hq _ _ S (I.ext (a := s.heap.objs.size) I.size_fresh (fun p hp => .inl ⟨hp, fun x => by obtain ⟨o', h, _⟩ := I.is p hp; exact Nat.lt_irrefl _ (x ▸ Heap.lt_size h)⟩) I.nod hs _) (e ▸ h)

end
end Mine

set_option Elab.async false
set_option linter.unusedVariables false
namespace Mine
open PySem PyProof.Rows PySem.Calls PySem.W

theorem same_chunk {S : St} (hn : (S.map (·.1)).Nodup) {a : Addr} {c d : Ch} (h : (a, c) ∈ S) (h' : (a, d) ∈ S) : c = d := by
  induction S with
  | nil => cases h
  | cons p S ih =>
    rw [List.map_cons, List.nodup_cons] at hn
    rcases List.mem_cons.mp h with e | h <;> rcases List.mem_cons.mp h' with e' | h'
    · rw [← e] at e'; cases e'; rfl
    · exact absurd (List.mem_map.mpr ⟨_, h', by rw [← e]⟩) hn.1
    · exact absurd (List.mem_map.mpr ⟨_, h, by rw [← e']⟩) hn.1
    · exact ih hn.2 h h'

theorem SetAt.lookup {x v l l'} (h : SetAt x v l l') (hn : (l'.map Prod.fst).Nodup) (y : Str) : l'.lookup y = if y = x then some v else l.lookup y := by
  induction h with
  | here =>
    rename_i u l
    by_cases e : y = x
    · subst e; simp
    · have : (y == x) = false := by simpa using e
      simp [List.lookup_cons, this, e]
  | there h' ih =>
    rename_i p l l'
    rw [List.map_cons, List.nodup_cons] at hn
    have hp : p.1 ≠ x := fun e => hn.1 (List.mem_map.mpr ⟨_, h'.has, e.symm⟩)
    obtain ⟨k, u⟩ := p
    by_cases e : y = k
    · subst e
      have : ¬ y = x := hp
      simp [this]
    · have hb : (y == k) = false := by simpa using e
      simp only [List.lookup_cons, hb]
      exact ih hn.2
  | new =>
    by_cases e : y = x
    · subst e; simp
    · have : (y == x) = false := by simpa using e
      simp [List.lookup_cons, this, e]

structure Cls (C : Cx) (cls N : Addr) (mN : Str → Option Value) : Prop where
  obj : ∃ nm q bs sn sub col dd k0 k1 k2 k3 k5, C.K.lookup cls = some (excClassObj nm q cls N bs [.type "object"] true sn sub false col dd k0 k1 k2 k3 k5 "object.__new__")
  ns : ∃ oN es ep, C.K.lookup N = some oN ∧ oN.data = .dict es ep ∧ StrKeys es ∧ ∀ y, nsFind es y = mN y
  g1 : mN "__getattribute__" = none
  g2 : mN "__getattr__" = none
  g3 : mN "__setattr__" = none
theorem Cls.nsAt {C : Cx} {S : St} {s : Shared} (I : Inv C S s) {cls N : Addr} {mN} (X : Cls C cls N mN) : s.heap.Ns N mN := by
  obtain ⟨oN, es, ep, h1, h2, h3, h4⟩ := X.ns
  exact ⟨oN, es, ep, I.known _ _ h1, h2, h3, h4⟩

section
variable {prog : Program} {w : World} {A : Around} {C : Cx} {S S' : St} {env : Env}

theorem Inv.inst {s : Shared} (I : Inv C S s) {x cls dx : Addr} {l} (hx : (x, Ch.inst cls dx) ∈ S) (hd : (dx, Ch.at l) ∈ S) :
    ∃ mA, s.heap.Inst x cls mA ∧ (∀ y, (mA y).map nt = l.lookup y) ∧ (∃ ox, s.heap.get? x = some ox ∧ ox.dict = some dx ∧ ox.cls = .ref cls ∧ notCls ox = true) ∧ dx ≠ x := by
  obtain ⟨ox, ho, h1, h2, h3⟩ := I.get hx
  obtain ⟨od, hod, es, ep, g1, g2, g3, g4⟩ := I.get hd
  have hne : dx ≠ x := by rintro rfl; cases same_chunk I.nod hx hd
  refine ⟨nsFind es, ⟨ox, ho, h1, h2, .inr ⟨dx, h3, hne, od, es, ep, hod, g1, g2, g3, fun _ => rfl⟩⟩, g4, ⟨ox, ho, h3, h1, ?_⟩, hne⟩
  unfold notCls
  split
  · rename_i c hc; exact absurd hc (h2 c)
  · rfl

noncomputable def flat : Value → Bool
  | .builtin _ => false
  | _ => true
theorem handed_flat {v : Value} (h : flat (nt v) = true) : handedOut v = pure v := by
  cases v <;> first | rfl | cases h

theorem V.attr {x cls dx N : Addr} {mN} {name : Str} {l} {v : Value} {expr : Bool} {Φ : Value → St → Prop} (X : Cls C cls N mN) (hx : (x, Ch.inst cls dx) ∈ S) (hd : (dx, Ch.at l) ∈ S) (hl : l.lookup name = some v)
    (hna : mN name = none) (hB : typeLookup (.type "object") name = pure none) (hv : flat v = true) (h : Φ v S) : VP (model prog w) A C S (getAttr (.ref x) name expr) Φ := fun s Q E I hq => by
  obtain ⟨mA, hi, hm, _, _⟩ := I.inst hx hd
  obtain ⟨nm, q, bs, sn, sub, col, dd, k0, k1, k2, k3, k5, hC⟩ := X.obj
  have hn := X.nsAt I
  have hk := I.known _ _ hC
  have e := hm name
  rw [hl] at e
  obtain ⟨v', e1, rfl⟩ := Option.map_eq_some_iff.mp e
  have I' := I.tok (s.toks + 1)
  obtain ⟨hh, g, d, t, os⟩ := s
  exact load_attr hk hn X.g1 hna hB hi e1 (handed_flat hv) (hq _ _ _ I' h)

theorem V.method {x cls dx N f : Addr} {mN} {name : Str} {l} {of : Obj} {y : Option Value} {pl : Sem Bool} {Φ : Value × List Value → St → Prop} (X : Cls C cls N mN) (hx : (x, Ch.inst cls dx) ∈ S) (hd : (dx, Ch.at l) ∈ S) (hl : l.lookup name = none)
    (hf : mN name = some (.ref f)) (hfo : C.K.lookup f = some of) (hfc : of.cls = .type "function") (hB : typeLookup (.type "object") name = pure y) (h : Φ (.ref f, [.ref x]) S) :
    VG (model prog w) A C (fun x => x) S (getMethod (.ref x) name pl) Φ := fun s Q E I hq => by
  obtain ⟨mA, hi, hm, _, _⟩ := I.inst hx hd
  obtain ⟨nm, q, bs, sn, sub, col, dd, k0, k1, k2, k3, k5, hC⟩ := X.obj
  have hn := X.nsAt I
  have hk := I.known _ _ hC
  have hk2 := I.known _ _ hfo
  have e := hm name
  rw [hl] at e
  have e1 : mA name = none := by simpa using e
  have I' := I
  obtain ⟨hh, g, d, t, os⟩ := s
  exact method_of hk hn X.g1 X.g2 hf hk2 hfc hB hi e1 (hq _ _ _ I' h)

theorem V.method_own {x cls dx N : Addr} {mN} {name : Str} {l} {v : Value} {pl : Sem Bool} {Φ : Value × List Value → St → Prop} (X : Cls C cls N mN) (hx : (x, Ch.inst cls dx) ∈ S) (hd : (dx, Ch.at l) ∈ S) (hl : l.lookup name = some v)
    (hna : mN name = none) (hB : typeLookup (.type "object") name = pure none) (hv : ∃ f, v = .ref f)
    (h1 : findIn C.K (.ref cls) "__getattribute__" = some (some (.builtin "object.__getattribute__"))) (h2 : findIn C.K (.ref cls) "__getattr__" = some none) (h3 : findIn C.K (.ref cls) name = some none) (h : Φ (v, []) S) :
    VG (model prog w) A C (fun x => x) S (getMethod (.ref x) name pl) Φ := fun s Q E I hq => by
  obtain ⟨f, rfl⟩ := hv
  obtain ⟨mA, hi, hm, ⟨ox, hox, hdx, hcl, hnc⟩, hne⟩ := I.inst hx hd
  obtain ⟨od, hod, _⟩ := I.get hd
  refine method_usual (r := none) (od := some od) I.known ⟨hox, hcl, hnc, by rw [hdx]; exact hod⟩ h1 h2 h3 rfl ?_
  exact V.attr (Φ := fun v' S' => v' = .ref f ∧ S' = S) X hx hd hl hna hB rfl ⟨rfl, rfl⟩ s _ E I fun v' s' S' I' e => by
    obtain ⟨e, rfl⟩ := e
    obtain rfl := nt_ref e
    exact hq (.ref f, []) s' _ I' h

theorem within_at {mA : Str → Option Value} {l : List (Str × Value)} (hm : ∀ y, (mA y).map nt = l.lookup y) : Within mA (l.map Prod.fst) := by
  intro y hy
  cases e : mA y with
  | none => exact absurd e hy
  | some v =>
    have h := hm y
    rw [e] at h
    exact List.mem_map.mpr ⟨_, mem_of_lookup h.symm, rfl⟩

theorem V.setattr {x cls dx N : Addr} {mN} {name : Str} {l l'} {v : Value} {Φ : Unit → St → Prop} (X : Cls C cls N mN) (hx : (x, Ch.inst cls dx) ∈ S) (hu : Upd dx (.at l') S (.at l) S') (hs : SetAt name (nt v) l l')
    (hna : mN name = none) (hB : typeLookup (.type "object") name = pure none) (hcn : C.B.get? cls ≠ none) (h : Φ () S') (hnd : decide (l'.map Prod.fst).Nodup = true := by kernel_rfl) (hz : decide (l.length ≤ sizeLine) = true := by kernel_rfl) :
    VU (model prog w) A C S (setAttr (.ref x) name v) Φ := fun s Q E I hq => by
  obtain ⟨mA, hi, hm, ⟨ox, hox, hdx, hcl, hnc⟩, hne⟩ := I.inst hx hu.mem
  obtain ⟨nm, q, bs, sn, sub, col, dd, k0, k1, k2, k3, k5, hC⟩ := X.obj
  have hn := X.nsAt I
  have hk := I.known _ _ hC
  have hxC : x ≠ cls := fun e => hcn (e ▸ I.above _ hx (by nofun))
  have I' := I
  obtain ⟨hh, g, d, t, os⟩ := s
  refine store_attr F.store_object hk hn X.g3 hna hB hxC hi (fun h' tk' hi' hkeep hsame => ?_) (within_at hm) (by simpa using of_decide_eq_true hz)
  obtain ⟨o₁, a1, a2, a3, a4, a5⟩ := hsame ox hox
  have ho1 : o₁ = ox := by
    obtain ⟨c1, d1, e1, f1⟩ := o₁
    obtain ⟨c2, d2, e2, f2⟩ := ox
    have := a5 dx hdx
    simp only at a2 a3 a4 this hdx
    subst a2 a3 a4 this hdx
    rfl
  have hext : Heap.ExtBut dx hh h' := fun b o hb e => by
    by_cases hbx : b = x
    · subst hbx
      obtain rfl : ox = o := Option.some.inj (hox.symm.trans e)
      rw [← ho1]; exact a1
    · exact hkeep b o hbx (fun o₀ dx' e0 e1 => by
        obtain rfl : ox = o₀ := Option.some.inj (hox.symm.trans e0)
        rw [hdx] at e1; cases e1; exact hb) e
  refine hq () _ S' (I'.upd hu hext ?_ tk') h
  obtain ⟨o', p1, p2, p3, p4⟩ := hi'
  obtain rfl : o₁ = o' := Option.some.inj (a1.symm.trans p1)
  rcases p4 with ⟨p4, _⟩ | ⟨d', q1, q2, od, es, ep, r1, r2, r3, r4, r5⟩
  · rw [ho1, hdx] at p4; cases p4
  · rw [ho1, hdx] at q1
    cases q1
    refine ⟨od, r1, es, ep, r2, r3, r4, fun y => ?_⟩
    rw [r5, hs.lookup (of_decide_eq_true hnd)]
    by_cases e : y = name
    · simp [e]
    · simp [e]; exact hm y

theorem V.attribute {value : Expr} {attr : Str} {pos : Pos} {Φ : Value → St → Prop} (h : VP (model prog w) A C S (eval value env) fun o S₁ => ∀ o', nt o' = o → VP (model prog w) A C S₁ (getAttr o' attr true) Φ)
    (he : eval (.Attribute value attr pos) env = (do
      let o ← eval value env
      standAt pos.atName
      let r ← holding [o] (getAttr o attr true)
      letTemporaryGo value o r
      pure r) := by with_unfolding_all rfl) : VP (model prog w) A C S (eval (.Attribute value attr pos) env) Φ := fun s Q E I hq =>
  Attribute_any_ (h s _ E I fun o s₁ S₁ I₁ h₁ => h₁ o rfl s₁ Q E I₁ hq) he

theorem V.assign_attr {o value : Expr} {attr : Str} {apos pos : Pos} {Φ : Flow → St → Prop}
    (h : VP (model prog w) A C S (eval value env) fun v S₁ => ∀ v', nt v' = v → VP (model prog w) A C S₁ (eval o env) fun ov S₂ => ∀ ov', nt ov' = ov → VU (model prog w) A C S₂ (setAttr ov' attr v') fun _ S₃ => Φ .next S₃)
    (hs : swapsWith value (some (.Attribute o attr apos)) pos.line env = pure false := by with_unfolding_all rfl)
    (hw : swappedStores [.Attribute o attr apos] value env = pure none := by with_unfolding_all rfl) :
    VF (model prog w) A C S (exec (.Assign [.Attribute o attr apos] value pos) env) Φ := fun s Q E I hq => by
  refine wpAny_Assign_stores (h s _ E I fun v s₁ S₁ I₁ h₁ => ?_) hs hw
  show wpAny _ A (assign (.Attribute o attr apos) env v) _ E s₁
  rw [arm_assign_Attribute]
  refine wpAny_bind (wpAny_holding (h₁ v rfl s₁ _ E I₁ fun ov s₂ S₂ I₂ h₂ => wpAny_bind (wpAny_standAt (wpAny_bind (wpAny_holding (h₂ ov rfl s₂ _ E I₂ fun _ s₃ S₃ I₃ h₃ => ?_))))))
  exact fun Γ p hΓ => by rw [Sem.wp_release]; exact hq .next _ _ I₃ h₃
end
end Mine

set_option Elab.async false
set_option linter.unusedVariables false
set_option maxRecDepth 100000
namespace Mine
open PySem PyProof.Rows PySem.Calls PySem.W

theorem ints_of {vs : List Value} {ns : List Int} (h : vs.map nt = ns.map fun i => .int i 0) : IntsAre vs ns := by
  induction ns generalizing vs with
  | nil => cases vs with
    | nil => exact .nil
    | cons _ _ => cases h
  | cons n ns ih => cases vs with
    | nil => cases h
    | cons v vs =>
      rw [List.map_cons, List.map_cons, List.cons.injEq] at h
      obtain ⟨t, rfl⟩ := nt_int h.1
      exact .cons n t (ih h.2)
theorem strs_of {vs : List Value} {ns : List Str} (h : vs.map nt = ns.map fun i => .str i 0) : ∃ l, vs = strValues l ∧ l.map (·.1) = ns := by
  induction ns generalizing vs with
  | nil => cases vs with
    | nil => exact ⟨[], rfl, rfl⟩
    | cons _ _ => cases h
  | cons n ns ih => cases vs with
    | nil => cases h
    | cons v vs =>
      rw [List.map_cons, List.map_cons, List.cons.injEq] at h
      obtain ⟨t, rfl⟩ := nt_str h.1
      obtain ⟨l, rfl, h2⟩ := ih h.2
      exact ⟨(n, t) :: l, rfl, by rw [List.map_cons, h2]⟩

noncomputable def slV {α : Type} (xs : List α) (lo hi : Option Int) : List α :=
  (sliceRange (sliceBounds lo hi none xs.length).1 (sliceBounds lo hi none xs.length).2.1 (sliceBounds lo hi none xs.length).2.2).filterMap (xs[·]?)
theorem slV_map {vs : Array Value} {xs : List Value} (h : vs.toList.map nt = xs) (lo hi : Option Int) : (slicePick vs lo hi none).toList.map nt = slV xs lo hi := by
  subst h
  unfold slicePick slV
  rw [List.map_filterMap, List.length_map, Array.length_toList]
  congr 1
  funext i
  rw [List.getElem?_map, Array.getElem?_toList]

noncomputable def optV : Option Int → Value
  | none => .none
  | some i => .int i 0
theorem part_of {v : Value} {k : Option Int} (h : nt v = optV k) : ∃ l : Option (Int × Tok), v = partValue l ∧ l.map (·.1) = k := by
  cases k with
  | none => obtain rfl := nt_none h; exact ⟨none, rfl, rfl⟩
  | some i => obtain ⟨t, rfl⟩ := nt_int h; exact ⟨some (i, t), rfl, rfl⟩

section
variable {prog : Program} {w : World} {A : Around} {C : Cx} {S S' : St} {env : Env}

theorem V.part_none {Φ : Value → St → Prop} (h : Φ .none S) : VP (model prog w) A C S (evalPart none env) Φ := fun s Q E I hq => by
  rw [evalPart_none]; exact wpAny_pure (hq _ _ _ I h)
theorem V.part_some {e : Expr} {Φ : Value → St → Prop} (h : VP (model prog w) A C S (eval e env) Φ) : VP (model prog w) A C S (evalPart (some e) env) Φ := h

theorem V.slice {lower upper : Option Expr} {p : Pos} {Φ : Value → St → Prop}
    (h : VP (model prog w) A C S (evalPart lower env) fun l S₁ => VP (model prog w) A C S₁ (evalPart upper env) fun u S₂ => ∃ lo hi, l = optV lo ∧ u = optV hi ∧ ∀ a, Φ (.ref a) ((a, .slc lo hi) :: S₂)) :
    VP (model prog w) A C S (eval (.Slice lower upper none p) env) Φ := fun s Q E I hq => by
  rw [arm_eval_Slice]
  have e1 : valueOrNone (evalOpt lower env) = evalPart lower env := by unfold evalPart valueOrNone; cases lower <;> rfl
  have e2 : valueOrNone (evalOpt upper env) = evalPart upper env := by unfold evalPart valueOrNone; cases upper <;> rfl
  rw [e1, e2]
  refine wpAny_bind (h s _ E I fun l s₁ S₁ I₁ h₁ => wpAny_bind (wpAny_holding (h₁ s₁ _ E I₁ fun u s₂ S₂ I₂ h₂ => wpAny_bind (wpAny_holding ?_))))
  obtain ⟨lo, hi, hl, hu, h₂⟩ := h₂
  obtain ⟨l', rfl, e3⟩ := part_of hl
  obtain ⟨u', rfl, e4⟩ := part_of hu
  show wpAny _ A (pure Value.none) _ E s₂
  refine wpAny_pure ?_
  exact wpAny_newObj_type (hq _ _ _ (I₂.allocs (c := .slc lo hi) rfl ⟨l', u', rfl, e3, e4⟩) (h₂ _))

theorem V.tail_str_slice {value : Expr} {lower upper : Option Expr} {p : Pos} {x : Str} {u : Tok} {sl : Addr} {lo hi : Option Int} {Φ : Value → St → Prop} (hs : (sl, Ch.slc lo hi) ∈ S) (hz : x.length ≤ sizeLine) (h : Φ (.str (Txt.slice x lo hi) 0) S) :
    ∀ o' i', nt o' = .str x u → nt i' = .ref sl → VP (model prog w) A C S (subscriptTail value (.Slice lower upper none p) o' i') Φ := by
  intro o' i' ho hi; obtain ⟨u, rfl⟩ := nt_str ho; obtain rfl := nt_ref hi
  intro s Q E I hq
  obtain ⟨o, ho, l, r, rfl, e1, e2⟩ := I.get hs
  subst e1 e2
  refine wp_tail (typeIs_str s x u) slot_str_getitem.lookup (ops := [.ref sl, .str x u]) (wpAny_getItem_str_slice (l := l) (u := r) (st := none) ⟨_, ho, rfl, rfl⟩ rfl ?_) rfl
  exact post_val_or_str ⟨Nat.le_trans (Txt.slice_le x _ _) hz, fun t' k => hq _ _ _ (I.tok _) h⟩

theorem V.tail_list_slice {value : Expr} {lower upper : Option Expr} {p : Pos} {l : Addr} {xs : List Value} {sl : Addr} {lo hi : Option Int} {Φ : Value → St → Prop} (hl : IsL C S l xs) (hs : (sl, Ch.slc lo hi) ∈ S) (hz : xs.length ≤ sizeLine) (h : ∀ a, Φ (.ref a) ((a, .lst (slV xs lo hi)) :: S)) :
    ∀ o' i', nt o' = .ref l → nt i' = .ref sl → VP (model prog w) A C S (subscriptTail value (.Slice lower upper none p) o' i') Φ := by
  intro o' i' ho hi; obtain rfl := nt_ref ho; obtain rfl := nt_ref hi
  intro s Q E I hq
  obtain ⟨vs, hv, e⟩ := hl s I
  have el : xs.length = vs.size := by rw [← e]; simp
  obtain ⟨o, ho, l', r, rfl, e1, e2⟩ := I.get hs
  subst e1 e2
  have isp : ∀ q : Option (Int × Tok), IsPart (partValue q) (q.map (·.1)) := fun q => by cases q with
    | none => exact .none
    | some q => exact .int q.1 q.2
  refine wp_tail hv.typeIs slot_list_getitem.lookup (ops := [.ref sl, .ref l]) (wpAny_getItem_list_slice (st := none) hv ⟨_, ho, rfl, rfl⟩ (isp l') (isp r) .none (by intro e; cases e) ?_ (by omega)) rfl
  have hf : Fits { cls := .type "list", data := .seq (slicePick vs (l'.map fun x => x.1) (r.map fun x => x.1) none) } (.lst (slV xs (l'.map fun x => x.1) (r.map fun x => x.1))) := ⟨_, _, rfl, slV_map e _ _⟩
  exact hq _ _ _ (I.allocs rfl hf) (h _)

theorem V.meth_list {name : Str} {id : String} {l : Addr} {xs : List Value} {pl : Sem Bool} {Φ : Value × List Value → St → Prop} (hl : (l, Ch.lst xs) ∈ S) (slot : Slot "list" name id) (hty : typeOf (.builtin id) = pure (.type "method_descriptor")) (h : Φ (.builtin id, [.ref l]) S) :
    VG (model prog w) A C (fun x => x) S (getMethod (.ref l) name pl) Φ := fun s Q E I hq => by
  obtain ⟨o, ho, vs, ep, rfl, _⟩ := I.get hl
  exact getMethod_builtin (T := "list") ⟨_, ho, rfl⟩ PySem.F.plainAttrs_list slot hty (fun a e => by cases e; exact ⟨_, ho, rfl⟩) (hq _ _ _ I h)
theorem V.meth_str {name : Str} {id : String} {x : Str} {v : Value} {t : Tok} {pl : Sem Bool} {Φ : Value × List Value → St → Prop} (hv : nt v = .str x t) (slot : Slot "str" name id) (hty : typeOf (.builtin id) = pure (.type "method_descriptor")) (h : Φ (.builtin id, [v]) S) :
    VG (model prog w) A C (fun x => x) S (getMethod v name pl) Φ := fun s Q E I hq => by
  obtain ⟨t, rfl⟩ := nt_str hv
  exact getMethod_builtin (T := "str") (typeIs_str s x t) PySem.F.plainAttrs_str slot hty (fun a e => by cases e) (hq _ _ _ I h)

theorem V.append {l : Addr} {v : Value} {xs : List Value} {Φ : Value → St → Prop} (hu : Upd l (.lst (xs ++ [nt v])) S (.lst xs) S') (hz : xs.length ≤ sizeLine) (h : Φ .none S') : VP (model prog w) A C S (call (.builtin "list.append") [.ref l, v]) Φ := fun s Q E I hq => by
  obtain ⟨o, ho, vs, ep, rfl, e⟩ := I.get hu.mem
  have el : xs.length = vs.size := by rw [← e]; simp
  refine append_at ho (fun h' hs ho' => hq _ _ S' (I.upd hu hs.extBut ⟨_, ho', _, _, rfl, by simp [e]⟩ _) h) (by omega)

theorem eraseIdx_eq (p q : List Value) (y : Value) : ((p ++ y :: q).toArray).eraseIdxIfInBounds p.length = (p ++ q).toArray := by
  apply Array.toList_inj.mp
  simp [Array.eraseIdxIfInBounds, List.eraseIdx_append_of_length_le]
theorem V.pop0 {l : Addr} {v x : Value} {xs : List Value} {Φ : Value → St → Prop} (hv : nt v = .int 0 0) (hu : Upd l (.lst xs) S (.lst (x :: xs)) S') (hz : xs.length < sizeLine) (h : Φ x S') : VP (model prog w) A C S (call (.builtin "list.pop") [.ref l, v]) Φ := fun s Q E I hq => by
  obtain ⟨t, rfl⟩ := nt_int hv
  obtain ⟨o, ho, vs, ep, rfl, e⟩ := I.get hu.mem
  obtain ⟨lv⟩ := vs
  cases lv with
  | nil => cases e
  | cons y ys =>
    rw [List.map_cons, List.cons.injEq] at e
    obtain ⟨rfl, e⟩ := e
    have hsz : (y :: ys).toArray.size ≤ sizeLine := by
      rw [List.size_toArray, List.length_cons]
      have : xs.length = ys.length := by rw [← e]; simp
      omega
    refine call_meets PySem.F.slot_list_pop ⟨_, ho, rfl⟩ PySem.F.entry_list_pop (PySem.F.args_list_pop_2 _ _) (PySem.MeetsSeq.list_pop_at l _ ep 0 t 0 y (by decide) (by simp [seqIndex?]) rfl hsz) ⟨ho, hq _ _ S' (I.upd hu (Heap.SameBut.update ..).extBut ⟨_, Heap.get?_update_self _ ho ?_, ys.toArray, ?_, ?_, e⟩ _) h⟩
    · rfl
    · exact ep + 1
    · have := eraseIdx_eq [] ys y
      simp only [List.nil_append, List.length_nil] at this
      simp [Obj.mapSeq, this]

theorem V.list_add {l b : Addr} {xs ys : List Value} {Φ : Value → St → Prop} (hl : IsL C S l xs) (hb : IsL C S b ys) (hz : xs.length + ys.length ≤ sizeLine) (h : ∀ a, Φ (.ref a) ((a, .lst (xs ++ ys)) :: S)) :
    ∀ a' b', nt a' = .ref l → nt b' = .ref b → VP (model prog w) A C S (binaryOp .Add a' b') Φ := by
  intro a' b' ha hb'; obtain rfl := nt_ref ha; obtain rfl := nt_ref hb'
  intro s Q E I hq
  obtain ⟨vs, ⟨⟨cls, dd, data, sl⟩, ho, hc, n, hd⟩, e⟩ := hl s I
  obtain ⟨ws, ⟨⟨cls2, dd2, data2, sl2⟩, ho2, hc2, n2, hd2⟩, e'⟩ := hb s I
  simp only at hc hd hc2 hd2
  subst hc hd hc2 hd2
  have e1 : xs.length = vs.size := by rw [← e]; simp
  have e2 : ys.length = ws.size := by rw [← e']; simp
  refine concat_meets ⟨_, ho, rfl⟩ ⟨_, ho2, rfl⟩ noFill_list_add seq_list_add PySem.F.slot_list_add PySem.F.entry_list_add (PySem.F.args_list_add_2 _ _) (list_addW l b vs ws n n2 dd dd2 sl sl2 (by omega)) ⟨ho, ho2, ?_⟩
  exact hq _ _ _ (I.allocs (c := .lst (xs ++ ys)) rfl ⟨_, _, rfl, by simp [e, e']⟩) (h _)

theorem V.count_int {l : Addr} {ns : List Int} {k : Int} {v : Value} {Φ : Value → St → Prop} (hv : nt v = .int k 0) (hl : IsL C S l (ns.map fun i => .int i 0)) (h : Φ (.int (ns.count k : Nat) 0) S) : VP (model prog w) A C S (call (.builtin "list.count") [.ref l, v]) Φ := fun s Q E I hq => by
  obtain ⟨t, rfl⟩ := nt_int hv
  obtain ⟨⟨vs⟩, hv, e⟩ := hl s I
  exact count_list_ints hv (ints_of e) (hq _ _ _ (I.tok _) h)
theorem V.join {x : Str} {v : Value} {l : Addr} {ys : List Str} {Φ : Value → St → Prop} (hv : nt v = .str x 0) (hl : IsL C S l (ys.map fun i => .str i 0)) (hok : JoinOk x ys = true) (h : Φ (.str (Txt.join x ys) 0) S) : VP (model prog w) A C S (call (.builtin "str.join") [v, .ref l]) Φ := fun s Q E I hq => by
  obtain ⟨t, rfl⟩ := nt_str hv
  obtain ⟨⟨vs⟩, hv, e⟩ := hl s I
  obtain ⟨l', rfl, e2⟩ := strs_of e
  exact SC.join hv e2 hok fun t' k => hq _ _ _ (I.tok _) h
theorem V.str_count {x y : Str} {v u : Value} {Φ : Value → St → Prop} (hv : nt v = .str x 0) (hu : nt u = .str y 0) (h : Φ (.int (Txt.count x y) 0) S) : VP (model prog w) A C S (call (.builtin "str.count") [v, u]) Φ := fun s Q E I hq => by
  obtain ⟨t, rfl⟩ := nt_str hv; obtain ⟨t', rfl⟩ := nt_str hu
  exact SC.count (hq _ _ _ (I.tok _) h)
theorem V.str_index {x y : Str} {v u : Value} {i : Nat} {rest : List Nat} {Φ : Value → St → Prop} (hv : nt v = .str x 0) (hu : nt u = .str y 0) (ho : Builtin.Str.occurrences x y 0 x.length 1 = i :: rest) (h : Φ (.int i 0) S) : VP (model prog w) A C S (call (.builtin "str.index") [v, u]) Φ := fun s Q E I hq => by
  obtain ⟨t, rfl⟩ := nt_str hv; obtain ⟨t', rfl⟩ := nt_str hu
  exact SC.index ho (hq _ _ _ (I.tok _) h)
theorem V.str_lower {x : Str} {v : Value} {Φ : Value → St → Prop} (hv : nt v = .str x 0) (hfit : Builtin.Str.tooLong (Txt.lower x).length = false) (h : Φ (.str (Txt.lower x) 0) S) : VP (model prog w) A C S (call (.builtin "str.lower") [v]) Φ := fun s Q E I hq => by
  obtain ⟨t, rfl⟩ := nt_str hv
  exact SC.lower hfit (hq _ _ _ (I.tok _) h)

theorem V.assign_tuple {e₁ e₂ : Expr} {k : Nat} {tpos : Pos} {v : Value} {Φ : Unit → St → Prop}
    (h : VL (model prog w) A C S (unpackItems v 2 none) fun xs S₁ => ∃ x y, xs = [x, y] ∧ ∀ x', nt x' = x → ∀ y', nt y' = y → VU (model prog w) A C S₁ (assign e₁ env x') fun _ S₂ => VU (model prog w) A C S₂ (assign e₂ env y') Φ)
    (he : assign (.Tuple [e₁, e₂] k tpos) env v = (do standAt tpos; unpack v [(false, assign e₁ env), (false, assign e₂ env)]) := by with_unfolding_all rfl) :
    VU (model prog w) A C S (assign (.Tuple [e₁, e₂] k tpos) env v) Φ := fun s Q E I hq => by
  rw [he]
  refine wpAny_bind (wpAny_standAt ?_)
  show wpAny _ A (do assignInOrder [assign e₁ env, assign e₂ env] (← holding [v] (unpackItems v 2 none))) Q E s
  refine wpAny_bind (wpAny_holding (h s _ E I fun xs s₁ S₁ I₁ h₁ => ?_))
  obtain ⟨x, y, e, h₁⟩ := h₁
  obtain ⟨x', y', rfl⟩ : ∃ x' y', xs = [x', y'] := by
    cases xs with
    | nil => cases e
    | cons a r => cases r with
      | nil => cases e
      | cons b r => cases r with
        | nil => exact ⟨a, b, rfl⟩
        | cons c r => cases e
  injection e with e1 e2
  injection e2 with e2 _
  show wpAny _ A (do holding [y'] (assign e₁ env x'); assignInOrder [assign e₂ env] [y']) Q E s₁
  refine wpAny_bind (wpAny_holding (h₁ x' e1 y' e2 s₁ _ E I₁ fun _ s₂ S₂ I₂ h₂ => ?_))
  show wpAny _ A (do holding [] (assign e₂ env y'); assignInOrder [] []) Q E s₂
  exact wpAny_bind (wpAny_holding (h₂ s₂ _ E I₂ fun _ s₃ S₃ I₃ h₃ => wpAny_pure (hq _ _ _ I₃ h₃)))
theorem V.assign_tup {elts k tpos value pos} {Φ : Flow → St → Prop}
    (h : VP (model prog w) A C S (eval value env) fun v S₁ => ∀ v', nt v' = v → VU (model prog w) A C S₁ (assign (.Tuple elts k tpos) env v') fun _ S₂ => Φ .next S₂)
    (hs : swapsWithSole [.Tuple elts k tpos] value pos.line env = pure false := by with_unfolding_all rfl)
    (hw : swappedStores [.Tuple elts k tpos] value env = pure none := by with_unfolding_all rfl) :
    VF (model prog w) A C S (exec (.Assign [.Tuple elts k tpos] value pos) env) Φ := fun s Q E I hq =>
  Assign_Tuple (h s _ E I fun v s₁ S₁ I₁ h₁ => h₁ v rfl s₁ _ E I₁ fun _ s₂ S₂ I₂ h₂ => hq .next _ _ I₂ h₂) hs hw
theorem V.assign_swapped {n₁ n₂ : Str} {elts k tpos value pos} {Φ : Flow → St → Prop}
    (h : VP (model prog w) A C S (eval value env) fun v S₁ => ∀ v', nt v' = v → VL (model prog w) A C S₁ (unpackItems v' 2 none) fun xs S₂ => ∃ x y, xs = [x, y] ∧ ∀ y', nt y' = y → VU (model prog w) A C S₂ (storeName env n₂ y') fun _ S₃ => ∀ x', nt x' = x → VU (model prog w) A C S₃ (storeName env n₁ x') fun _ S₄ => Φ .next S₄)
    (hs : swapsWithSole [.Tuple elts k tpos] value pos.line env = pure false := by with_unfolding_all rfl)
    (hw : swappedStores [.Tuple elts k tpos] value env = pure (some [n₁, n₂]) := by with_unfolding_all rfl) :
    VF (model prog w) A C S (exec (.Assign [.Tuple elts k tpos] value pos) env) Φ := fun s Q E I hq => by
  refine Assign_Tuple_swapped (names := [n₁, n₂]) (h s _ E I fun v s₁ S₁ I₁ h₁ => h₁ v rfl s₁ _ E I₁ fun xs s₂ S₂ I₂ h₂ => ?_) hs hw
  obtain ⟨x, y, e, h₂⟩ := h₂
  obtain ⟨x', y', rfl⟩ : ∃ x' y', xs = [x', y'] := by
    cases xs with
    | nil => cases e
    | cons a r => cases r with
      | nil => cases e
      | cons b r => cases r with
        | nil => exact ⟨a, b, rfl⟩
        | cons c r => cases e
  injection e with e1 e2
  injection e2 with e2 _
  show wpAny _ A (do holding [x'] (bindName env n₂ y'); assignInOrder [bindName env n₁] [x']) _ E s₂
  refine wpAny_bind (wpAny_holding (wpAny_bindName (h₂ y' e2 s₂ _ E I₂ fun _ s₃ S₃ I₃ h₃ => ?_)))
  show wpAny _ A (do holding [] (bindName env n₁ x'); assignInOrder [] []) _ E s₃
  exact wpAny_bind (wpAny_holding (wpAny_bindName (h₃ x' e1 s₃ _ E I₃ fun _ s₄ S₄ I₄ h₄ => wpAny_pure (hq .next _ _ I₄ h₄))))
end
end Mine

set_option Elab.async false
set_option linter.unusedVariables false
set_option maxRecDepth 100000
namespace Mine
open PySem PyProof.Rows PySem.Calls PySem.W

@[reducible] noncomputable def envC (scope : Scope) (cl : List (Str × Addr)) (L : Addr) (env : Env) : Env :=
  { scope := relabel scope env, locals := L, globals := env.globals, cells := cl, qual := env.qual, func := none, code := env.code, frame := env.frame, builtins := env.builtins }

noncomputable def tests (ifs : List Expr) (env : Env) : Sem Bool := forIn ifs true fun c r => if r = true then do let ok ← isTrue c env (eval c env); pure (ForInStep.yield ok) else pure (ForInStep.yield r)

theorem compTurn_two0 (elt t0 i0 t1 i1 : Expr) (ifs0 ifs1 : List Expr) (scope : Scope) (pos : Pos) (it acc : Value) (env : Env) :
    compTurn (.ListComp elt [⟨t0, i0, ifs0, 0⟩, ⟨t1, i1, ifs1, 0⟩] scope pos) 0 it acc env = (do
      standAt i0.pos
      match ← pyNext it with
      | none => pure (.done .next)
      | some v =>
        letOwnedTupleGo t0 it v
        assign t0 env v
        let mut ok := true
        for c in ifs0 do
          if ok then ok ← isTrue c env (eval c env)
        if ok then
          let x ← eval i1 env
          standAt i1.pos
          let x ← foldedSetIterable i1 env x
          let _ ← runOwn (.compStart (.ListComp elt [⟨t0, i0, ifs0, 0⟩, ⟨t1, i1, ifs1, 0⟩] scope pos) 1 (← holding [x] (pyIter x)) acc env) env
        again (.compLoop (.ListComp elt [⟨t0, i0, ifs0, 0⟩, ⟨t1, i1, ifs1, 0⟩] scope pos) 0 it acc env)) := by rfl
theorem compTurn_two1 (elt t0 i0 t1 i1 : Expr) (ifs0 ifs1 : List Expr) (scope : Scope) (pos : Pos) (it acc : Value) (env : Env) :
    compTurn (.ListComp elt [⟨t0, i0, ifs0, 0⟩, ⟨t1, i1, ifs1, 0⟩] scope pos) 1 it acc env = (do
      standAt i1.pos
      match ← pyNext it with
      | none => pure (.done .next)
      | some v =>
        letOwnedTupleGo t1 it v
        assign t1 env v
        let mut ok := true
        for c in ifs1 do
          if ok then ok ← isTrue c env (eval c env)
        if ok then
          (do let _ ← call (.builtin "list.append") [acc, ← eval elt env])
        again (.compLoop (.ListComp elt [⟨t0, i0, ifs0, 0⟩, ⟨t1, i1, ifs1, 0⟩] scope pos) 1 it acc env)) := by rfl

section
variable {prog : Program} {w : World} {A : Around} {C : Cx} {S S' : St} {env : Env}

theorem V.tests_nil {Φ : Bool → St → Prop} (h : Φ true S) : VB (model prog w) A C S (tests [] env) Φ := fun s Q E I hq => wpAny_tests_nil (hq _ _ _ I h)
theorem V.tests_one {c : Expr} {Φ : Bool → St → Prop} (h : VB (model prog w) A C S (isTrue c env (eval c env)) Φ) : VB (model prog w) A C S (tests [c] env) Φ := fun s Q E I hq => wpAny_tests_one (h s Q E I hq)

theorem V.own_name {x : Str} {p : Pos} {it v : Value} {Φ : Unit → St → Prop} (h : Φ () S) : VU (model prog w) A C S (letOwnedTupleGo (.Name x p) it v) Φ := fun s Q E I hq => wpAny_pure (hq _ _ _ I h)
theorem V.own_lit {es : List Expr} {k : Nat} {p : Pos} {it l : Addr} {i : Nat} {v : Value} {Φ : Unit → St → Prop} (hl : (it, Ch.lit l i) ∈ S) (h : Φ () S) : VU (model prog w) A C S (letOwnedTupleGo (.Tuple es k p) (.ref it) v) Φ := fun s Q E I hq => by
  obtain ⟨o, ho, h1, h2⟩ := I.get hl
  cases v with
  | ref a =>
    show wpAny _ A (load it >>= _) Q E s
    refine wpAny_bind (wpAny_load ho ?_)
    rw [h1, h2]
    exact wpAny_pure (hq _ _ _ I h)
  | _ => exact wpAny_pure (hq _ _ _ I h)

theorem V.compLoop {elt target iter : Expr} {ifs : List Expr} {scope : Scope} {pos : Pos} {it acc : Value} {Φ : Flow → St → Prop} (I : Nat → St → Prop)
    (turn : ∀ n S, I n S → VN (model prog w) A C S (pyNext it) fun r S₁ => match r with
      | none => Φ .next S₁
      | some v => ∀ v', nt v' = v → VU (model prog w) A C S₁ (letOwnedTupleGo target it v') fun _ S₂ => VU (model prog w) A C S₂ (assign target env v') fun _ S₃ => VB (model prog w) A C S₃ (tests ifs env) fun ok S₄ =>
          (ok = true → VP (model prog w) A C S₄ (eval elt env) fun x S₅ => ∀ x', nt x' = x → VP (model prog w) A C S₅ (call (.builtin "list.append") [acc, x']) fun _ S₆ => ∃ m, m < n ∧ I m S₆) ∧ (ok = false → ∃ m, m < n ∧ I m S₄))
    (n : Nat) (h : I n S) : VK (model prog w) A C S (.compLoop (.ListComp elt [⟨target, iter, ifs, 0⟩] scope pos) 0 it acc env) Φ := fun s R J hq => by
  refine codeAny_loop rfl (fun n s => ∃ S, Inv C S s ∧ I n S) (fun n s hI => ?_) n ⟨S, J, h⟩
  obtain ⟨S, J, h⟩ := hI
  show wpAny _ A ((compTurn (.ListComp elt [⟨target, iter, ifs, 0⟩] scope pos) 0 it acc env).onRaise (fun x => do noteFrame x env; theTreesLotGoes x)) _ _ s
  refine wpAny_noted ?_
  rw [compTurn_list]
  refine wpAny_bind (wpAny_standAt (wpAny_bind (turn n S h s _ _ J fun r s₁ S₁ J₁ h₁ => ?_)))
  cases r with
  | none => exact wpAny_pure (hq .next _ _ J₁ h₁)
  | some v =>
    refine wpAny_bind (h₁ v rfl s₁ _ _ J₁ fun _ s₂ S₂ J₂ h₂ => wpAny_bind (h₂ s₂ _ _ J₂ fun _ s₃ S₃ J₃ h₃ => ?_))
    refine wpAny_bind (m := tests ifs env) (h₃ s₃ _ _ J₃ fun ok s₄ S₄ J₄ h₄ => ?_)
    cases ok with
    | false => obtain ⟨m, hm, hi⟩ := h₄.2 rfl; exact wpAny_pure ⟨rfl, m, hm, S₄, J₄, hi⟩
    | true =>
      refine wpAny_bind (wpAny_bind (h₄.1 rfl s₄ _ _ J₄ fun x s₅ S₅ J₅ h₅ => wpAny_bind (h₅ x rfl s₅ _ _ J₅ fun _ s₆ S₆ J₆ h₆ => ?_)))
      obtain ⟨m, hm, hi⟩ := h₆
      exact wpAny_pure (wpAny_pure ⟨rfl, m, hm, S₆, J₆, hi⟩)

theorem V.compLoop_in {elt t0 i0 t1 i1 : Expr} {ifs0 ifs1 : List Expr} {scope : Scope} {pos : Pos} {it acc : Value} {Φ : Flow → St → Prop} (I : Nat → St → Prop)
    (turn : ∀ n S, I n S → VN (model prog w) A C S (pyNext it) fun r S₁ => match r with
      | none => Φ .next S₁
      | some v => ∀ v', nt v' = v → VU (model prog w) A C S₁ (letOwnedTupleGo t1 it v') fun _ S₂ => VU (model prog w) A C S₂ (assign t1 env v') fun _ S₃ => VB (model prog w) A C S₃ (tests ifs1 env) fun ok S₄ =>
          (ok = true → VP (model prog w) A C S₄ (eval elt env) fun x S₅ => ∀ x', nt x' = x → VP (model prog w) A C S₅ (call (.builtin "list.append") [acc, x']) fun _ S₆ => ∃ m, m < n ∧ I m S₆) ∧ (ok = false → ∃ m, m < n ∧ I m S₄))
    (n : Nat) (h : I n S) : VK (model prog w) A C S (.compLoop (.ListComp elt [⟨t0, i0, ifs0, 0⟩, ⟨t1, i1, ifs1, 0⟩] scope pos) 1 it acc env) Φ := fun s R J hq => by
  refine codeAny_loop rfl (fun n s => ∃ S, Inv C S s ∧ I n S) (fun n s hI => ?_) n ⟨S, J, h⟩
  obtain ⟨S, J, h⟩ := hI
  show wpAny _ A ((compTurn (.ListComp elt [⟨t0, i0, ifs0, 0⟩, ⟨t1, i1, ifs1, 0⟩] scope pos) 1 it acc env).onRaise (fun x => do noteFrame x env; theTreesLotGoes x)) _ _ s
  refine wpAny_noted ?_
  rw [compTurn_two1]
  refine wpAny_bind (wpAny_standAt (wpAny_bind (turn n S h s _ _ J fun r s₁ S₁ J₁ h₁ => ?_)))
  cases r with
  | none => exact wpAny_pure (hq .next _ _ J₁ h₁)
  | some v =>
    refine wpAny_bind (h₁ v rfl s₁ _ _ J₁ fun _ s₂ S₂ J₂ h₂ => wpAny_bind (h₂ s₂ _ _ J₂ fun _ s₃ S₃ J₃ h₃ => ?_))
    refine wpAny_bind (m := tests ifs1 env) (h₃ s₃ _ _ J₃ fun ok s₄ S₄ J₄ h₄ => ?_)
    cases ok with
    | false => obtain ⟨m, hm, hi⟩ := h₄.2 rfl; exact wpAny_pure ⟨rfl, m, hm, S₄, J₄, hi⟩
    | true =>
      refine wpAny_bind (wpAny_bind (h₄.1 rfl s₄ _ _ J₄ fun x s₅ S₅ J₅ h₅ => wpAny_bind (h₅ x rfl s₅ _ _ J₅ fun _ s₆ S₆ J₆ h₆ => ?_)))
      obtain ⟨m, hm, hi⟩ := h₆
      exact wpAny_pure (wpAny_pure ⟨rfl, m, hm, S₆, J₆, hi⟩)

theorem V.compLoop_out {elt t0 i0 t1 i1 : Expr} {ifs0 ifs1 : List Expr} {scope : Scope} {pos : Pos} {it acc : Value} {Φ : Flow → St → Prop} (I : Nat → St → Prop)
    (turn : ∀ n S, I n S → VN (model prog w) A C S (pyNext it) fun r S₁ => match r with
      | none => Φ .next S₁
      | some v => ∀ v', nt v' = v → VU (model prog w) A C S₁ (letOwnedTupleGo t0 it v') fun _ S₂ => VU (model prog w) A C S₂ (assign t0 env v') fun _ S₃ => VB (model prog w) A C S₃ (tests ifs0 env) fun ok S₄ =>
          (ok = true → VP (model prog w) A C S₄ (eval i1 env) fun x S₅ => ∀ x', nt x' = x → VP (model prog w) A C S₅ (pyIter x') fun it' S₆ => ∀ it'', nt it'' = it' → VK (model prog w) A C S₆ (.compStart (.ListComp elt [⟨t0, i0, ifs0, 0⟩, ⟨t1, i1, ifs1, 0⟩] scope pos) 1 it'' acc env) fun _ S₇ => ∃ m, m < n ∧ I m S₇) ∧ (ok = false → ∃ m, m < n ∧ I m S₄))
    (n : Nat) (h : I n S) (hs : ∀ x, foldedSetIterable i1 env x = pure x := by intro _; with_unfolding_all rfl) : VK (model prog w) A C S (.compLoop (.ListComp elt [⟨t0, i0, ifs0, 0⟩, ⟨t1, i1, ifs1, 0⟩] scope pos) 0 it acc env) Φ := fun s R J hq => by
  refine codeAny_loop rfl (fun n s => ∃ S, Inv C S s ∧ I n S) (fun n s hI => ?_) n ⟨S, J, h⟩
  obtain ⟨S, J, h⟩ := hI
  show wpAny _ A ((compTurn (.ListComp elt [⟨t0, i0, ifs0, 0⟩, ⟨t1, i1, ifs1, 0⟩] scope pos) 0 it acc env).onRaise (fun x => do noteFrame x env; theTreesLotGoes x)) _ _ s
  refine wpAny_noted ?_
  rw [compTurn_two0]
  refine wpAny_bind (wpAny_standAt (wpAny_bind (turn n S h s _ _ J fun r s₁ S₁ J₁ h₁ => ?_)))
  cases r with
  | none => exact wpAny_pure (hq .next _ _ J₁ h₁)
  | some v =>
    refine wpAny_bind (h₁ v rfl s₁ _ _ J₁ fun _ s₂ S₂ J₂ h₂ => wpAny_bind (h₂ s₂ _ _ J₂ fun _ s₃ S₃ J₃ h₃ => ?_))
    refine wpAny_bind (m := tests ifs0 env) (h₃ s₃ _ _ J₃ fun ok s₄ S₄ J₄ h₄ => ?_)
    cases ok with
    | false => obtain ⟨m, hm, hi⟩ := h₄.2 rfl; exact wpAny_pure ⟨rfl, m, hm, S₄, J₄, hi⟩
    | true =>
      refine wpAny_bind (h₄.1 rfl s₄ _ _ J₄ fun x s₅ S₅ J₅ h₅ => wpAny_bind (wpAny_standAt (wpAny_bind (wpAny_of_eq (hs x) (wpAny_bind (wpAny_holding (h₅ x rfl s₅ _ _ J₅ fun it' s₆ S₆ J₆ h₆ => wpAny_bind (wpAny_runOwn (h₆ it' rfl s₆ _ J₆ fun f s₇ S₇ J₇ h₇ => ?_)))))))))
      obtain ⟨m, hm, hi⟩ := h₇
      exact wpAny_pure ⟨rfl, m, hm, S₇, J₇, hi⟩

theorem V.compStart {elt target iter ifs rest scope pos} {it : Addr} {acc : Value} {Φ : Flow → St → Prop}
    (h0 : VK (model prog w) A C S (.compLoop (.ListComp elt (⟨target, iter, ifs, 0⟩ :: rest) scope pos) 0 (.ref it) acc env) Φ)
    (h : VP (model prog w) A C S (pyIter (.ref it)) fun v S' => v = .ref it ∧ S' = S) :
    VK (model prog w) A C S (.compStart (.ListComp elt (⟨target, iter, ifs, 0⟩ :: rest) scope pos) 0 (.ref it) acc env) Φ := fun s R J hq => by
  refine codeAny_compStart_list (h0 s R J hq) (h s _ _ J fun v s' S' J' e => ?_)
  obtain ⟨e, rfl⟩ := e
  obtain rfl := nt_ref e
  exact h0 s' R J' hq
theorem V.compStart1 {elt t0 i0 t1 i1 : Expr} {ifs0 ifs1 : List Expr} {scope : Scope} {pos : Pos} {it : Addr} {acc : Value} {Φ : Flow → St → Prop}
    (h0 : VK (model prog w) A C S (.compLoop (.ListComp elt [⟨t0, i0, ifs0, 0⟩, ⟨t1, i1, ifs1, 0⟩] scope pos) 1 (.ref it) acc env) Φ)
    (h : VP (model prog w) A C S (pyIter (.ref it)) fun v S' => v = .ref it ∧ S' = S) :
    VK (model prog w) A C S (.compStart (.ListComp elt [⟨t0, i0, ifs0, 0⟩, ⟨t1, i1, ifs1, 0⟩] scope pos) 1 (.ref it) acc env) Φ := fun s R J hq => by
  refine codeAny_of_tree ?_
  show wpAny _ _ ((PySem.compStart (.ListComp elt [⟨t0, i0, ifs0, 0⟩, ⟨t1, i1, ifs1, 0⟩] scope pos) 1 (.ref it) acc env).onRaise (fun x => do noteFrame x env; standAt theWindowsPlace)) _ _ s
  refine wpAny_notedAt ?_
  unfold PySem.compStart
  show wpAny _ _ (ask >>= _) _ _ s
  refine wpAny_bind (wpAny_askSetting (wpAny_ite ?_))
  split
  · first
      | exact wpAny_bind (wpAny_pure (wpAny_pure (And.intro rfl (h0 s R J hq))))
      | exact wpAny_pure (And.intro rfl (h0 s R J hq))
  · refine wpAny_bind (wpAny_rule ?_)
    show wpAny _ _ (standAt i1.pos >>= _) _ _ s
    refine wpAny_bind (wpAny_standAt (wpAny_bind (h s _ _ J fun v s' S' J' e => ?_)))
    obtain ⟨e, rfl⟩ := e
    obtain rfl := nt_ref e
    exact wpAny_pure (And.intro rfl (h0 s' R J' hq))

theorem V.listcomp {elt target iter : Expr} {ifs : List Expr} {rest : List Comprehension} {scope : Scope} {pos : Pos} {cl : List (Str × Addr)} {Φ : Value → St → Prop}
    (hclos : closureFor scope env = pure cl)
    (h : VP (model prog w) A C S (eval iter env) fun x S₁ => ∀ x', nt x' = x → VP (model prog w) A C S₁ (pyIter x') fun it S₂ => ∀ it', nt it' = it → ∀ acc L, VK (model prog w) A C ((L, .ns []) :: (acc, .lst []) :: S₂) (.compStart (.ListComp elt (⟨target, iter, ifs, 0⟩ :: rest) scope pos) 0 it' (.ref acc) (envC scope cl L env))
      fun _ S₃ => ∃ l S₄, Rem (L, .ns l) S₃ S₄ ∧ Φ (.ref acc) S₄)
    (hcell : ∀ y ∈ scope.names, y.2 ≠ .cell := by decide +kernel) (hkind : scope.kind = .function := by with_unfolding_all rfl) (hnames : ∀ y ∈ scope.names, y.2 = .local → scope.names.lookup y.1 = some .local := by decide +kernel)
    (hs : ∀ x, foldedSetIterable iter env x = pure x := by intro _; with_unfolding_all rfl) :
    VP (model prog w) A C S (eval (.ListComp elt (⟨target, iter, ifs, 0⟩ :: rest) scope pos) env) Φ := fun s Q E J hq => by
  rw [eval_ListComp]
  refine wpAny_comprehension_free (use := none) rfl hs hclos hkind hnames (h s _ _ J fun x s₁ S₁ J₁ h₁ => h₁ x rfl s₁ _ _ J₁ fun it s₂ S₂ J₂ h₂ => ?_)
  refine wpAny_newObj_type ?_ (by show (0 : Nat) ≤ sizeLine; exact Nat.zero_le _)
  have J₃ := J₂.allocs (o := { cls := .type "list", data := .seq ([] : List Value).toArray }) (c := .lst []) rfl ⟨#[], 0, rfl, rfl⟩
  refine V.newEnv (binds := []) (Φ := fun cenv S' => ∃ L, cenv = PySem.newEnv scope L env.globals cl env.qual none .none (some env) builtinsNs ∧ S' = ((L, .ns []) :: (s₂.heap.objs.size, .lst []) :: S₂)) hcell (by intro x hx; cases hx) List.nodup_nil (fun L => ⟨L, rfl, rfl⟩) hkind _ _ _ J₃ fun cenv s₄ S₄ J₄ h₄ => ?_
  obtain ⟨L, rfl, rfl⟩ := h₄
  refine h₂ it rfl s₂.heap.objs.size L s₄ _ J₄ fun f s₅ S₅ J₅ h₅ => ?_
  obtain ⟨l, S₆, hr, hΦ⟩ := h₅
  obtain ⟨m, hm, _⟩ := J₅.ns hr.mem
  exact ⟨m, hm, fun h' hs' => hq _ _ S₆ (J₅.rem hr hs'.extBut _) hΦ⟩

theorem V.assign_comp {x : Str} {px pos : Pos} {elt target iter : Expr} {ifs : List Expr} {rest : List Comprehension} {scope : Scope} {cpos : Pos} {cl : List (Str × Addr)} {Φ : Flow → St → Prop}
    (hclos : closureFor scope env = pure cl)
    (h : VP (model prog w) A C S (eval iter env) fun xv S₁ => ∀ x', nt x' = xv → VP (model prog w) A C S₁ (pyIter x') fun it S₂ => ∀ it', nt it' = it → ∀ acc L, VK (model prog w) A C ((L, .ns []) :: (acc, .lst []) :: S₂) (.compStart (.ListComp elt (⟨target, iter, ifs, 0⟩ :: rest) scope cpos) 0 it' (.ref acc) (envC scope cl L env))
      fun _ S₃ => VU (model prog w) A C S₃ (storeName env x (.ref acc)) fun _ S₄ => ∃ l S₅, Rem (L, .ns l) S₄ S₅ ∧ Φ .next S₅)
    (hsw : swapsWith (.ListComp elt (⟨target, iter, ifs, 0⟩ :: rest) scope cpos) (some (.Name x px)) pos.line env = pure true := by with_unfolding_all rfl)
    (hcell : ∀ y ∈ scope.names, y.2 ≠ .cell := by decide +kernel) (hkind : scope.kind = .function := by with_unfolding_all rfl) (hnames : ∀ y ∈ scope.names, y.2 = .local → scope.names.lookup y.1 = some .local := by decide +kernel)
    (hs : ∀ x, foldedSetIterable iter env x = pure x := by intro _; with_unfolding_all rfl) :
    VF (model prog w) A C S (exec (.Assign [.Name x px] (.ListComp elt (⟨target, iter, ifs, 0⟩ :: rest) scope cpos) pos) env) Φ := fun s Q E J hq => by
  rw [exec_Assign_Name_used _ _ _ _ hsw]
  refine wpAny_bind (wpAny_standAt (wpAny_bind ?_))
  show wpAny _ A (do let _ ← comprehension (.ListComp elt (⟨target, iter, ifs, 0⟩ :: rest) scope cpos) scope env _ (newList []) false (eval iter env) (some (assign (.Name x px) env))) _ _ s
  refine wpAny_bind (wpAny_mono (wpAny_comprehension_free (use := some (assign (.Name x px) env)) (Q := fun _ s' => Q .next s') rfl hs hclos hkind hnames (h s _ _ J fun xv s₁ S₁ J₁ h₁ => h₁ xv rfl s₁ _ _ J₁ fun it s₂ S₂ J₂ h₂ => ?_)) (fun _ s' hq => wpAny_pure (wpAny_pure hq)) fun _ _ e => e)
  refine wpAny_newObj_type ?_ (by show (0 : Nat) ≤ sizeLine; exact Nat.zero_le _)
  have J₃ := J₂.allocs (o := { cls := .type "list", data := .seq ([] : List Value).toArray }) (c := .lst []) rfl ⟨#[], 0, rfl, rfl⟩
  refine V.newEnv (binds := []) (Φ := fun cenv S' => ∃ L, cenv = PySem.newEnv scope L env.globals cl env.qual none .none (some env) builtinsNs ∧ S' = ((L, .ns []) :: (s₂.heap.objs.size, .lst []) :: S₂)) hcell (by intro x hx; cases hx) List.nodup_nil (fun L => ⟨L, rfl, rfl⟩) hkind _ _ _ J₃ fun cenv s₄ S₄ J₄ h₄ => ?_
  obtain ⟨L, rfl, rfl⟩ := h₄
  refine h₂ it rfl s₂.heap.objs.size L s₄ _ J₄ fun f s₅ S₅ J₅ h₅ => ?_
  show wpAny _ A (assign (.Name x px) env (.ref s₂.heap.objs.size)) _ _ s₅
  refine wpAny_assign_Name (h₅ s₅ _ _ J₅ fun _ s₆ S₆ J₆ h₆ => ?_)
  obtain ⟨l, S₇, hr, hΦ⟩ := h₆
  obtain ⟨m, hm, _⟩ := J₆.ns hr.mem
  exact ⟨m, hm, fun h' hs' => hq .next _ S₇ (J₆.rem hr hs'.extBut _) hΦ⟩
end
end Mine

set_option Elab.async false
set_option linter.unusedVariables false
set_option maxRecDepth 100000
namespace Mine
open PySem PyProof.Rows PySem.Calls PySem.W

namespace Fc
theorem slot_cit_next : Slot "callable_iterator" "__next__" "callable_iterator.__next__" :=
  .of (owner := "callable_iterator") (n := "__next__") (by rw [typeLookup_type, builtinLookup_eq_fast]; kernel_rfl) (by decide +kernel) (by decide +kernel) (by decide +kernel)
    (by first | exact .inl (by decide +kernel) | exact .inr (by decide +kernel)) (by rw [isSubtype_type]; kernel_rfl)
theorem slot_cit_iter : Slot "callable_iterator" "__iter__" "callable_iterator.__iter__" :=
  .of (owner := "callable_iterator") (n := "__iter__") (by rw [typeLookup_type, builtinLookup_eq_fast]; kernel_rfl) (by decide +kernel) (by decide +kernel) (by decide +kernel)
    (by first | exact .inl (by decide +kernel) | exact .inr (by decide +kernel)) (by rw [isSubtype_type]; kernel_rfl)
theorem entry_cit_next : entryFor table "callable_iterator.__next__" = some Builtin.«callable_iterator.__next__» := entryFor_of_tree (by kernel_rfl)
theorem entry_cit_iter : entryFor table "callable_iterator.__iter__" = some Builtin.«dict_keyiterator.__iter__» :=
  entryFor_alias (id' := "dict_keyiterator.__iter__") (by kernel_rfl) rfl (by decide +kernel) (by kernel_rfl)
theorem args_cit_next (a : Value) : argsOk "callable_iterator.__next__" ⟨[a], []⟩ := by unfold argsOk; kernel_rfl
theorem args_cit_iter (a : Value) : argsOk "callable_iterator.__iter__" ⟨[a], []⟩ := by unfold argsOk; kernel_rfl
theorem kind_iter : builtinKind "iter" = none := by decide +kernel
theorem plain_iter : plainId "iter" = true := by decide +kernel
theorem entry_iter : entryFor table "iter" = some Builtin.«iter» := entryFor_of_tree (by kernel_rfl)
theorem args_iter (a b : Value) : argsOk "iter" ⟨[a, b], []⟩ := by unfold argsOk; kernel_rfl
theorem method_call : typeLookup (.type "method") "__call__" = pure (some (.builtin "method.__call__")) := by rw [typeLookup_type, builtinLookup_eq_fast]; kernel_rfl
end Fc

section
variable {prog : Program} {w : World} {A : Around} {C : Cx} {S S' : St} {env : Env}

theorem V.iter_cit {it : Addr} {c : Ch} {Φ : Value → St → Prop} (hl : (it, c) ∈ S) (hc : c = .citE ∨ ∃ q y, c = .cit q y) (h : Φ (.ref it) S) : VP (model prog w) A C S (pyIter (.ref it)) Φ := fun s Q E I hq => by
  have hT : s.TypeIs (.ref it) "callable_iterator" := by
    obtain ⟨o, ho, hf⟩ := I.get hl
    rcases hc with rfl | ⟨q, y, rfl⟩
    · exact ⟨o, ho, by rw [hf]⟩
    · obtain ⟨t, rfl⟩ := hf; exact ⟨_, ho, rfl⟩
  refine wpAny_pyIter_slot hT Fc.slot_cit_iter (wpAny_call_entry Fc.slot_cit_iter hT Fc.entry_cit_iter ?_ (Fc.args_cit_iter _))
  show wpAny _ _ (PySem.ret (.ref it)) _ _ s
  exact wpAny_pure ⟨_, rfl, "callable_iterator", _, hT, Fc.slot_cit_next.lookup, hq _ _ _ I h⟩

theorem V.iter2 {q : Addr} {f self : Value} {y : Str} {u : Value} {Φ : Value → St → Prop} (hm : (q, Ch.ob (methodObj f self)) ∈ S) (hu : nt u = .str y 0) (h : ∀ it, Φ (.ref it) ((it, .cit q y) :: S)) : VP (model prog w) A C S (call (.builtin "iter") [.ref q, u]) Φ := fun s Q E I hq => by
  obtain ⟨t, rfl⟩ := nt_str hu
  obtain ⟨o, ho, rfl⟩ := I.get hm
  refine call_function_entry Fc.kind_iter Fc.plain_iter Fc.entry_iter (Fc.args_iter _ _) ?_
  have hT : s.TypeIs (.ref q) "method" := ⟨_, ho, rfl⟩
  show wpAny _ _ (do
    if (← specialOf (.ref q) "__call__").isNone then rule "iter.not-callable"; raiseError "TypeError" "iter(v, w): v must be callable"
    rule "iter.sentinel"; PySem.ret (← newFields "callable_iterator" [.ref q, .str y t, .bool false])) _ _ s
  refine wpAny_bind (wpAny_specialOf hT Fc.method_call ?_)
  refine wpAny_bind (wpAny_rule (wpAny_bind (wpAny_newObj_type (wpAny_pure ⟨_, rfl, hq _ _ _ (I.allocs (c := .cit q y) rfl ⟨t, rfl⟩) (h _)⟩))))

end
end Mine

set_option Elab.async false
set_option linter.unusedVariables false
set_option maxRecDepth 100000
namespace Mine
open PySem PyProof.Rows PySem.Calls PySem.W

theorem wp_callBorrowed {M : Model} {A : Around} {E : Value → Shared → Prop} {s : Shared} {f : Value} {pos : List Value} {Q : Value → Shared → Prop} (h : wpAny M A (call f pos) Q E s) : wpAny M A (callBorrowed f pos) Q E s := fun Γ p hΓ => by
  have h' := h Γ p hΓ
  rw [Sem.wp_cmd_call] at h'
  unfold callBorrowed
  rw [Sem.wp_call]
  have e : (fun (r : Result) (s' : Shared) => Sem.wp M Γ (match r with
        | .ok (.ret v) => Sem.pure v
        | .ok _ => Sem.unsupported "internal:call-without-return-value"
        | .error e => Sem.raise e) (fun a x s' => Q a s') (fun e x s' => E e s') p s') = fun r s' => match r with
      | Except.ok (Flow.ret v) => Q v s'
      | Except.ok a => False
      | Except.error e => E e s' := by
    funext r s'
    cases r with
    | error e => rfl
    | ok fl => cases fl <;> rfl
  exact e ▸ h'

section
variable {prog : Program} {w : World} {A : Around} {C : Cx} {S S' : St} {env : Env}

theorem wp_borrows {M : Model} {E : Value → Shared → Prop} {s : Shared} {q f : Addr} {self : Value} {of : Obj} {fd : FuncData} {Q : Bool → Shared → Prop} (ho : s.heap.get? q = some (methodObj (.ref f) self)) (hf : s.heap.get? f = some of) (hd : of.data = .func fd) (h : Q true s) :
    wpAny M A (borrowsExactly (.ref q)) Q E s := by
  unfold borrowsExactly
  refine wpAny_bind (wpAny_load ho ?_)
  show wpAny M A (do match (← load f).data with | .func _ => pure true | _ => pure false) Q E s
  refine wpAny_bind (wpAny_load hf ?_)
  rw [hd]; exact wpAny_pure h

theorem wp_stop {E : Value → Shared → Prop} {s : Shared} {α : Type} {Q : α → Shared → Prop} (hA : A.handled = none)
    (h : ∀ h' e, (∀ b o, s.heap.get? b = some o → h'.get? b = some o) → ({ s with heap := h' } : Shared).TypeIs (.ref e) "StopIteration" → E (.ref e) { s with heap := h' }) : wpAny (model prog w) A (Builtin.SmallTypes.stopIteration : Sem α) Q E s := by
  unfold Builtin.SmallTypes.stopIteration
  refine wpAny_bind ?_
  simp only [newExc, newTuple]
  refine wpAny_bind (wpAny_newObj_type ?_ (by size_fits))
  refine wpAny_bind (m := firstArgMember _ _) (wpAny_of_eq (a := Value.none) (by first | rfl | (simp only [firstArgMember]; rfl)) ?_)
  refine wpAny_newObj_type ?_ (by size_fits)
  refine wpAny_raiseNew_none hA ?_
  exact h _ _ (fun b o e => Heap.get?_push_of_some _ (Heap.get?_push_of_some _ e)) ⟨_, Heap.get?_push_size _ rfl, rfl⟩

theorem wp_eqBool_str {E : Value → Shared → Prop} {s : Shared} {x y : Str} {t u : Tok} {Q : Bool → Shared → Prop} (h : Q (x == y) s) : wpAny (model prog w) A (eqBool (.str x t) (.str y u)) Q E s := by
  unfold eqBool
  refine wpAny_holding ?_
  by_cases e : (Value.str x t == Value.str y u) = true
  · rw [if_pos e]
    have e' : x = y := by have := beq_iff_eq.mp e; injection this
    subst e'
    refine wpAny_bind (wpAny_rule (wpAny_pure ?_))
    simpa using h
  · rw [if_neg e]
    refine wpAny_bind (m := richCompare .Eq (.str x t) (.str y u)) ?_
    have q := PyProof.Rows.eq_str (prog := prog) (w := w) (A := A) (E := E) (s := s) (x := x) (y := y) (t := t) (u := u) (Q := fun r s' => r = .bool (x == y) ∧ s' = s) ⟨rfl, rfl⟩
    refine wpAny_mono (show wpAny (model prog w) A (richCompare .Eq (.str x t) (.str y u)) _ E s from q) (fun r s' hr => ?_) fun _ _ e => e
    obtain ⟨rfl, rfl⟩ := hr
    exact wpAny_truthy_bool h

theorem V.next_cit {it q f : Addr} {self : Value} {y : Str} {of : Obj} {fd : FuncData} {Φ : Option Value → St → Prop} (hA : A.handled = none) (hi : (it, Ch.cit q y) ∈ S) (hq' : (q, Ch.ob (methodObj (.ref f) self)) ∈ S) (hf : At C S f of) (hd : of.data = .func fd)
    (h : VP (model prog w) A.in1 C S (call (.ref q) []) fun r S₁ => ∃ x, r = .str x 0 ∧ (q, Ch.ob (methodObj (.ref f) self)) ∈ S₁ ∧ At C S₁ f of ∧ (it, Ch.cit q y) ∈ S₁ ∧ (x ≠ y → Φ (some (.str x 0)) S₁) ∧ (x = y → ∃ S₂, Upd it .citE S₁ (.cit q y) S₂ ∧ Φ none S₂)) :
    VN (model prog w) A C S (pyNext (.ref it)) Φ := fun s Q E I hQ => by
  obtain ⟨o, ho, t, rfl⟩ := I.get hi
  obtain ⟨om, hom, rfl⟩ := I.get hq'
  have hT : s.TypeIs (.ref it) "callable_iterator" := ⟨_, ho, rfl⟩
  unfold pyNext
  refine wpAny_bind (wpAny_attempt (wpAny_callSpecial?_slot (name := Str.ofString "__next__") hT Fc.slot_cit_next (wpAny_call_entry Fc.slot_cit_next hT Fc.entry_cit_next ?_ (Fc.args_cit_next _))))
  unfold Builtin.«callable_iterator.__next__»
  refine wpAny_bind (m := slotArgs "__next__" 0 ⟨[.ref it], []⟩) (wpAny_pure ?_)
  dsimp only
  refine wpAny_bind (wpAny_field ho rfl (x := .bool false) rfl ?_)
  rw [if_neg (by decide)]
  refine wpAny_bind (wpAny_field ho rfl (x := .ref q) rfl ?_)
  refine wpAny_bind (wpAny_attempt ?_)
  unfold callOutOfASlot
  refine wpAny_bind (wp_borrows hom (hf.get I) hd ?_)
  rw [if_pos rfl]
  refine wp_callBorrowed (h s _ _ I fun r s₁ S₁ I₁ h₁ => ?_)
  obtain ⟨x, hr, hq1, hf1, hi1, hne, heq⟩ := h₁
  obtain ⟨t', rfl⟩ := nt_str hr
  obtain ⟨o1, ho1, t1, rfl⟩ := I₁.get hi1
  obtain ⟨om1, hom1, rfl⟩ := I₁.get hq1
  dsimp only
  refine wpAny_bind (wpAny_field ho1 rfl (x := .bool false) rfl ?_)
  rw [if_neg (by decide)]
  refine wpAny_bind (wpAny_field ho1 rfl (x := .str y t1) rfl ?_)
  refine wpAny_bind (wpAny_holding (wp_eqBool_str ?_))
  by_cases hxy : x = y
  · subst hxy
    rw [if_neg (by simp)]
    refine wpAny_bind (wpAny_rule ?_)
    refine wpAny_bind (m := (do
      slotLetsGo "callable_iterator.__next__" (← field (.ref it) 0) fun | .builtin "callable_iterator.__next__" x => x.pos.head? == some (.ref it) | _ => false
      setField (.ref it) 0 .none; setField (.ref it) 1 .none; setField (.ref it) 2 (.bool true))) ?_
    refine wpAny_bind (wpAny_field ho1 rfl (x := .ref q) rfl ?_)
    unfold slotLetsGo
    refine wpAny_bind (wpAny_bind (wp_borrows hom1 (hf1.get I₁) hd ?_))
    rw [if_pos rfl]
    refine wpAny_pure ?_
    refine wpAny_bind (wpAny_setField_rec ho1 (by simp) fun h1 g1 k1 => ?_)
    refine wpAny_bind (wpAny_setField_rec g1 (by simp) fun h2 g2 k2 => ?_)
    refine wpAny_setField_rec g2 (by simp) fun h3 g3 k3 => ?_
    refine wp_stop hA fun h4 e k4 hT4 => ?_
    refine wpAny_bind (wpAny_isInstance (T := "StopIteration") (b := true) hT4 isSubtype_stop ?_)
    obtain ⟨S₂, hu, hΦ⟩ := heq rfl
    have hk : Heap.ExtBut it s₁.heap h4 := fun b ob hb e => k4 b ob (k3.extBut b ob hb (k2.extBut b ob hb (k1.extBut b ob hb e)))
    exact wpAny_pure (hQ none _ S₂ (I₁.upd hu hk ⟨_, k4 _ _ g3, rfl⟩ _) hΦ)
  · rw [if_pos (by simpa using fun e => hxy e.symm)]
    exact wpAny_pure ⟨_, rfl, wpAny_pure (hQ _ _ _ I₁ (hne hxy))⟩

theorem V.next_citE {it : Addr} {Φ : Option Value → St → Prop} (hA : A.handled = none) (hi : (it, Ch.citE) ∈ S) (h : Φ none S) : VN (model prog w) A C S (pyNext (.ref it)) Φ := fun s Q E I hQ => by
  obtain ⟨o, ho, rfl⟩ := I.get hi
  have hT : s.TypeIs (.ref it) "callable_iterator" := ⟨_, ho, rfl⟩
  unfold pyNext
  refine wpAny_bind (wpAny_attempt (wpAny_callSpecial?_slot (name := Str.ofString "__next__") hT Fc.slot_cit_next (wpAny_call_entry Fc.slot_cit_next hT Fc.entry_cit_next ?_ (Fc.args_cit_next _))))
  unfold Builtin.«callable_iterator.__next__»
  refine wpAny_bind (m := slotArgs "__next__" 0 ⟨[.ref it], []⟩) (wpAny_pure ?_)
  dsimp only
  refine wpAny_bind (wpAny_field ho rfl (x := .bool true) rfl ?_)
  rw [if_pos (by decide)]
  refine wpAny_bind (wpAny_rule (wpAny_bind (wp_stop hA fun h4 e k4 hT4 => ?_)))
  refine wpAny_bind (wpAny_isInstance (T := "StopIteration") (b := true) hT4 isSubtype_stop ?_)
  exact wpAny_pure (hQ none _ S (I.keep k4 _) h)

end
end Mine

set_option Elab.async false
set_option linter.unusedVariables false
set_option maxRecDepth 100000
namespace Mine
open PySem PyProof.Rows PySem.Calls PySem.W PySem.Spec

section
variable {prog : Program} {w : World} {A : Around} {C : Cx} {S S' : St} {env : Env}

theorem Inv.more {s : Shared} (I : Inv C S s) {T : St} {h' : Heap} (hk : ∀ b o, s.heap.get? b = some o → h'.get? b = some o) (hT : ∀ p ∈ T, s.heap.get? p.1 = none ∧ ∃ o, h'.get? p.1 = some o ∧ Fits o p.2) (hn : (T.map (·.1)).Nodup) (tk : Nat) :
    Inv C (T ++ S) { s with heap := h', toks := tk } := by
  have none_of : ∀ a, s.heap.get? a = none → C.B.get? a = none := fun a h => by
    cases e : C.B.get? a with
    | none => rfl
    | some o => obtain ⟨o', h2⟩ := I.old.there _ _ e; rw [h] at h2; cases h2
  refine I.ext (a := s.heap.objs.size) I.size_fresh ?_ ?_ (fun b o _ e => hk b o e) tk
  · intro p hp
    rcases List.mem_append.mp hp with hp | hp
    · exact .inr ⟨none_of _ (hT p hp).1, (hT p hp).2⟩
    · exact .inl ⟨hp, fun e => by obtain ⟨o', h, _⟩ := I.is p hp; exact Nat.lt_irrefl _ (e ▸ Heap.lt_size h)⟩
  · rw [List.map_append]
    refine List.nodup_append.mpr ⟨hn, I.nod, fun a ha b hb e => ?_⟩
    subst e
    obtain ⟨p, hp, rfl⟩ := List.mem_map.mp ha
    obtain ⟨q, hq, e⟩ := List.mem_map.mp hb
    obtain ⟨o, h, _⟩ := I.is q hq
    rw [e, (hT p hp).1] at h; cases h

theorem V.new {cls N fI : Addr} {mN} {oI : Obj} {rest : List Value} {Φ : Value → St → Prop} (X : Cls C cls N mN) (hi : mN "__init__" = some (.ref fI)) (hfI : C.K.lookup fI = some oI) (hfc : oI.cls = .type "function")
    (h : ∀ x dx, VP (model prog w) (A.under (.builtin "type.__call__" ⟨.ref cls :: rest, []⟩)) C ((x, .inst cls dx) :: (dx, .at []) :: S) (call (.ref fI) (.ref x :: rest)) fun r S' => r = .none ∧ Φ (.ref x) S') :
    VP (model prog w) A C S (call (.ref cls) rest) Φ := fun s Q E I hq => by
  obtain ⟨nm, q, bs, sn, sub, col, dd, k0, k1, k2, k3, k5, hC⟩ := X.obj
  have hn := X.nsAt I
  have hk := I.known _ _ hC
  have hk2 := I.known _ _ hfI
  have I' := I
  obtain ⟨hh, g, d, t, os⟩ := s
  refine wpAny_call_obj_init F.objNew hk hn hi hk2 hfc fun h' x dx m => ?_
  have J : Inv C ([(x, Ch.inst cls dx), (dx, Ch.at [])] ++ S) { heap := h', gens := g, drawn := d, toks := t, os := os } := by
    obtain ⟨o, ho, hc, hnc, hd⟩ := m.inst
    have hdx := m.dict o ho
    rcases hd with ⟨hd, _⟩ | ⟨d', hd, hne, od, es, ep, r1, r2, r3, r4, r5⟩
    · rw [hdx] at hd; cases hd
    · rw [hdx] at hd; cases hd
      refine I'.more m.keeps (fun p hp => ?_) ?_ t
      · rcases List.mem_cons.mp hp with rfl | hp
        · exact ⟨m.newX, o, ho, hc, hnc, hdx⟩
        · rw [List.mem_singleton] at hp; subst hp
          exact ⟨m.newD, od, r1, es, ep, r2, r3, r4, fun y => by rw [r5]; rfl⟩
      · simp only [List.map_cons, List.map_nil, List.nodup_cons, List.mem_singleton, List.not_mem_nil, not_false_iff, List.nodup_nil, and_true]
        exact fun e => hne e.symm
  exact h x dx _ _ _ J fun r s' S' I' hr => ⟨nt_none hr.1, hq _ _ _ I' hr.2⟩

theorem lookIn_none {o : Obj} {es : Array DictEntry} {ep : Nat} {name : Str} (hd : o.data = .dict es ep) (hk : StrKeys es) (hn : nsFind es name = none) : lookIn name o = some none := by
  unfold lookIn
  rw [hd]
  dsimp only
  have h1 : es.toList.find? (·.key.isStr name) = none := by
    have : es.find? (fun e => e.key.isStr name) = none := by
      unfold nsFind findBy at hn
      simpa using hn
    rw [Array.find?_toList]; exact this
  have h2 : es.toList.any (·.refKey) = false := by
    rw [List.any_eq_false]
    intro e he
    obtain ⟨n, t, hx⟩ := hk e (by simpa using he)
    simp [DictEntry.refKey, hx]
  rw [h1]
  dsimp only
  rw [h2]; rfl

theorem V.attr_bound {x cls dx f : Addr} {name : Str} {l} {expr : Bool} {Φ : Value → St → Prop} (hx : (x, Ch.inst cls dx) ∈ S) (hd : (dx, Ch.at l) ∈ S) (hl : l.lookup name = none)
    (hg : plainGet C.K cls name = true) (hh : hasDictIn C.K cls = true) (ha : findIn C.K (.ref cls) name = some (some (.ref f))) (hf : isFn C.K (.ref f) = true) (hgf : specialIn C.K (.ref f) "__get__" = some (some (.builtin "function.__get__")))
    (ht : takesIn C.K (.ref f) = some false) (hc : copiedNames.contains name = false) (h : ∀ q, Φ (.ref q) ((q, .ob (methodObj (.ref f) (.ref x))) :: S)) : VP (model prog w) A C S (getAttr (.ref x) name expr) Φ := fun s Q E I hq => by
  obtain ⟨mA, hi, hm, ⟨ox, hox, hdx, hcl, hnc⟩, hne⟩ := I.inst hx hd
  obtain ⟨od, hod, es, ep, g1, g2, g3, g4⟩ := I.get hd
  have hn : nsFind es name = none := by have := g4 name; rw [hl] at this; simpa using this
  refine get_bind (od := some od) I.known ⟨hox, hcl, hnc, by rw [hdx]; exact hod⟩ (plainGet_of hg).1 (findObj_fn hh ha hgf ht hc (lookIn_none g1 g2 hn)) (plainGet_of hg).2 ?_
  refine wpAny_call (fn_get (s := { s with toks := s.toks + 1 }) I.known (beq_iff_eq.mp hf) ?_)
  exact handed_on rfl (hq _ _ _ (I.alloc (c := .ob (methodObj (.ref f) (.ref x))) rfl rfl _) (h _))

noncomputable def VC (M : Model) (A : Around) (C : Cx) (S : St) (c : Code) (Φ : Value → St → Prop) : Prop :=
  ∀ (s : Shared) (R : Result → Shared → Prop), Inv C S s → (∀ v s' S', Inv C S' s' → Φ (nt v) S' → R (.ok (.ret v)) s') → codeAny M A c R s
theorem V.call_of {f : Value} {vals : List Value} {Φ : Value → St → Prop} (h : VC (model prog w) A C S (.call f ⟨vals, []⟩) Φ) : VP (model prog w) A C S (call f vals) Φ := fun s Q E I hq =>
  wpAny_call (h s _ I fun v s' S' I' hΦ => hq v s' S' I' hΦ)
theorem V.code_bound {q : Addr} {f self : Value} {vals : List Value} {Φ : Value → St → Prop} (hm : (q, Ch.ob (methodObj f self)) ∈ S) (h : VC (model prog w) A C S (.call f ⟨self :: vals, []⟩) Φ) : VC (model prog w) A C S (.call (.ref q) ⟨vals, []⟩) Φ := fun s R I hq => by
  obtain ⟨o, ho, rfl⟩ := I.get hm
  exact method_call ho (h s R I hq)
theorem VC.mono {c : Code} {Φ Ψ : Value → St → Prop} (h : VC (model prog w) A C S c Φ) (k : ∀ v S', Φ v S' → Ψ v S') : VC (model prog w) A C S c Ψ := fun s R I hq => h s R I fun v s' S' I' p => hq v s' S' I' (k _ _ p)

theorem V.code_fn {a : Addr} {o : Obj} {fd : FuncData} {body : List Stmt} {vals : List Value} {binds : List (Str × Value)} {Φ : Value → St → Prop}
    (ho : At C S a o) (hd : o.data = .func fd) (hcd : Code1 C S fd) (hb : fd.body = .stmts body) (hbind : bindArgs fd ⟨vals, []⟩ = pure binds) (hroom : A.depth < recursionLimit)
    (hc : ∀ x ∈ fd.scope.names, x.2 ≠ .cell) (hl : (binds.all fun x => decide (fd.scope.names.lookup x.1 = some .local)) = true) (hn : decide (binds.map Prod.fst).Nodup = true)
    (h : ∀ L, VF (model prog w) (A.deeper (envF fd L a fd.closure)) C ((L, .ns (binds.map fun x => (x.1, nt x.2))) :: S) (execs body (envF fd L a fd.closure)) fun f S' => Φ (retOf f) S')
    (hco : fd.scope.isCoroutine = false := by with_unfolding_all rfl) (hgen : fd.scope.isGenerator = false := by with_unfolding_all rfl) (hk : fd.scope.kind = .function := by with_unfolding_all rfl) :
    VC (model prog w) A C S (.call (.ref a) ⟨vals, []⟩) Φ := fun s R I hq => by
  refine codeAny_call_function hroom (ho.get I) hd hco hgen hb (hcd.get I) ?_
  rw [hbind]
  refine wpAny_pure (V.newEnv (Φ := fun env' S' => ∃ L, env' = envF fd L a fd.closure ∧ S' = ((L, Ch.ns (binds.map fun x => (x.1, nt x.2))) :: S)) hc (locs hl) (of_decide_eq_true hn) (fun L => ?_) hk s _ _ I fun env' s' S' I' h' => ?_)
  · exact ⟨L, envF_eq .., rfl⟩
  · obtain ⟨L, rfl, rfl⟩ := h'
    refine ⟨I'.nolimit, codeAny_func (h L s' _ _ I' fun f s'' S'' I'' h'' => ?_)⟩
    cases f <;> exact hq _ _ _ I'' h''

theorem V.code_cells {a : Addr} {o : Obj} {fd : FuncData} {body : List Stmt} {vals : List Value} {binds : List (Str × Value)} {lb : List (Str × Value)} {cs : Addr → List (Str × Addr)} {cb : Str → Option Value} {Φ : Value → St → Prop}
    (ho : At C S a o) (hd : o.data = .func fd) (hcd : Code1 C S fd) (hb : fd.body = .stmts body) (hbind : bindArgs fd ⟨vals, []⟩ = pure binds) (hclo : fd.closure = []) (hroom : A.depth < recursionLimit)
    (hcs : ∀ L, cellsFrom (L + 1) fd.scope.names [] = cs L) (hcn : ∀ L, ((cs L).map Prod.fst).Nodup)
    (hkind : ∀ L, ∀ x ∈ binds, fd.scope.names.lookup x.1 = some .local ∨ (fd.scope.names.lookup x.1 = some .cell ∧ ((cs L).lookup x.1).isSome = true))
    (hlb : ∀ L x v, (x, v) ∈ lb → ∃ u, bindL (envF fd L a (cs L)).kindOf binds (fun _ => none) x = some u ∧ nt u = v)
    (hcb : ∀ L n c, (n, c) ∈ cs L → (bindC (envF fd L a (cs L)).kindOf binds (fun _ => none) n).map nt = cb n)
    (h : ∀ L, VF (model prog w) (A.deeper (envF fd L a (cs L))) C ((L, .ns lb) :: ((cs L).map fun x => (x.2, Ch.cell (cb x.1))) ++ S) (execs body (envF fd L a (cs L))) fun f S' => Φ (retOf f) S')
    (hco : fd.scope.isCoroutine = false := by with_unfolding_all rfl) (hgen : fd.scope.isGenerator = false := by with_unfolding_all rfl) (hk : fd.scope.kind = .function := by with_unfolding_all rfl) :
    VC (model prog w) A C S (.call (.ref a) ⟨vals, []⟩) Φ := fun s R I hq => by
  refine codeAny_call_function hroom (ho.get I) hd hco hgen hb (hcd.get I) ?_
  rw [hbind, hclo]
  have hcsL := hcs s.heap.objs.size
  refine wpAny_pure (wpAny_newFunctionEnv_cells hk (by rw [hcsL]; exact hkind s.heap.objs.size) fun env he s' x => ?_)
  rw [hcsL] at he
  rw [envF_eq] at he
  subst he
  have hfr : ∀ b, s.heap.objs.size ≤ b → s.heap.get? b = none := fun b hb => by
    cases e : s.heap.get? b with
    | none => rfl
    | some o' => exact absurd (Heap.lt_size e) (Nat.not_lt.mpr hb)
  have hmem : ∀ n c, (n, c) ∈ cs s.heap.objs.size → (cs s.heap.objs.size).lookup n = some c := fun n c hm => by
    have := hcn s.heap.objs.size
    revert hm this
    generalize cs s.heap.objs.size = l
    intro hm hnd
    induction l with
    | nil => cases hm
    | cons p r ih =>
      rw [List.map_cons, List.nodup_cons] at hnd
      rcases List.mem_cons.mp hm with e | hm'
      · rw [← e]; simp
      · have : (n == p.1) = false := by
          simp only [beq_eq_false_iff_ne, ne_eq]
          intro e; exact hnd.1 (List.mem_map.mpr ⟨_, hm', e⟩)
        obtain ⟨k, u⟩ := p
        rw [List.lookup_cons, this]
        exact ih hm' hnd.2
  obtain ⟨h', tk, he⟩ := x.toInCall.same
  have hkeep := x.toInCall.keep
  subst he
  have J := I.more (T := (s.heap.objs.size, .ns lb) :: (cs s.heap.objs.size).map fun x => (x.2, Ch.cell (cb x.1))) (h' := h') hkeep (fun p hp => ?_) ?_ tk
  · refine ⟨J.nolimit, codeAny_func (h s.heap.objs.size _ _ _ J fun f s'' S'' I'' h'' => ?_)⟩
    cases f <;> exact hq _ _ _ I'' h''
  · rcases List.mem_cons.mp hp with rfl | hp
    · exact ⟨hfr _ (Nat.le_refl _), fits_ns x.toInCall.ns (hlb _)⟩
    · obtain ⟨⟨n, c⟩, hm, rfl⟩ := List.mem_map.mp hp
      refine ⟨hfr _ (Nat.le_of_lt (x.above n c hm)), ?_⟩
      obtain ⟨o', ho', hd'⟩ := x.cell n c (hmem n c hm)
      exact ⟨o', ho', _, hd', hcb _ n c hm⟩
  · rw [List.map_cons, List.map_map]
    refine List.nodup_cons.mpr ⟨fun hm => ?_, ?_⟩
    · obtain ⟨⟨n, c⟩, hm, e⟩ := List.mem_map.mp hm
      have e' : c = s.heap.objs.size := e
      have := x.above n c hm
      rw [e'] at this
      exact Nat.lt_irrefl _ this
    · exact List.pairwise_map.mpr x.apart

theorem VO.is_none {v : Value} {Φ : Value → St → Prop} (h : Φ (.bool (v == .none)) S) : ∀ a' b', nt a' = v → nt b' = .none → VP (model prog w) A C S (compareOp .Is a' b') Φ := by
  intro a' b' ha hb; obtain rfl := nt_none hb; subst ha
  have e : (nt a' == Value.none) = (a' == Value.none) := by cases a' <;> rfl
  rw [e] at h
  exact fun s Q E I hq => PySem.is_none (hq _ _ _ I h)
theorem VO.isNot_none {v : Value} {Φ : Value → St → Prop} (h : Φ (.bool (!(v == .none))) S) : ∀ a' b', nt a' = v → nt b' = .none → VP (model prog w) A C S (compareOp .IsNot a' b') Φ := by
  intro a' b' ha hb; obtain rfl := nt_none hb; subst ha
  have e : (nt a' == Value.none) = (a' == Value.none) := by cases a' <;> rfl
  rw [e] at h
  exact fun s Q E I hq => PySem.isNot_none (hq _ _ _ I h)

theorem V.in_set {l : Addr} {T : Int → Bool} {n : Nat} {k : Int} (hS : ∀ h : Heap, C.K.In h → h.SetOf (intKind prog w) l T n) {Φ : Value → St → Prop} (h : Φ (.bool (T k)) S) : ∀ a' b', nt a' = .int k 0 → nt b' = .ref l → VP (model prog w) A C S (compareOp .In a' b') Φ := by
  intro a' b' ha hb; obtain ⟨t, rfl⟩ := nt_int ha; obtain rfl := nt_ref hb
  exact fun s Q E I hq => wpAny_inSet_of (intKind_is prog w k t) rfl (hS _ I.known) (hq _ _ _ (I.tok _) h)

theorem V.meth_dict {d : Addr} {D : List (PyData × PyData)} (hT : ∀ h : Heap, C.K.In h → IntTab prog w h d D) {pl : Sem Bool} {Φ : Value × List Value → St → Prop} (h : Φ (.builtin "dict.get", [.ref d]) S) :
    VG (model prog w) A C (fun x => x) S (getMethod (.ref d) "get" pl) Φ := fun s Q E I hq => getMethod_intTab_get (hT _ I.known) (hq _ _ _ I h)
theorem V.dict_get {d : Addr} {D : List (PyData × PyData)} (hT : ∀ h : Heap, C.K.In h → IntTab prog w h d D) {k : Int} {v : Value} (hv : nt v = .int k 0) {Φ : Value → St → Prop} (h : ∀ r, PyProof.V.Flat r ((PySem.Spec.lookup (.int k) D).getD .none) → Φ (nt r) S) :
    VP (model prog w) A C S (call (.builtin "dict.get") [.ref d, v]) Φ := fun s Q E I hq => by
  obtain ⟨t, rfl⟩ := nt_int hv
  exact call_get1_intTab (hT _ I.known) fun r hr => hq _ _ _ (I.tok _) (h r hr)

theorem nt_int_map {vs : Array Value} {ns : List Int} (h : vs.toList.map nt = ns.map fun i => .int i 0) : ∃ xs : Array (Int × Tok), vs = intItems xs ∧ xs.toList.map (·.1) = ns := by
  obtain ⟨l⟩ := vs
  dsimp only at h
  have : ∃ xs : List (Int × Tok), l = xs.map (fun p => Value.int p.1 p.2) ∧ xs.map (·.1) = ns := by
    induction ns generalizing l with
    | nil => cases l with
      | nil => exact ⟨[], rfl, rfl⟩
      | cons _ _ => cases h
    | cons n ns ih => cases l with
      | nil => cases h
      | cons v l =>
        rw [List.map_cons, List.map_cons, List.cons.injEq] at h
        obtain ⟨t, rfl⟩ := nt_int h.1
        obtain ⟨xs, rfl, h2⟩ := ih l h.2
        exact ⟨(n, t) :: xs, rfl, by rw [List.map_cons, h2]⟩
  obtain ⟨xs, rfl, h2⟩ := this
  exact ⟨xs.toArray, by simp [intItems], by simpa using h2⟩

theorem V.sum {l : Addr} {ns : List Int} (hA : A.handled = none) (hl : IsL C S l (ns.map fun i => .int i 0)) {Φ : Value → St → Prop} (h : Φ (.int ns.sum 0) S) : VP (model prog w) A C S (call (.builtin "sum") [.ref l]) Φ := fun s Q E I hq => by
  obtain ⟨vs, hv, e⟩ := hl s I
  obtain ⟨xs, rfl, hx⟩ := nt_int_map e
  refine sum_intListG hA hv fun h' tk t' hk => hq _ _ _ (I.keep hk _) ?_
  show Φ (.int (preSum (numAt xs) xs.size) 0) S
  rw [preSum_eq, List.take_of_length_le (by simp), hx]; exact h

theorem V.list_range {r : Addr} {a b : Int} {n : Nat} (hA : A.handled = none) (hr : (r, Ch.rng a b 1) ∈ S) (hs : Builtin.Range.small a b 1 = true) (hn : Builtin.Range.rangeSize a b 1 = n) (hlen : n ≤ 2 ^ 24) {Φ : Value → St → Prop}
    (h : ∀ q, Φ (.ref q) ((q, .lst ((List.range n).map fun i => .int (a + (i : Nat)) 0)) :: S)) : VP (model prog w) A C S (call (.type "list") [.ref r]) Φ := fun s Q E I hq => by
  obtain ⟨o, ho, t, u, v, rfl⟩ := I.get hr
  refine call_list_range hA ho hs hn hlen fun h' tk acc c' hk hq' hit => ?_
  have hfr : s.heap.get? s.heap.objs.size = none := by
    cases e : s.heap.get? s.heap.objs.size with
    | none => rfl
    | some o' => exact absurd (Heap.lt_size e) (Nat.lt_irrefl _)
  have J := I.more (T := [(s.heap.objs.size, .lst ((List.range n).map fun i => .int (a + (i : Nat)) 0))]) (h' := h') hk (fun p hp => ?_) (by simp) tk
  · exact hq _ _ _ J (h _)
  · rw [List.mem_singleton] at hp; subst hp
    refine ⟨hfr, _, hq', acc, c', rfl, ?_⟩
    obtain ⟨h1, h2⟩ := hit
    apply List.ext_getElem?
    intro j
    rw [List.getElem?_map, List.getElem?_map, Array.getElem?_toList]
    cases e : acc[j]? with
    | none =>
      have h3 : acc.size ≤ j := by simpa using e
      have h4 : (List.range n)[j]? = none := by rw [List.getElem?_eq_none_iff, List.length_range]; omega
      rw [h4]; rfl
    | some x =>
      have hlt : j < acc.size := (Array.getElem?_eq_some_iff.mp e).1
      have h4 : (List.range n)[j]? = some j := by rw [List.getElem?_range (by omega)]
      rw [h4]
      obtain ⟨t, rfl⟩ := h2 j x e
      simp [nt]
end
end Mine

set_option Elab.async false
set_option linter.unusedVariables false
set_option maxRecDepth 100000
namespace Mine
open PySem PyProof.Rows PySem.Calls PySem.W PySem.Spec

structure DefAt (C : Cx) (c P bm : Addr) (ob : Obj) : Prop where
  code : ∀ h : Heap, C.K.In h → h.get? P = some { cls := .none, data := .fields #[] } → h.IsCode c P #[] ∧ h.TableAt c P #[]
  base : C.B.TableAt c P #[]
  out : C.K.lookup P = none
  n1 : P ≠ mainGlobals
  n2 : P ≠ builtinsNs
  n3 : P ≠ cStatics
  n4 : P ≠ C.arg.1
  mod : C.mg "__builtins__" = some (.ref bm)
  bm0 : bm ≠ builtinsNs
  bmo : C.K.lookup bm = some ob
  bcls : ob.cls = .type "module"
  bdict : ob.dict = some builtinsNs
  bdata : ob.data = .plain

section
variable {prog : Program} {w : World} {A : Around} {C : Cx} {S S' : St} {env : Env}

theorem Inv.table {s : Shared} (I : Inv C S s) {c P bm : Addr} {ob : Obj} (D : DefAt C c P bm ob) {h' : Heap} {more : Array Value} (hr : Rem (P, .tab) S S') (hx : Heap.ExtBut P s.heap h') (ht : h'.TableAt c P more) (tk : Nat) : Inv C S' { s with heap := h', toks := tk } := by
  obtain ⟨o, ho, rfl⟩ := I.get hr.mem
  have hc := (D.code _ I.known ho).2
  refine ⟨I.old.step_table D.base hc (more := more) (by simpa using ht) hx D.n3, ?_, I.nod.sublist (hr.sub.map _), fun p hp => I.above p (hr.sub.subset hp), fun b o e => hx _ _ (fun x => by rw [x, D.out] at e; cases e) (I.known b o e), I.small, hx _ _ (fun x => D.n4 x.symm) I.arg, I.argB, ns_ext I.g hx (fun x => D.n1 x.symm), ns_ext I.b hx (fun x => D.n2 x.symm), I.nss, nolimit_ext I.nolimit hx (fun x => D.n3 x.symm), I.os, I.gens⟩
  intro p hp
  obtain ⟨o, h1, h2⟩ := I.is p (hr.sub.subset hp)
  exact ⟨o, hx _ _ (hr.ne I.nod p hp) h1, h2⟩

theorem Inv.adopt {s : Shared} (I : Inv C S s) {a : Addr} {c : Ch} (ha : a ∉ S.map (·.1)) (hb : C.B.get? a = none) (hf : ∃ o, s.heap.get? a = some o ∧ Fits o c) : Inv C ((a, c) :: S) s :=
  I.ext (a := s.heap.objs.size) I.size_fresh (fun p hp => by
    rcases List.mem_cons.mp hp with rfl | hp
    · exact .inr ⟨hb, hf⟩
    · exact .inl ⟨hp, fun e => by obtain ⟨o', h, _⟩ := I.is p hp; exact Nat.lt_irrefl _ (e ▸ Heap.lt_size h)⟩) (by rw [List.map_cons]; exact List.nodup_cons.mpr ⟨ha, I.nod⟩) (fun b o _ e => e) s.toks

theorem V.def_clos {name qual : Str} {params : Arguments} {body : List Stmt} {scope : Scope} {pos : Pos} {cl : List (Str × Addr)} {c P bm : Addr} {ob : Obj} {Φ : Flow → St → Prop} (D : DefAt C c P bm ob)
    (hkw : params.kwonlyargs = []) (hkd : params.kw_defaults = []) (hdf : params.defaults = []) (hann0 : annTrees params none env = []) (hq : qualnameIn env name name = qual)
    (hcl : closureFor scope env = pure cl) (hne : cl.isEmpty = false) (hlen : cl.length ≤ sizeLine) (hcode : env.code = .ref c) (hg : env.globals = mainGlobals) (hbu : env.builtins = builtinsNs) (hr : Rem (P, .tab) S S')
    (h : ∀ f c', VU (model prog w) A C ((f, .clos name qual params body scope cl c') :: (c', .code qual) :: S') (storeName env name (.ref f)) fun _ S₂ => Φ .next S₂) :
    VF (model prog w) A C S (exec (.FunctionDef name params body [] none [] scope none name pos) env) Φ := fun s Q E I hQ => by
  rw [exec_def, hq, defaultsOf_eq, hkd, hdf, hann0]
  refine wpAny_bind (wpAny_standAt (wpAny_bind (wpAny_holding ?_)))
  show wpAny _ A (do let dv ← evalAll []; let kdv ← holding dv (evalAllOpt []); _) _ E s
  refine wpAny_bind (wpAny_pure (a := []) (wpAny_bind (wpAny_holding (wpAny_pure (a := []) ?_))))
  refine wpAny_holding ?_
  refine wpAny_bind (wpAny_pure (a := []) ?_)
  rw [makeFunction_eq, hkw]
  refine wpAny_bind (wpAny_pure (a := Value.none) (wpAny_bind (wpAny_pure (a := Value.none) (wpAny_bind (wpAny_pure (a := none) ?_)))))
  unfold makeTail
  rw [hcl]
  refine wpAny_bind (wpAny_pure ?_)
  dsimp only
  rw [hne, if_neg (by decide)]
  refine wpAny_bind (wpAny_newTextTuple ?_)
  have I1 := (I.allocs (o := { cls := .type "tuple", data := .seq (List.map (fun x : Str × Addr => Value.ref x.2) (cl.mergeSort fun a b => decide (a.1.cps.toList ≤ b.1.cps.toList))).toArray }) (c := .any) rfl trivial).drop (List.sublist_cons_self _ _)
  obtain ⟨o, ho, rfl⟩ := I1.get hr.mem
  have hc := D.code _ I1.known ho
  refine wpAny_bind (wpAny_functionCodeX hcode hc.1 hc.2 rfl fun c' h' tk hx hge hlt hok' hrec htab htb => ?_)
  have J := I1.table D hr hx htab tk
  refine wpAny_bind (wpAny_builtinsFor (m := C.mg) (hg ▸ J.g) D.mod D.bm0 (J.known _ _ D.bmo) D.bcls D.bdict D.bdata ?_)
  refine wpAny_bind (wpAny_nsGet (hg ▸ J.g) ?_)
  have fin : ∀ (doc : Value) (tk' : Nat) (fd : FuncData), fd = { name := name, qualname := qual, params := params, body := FuncBody.stmts body, scope := scope, globals := env.globals, closure := cl, defaults := Value.none, kwdefaults := Value.none, doc := doc, pyModule := (C.mg (Str.ofString "__name__")).getD Value.none, code := .ref c', closureTuple := .ref s.heap.objs.size, builtins := builtinsNs } → wpAny (model prog w) A (newObj (Value.type "function") (Data.func fd))
    (fun a s' => wpAny (model prog w) A (do standAt pos; bindName env name a; pure Flow.next) Q E s') E { s with heap := h', toks := tk' } := by
    intro doc tk' fd hfd
    refine wpAny_newObj_type ?_ (by size_fits)
    have J1 := (J.tok tk').adopt (a := c') (c := .code qual) ?_ ?_ ?_
    · have J2 := J1.allocs (o := { cls := .type "function", data := .func fd }) (c := .clos name qual params body scope cl c') rfl ⟨rfl, fd, rfl, by rw [hfd], by rw [hfd], by rw [hfd], by rw [hfd], by rw [hfd], by rw [hfd], by rw [hfd], by rw [hfd]; exact hg, by rw [hfd], by rw [hfd], by rw [hfd], by rw [hfd]⟩
      exact wpAny_bind (wpAny_standAt (wpAny_bind (wpAny_bindName (h _ c' _ _ E J2 fun _ s₂ S₂ I₂ h₂ => wpAny_pure (hQ .next _ _ I₂ h₂)))))
    · intro hm
      obtain ⟨p, hp, e⟩ := List.mem_map.mp hm
      obtain ⟨o, h1, _⟩ := I1.is p (hr.sub.subset hp)
      exact Nat.lt_irrefl _ (Nat.lt_of_lt_of_le (e ▸ Heap.lt_size h1) hge)
    · cases e : C.B.get? c' with
      | none => rfl
      | some o => obtain ⟨o', h2⟩ := I1.old.there _ _ e; exact absurd (Heap.lt_size h2) (Nat.not_lt.mpr hge)
    · obtain ⟨c₂, oc, vs, t, e, h1, h2, h3⟩ := hrec
      cases e
      exact ⟨oc, h1, vs, t, h2, h3⟩
  cases docOf body with
  | none => exact wpAny_bind (wpAny_pure (fin _ _ _ rfl))
  | some t => exact wpAny_bind (wpAny_mkText (fin _ _ _ rfl))

theorem V.code_clos {f c' : Addr} {name qual : Str} {params : Arguments} {body : List Stmt} {scope : Scope} {cl : List (Str × Addr)} {vals : List Value} {binds : List (Str × Value)} {Φ : Value → St → Prop}
    (hf : (f, Ch.clos name qual params body scope cl c') ∈ S) (hc : (c', Ch.code qual) ∈ S) (hroom : A.depth < recursionLimit)
    (hbind : ∀ doc pm ct, bindArgs { name := name, qualname := qual, params := params, body := .stmts body, scope := scope, globals := mainGlobals, closure := cl, defaults := .none, kwdefaults := .none, doc := doc, pyModule := pm, code := .ref c', closureTuple := ct, builtins := builtinsNs } ⟨vals, []⟩ = pure binds)
    (hcell : ∀ x ∈ scope.names, x.2 ≠ .cell) (hl : (binds.all fun x => decide (scope.names.lookup x.1 = some .local)) = true) (hn : decide (binds.map Prod.fst).Nodup = true)
    (h : ∀ L, VF (model prog w) (A.deeper { scope := scope, locals := L, globals := mainGlobals, cells := cl, qual := qual ++ ".<locals>.", func := some f, code := .ref c', frame := some L, builtins := builtinsNs }) C ((L, .ns (binds.map fun x => (x.1, nt x.2))) :: S)
      (execs body { scope := scope, locals := L, globals := mainGlobals, cells := cl, qual := qual ++ ".<locals>.", func := some f, code := .ref c', frame := some L, builtins := builtinsNs }) fun f S' => Φ (retOf f) S')
    (hco : scope.isCoroutine = false := by with_unfolding_all rfl) (hgen : scope.isGenerator = false := by with_unfolding_all rfl) (hk : scope.kind = .function := by with_unfolding_all rfl) :
    VC (model prog w) A C S (.call (.ref f) ⟨vals, []⟩) Φ := fun s R I hq => by
  obtain ⟨o, ho, hcls, fd, hd, e⟩ := I.get hf
  obtain ⟨fname, fqual, fparams, fbody, fscope, fglobals, fclosure, fdefaults, fkw, fdoc, fpm, fann, fcode, fct, fb⟩ := fd
  simp only at e
  obtain ⟨rfl, rfl, rfl, rfl, rfl, rfl, rfl, rfl, rfl, rfl, rfl, rfl⟩ := e
  obtain ⟨oc, hoc, vs, t, h2, h3⟩ := I.get hc
  refine codeAny_call_function hroom ho hd hco hgen rfl ⟨c', oc, vs, t, rfl, hoc, h2, h3⟩ ?_
  rw [hbind]
  refine wpAny_pure (V.newEnv (Φ := fun env' S' => ∃ L, env' = ({ scope := fscope, locals := L, globals := mainGlobals, cells := fclosure, qual := fqual ++ ".<locals>.", func := some f, code := .ref c', frame := some L, builtins := builtinsNs } : Env) ∧ S' = ((L, Ch.ns (binds.map fun x => (x.1, nt x.2))) :: S)) hcell (locs hl) (of_decide_eq_true hn) (fun L => ?_) hk s _ _ I fun env' s' S' I' h' => ?_)
  · exact ⟨L, rfl, rfl⟩
  · obtain ⟨L, rfl, rfl⟩ := h'
    refine ⟨I'.nolimit, codeAny_func (h L s' _ _ I' fun f s'' S'' I'' h'' => ?_)⟩
    cases f <;> exact hq _ _ _ I'' h''
end
end Mine

open PySem PySem.W PyProof.Rows
set_option Elab.async false
set_option maxRecDepth 100000
set_option maxHeartbeats 0
set_option linter.unusedVariables false
namespace Mine.Head
noncomputable section
noncomputable def K (P : Params) : Frag := [(2, boot_o_2 P), (3, o3x18 P), (4, boot_o_4 P), (11, o11xa P), (13, o13xa P), (14, o14xa P), (15, o15x1 P), (16, o16x1 P), (17, o17x1 P), (18, o18x1 P), (20, o20x1 P), (21, o21x1 P), (22, o22x1 P), (24, o24x1 P), (25, o25x1 P), (27, o27x1 P), (28, o28x1 P), (29, o29x1 P), (31, o31x1 P), (32, o32x1 P), (34, o34x1 P), (35, o35x1 P), (36, o36x1 P), (38, o38x1 P), (39, o39x1 P), (41, o41x1 P), (42, o42x1 P), (43, o43x1 P), (45, o45x1 P), (46, o46x1 P), (48, o48x1 P), (49, o49x1 P), (50, o50x1 P), (51, o51x1 P), (52, o52x1 P), (53, o53x1 P), (54, o54x1 P), (55, o55x1 P), (56, o56x1 P), (57, o57x6 P), (59, o59x6 P), (60, o60x6 P), (62, o62x6 P), (63, o63x6 P), (64, o64x6 P), (66, o66x6 P), (67, o67x6 P), (69, o69x6 P), (70, o70x6 P), (71, o71x7 P), (72, o72x7 P), (73, o73x7 P), (74, o74x7 P), (75, o75x7 P), (76, o76x7 P), (77, o77x7 P), (78, o78x7 P), (79, o79x7 P), (80, o80x7 P), (81, o81x7 P), (82, o82x8 P), (84, o84x8 P), (85, o85x8 P), (87, o87x8 P), (88, o88x8 P), (89, o89x9 P), (90, o90x9 P), (91, o91x9 P), (92, o92x9 P), (93, o93x9 P), (94, o94x9 P), (95, o95x9 P), (96, o96x9 P), (97, o97x9 P), (98, o98x9 P), (99, o99x9 P), (100, o100x9 P), (101, o101x9 P), (102, o102x9 P), (103, o103x9 P), (104, o104x9 P), (105, o105x9 P), (106, o106x9 P), (107, o107x9 P), (108, o108x9 P), (109, o109x9 P), (110, o110x9 P), (111, o111x9 P), (112, o112x9 P), (113, o113x9 P), (114, o114x9 P), (115, o115x9 P), (116, o116x9 P), (117, o117x9 P), (118, o118x9 P), (119, o119x9 P), (120, o120x9 P), (121, o121x9 P), (122, o122x9 P), (123, o123x9 P), (124, o124x9 P), (125, o125x9 P), (126, o126x9 P), (127, o127x9 P), (128, o128x18 P), (130, o130x18 P), (131, o131x18 P), (133, o133x18 P), (134, o134x18 P), (135, o135x18 P), (137, o137x18 P), (138, o138x18 P), (140, o140x18 P), (141, o141x18 P), (142, o142x18 P), (145, o145x18 P), (146, o146x18 P), (147, o147x18 P), (150, o150x18 P), (151, o151x18 P), (152, o152x18 P), (154, o154x18 P), (155, o155x18 P), (157, o157x18 P), (158, o158x18 P), (159, o159x18 P), (162, o162x18 P), (163, o163x18 P), (164, o164x18 P), (166, o166x18 P), (167, o167x18 P), (169, o169x18 P), (170, o170x18 P), (171, o171x18 P), (174, o174x18 P), (175, o175x18 P)]
noncomputable def Kas : List Addr := [2, 3, 4, 11, 13, 14, 15, 16, 17, 18, 20, 21, 22, 24, 25, 27, 28, 29, 31, 32, 34, 35, 36, 38, 39, 41, 42, 43, 45, 46, 48, 49, 50, 51, 52, 53, 54, 55, 56, 57, 59, 60, 62, 63, 64, 66, 67, 69, 70, 71, 72, 73, 74, 75, 76, 77, 78, 79, 80, 81, 82, 84, 85, 87, 88, 89, 90, 91, 92, 93, 94, 95, 96, 97, 98, 99, 100, 101, 102, 103, 104, 105, 106, 107, 108, 109, 110, 111, 112, 113, 114, 115, 116, 117, 118, 119, 120, 121, 122, 123, 124, 125, 126, 127, 128, 130, 131, 133, 134, 135, 137, 138, 140, 141, 142, 145, 146, 147, 150, 151, 152, 154, 155, 157, 158, 159, 162, 163, 164, 166, 167, 169, 170, 171, 174, 175]
noncomputable def H : Hook := kHook K Kas (fun _ => by kernel_rfl)
theorem hY (w : World) (os : OsState) : Hook.obs H (S18 w os).abs = Hook.val H w := by
  show Kas.map (S18 w os).abs.heap.get? = (K w.params).map fun p => some p.2
  have h : (fun os : OsState => Kas.map (S18 w os).abs.heap.get?) = fun _ => (K w.params).map fun p => some p.2 := by kernel_rfl
  exact congrFun h os
@[reducible] noncomputable def fd28 : FuncData := { name := (Str.ofString "__init__"), qualname := (Str.ofString "_netrclex.__init__"), params := dArgs (inCls (st 1) 0), body := .stmts (dBody (inCls (st 1) 0)), scope := dScope (inCls (st 1) 0), globals := 3, closure := [], defaults := .none, kwdefaults := .none, doc := .none, pyModule := (.str (Str.ofString "cpy313.netrc") 187), annotations := none, code := (.ref 27), closureTuple := .none, builtins := 0 }
theorem lk28 (P : Params) : (K P).lookup 28 = some ⟨.type "function", none, .func fd28, #[]⟩ := by rfl
theorem cd28 (P : Params) : ∃ oc vs tq, (K P).lookup 27 = some oc ∧ oc.data = .fields vs ∧ vs[1]? = some (.str fd28.qualname tq) := ⟨_, _, _, rfl, rfl, rfl⟩
@[reducible] noncomputable def fd35 : FuncData := { name := (Str.ofString "_read_char"), qualname := (Str.ofString "_netrclex._read_char"), params := dArgs (inCls (st 1) 1), body := .stmts (dBody (inCls (st 1) 1)), scope := dScope (inCls (st 1) 1), globals := 3, closure := [], defaults := .none, kwdefaults := .none, doc := .none, pyModule := (.str (Str.ofString "cpy313.netrc") 187), annotations := none, code := (.ref 34), closureTuple := .none, builtins := 0 }
theorem lk35 (P : Params) : (K P).lookup 35 = some ⟨.type "function", none, .func fd35, #[]⟩ := by rfl
theorem cd35 (P : Params) : ∃ oc vs tq, (K P).lookup 34 = some oc ∧ oc.data = .fields vs ∧ vs[1]? = some (.str fd35.qualname tq) := ⟨_, _, _, rfl, rfl, rfl⟩
@[reducible] noncomputable def fd42 : FuncData := { name := (Str.ofString "get_token"), qualname := (Str.ofString "_netrclex.get_token"), params := dArgs (inCls (st 1) 2), body := .stmts (dBody (inCls (st 1) 2)), scope := dScope (inCls (st 1) 2), globals := 3, closure := [], defaults := .none, kwdefaults := .none, doc := .none, pyModule := (.str (Str.ofString "cpy313.netrc") 187), annotations := none, code := (.ref 41), closureTuple := .none, builtins := 0 }
theorem lk42 (P : Params) : (K P).lookup 42 = some ⟨.type "function", none, .func fd42, #[]⟩ := by rfl
theorem cd42 (P : Params) : ∃ oc vs tq, (K P).lookup 41 = some oc ∧ oc.data = .fields vs ∧ vs[1]? = some (.str fd42.qualname tq) := ⟨_, _, _, rfl, rfl, rfl⟩
@[reducible] noncomputable def fd49 : FuncData := { name := (Str.ofString "push_token"), qualname := (Str.ofString "_netrclex.push_token"), params := dArgs (inCls (st 1) 3), body := .stmts (dBody (inCls (st 1) 3)), scope := dScope (inCls (st 1) 3), globals := 3, closure := [], defaults := .none, kwdefaults := .none, doc := .none, pyModule := (.str (Str.ofString "cpy313.netrc") 187), annotations := none, code := (.ref 48), closureTuple := .none, builtins := 0 }
theorem lk49 (P : Params) : (K P).lookup 49 = some ⟨.type "function", none, .func fd49, #[]⟩ := by rfl
theorem cd49 (P : Params) : ∃ oc vs tq, (K P).lookup 48 = some oc ∧ oc.data = .fields vs ∧ vs[1]? = some (.str fd49.qualname tq) := ⟨_, _, _, rfl, rfl, rfl⟩
@[reducible] noncomputable def fd63 : FuncData := { name := (Str.ofString "_strcoll"), qualname := (Str.ofString "_strcoll"), params := dArgs (st 3), body := .stmts (dBody (st 3)), scope := dScope (st 3), globals := 3, closure := [], defaults := .none, kwdefaults := .none, doc := .none, pyModule := (.str (Str.ofString "cpy313.locale") 247), annotations := none, code := (.ref 62), closureTuple := .none, builtins := 0 }
theorem lk63 (P : Params) : (K P).lookup 63 = some ⟨.type "function", none, .func fd63, #[]⟩ := by rfl
theorem cd63 (P : Params) : ∃ oc vs tq, (K P).lookup 62 = some oc ∧ oc.data = .fields vs ∧ vs[1]? = some (.str fd63.qualname tq) := ⟨_, _, _, rfl, rfl, rfl⟩
@[reducible] noncomputable def fd70 : FuncData := { name := (Str.ofString "_grouping_intervals"), qualname := (Str.ofString "_grouping_intervals"), params := dArgs (st 5), body := .stmts (dBody (st 5)), scope := dScope (st 5), globals := 3, closure := [], defaults := .none, kwdefaults := .none, doc := .none, pyModule := (.str (Str.ofString "cpy313.locale") 247), annotations := none, code := (.ref 69), closureTuple := .none, builtins := 0 }
theorem lk70 (P : Params) : (K P).lookup 70 = some ⟨.type "function", none, .func fd70, #[]⟩ := by rfl
theorem cd70 (P : Params) : ∃ oc vs tq, (K P).lookup 69 = some oc ∧ oc.data = .fields vs ∧ vs[1]? = some (.str fd70.qualname tq) := ⟨_, _, _, rfl, rfl, rfl⟩
@[reducible] noncomputable def fd88 : FuncData := { name := (Str.ofString "in_table_b1"), qualname := (Str.ofString "in_table_b1"), params := dArgs (st 8), body := .stmts (dBody (st 8)), scope := dScope (st 8), globals := 3, closure := [], defaults := .none, kwdefaults := .none, doc := .none, pyModule := (.str (Str.ofString "cpy313.stringprep") 268), annotations := none, code := (.ref 87), closureTuple := .none, builtins := 0 }
theorem lk88 (P : Params) : (K P).lookup 88 = some ⟨.type "function", none, .func fd88, #[]⟩ := by rfl
theorem cd88 (P : Params) : ∃ oc vs tq, (K P).lookup 87 = some oc ∧ oc.data = .fields vs ∧ vs[1]? = some (.str fd88.qualname tq) := ⟨_, _, _, rfl, rfl, rfl⟩
@[reducible] noncomputable def fd134 : FuncData := { name := (Str.ofString "map_table_b3"), qualname := (Str.ofString "map_table_b3"), params := dArgs (st 10), body := .stmts (dBody (st 10)), scope := dScope (st 10), globals := 3, closure := [], defaults := .none, kwdefaults := .none, doc := .none, pyModule := (.str (Str.ofString "cpy313.stringprep") 268), annotations := none, code := (.ref 133), closureTuple := .none, builtins := 0 }
theorem lk134 (P : Params) : (K P).lookup 134 = some ⟨.type "function", none, .func fd134, #[]⟩ := by rfl
theorem cd134 (P : Params) : ∃ oc vs tq, (K P).lookup 133 = some oc ∧ oc.data = .fields vs ∧ vs[1]? = some (.str fd134.qualname tq) := ⟨_, _, _, rfl, rfl, rfl⟩
@[reducible] noncomputable def fd141 : FuncData := { name := (Str.ofString "_law_totals"), qualname := (Str.ofString "_law_totals"), params := dArgs (st 12), body := .stmts (dBody (st 12)), scope := dScope (st 12), globals := 3, closure := [], defaults := .none, kwdefaults := .none, doc := .none, pyModule := (.str (Str.ofString "law_sw0063_02") 2296), annotations := none, code := (.ref 140), closureTuple := .none, builtins := 0 }
theorem lk141 (P : Params) : (K P).lookup 141 = some ⟨.type "function", none, .func fd141, #[]⟩ := by rfl
theorem cd141 (P : Params) : ∃ oc vs tq, (K P).lookup 140 = some oc ∧ oc.data = .fields vs ∧ vs[1]? = some (.str fd141.qualname tq) := ⟨_, _, _, rfl, rfl, rfl⟩
@[reducible] noncomputable def fd146 : FuncData := { name := (Str.ofString "_law_word"), qualname := (Str.ofString "_law_word"), params := dArgs (st 13), body := .stmts (dBody (st 13)), scope := dScope (st 13), globals := 3, closure := [], defaults := .none, kwdefaults := .none, doc := .none, pyModule := (.str (Str.ofString "law_sw0063_02") 2296), annotations := none, code := (.ref 145), closureTuple := .none, builtins := 0 }
theorem lk146 (P : Params) : (K P).lookup 146 = some ⟨.type "function", none, .func fd146, #[]⟩ := by rfl
theorem cd146 (P : Params) : ∃ oc vs tq, (K P).lookup 145 = some oc ∧ oc.data = .fields vs ∧ vs[1]? = some (.str fd146.qualname tq) := ⟨_, _, _, rfl, rfl, rfl⟩
@[reducible] noncomputable def fd151 : FuncData := { name := (Str.ofString "_law_code"), qualname := (Str.ofString "_law_code"), params := dArgs (st 14), body := .stmts (dBody (st 14)), scope := dScope (st 14), globals := 3, closure := [], defaults := .none, kwdefaults := .none, doc := .none, pyModule := (.str (Str.ofString "law_sw0063_02") 2296), annotations := none, code := (.ref 150), closureTuple := .none, builtins := 0 }
theorem lk151 (P : Params) : (K P).lookup 151 = some ⟨.type "function", none, .func fd151, #[]⟩ := by rfl
theorem cd151 (P : Params) : ∃ oc vs tq, (K P).lookup 150 = some oc ∧ oc.data = .fields vs ∧ vs[1]? = some (.str fd151.qualname tq) := ⟨_, _, _, rfl, rfl, rfl⟩
@[reducible] noncomputable def fd158 : FuncData := { name := (Str.ofString "_law_lexer"), qualname := (Str.ofString "_law_lexer"), params := dArgs (st 15), body := .stmts (dBody (st 15)), scope := dScope (st 15), globals := 3, closure := [], defaults := .none, kwdefaults := .none, doc := .none, pyModule := (.str (Str.ofString "law_sw0063_02") 2296), annotations := none, code := (.ref 157), closureTuple := .none, builtins := 0 }
theorem lk158 (P : Params) : (K P).lookup 158 = some ⟨.type "function", none, .func fd158, #[]⟩ := by rfl
theorem cd158 (P : Params) : ∃ oc vs tq, (K P).lookup 157 = some oc ∧ oc.data = .fields vs ∧ vs[1]? = some (.str fd158.qualname tq) := ⟨_, _, _, rfl, rfl, rfl⟩
@[reducible] noncomputable def fd163 : FuncData := { name := (Str.ofString "_law_prepared"), qualname := (Str.ofString "_law_prepared"), params := dArgs (st 16), body := .stmts (dBody (st 16)), scope := dScope (st 16), globals := 3, closure := [], defaults := .none, kwdefaults := .none, doc := .none, pyModule := (.str (Str.ofString "law_sw0063_02") 2296), annotations := none, code := (.ref 162), closureTuple := .none, builtins := 0 }
theorem lk163 (P : Params) : (K P).lookup 163 = some ⟨.type "function", none, .func fd163, #[]⟩ := by rfl
theorem cd163 (P : Params) : ∃ oc vs tq, (K P).lookup 162 = some oc ∧ oc.data = .fields vs ∧ vs[1]? = some (.str fd163.qualname tq) := ⟨_, _, _, rfl, rfl, rfl⟩
@[reducible] noncomputable def fd170 : FuncData := { name := (Str.ofString "_law_marks"), qualname := (Str.ofString "_law_marks"), params := dArgs (st 17), body := .stmts (dBody (st 17)), scope := dScope (st 17), globals := 3, closure := [], defaults := .none, kwdefaults := .none, doc := .none, pyModule := (.str (Str.ofString "law_sw0063_02") 2296), annotations := none, code := (.ref 169), closureTuple := .none, builtins := 0 }
theorem lk170 (P : Params) : (K P).lookup 170 = some ⟨.type "function", none, .func fd170, #[]⟩ := by rfl
theorem cd170 (P : Params) : ∃ oc vs tq, (K P).lookup 169 = some oc ∧ oc.data = .fields vs ∧ vs[1]? = some (.str fd170.qualname tq) := ⟨_, _, _, rfl, rfl, rfl⟩
@[reducible] noncomputable def fd175 : FuncData := { name := (Str.ofString "law"), qualname := (Str.ofString "law"), params := dArgs (st 18), body := .stmts (dBody (st 18)), scope := dScope (st 18), globals := 3, closure := [], defaults := .none, kwdefaults := .none, doc := .none, pyModule := (.str (Str.ofString "law_sw0063_02") 2296), annotations := none, code := (.ref 174), closureTuple := .none, builtins := 0 }
theorem lk175 (P : Params) : (K P).lookup 175 = some ⟨.type "function", none, .func fd175, #[]⟩ := by rfl
theorem cd175 (P : Params) : ∃ oc vs tq, (K P).lookup 174 = some oc ∧ oc.data = .fields vs ∧ vs[1]? = some (.str fd175.qualname tq) := ⟨_, _, _, rfl, rfl, rfl⟩
end
end Mine.Head

set_option Elab.async false
set_option linter.unusedVariables false
set_option maxRecDepth 100000
set_option maxHeartbeats 0
namespace Mine
open PySem PyProof.Rows PySem.Calls PySem.W PySem.Spec
section
variable {prog : Program} {w : World} {A : Around} {C : Cx} {S S' : St} {env : Env}
theorem VC.shrink {c : Code} {Φ : Value → St → Prop} (h : VC (model prog w) A C S c fun v S' => ∃ S'', S''.Sublist S' ∧ Φ v S'') : VC (model prog w) A C S c Φ := fun s R I hq =>
  h s R I fun v s' S' I' ⟨S'', hs, p⟩ => hq v s' S'' (I'.drop hs) p
theorem VG.shrink {α β : Type} {M : Model} {nf : α → β} {m : Sem α} {Φ : β → St → Prop} (h : VG M A C nf S m fun b S' => ∃ S'', S''.Sublist S' ∧ Φ b S'') : VG M A C nf S m Φ := fun s Q E I hq =>
  h s Q E I fun v s' S' I' ⟨S'', hs, p⟩ => hq v s' S'' (I'.drop hs) p
theorem VC.perm {c : Code} {Φ : Value → St → Prop} (hp : S'.Perm S) (h : VC (model prog w) A C S' c Φ) : VC (model prog w) A C S c Φ := fun s R I hq => h s R (I.perm hp) hq
theorem VG.perm {α β : Type} {M : Model} {nf : α → β} {m : Sem α} {Φ : β → St → Prop} (hp : S'.Perm S) (h : VG M A C nf S' m Φ) : VG M A C nf S m Φ := fun s Q E I hq => h s Q E (I.perm hp) hq
theorem Callee.clos {M : Model} {f c' : Addr} {name qual : Str} {params : Arguments} {body : List Stmt} {scope : Scope} {cl : List (Str × Addr)} (hm : (f, Ch.clos name qual params body scope cl c') ∈ S) : Callee M C S (.ref f) := fun s I => by
  obtain ⟨o, ho, hcls, fd, hd, _⟩ := I.get hm
  obtain ⟨c, d, dt, sl⟩ := o
  obtain rfl : dt = .func fd := hd
  exact ⟨.frame, .inl rfl, (Looks.ld (part := none) ho).andThen .now⟩
end
end Mine
namespace Mine.Head
open PySem PyProof.Rows PySem.Calls PySem.W PySem.Spec
@[reducible] noncomputable def gl : List (Str × Value) := [(Str.ofString "_netrclex", .ref 52), (Str.ofString "_strcoll", .ref 63), (Str.ofString "CHAR_MAX", .int 127 0), (Str.ofString "_grouping_intervals", .ref 70), (Str.ofString "b1_set", .ref 78), (Str.ofString "in_table_b1", .ref 88), (Str.ofString "b3_exceptions", .ref 89), (Str.ofString "map_table_b3", .ref 134), (Str.ofString "_law_totals", .ref 141), (Str.ofString "_law_word", .ref 146), (Str.ofString "_law_code", .ref 151), (Str.ofString "_law_lexer", .ref 158), (Str.ofString "_law_prepared", .ref 163), (Str.ofString "_law_marks", .ref 170)]
@[reducible] noncomputable def bl : List (Str × Value) := [(Str.ofString "ord", .builtin "ord"), (Str.ofString "chr", .builtin "chr"), (Str.ofString "min", .builtin "min"), (Str.ofString "len", .builtin "len"), (Str.ofString "range", .type "range"), (Str.ofString "iter", .builtin "iter"),
  (Str.ofString "list", .type "list"), (Str.ofString "sum", .builtin "sum"), (Str.ofString "sorted", .builtin "sorted")]
structure G (w : World) (C : Cx) : Prop where
  K : C.K = K w.params
  t : Tbl C gl bl
  kb : (Mine.Head.K w.params).In C.B

local macro_rules | `(tactic| walk_at "mem") => `(tactic| (repeat (first | with_reducible exact List.mem_cons_self | with_reducible apply List.mem_cons_of_mem)))
local macro_rules | `(tactic| walk_at "upd") => `(tactic| (repeat (first | with_reducible exact Upd.head | with_reducible apply Upd.tail)))
local macro_rules | `(tactic| walk_at "rem") => `(tactic| (repeat (first | with_reducible exact Rem.head | with_reducible apply Rem.tail)))
local macro_rules | `(tactic| walk_at "set") => `(tactic| (repeat (first | with_reducible exact SetAt.here | with_reducible exact SetAt.new | with_reducible apply SetAt.there)))

section
variable {w : World} {A : Around} {C : Cx} {S S' : St} {env : Env}

theorem at_K {a : Addr} {o : Obj} (g : G w C) (h : (K w.params).lookup a = some o) : At C S a o := .inl (by rw [g.K]; exact h)

theorem code_K {c : Addr} {fd : FuncData} (g : G w C) (hc : fd.code = .ref c) (h : ∃ oc vs tq, (K w.params).lookup c = some oc ∧ oc.data = .fields vs ∧ vs[1]? = some (.str fd.qualname tq)) : Code1 C S fd := by
  obtain ⟨oc, vs, tq, h1, h2, h3⟩ := h
  exact ⟨c, oc, vs, tq, hc, at_K g h1, h2, h3⟩

theorem strcoll (g : G w C) (hd : A.depth < recursionLimit) {x y : Str} {v u : Value} (hv : nt v = .str x 0) (hu : nt u = .str y 0) {Φ : Value → St → Prop}
    (h : Φ (.int (b2i (decide (y.cps.toList < x.cps.toList)) - b2i (decide (x.cps.toList < y.cps.toList))) 0) S) : VC (model pw w) A C S (.call (.ref 63) ⟨[v, u], []⟩) Φ := by
  refine VC.shrink (V.code_fn (fd := fd63) (binds := [(Str.ofString "a", v), (Str.ofString "b", u)]) (at_K g (lk63 _)) rfl (code_K g rfl (cd63 _)) rfl rfl hd (by decide +kernel) (by kernel_rfl) (by kernel_rfl) fun L => ?_)
  simp only [List.map_cons, List.map_nil, hv, hu]
  refine V.execs_cons ?_
  refine V.ret ?_
  refine V.binop ?_
  refine V.cmp ?_
  refine V.name (V.load_local (by walk_at "mem") (by walk_at "mem") ?_)
  refine V.name (V.load_local (by walk_at "mem") (by walk_at "mem") ?_)
  refine VO.gt_str ?_
  refine V.cmp ?_
  refine V.name (V.load_local (by walk_at "mem") (by walk_at "mem") ?_)
  refine V.name (V.load_local (by walk_at "mem") (by walk_at "mem") ?_)
  refine VO.lt_str ?_
  refine VO.sub_bool ?_
  exact ⟨S, List.sublist_cons_self _ _, h⟩
end
end Mine.Head

set_option Elab.async false
set_option linter.unusedVariables false
set_option maxRecDepth 100000
set_option maxHeartbeats 0
namespace Mine
open PySem PyProof.Rows PySem.Calls PySem.W PySem.Spec
theorem one_of {vs : List Value} {x : Value} (h : vs.map nt = [x]) : ∃ v, vs = [v] ∧ nt v = x := by
  cases vs with
  | nil => cases h
  | cons v r => cases r with
    | nil => exact ⟨v, rfl, by simpa using h⟩
    | cons _ _ => cases h
theorem two_of {vs : List Value} {x y : Value} (h : vs.map nt = [x, y]) : ∃ v u, vs = [v, u] ∧ nt v = x ∧ nt u = y := by
  cases vs with
  | nil => cases h
  | cons v r => cases r with
    | nil => cases h
    | cons u r => cases r with
      | nil => simp at h; exact ⟨v, u, rfl, h.1, h.2⟩
      | cons _ _ => cases h

section
variable {prog : Program} {w : World} {A : Around} {C : Cx} {S S' : St} {env : Env}
theorem V.callWith_1 {pos : Pos} {f : Value} {first : List Value} {x : Sem Value} {Φ : Value → St → Prop}
    (h : VP (model prog w) A C S x fun a S₁ => Callee (model prog w) C S₁ f ∧ ∀ v, nt v = a → VP (model prog w) A C S₁ (call f (first ++ [v])) Φ) : VP (model prog w) A C S (callWith pos f first [(false, x)] []) Φ :=
  V.callWith1 (V.sp_cons (h.mono fun a S₁ h₁ => V.sp_nil ⟨h₁.1, fun vs hv => by obtain ⟨v, rfl, e⟩ := one_of hv; exact h₁.2 v e⟩))
theorem V.callWith_2 {pos : Pos} {f : Value} {first : List Value} {x y : Sem Value} {Φ : Value → St → Prop}
    (h : VP (model prog w) A C S x fun a S₁ => VP (model prog w) A C S₁ y fun b S₂ => Callee (model prog w) C S₂ f ∧ ∀ v u, nt v = a → nt u = b → VP (model prog w) A C S₂ (call f (first ++ [v, u])) Φ) : VP (model prog w) A C S (callWith pos f first [(false, x), (false, y)] []) Φ :=
  V.callWith1 (V.sp_cons (h.mono fun a S₁ h₁ => V.sp_cons (h₁.mono fun b S₂ h₂ => V.sp_nil ⟨h₂.1, fun vs hv => by obtain ⟨v, u, rfl, e, e'⟩ := two_of hv; exact h₂.2 v u e e'⟩)))

theorem _root_.Mine.Inv.forget {s : Shared} (I : Inv C S s) {L : Addr} {l l' : List (Str × Value)} (u : Upd L (.ns l') S (.ns l) S') (h : ∀ p ∈ l', p ∈ l) : Inv C S' s := by
  have hs := u.all I.nod
  refine I.ext (a := s.heap.objs.size) I.size_fresh (fun p hp => ?_) (by rw [u.map]; exact I.nod) (fun b o _ e => e) s.toks
  rcases hs p hp with rfl | ⟨hm, hne⟩
  · obtain ⟨o, ho, es, ep, h1, h2, h3⟩ := I.get u.mem
    exact .inr ⟨I.above (L, .ns l) u.mem (by nofun), o, ho, es, ep, h1, h2, fun x v hm => h3 x v (h _ hm)⟩
  · exact .inl ⟨hm, fun e => by obtain ⟨o', h, _⟩ := I.is p hm; exact Nat.lt_irrefl _ (e ▸ Heap.lt_size h)⟩
theorem VG.forget {α β : Type} {M : Model} {nf : α → β} {m : Sem α} {Φ : β → St → Prop} {L : Addr} {l l' : List (Str × Value)} (u : Upd L (.ns l') S (.ns l) S') (hl : ∀ p ∈ l', p ∈ l) (h : VG M A C nf S' m Φ) : VG M A C nf S m Φ :=
  fun s Q E I hq => h s Q E (I.forget u hl) hq
theorem V.sp_n {pos : Pos} {Φ : List Value → St → Prop} (h : Φ [] S) : VL (model prog w) A C S (spliced (backTo pos (starEach [] env))) Φ := V.sp_nil h
theorem V.sp_e {pos : Pos} {e : Expr} {rest : List Expr} {Φ : List Value → St → Prop} (h : VP (model prog w) A C S (eval e env) fun v S₁ => VL (model prog w) A C S₁ (spliced (backTo pos (starEach rest env))) fun vs S₂ => Φ (v :: vs) S₂)
    (hs : starEach (e :: rest) env = (false, eval e env) :: starEach rest env := by with_unfolding_all rfl) : VL (model prog w) A C S (spliced (backTo pos (starEach (e :: rest) env))) Φ := by
  rw [hs]; exact V.sp_cons h
theorem V.cw0 {pos p : Pos} {f : Value} {first : List Value} {Φ : Value → St → Prop} (hf : Callee (model prog w) C S f) (h : VP (model prog w) A C S (call f first) Φ) : VP (model prog w) A C S (callWith pos f first (backTo p (starEach [] env)) []) Φ := V.callWith0 hf h
theorem V.cw1 {pos p : Pos} {f : Value} {first : List Value} {e : Expr} {Φ : Value → St → Prop}
    (h : VP (model prog w) A C S (eval e env) fun a S₁ => Callee (model prog w) C S₁ f ∧ ∀ v, nt v = a → VP (model prog w) A C S₁ (call f (first ++ [v])) Φ) (hs : starEach [e] env = [(false, eval e env)] := by with_unfolding_all rfl) :
    VP (model prog w) A C S (callWith pos f first (backTo p (starEach [e] env)) []) Φ := by rw [hs]; exact V.callWith_1 h
theorem V.cw2 {pos p : Pos} {f : Value} {first : List Value} {e₁ e₂ : Expr} {Φ : Value → St → Prop}
    (h : VP (model prog w) A C S (eval e₁ env) fun a S₁ => VP (model prog w) A C S₁ (eval e₂ env) fun b S₂ => Callee (model prog w) C S₂ f ∧ ∀ v u, nt v = a → nt u = b → VP (model prog w) A C S₂ (call f (first ++ [v, u])) Φ) (hs : starEach [e₁, e₂] env = [(false, eval e₁ env), (false, eval e₂ env)] := by with_unfolding_all rfl) :
    VP (model prog w) A C S (callWith pos f first (backTo p (starEach [e₁, e₂] env)) []) Φ := by rw [hs]; exact V.callWith_2 h
theorem V.st_local {x : Str} {v₀ : Value} {l l'} {Φ : Unit → St → Prop} (hu : Upd env.locals (.ns l') S (.ns l) S') (hx : SetAt x v₀ l l') (h : Φ () S')
    (hn : decide (l'.map Prod.fst).Nodup = true := by kernel_rfl) (hl : env.kindOf x = some .local := by with_unfolding_all rfl)
    (hp : (env.scope.kind == .class || (env.scope.kind == .module && env.locals != env.globals)) = false := by with_unfolding_all rfl) : ∀ v, nt v = v₀ → VU (model prog w) A C S (storeName env x v) Φ := fun v hv => by
  subst hv; exact V.store_local hu hx h hn hl hp
theorem V.st_cell {x : Str} {v₀ : Value} {c : Addr} {v₁} {Φ : Unit → St → Prop} (hc : env.cells.lookup x = some c) (hu : Upd c (.cell (some v₀)) S (.cell v₁) S') (h : Φ () S')
    (hk : env.scope.kind = .function := by with_unfolding_all rfl) (hl : env.kindOf x = some .cell := by with_unfolding_all rfl) : ∀ v, nt v = v₀ → VU (model prog w) A C S (storeName env x v) Φ := fun v hv => by
  subst hv; exact V.store_cell hc hu h hk hl
theorem V.tr_bool {b : Bool} {Φ : Bool → St → Prop} (h : Φ b S) : ∀ v, nt v = .bool b → VB (model prog w) A C S (truthy v) Φ := fun v hv => by
  obtain rfl := nt_bool hv; exact V.truthy_bool h
theorem V.ap {l : Addr} {x : Value} {xs : List Value} {Φ : Value → St → Prop} (hu : Upd l (.lst (xs ++ [x])) S (.lst xs) S') (hz : xs.length ≤ sizeLine) (h : Φ .none S') : ∀ v, nt v = x → VP (model prog w) A C S (call (.builtin "list.append") [.ref l, v]) Φ := fun v hv => by
  subst hv; exact V.append hu hz h
theorem V.si0 {l : Addr} {v₀ x : Value} {xs : List Value} {c₀ : Ch} {t : Tok} {Φ : Unit → St → Prop} (hc : c₀ = .lst (x :: xs) ∨ c₀ = .sq (x :: xs)) (hu : Upd l (.sq (v₀ :: xs)) S c₀ S') (hz : (x :: xs).length ≤ sizeLine) (h : Φ () S') : ∀ v, nt v = v₀ → VU (model prog w) A C S (PySem.setItem (.ref l) (.int 0 t) v) Φ := fun v hv => by
  subst hv; exact V.setItem (k := 0) hc hu (by decide) (by simp) hz h
theorem V.sa {x cls dx N : Addr} {mN} {name : Str} {l l'} {v₀ : Value} {Φ : Unit → St → Prop} (X : Cls C cls N mN) (hx : (x, Ch.inst cls dx) ∈ S) (hu : Upd dx (.at l') S (.at l) S') (hs : SetAt name v₀ l l')
    (hna : mN name = none) (hB : typeLookup (.type "object") name = pure none) (hcn : C.B.get? cls ≠ none) (h : Φ () S') (hnd : decide (l'.map Prod.fst).Nodup = true := by kernel_rfl) (hz : decide (l.length ≤ sizeLine) = true := by kernel_rfl) :
    ∀ v, nt v = v₀ → VU (model prog w) A C S (setAttr (.ref x) name v) Φ := fun v hv => by
  subst hv; exact V.setattr X hx hu hs hna hB hcn h hnd hz
theorem V.cwb {pos : Pos} {id : String} {trees : List (Bool × Sem Value)} {Φ : Value → St → Prop} (h : VP (model prog w) A C S (callWith pos (.builtin id) [] trees []) Φ) : ∀ f', nt f' = .builtin id → VP (model prog w) A C S (callWith pos f' [] trees []) Φ := fun f hf => by
  obtain rfl := nt_builtin hf; exact h
theorem V.cwt {pos : Pos} {id : String} {trees : List (Bool × Sem Value)} {Φ : Value → St → Prop} (h : VP (model prog w) A C S (callWith pos (.type id) [] trees []) Φ) : ∀ f', nt f' = .type id → VP (model prog w) A C S (callWith pos f' [] trees []) Φ := fun f hf => by
  obtain rfl := nt_type hf; exact h
theorem V.cwr {pos : Pos} {a : Addr} {trees : List (Bool × Sem Value)} {Φ : Value → St → Prop} (h : VP (model prog w) A C S (callWith pos (.ref a) [] trees []) Φ) : ∀ f', nt f' = .ref a → VP (model prog w) A C S (callWith pos f' [] trees []) Φ := fun f hf => by
  obtain rfl := nt_ref hf; exact h
end
end Mine
namespace Mine.Head
open PySem PyProof.Rows PySem.Calls PySem.W PySem.Spec
section
variable {prog : Program} {w : World} {A : Around} {C : Cx} {S S' : St} {env : Env}
noncomputable def GoodE (e : DictEntry) (x : Int × Str) : Prop := e.hash = hashInt x.1 ∧ (∃ t, e.key = .int x.1 t) ∧ ∃ t, e.val = .str x.2 t
inductive GoodEs : List DictEntry → List (Int × Str) → Prop
  | nil : GoodEs [] []
  | cons {e x es L} : GoodE e x → GoodEs es L → GoodEs (e :: es) (x :: L)
theorem GoodEs.app {a b L M} (h : GoodEs a L) (k : GoodEs b M) : GoodEs (a ++ b) (L ++ M) := by
  induction h with
  | nil => exact k
  | cons g _ ih => exact .cons g ih
theorem good_ents : ∀ (L : List (Int × Str)) (t : Nat), GoodEs (ents t L) L
  | [], _ => .nil
  | x :: r, t => .cons ⟨rfl, ⟨_, rfl⟩, ⟨_, rfl⟩⟩ (good_ents r _)
theorem good_entl : ∀ (L : List (Int × Str)) (t : Nat), GoodEs (entl t L) L
  | [], _ => .nil
  | x :: r, t => .cons ⟨rfl, ⟨_, rfl⟩, ⟨_, rfl⟩⟩ (good_entl r _)
noncomputable def tabD (L : List (Int × Str)) : List (PyData × PyData) := L.map fun x => (.int x.1, .str x.2)
theorem GoodEs.tab {es : List DictEntry} {L : List (Int × Str)} (h : GoodEs es L) : ∃ kvs : List (Int × Value), (∀ e ∈ es, ∃ k, (intKind prog w).is k e.key = true ∧ e.hash = (intKind prog w).hash k) ∧ Pairs (intKind prog w) es kvs ∧ kvs.map (·.1) = L.map (·.1) ∧ PyProof.V.FlatPairs PyData.int kvs (tabD L) := by
  induction h with
  | nil => exact ⟨[], (fun e he => nomatch he), Pairs.nil, rfl, PyProof.V.FlatPairs.nil⟩
  | cons g _ ih =>
    rename_i e x es L _
    obtain ⟨kvs, h1, h2, h3, h4⟩ := ih
    obtain ⟨g1, ⟨t, g2⟩, ⟨t', g3⟩⟩ := g
    refine ⟨(x.1, e.val) :: kvs, fun e' he => ?_, Pairs.cons (by rw [g2]; exact intKind_is _ _ _ _) rfl h2, by simp [h3], ?_⟩
    · rcases List.mem_cons.mp he with rfl | he
      · exact ⟨x.1, by rw [g2]; exact intKind_is _ _ _ _, g1⟩
      · exact h1 e' he
    · exact PyProof.V.FlatPairs.cons (by rw [g3]; exact PyProof.V.Flat.str _ _) h4
theorem int_tab {h : Heap} {d : Addr} {es : List DictEntry} {L : List (Int × Str)} (hd : (d == sysModules) = false) (ho : h.get? d = some (dob es)) (g : GoodEs es L) (hn : (L.map (·.1)).Nodup) : IntTab prog w h d (tabD L) := by
  obtain ⟨kvs, h1, h2, h3, h4⟩ := g.tab (prog := prog) (w := w)
  exact ⟨hd, kvs, ⟨dob es, es.toArray, es.length, ho, ⟨rfl, rfl, rfl⟩, rfl, fun e he => h1 e (by simpa using he), by simpa using h2, by rw [h3]; exact hn⟩, h4⟩

theorem flat_str {v : Value} {x : Str} (h : PyProof.V.Flat v (.str x)) : ∃ t, v = .str x t := by
  have := h { objs := #[] }
  cases this; exact ⟨_, rfl⟩
theorem flat_none {v : Value} (h : PyProof.V.Flat v .none) : v = .none := by
  have := h { objs := #[] }
  cases this; rfl
theorem lookup_tabD (L : List (Int × Str)) (k : Int) : PySem.Spec.lookup (.int k) (tabD L) = (L.lookup k).map PyData.str := by
  induction L with
  | nil => rfl
  | cons x r ih =>
    show (if PySem.Spec.same (.int x.1) (.int k) then some _ else _) = _
    rw [PyProof.V.same_int]
    by_cases e : x.1 = k
    · subst e; obtain ⟨a, b⟩ := x; simp
    · have : (k == x.1) = false := by simpa using fun q => e q.symm
      obtain ⟨a, b⟩ := x
      simp only [e, decide_false, Bool.false_eq_true, if_false, List.lookup_cons, this]
      exact ih
end
noncomputable def b1es : Array (Int × Value) := (List.toArray [(65024, (.int 65024 286)), (65025, (.int 65025 287)), (65026, (.int 65026 288)), (65027, (.int 65027 289)), (65028, (.int 65028 290)), (65029, (.int 65029 291)), (6150, (.int 6150 272)), (65030, (.int 65030 292)), (65031, (.int 65031 293)), (65032, (.int 65032 294)), (65033, (.int 65033 295)), (6155, (.int 6155 273)), (6156, (.int 6156 274)), (6157, (.int 6157 275)), (8203, (.int 8203 276)), (8204, (.int 8204 277)), (8205, (.int 8205 278)), (65034, (.int 65034 296)), (65035, (.int 65035 297)), (65036, (.int 65036 298)), (65037, (.int 65037 299)), (65038, (.int 65038 300)), (65039, (.int 65039 301)), (173, (.int 173 270)), (847, (.int 847 271)), (8288, (.int 8288 279)), (65279, (.int 65279 280))])
noncomputable def inB1 (k : Int) : Bool := b1es.toList.any fun e => e.2.isInt k
section
variable {w : World} {A : Around} {C : Cx} {S S' : St} {env : Env}
theorem b3_tab (h : Heap) (X : (K w.params).In h) : IntTab pw w h 89 (tabD b3) := by
  have g := (good_ents (b3.take (17 + 17 * 37)) 337).app (good_entl (b3.drop (17 + 17 * 37)) (337 + 51 + 51 * 37))
  rw [List.take_append_drop] at g
  refine int_tab (by decide) (X 89 b3main (by rfl)) g ?_
  have s : ((b3.map fun x => x.1).zip ((b3.map fun x => x.1).drop 1)).all (fun x => decide (x.1 < x.2)) = true := by decide +kernel
  exact rising_nodup _ s

theorem b1_good : (b1es.toList.all fun e => match e.2 with | .int i _ => e.1 == hashInt i | _ => false) = true := by decide +kernel
theorem b1_set (h : Heap) (X : (K w.params).In h) : h.SetOf (intKind pw w) 78 inB1 27 := by
  refine ⟨_, b1es, _, _, X 78 (o78x7 w.params) (by rfl), ⟨rfl, rfl, rfl⟩, rfl, ?_, ?_, by decide +kernel, rfl, rfl⟩
  · intro e he
    have := List.all_eq_true.mp b1_good e he
    obtain ⟨a, v⟩ := e
    cases v with
    | int i t => exact ⟨⟨i, intKind_is pw w i t, beq_iff_eq.mp this⟩, rfl⟩
    | _ => cases this
  · intro k
    exact List.any_eq_true
end
end Mine.Head

set_option Elab.async false
set_option linter.unusedVariables false
set_option maxRecDepth 100000
namespace Mine
open PySem PyProof.Rows PySem.Calls PySem.W PySem.Spec

noncomputable def Wk (C : Cx) (T S : St) : Prop := ∀ s, Inv C S s → Inv C T s

inductive Pw : St → St → Prop
  | sub {S S' : St} (h : S'.Sublist S) : Pw S' S
  | cons {p : Addr × Ch} {S S' T : St} (u : Rem p S S') (h : Pw T S') : Pw (p :: T) S
  | ns {L : Addr} {l l'} {S S' T : St} (u : Rem (L, .ns l) S S') (hl : l'.Sublist l) (h : Pw T S') : Pw ((L, .ns l') :: T) S
  | sq {a : Addr} {xs} {S S' T : St} (u : Rem (a, .lst xs) S S') (h : Pw T S') : Pw ((a, .sq xs) :: T) S

theorem Inv.nsLess {C : Cx} {S : St} {s : Shared} {L : Addr} {l l' : List (Str × Value)} (I : Inv C ((L, .ns l) :: S) s) (hl : l' ⊆ l) : Inv C ((L, .ns l') :: S) s :=
  ⟨I.old, fun p hp => by
    rcases List.mem_cons.mp hp with rfl | hp
    · obtain ⟨o, h1, es, ep, h2, h3, h4⟩ := I.is _ (List.mem_cons_self)
      exact ⟨o, h1, es, ep, h2, h3, fun x v hm => h4 x v (hl hm)⟩
    · exact I.is p (List.mem_cons_of_mem _ hp), I.nod, fun p hp => by
    rcases List.mem_cons.mp hp with rfl | hp
    · exact fun _ => I.above (L, .ns l) (List.mem_cons_self) (by nofun)
    · exact I.above p (List.mem_cons_of_mem _ hp), I.known, I.small, I.arg, I.argB, I.g, I.b, I.nss, I.nolimit, I.os, I.gens⟩
theorem Inv.asSq {C : Cx} {S : St} {s : Shared} {a : Addr} {xs : List Value} (I : Inv C ((a, .lst xs) :: S) s) : Inv C ((a, .sq xs) :: S) s :=
  ⟨I.old, fun p hp => by
    rcases List.mem_cons.mp hp with rfl | hp
    · obtain ⟨o, h1, vs, ep, rfl, h2⟩ := I.is _ (List.mem_cons_self)
      exact ⟨_, h1, rfl, vs, ep, rfl, h2⟩
    · exact I.is p (List.mem_cons_of_mem _ hp), I.nod, fun p hp => by
    rcases List.mem_cons.mp hp with rfl | hp
    · exact fun _ => I.above (a, .lst xs) (List.mem_cons_self) (by nofun)
    · exact I.above p (List.mem_cons_of_mem _ hp), I.known, I.small, I.arg, I.argB, I.g, I.b, I.nss, I.nolimit, I.os, I.gens⟩

theorem Pw.inv {C : Cx} {T S : St} (h : Pw T S) : ∀ (F : St) (s : Shared), Inv C (F ++ S) s → Inv C (F ++ T) s := by
  have fr : ∀ {p p' : Addr × Ch} {S S' : St}, Rem p S S' → (∀ {R : St} {s}, Inv C (p :: R) s → Inv C (p' :: R) s) → ∀ (F : St) (s : Shared), Inv C (F ++ S) s → Inv C ((F ++ [p']) ++ S') s := by
    intro p p' S S' u k F s I
    have I1 := k (I.perm (S' := p :: (F ++ S')) ((List.perm_middle (l₁ := F)).symm.trans (List.Perm.append_left F u.perm)))
    refine I1.perm ?_
    rw [List.append_assoc]
    exact List.perm_middle
  induction h with
  | sub h => exact fun F s I => I.drop (List.Sublist.append_left h F)
  | cons u _ ih =>
    intro F s I
    rw [List.append_cons]
    exact ih _ s (fr u (fun I => I) F s I)
  | ns u hl _ ih =>
    intro F s I
    rw [List.append_cons]
    exact ih _ s (fr u (fun I => I.nsLess hl.subset) F s I)
  | sq u _ ih =>
    intro F s I
    rw [List.append_cons]
    exact ih _ s (fr u (fun I => I.asSq) F s I)
theorem Pw.wk {C : Cx} {T S : St} (h : Pw T S) : Wk C T S := fun s I => h.inv [] s I
theorem Wk.refl {C : Cx} {S : St} : Wk C S S := fun _ I => I
theorem Wk.trans {C : Cx} {S T U : St} (h : Wk C T S) (k : Wk C U T) : Wk C U S := fun s I => k s (h s I)

section
variable {prog : Program} {w : World} {A : Around} {C : Cx} {S S' : St} {env : Env}
theorem VG.wk {α β : Type} {M : Model} {nf : α → β} {m : Sem α} {Φ : β → St → Prop} (hw : Wk C S' S) (h : VG M A C nf S' m Φ) : VG M A C nf S m Φ := fun s Q E I hq => h s Q E (hw s I) hq
theorem VK.wk {M : Model} {c : Code} {Φ : Flow → St → Prop} (hw : Wk C S' S) (h : VK M A C S' c Φ) : VK M A C S c Φ := fun s R I hq => h s R (hw s I) hq
theorem VG.to {α β : Type} {M : Model} {nf : α → β} {m : Sem α} {Φ : β → St → Prop} (T : St) (hw : Wk C T S) (h : VG M A C nf T m Φ) : VG M A C nf S m Φ := fun s Q E I hq => h s Q E (hw s I) hq
theorem VK.to {M : Model} {c : Code} {Φ : Flow → St → Prop} (T : St) (hw : Wk C T S) (h : VK M A C T c Φ) : VK M A C S c Φ := fun s R I hq => h s R (hw s I) hq
theorem VG.end {α β : Type} {M : Model} {nf : α → β} {m : Sem α} {Φ : β → St → Prop} (h : VG M A C nf S m fun b S' => ∃ T, Wk C T S' ∧ Φ b T) : VG M A C nf S m Φ := fun s Q E I hq => h s Q E I fun a s' S' I' ⟨T, hw, hΦ⟩ => hq a s' T (hw s' I') hΦ
theorem VC.end {M : Model} {c : Code} {Φ : Value → St → Prop} (h : VC M A C S c fun b S' => ∃ T, Wk C T S' ∧ Φ b T) : VC M A C S c Φ := fun s R I hq => h s R I fun v s' S' I' ⟨T, hw, hΦ⟩ => hq v s' T (hw s' I') hΦ
theorem VC.wkl {M : Model} {c : Code} {Φ : Value → St → Prop} (hw : Wk C S' S) (h : VC M A C S' c Φ) : VC M A C S c Φ := fun s R I hq => h s R (hw s I) hq

structure It (prog : Program) (w : World) (A : Around) (C : Cx) (it : Addr) (c : Nat → Ch) (item : Nat → Value) (n : Nat) (S : St) : Prop where
  next : ∀ i, i < n → ∀ Φ : Option Value → St → Prop, Φ (some (item i)) ((it, c (i + 1)) :: S) → VN (model prog w) A C ((it, c i) :: S) (pyNext (.ref it)) Φ
  stop : ∀ Φ : Option Value → St → Prop, Φ none S → VN (model prog w) A C ((it, c n) :: S) (pyNext (.ref it)) Φ

theorem It.range {it : Addr} {a b : Int} {n : Nat} (hA : A.handled = none) : It prog w A C it (fun i => .rit (a + (i : Nat)) ((n : Nat) - (i : Nat)) 1) (fun i => .int (a + (i : Nat)) 0) n S := by
  refine ⟨fun i hi Φ h => ?_, fun Φ h => ?_⟩
  · refine V.next_range .head (by omega) ?_
    have e1 : a + (i : Int) + 1 = a + ((i + 1 : Nat) : Int) := by omega
    have e2 : (n : Int) - (i : Int) - 1 = n - ((i + 1 : Nat) : Int) := by omega
    rw [e1, e2]; exact h
  · exact V.next_range_end .head (by omega) h hA
noncomputable def rc (a : Int) (n i : Nat) : Ch := .rit (a + (i : Nat)) ((n : Nat) - (i : Nat)) 1
theorem It.rng {it : Addr} {a : Int} {n : Nat} (hA : A.handled = none) : It prog w A C it (rc a n) (fun i => .int (a + (i : Nat)) 0) n S := It.range (b := 0) hA
theorem range_size {a b : Int} {n : Nat} (hn : (b - a).toNat = n) : Builtin.Range.rangeSize a b 1 = (n : Int) := by
  unfold Builtin.Range.rangeSize
  rw [if_pos (by omega), Int.ediv_one]
  split <;> omega
theorem V.iter_rng {r : Addr} {a b : Int} {n : Nat} {Φ : Value → St → Prop} (hl : (r, Ch.rng a b 1) ∈ S) (hn : (b - a).toNat = n) (h : ∀ it, Φ (.ref it) ((it, rc a n 0) :: S)) (ha : -100000 ≤ a ∧ a ≤ 100000 := by omega) (hb : -100000 ≤ b ∧ b ≤ 100000 := by omega) :
    VP (model prog w) A C S (pyIter (.ref r)) Φ := by
  have e := range_size hn
  refine V.iter_range hl ?_ fun it => ?_
  · unfold Builtin.Range.small Builtin.Range.rangeFitsLong
    rw [e]
    simp
    omega
  · rw [e]
    have e2 : Ch.rit a (n : Int) 1 = rc a n 0 := by
      unfold rc
      congr 1 <;> omega
    rw [e2]; exact h it
theorem It.list {it l : Addr} {xs : List Value} (hA : A.handled = none) (hl : ∀ c, IsL C ((it, c) :: S) l xs) : It prog w A C it (fun i => .lit l i) (fun i => xs.getD i .none) xs.length S := by
  refine ⟨fun i hi Φ h => ?_, fun Φ h => ?_⟩
  · refine V.next_list .head (hl _) ?_ h
    rw [List.getElem?_eq_getElem hi, List.getD_eq_getElem?_getD, List.getElem?_eq_getElem hi]; rfl
  · exact V.next_list_end .head (hl _) (by rw [List.getElem?_eq_none_iff]; exact Nat.le_refl _) h hA
theorem It.tup {it l : Addr} {xs : List Value} (hA : A.handled = none) (hl : (l, Ch.tup xs) ∈ S) : It prog w A C it (fun i => .tit l i) (fun i => xs.getD i .none) xs.length S := by
  refine ⟨fun i hi Φ h => ?_, fun Φ h => ?_⟩
  · refine V.next_tup .head (List.mem_cons_of_mem _ hl) ?_ h
    rw [List.getElem?_eq_getElem hi, List.getD_eq_getElem?_getD, List.getElem?_eq_getElem hi]; rfl
  · exact V.next_tup_end .head (List.mem_cons_of_mem _ hl) (by rw [List.getElem?_eq_none_iff]; exact Nat.le_refl _) h hA
theorem It.str {it : Addr} {x : Str} (hA : A.handled = none) : It prog w A C it (fun i => .sit x i) (fun i => .str ⟨#[x.cps.getD i 0]⟩ 0) x.length S := by
  refine ⟨fun i hi Φ h => ?_, fun Φ h => ?_⟩
  · refine V.next_str .head ?_ h
    have hi' : i < x.cps.size := hi
    rw [Array.getElem?_eq_getElem hi', ← Array.getElem_eq_getD]
  · exact V.next_str_end .head (by rw [Array.getElem?_eq_none_iff]; exact Nat.le_refl _) h hA

theorem VG.permW {α β : Type} {M : Model} {nf : α → β} {m : Sem α} {Φ : β → St → Prop} (hp : S'.Perm S) (h : VG M A C nf S' m Φ) : VG M A C nf S m Φ := fun s Q E I hq => h s Q E (I.perm hp) hq

theorem V.setTo {l : Addr} {k : Int} {t : Tok} {v₀ : Value} {xs ys : List Value} {c₀ : Ch} {Φ : Unit → St → Prop} (hc : c₀ = .lst xs ∨ c₀ = .sq xs) (hy : xs.set k.toNat v₀ = ys) (hu : Upd l (.sq ys) S c₀ S') (h0 : 0 ≤ k) (hk : k < xs.length) (hz : xs.length ≤ sizeLine) (h : Φ () S') :
    ∀ v, nt v = v₀ → VU (model prog w) A C S (PySem.setItem (.ref l) (.int k t) v) Φ := fun v hv => by
  subst hv; subst hy; exact V.setItem hc hu h0 hk hz h

theorem V.forI {target : Expr} {it : Addr} {body orelse : List Stmt} {c : Nat → Ch} {item : Nat → Value} {n : Nat} {Φ : Flow → St → Prop} (I : Nat → St → Prop) (hI : ∀ i S, I i S → It prog w A C it c item n S)
    (h : I 0 S)
    (turn : ∀ i S, i < n → I i S → ∀ v, nt v = item i → VU (model prog w) A C ((it, c (i + 1)) :: S) (assign target env v) fun _ S₂ => VF (model prog w) A C S₂ (execs body env) fun f S₃ => match f with
      | .next | .cont => ∃ S', Wk C ((it, c (i + 1)) :: S') S₃ ∧ I (i + 1) S' | .brk => Φ .next S₃ | .ret v => Φ (.ret v) S₃)
    (fin : ∀ S, I n S → VF (model prog w) A C S (execs orelse env) Φ)
    (ht : ∀ v, letOwnedTupleGo target (.ref it) v = pure () := by intro _; with_unfolding_all rfl) : VK (model prog w) A C ((it, c 0) :: S) (.forLoop target (.ref it) body orelse env) Φ := by
  refine V.forLoop (fun m S₀ => ∃ i S, i ≤ n ∧ m = n - i ∧ I i S ∧ Wk C ((it, c i) :: S) S₀) ?_ n ⟨0, S, Nat.zero_le _, rfl, h, .refl⟩ ht
  rintro m S₀ ⟨i, S, hi, rfl, hS, hw⟩
  refine VG.wk hw ?_
  by_cases hlt : i < n
  · refine (hI i S hS).next i hlt _ ?_
    intro v hv
    refine VG.mono (turn i S hlt hS v hv) fun _ S₂ h₂ => VG.mono h₂ fun f S₃ h₃ => ?_
    cases f with
    | next => obtain ⟨S', hw', h'⟩ := h₃; exact ⟨n - (i + 1), by omega, i + 1, S', hlt, rfl, h', hw'⟩
    | cont => obtain ⟨S', hw', h'⟩ := h₃; exact ⟨n - (i + 1), by omega, i + 1, S', hlt, rfl, h', hw'⟩
    | brk => exact h₃
    | ret v => exact h₃
  · obtain rfl : i = n := by omega
    exact (hI i S hS).stop _ (fin S hS)

theorem V.compI {elt target iter : Expr} {ifs : List Expr} {scope : Scope} {pos : Pos} {it acc L : Addr} {c : Nat → Ch} {item : Nat → Value} {n : Nat} {l₀ : List (Str × Value)} {xs₀ : List Value} {Φ : Flow → St → Prop} (I : Nat → List Value → St → Prop) (hI : ∀ i xs S, I i xs S → It prog w A C it c item n ((L, .ns l₀) :: (acc, .lst xs) :: S))
    (hz : xs₀.length + n ≤ sizeLine) (h : I 0 xs₀ S)
    (turn : ∀ i xs S, i < n → I i xs S → ∀ v, nt v = item i → VU (model prog w) A C ((L, .ns l₀) :: (acc, .lst xs) :: (it, c (i + 1)) :: S) (letOwnedTupleGo target (.ref it) v) fun _ S₂ => VU (model prog w) A C S₂ (assign target env v) fun _ S₃ => VB (model prog w) A C S₃ (tests ifs env) fun ok S₄ =>
      (ok = true → VP (model prog w) A C S₄ (eval elt env) fun y S₅ => ∃ S', Wk C ((L, .ns l₀) :: (acc, .lst xs) :: (it, c (i + 1)) :: S') S₅ ∧ I (i + 1) (xs ++ [y]) S') ∧
      (ok = false → ∃ S', Wk C ((L, .ns l₀) :: (acc, .lst xs) :: (it, c (i + 1)) :: S') S₄ ∧ I (i + 1) xs S'))
    (fin : ∀ xs S, I n xs S → Φ .next ((L, .ns l₀) :: (acc, .lst xs) :: S)) :
    VK (model prog w) A C ((L, .ns l₀) :: (acc, .lst xs₀) :: (it, c 0) :: S) (.compLoop (.ListComp elt [⟨target, iter, ifs, 0⟩] scope pos) 0 (.ref it) (.ref acc) env) Φ := by
  refine V.compLoop (fun m S₀ => ∃ i xs S, i ≤ n ∧ m = n - i ∧ xs.length ≤ xs₀.length + i ∧ I i xs S ∧ Wk C ((L, .ns l₀) :: (acc, .lst xs) :: (it, c i) :: S) S₀) ?_ n ⟨0, xs₀, S, Nat.zero_le _, rfl, Nat.le_refl _, h, .refl⟩
  rintro m S₀ ⟨i, xs, S, hi, rfl, hx, hS, hw⟩
  have pm : ∀ {d : Ch} {S : St}, ((it, d) :: (L, Ch.ns l₀) :: (acc, Ch.lst xs) :: S).Perm ((L, .ns l₀) :: (acc, .lst xs) :: (it, d) :: S) := fun {d S} =>
    (List.Perm.swap _ _ _).trans ((List.Perm.swap _ _ _).cons _)
  refine VG.wk hw ?_
  by_cases hlt : i < n
  · have T := hI i xs S hS
    refine VG.permW pm (T.next i hlt _ ?_)
    intro v hv
    refine VG.wk (fun s I => I.perm pm.symm) (VG.mono (turn i xs S hlt hS v hv) fun _ S₂ h₂ => VG.mono h₂ fun _ S₃ h₃ => VG.mono h₃ fun ok S₄ h₄ => ⟨fun e => VG.mono (h₄.1 e) fun y S₅ h₅ => ?_, fun e => ?_⟩)
    · obtain ⟨S', hw', h'⟩ := h₅
      intro x' hx'
      refine VG.wk hw' ?_
      refine V.append (.tail .head) (by omega) ?_
      rw [hx']
      exact ⟨n - (i + 1), by omega, i + 1, xs ++ [y], S', hlt, rfl, by simp; omega, h', .refl⟩
    · obtain ⟨S', hw', h'⟩ := h₄.2 e
      exact ⟨n - (i + 1), by omega, i + 1, xs, S', hlt, rfl, by omega, h', hw'⟩
  · obtain rfl : i = n := by omega
    exact VG.permW pm ((hI i xs S hS).stop _ (fin xs S hS))
theorem V.compI_in {elt t0 i0 target iter : Expr} {ifs0 ifs : List Expr} {scope : Scope} {pos : Pos} {it acc L : Addr} {c : Nat → Ch} {item : Nat → Value} {n : Nat} {l₀ : List (Str × Value)} {xs₀ : List Value} {Φ : Flow → St → Prop} (I : Nat → List Value → St → Prop) (hI : ∀ i xs S, I i xs S → It prog w A C it c item n ((L, .ns l₀) :: (acc, .lst xs) :: S))
    (hz : xs₀.length + n ≤ sizeLine) (h : I 0 xs₀ S)
    (turn : ∀ i xs S, i < n → I i xs S → ∀ v, nt v = item i → VU (model prog w) A C ((L, .ns l₀) :: (acc, .lst xs) :: (it, c (i + 1)) :: S) (letOwnedTupleGo target (.ref it) v) fun _ S₂ => VU (model prog w) A C S₂ (assign target env v) fun _ S₃ => VB (model prog w) A C S₃ (tests ifs env) fun ok S₄ =>
      (ok = true → VP (model prog w) A C S₄ (eval elt env) fun y S₅ => ∃ S', Wk C ((L, .ns l₀) :: (acc, .lst xs) :: (it, c (i + 1)) :: S') S₅ ∧ I (i + 1) (xs ++ [y]) S') ∧
      (ok = false → ∃ S', Wk C ((L, .ns l₀) :: (acc, .lst xs) :: (it, c (i + 1)) :: S') S₄ ∧ I (i + 1) xs S'))
    (fin : ∀ xs S, I n xs S → Φ .next ((L, .ns l₀) :: (acc, .lst xs) :: S)) :
    VK (model prog w) A C ((L, .ns l₀) :: (acc, .lst xs₀) :: (it, c 0) :: S) (.compLoop (.ListComp elt [⟨t0, i0, ifs0, 0⟩, ⟨target, iter, ifs, 0⟩] scope pos) 1 (.ref it) (.ref acc) env) Φ := by
  refine V.compLoop_in (fun m S₀ => ∃ i xs S, i ≤ n ∧ m = n - i ∧ xs.length ≤ xs₀.length + i ∧ I i xs S ∧ Wk C ((L, .ns l₀) :: (acc, .lst xs) :: (it, c i) :: S) S₀) ?_ n ⟨0, xs₀, S, Nat.zero_le _, rfl, Nat.le_refl _, h, .refl⟩
  rintro m S₀ ⟨i, xs, S, hi, rfl, hx, hS, hw⟩
  have pm : ∀ {d : Ch} {S : St}, ((it, d) :: (L, Ch.ns l₀) :: (acc, Ch.lst xs) :: S).Perm ((L, .ns l₀) :: (acc, .lst xs) :: (it, d) :: S) := fun {d S} =>
    (List.Perm.swap _ _ _).trans ((List.Perm.swap _ _ _).cons _)
  refine VG.wk hw ?_
  by_cases hlt : i < n
  · have T := hI i xs S hS
    refine VG.permW pm (T.next i hlt _ ?_)
    intro v hv
    refine VG.wk (fun s I => I.perm pm.symm) (VG.mono (turn i xs S hlt hS v hv) fun _ S₂ h₂ => VG.mono h₂ fun _ S₃ h₃ => VG.mono h₃ fun ok S₄ h₄ => ⟨fun e => VG.mono (h₄.1 e) fun y S₅ h₅ => ?_, fun e => ?_⟩)
    · obtain ⟨S', hw', h'⟩ := h₅
      intro x' hx'
      refine VG.wk hw' ?_
      refine V.append (.tail .head) (by omega) ?_
      rw [hx']
      exact ⟨n - (i + 1), by omega, i + 1, xs ++ [y], S', hlt, rfl, by simp; omega, h', .refl⟩
    · obtain ⟨S', hw', h'⟩ := h₄.2 e
      exact ⟨n - (i + 1), by omega, i + 1, xs, S', hlt, rfl, by omega, h', hw'⟩
  · obtain rfl : i = n := by omega
    exact VG.permW pm ((hI i xs S hS).stop _ (fin xs S hS))
theorem V.compI_out {elt target iter t1 i1 : Expr} {ifs ifs1 : List Expr} {scope : Scope} {pos : Pos} {it acc L : Addr} {c : Nat → Ch} {item : Nat → Value} {n : Nat} {l₀ : List (Str × Value)} {xs₀ : List Value} {Φ : Flow → St → Prop} (I : Nat → List Value → St → Prop) (hI : ∀ i xs S, I i xs S → It prog w A C it c item n ((L, .ns l₀) :: (acc, .lst xs) :: S))
    (h : I 0 xs₀ S)
    (turn : ∀ i xs S, i < n → I i xs S → ∀ v, nt v = item i → VU (model prog w) A C ((L, .ns l₀) :: (acc, .lst xs) :: (it, c (i + 1)) :: S) (letOwnedTupleGo target (.ref it) v) fun _ S₂ => VU (model prog w) A C S₂ (assign target env v) fun _ S₃ => VB (model prog w) A C S₃ (tests ifs env) fun ok S₄ =>
      (ok = true → VP (model prog w) A C S₄ (eval i1 env) fun y S₅ => ∀ y', nt y' = y → VP (model prog w) A C S₅ (pyIter y') fun it' S₆ => ∀ it'', nt it'' = it' → VK (model prog w) A C S₆ (.compStart (.ListComp elt [⟨target, iter, ifs, 0⟩, ⟨t1, i1, ifs1, 0⟩] scope pos) 1 it'' (.ref acc) env) fun _ S₇ =>
        ∃ xs' S', Wk C ((L, .ns l₀) :: (acc, .lst xs') :: (it, c (i + 1)) :: S') S₇ ∧ I (i + 1) xs' S') ∧
      (ok = false → ∃ S', Wk C ((L, .ns l₀) :: (acc, .lst xs) :: (it, c (i + 1)) :: S') S₄ ∧ I (i + 1) xs S'))
    (fin : ∀ xs S, I n xs S → Φ .next ((L, .ns l₀) :: (acc, .lst xs) :: S)) (hs : ∀ x, foldedSetIterable i1 env x = pure x := by intro _; with_unfolding_all rfl) :
    VK (model prog w) A C ((L, .ns l₀) :: (acc, .lst xs₀) :: (it, c 0) :: S) (.compLoop (.ListComp elt [⟨target, iter, ifs, 0⟩, ⟨t1, i1, ifs1, 0⟩] scope pos) 0 (.ref it) (.ref acc) env) Φ := by
  refine V.compLoop_out (fun m S₀ => ∃ i xs S, i ≤ n ∧ m = n - i ∧ I i xs S ∧ Wk C ((L, .ns l₀) :: (acc, .lst xs) :: (it, c i) :: S) S₀) ?_ n ⟨0, xs₀, S, Nat.zero_le _, rfl, h, .refl⟩ hs
  rintro m S₀ ⟨i, xs, S, hi, rfl, hS, hw⟩
  have pm : ∀ {xs : List Value} {d : Ch} {S : St}, ((it, d) :: (L, Ch.ns l₀) :: (acc, Ch.lst xs) :: S).Perm ((L, .ns l₀) :: (acc, .lst xs) :: (it, d) :: S) := fun {xs d S} =>
    (List.Perm.swap _ _ _).trans ((List.Perm.swap _ _ _).cons _)
  refine VG.wk hw ?_
  by_cases hlt : i < n
  · have T := hI i xs S hS
    refine VG.permW pm (T.next i hlt _ ?_)
    intro v hv
    refine VG.wk (fun s I => I.perm pm.symm) (VG.mono (turn i xs S hlt hS v hv) fun _ S₂ h₂ => VG.mono h₂ fun _ S₃ h₃ => VG.mono h₃ fun ok S₄ h₄ => ⟨fun e => VG.mono (h₄.1 e) fun y S₅ h₅ y' hy => VG.mono (h₅ y' hy) fun it' S₆ h₆ it'' hit s R I hq => h₆ it'' hit s R I fun f s' S' I' h₇ => hq f s' S' I' ?_, fun e => ?_⟩)
    · obtain ⟨xs', S'', hw', h'⟩ := h₇
      exact ⟨n - (i + 1), by omega, i + 1, xs', S'', hlt, rfl, h', hw'⟩
    · obtain ⟨S', hw', h'⟩ := h₄.2 e
      exact ⟨n - (i + 1), by omega, i + 1, xs, S', hlt, rfl, h', hw'⟩
  · obtain rfl : i = n := by omega
    exact VG.permW pm ((hI i xs S hS).stop _ (fin xs S hS))
end
end Mine

set_option Elab.async false
set_option linter.unusedVariables false
set_option maxRecDepth 100000
namespace Mine
open PySem PyProof.Rows PySem.Calls PySem.W PySem.Spec
noncomputable def Tups (T : St) (xs : List Value) (ps : List (Str × Int)) : Prop := xs.length = ps.length ∧ ∀ (i : Nat) (p : Str × Int), ps[i]? = some p → ∃ a, xs[i]? = some (Value.ref a) ∧ (a, Ch.tup [.str p.1 0, .int p.2 0]) ∈ T
theorem Tups.nil {T : St} : Tups T [] [] := ⟨rfl, fun i p h => by simp at h⟩
theorem Tups.mono {T T' : St} {xs ps} (h : Tups T xs ps) (hs : T ⊆ T') : Tups T' xs ps := ⟨h.1, fun i p e => let ⟨a, h1, h2⟩ := h.2 i p e; ⟨a, h1, hs h2⟩⟩
theorem Tups.snoc {T : St} {xs : List Value} {ps : List (Str × Int)} {a : Addr} {x : Str} {k : Int} (h : Tups T xs ps) (hm : (a, Ch.tup [.str x 0, .int k 0]) ∈ T) : Tups T (xs ++ [.ref a]) (ps ++ [(x, k)]) := by
  refine ⟨by simp [h.1], fun i p e => ?_⟩
  by_cases hi : i < ps.length
  · rw [List.getElem?_append_left hi] at e
    obtain ⟨b, h1, h2⟩ := h.2 i p e
    exact ⟨b, by rw [List.getElem?_append_left (h.1 ▸ hi)]; exact h1, h2⟩
  · rw [List.getElem?_append_right (by omega)] at e
    have hi0 : i - ps.length = 0 := by
      have := (List.getElem?_eq_some_iff.mp e).1
      simp at this; omega
    rw [hi0] at e
    cases e
    exact ⟨a, by rw [List.getElem?_append_right (by rw [h.1]; omega), h.1, hi0]; rfl, hm⟩
theorem Tups.append {T : St} {xs ys : List Value} {ps qs : List (Str × Int)} (h : Tups T xs ps) (k : Tups T ys qs) : Tups T (xs ++ ys) (ps ++ qs) := by
  refine ⟨by simp [h.1, k.1], fun i p e => ?_⟩
  by_cases hi : i < ps.length
  · rw [List.getElem?_append_left hi] at e
    obtain ⟨b, h1, h2⟩ := h.2 i p e
    exact ⟨b, by rw [List.getElem?_append_left (h.1 ▸ hi)]; exact h1, h2⟩
  · rw [List.getElem?_append_right (by omega)] at e
    obtain ⟨b, h1, h2⟩ := k.2 _ p e
    exact ⟨b, by rw [List.getElem?_append_right (by rw [h.1]; omega), h.1]; exact h1, h2⟩
section
variable {prog : Program} {w : World} {A : Around} {C : Cx} {S S' : St} {env : Env}

theorem seqslot_list_iadd : isSeqSlot (some (.builtin "list.__iadd__")) = true := by decide +kernel
theorem fill_list_iadd : fillsInplaceSlot (.type "list") "add" (Operator.Add == .Add) = pure false := by
  unfold fillsInplaceSlot
  show (typeLookup (.type "list") (dunderI "add") >>= fun fi => pure (fi.isSome && !isSeqSlot fi)) = pure false
  rw [PySem.F.slot_list_iadd.lookup]
  show (pure ((some (Value.builtin "list.__iadd__")).isSome && !isSeqSlot (some (.builtin "list.__iadd__"))) : Sem Bool) = pure false
  rw [seqslot_list_iadd]; rfl
theorem seq_list_iadd : seqSlot? (.type "list") (dunderI "add") = pure (some (.builtin "list.__iadd__")) := PySem.seqSlot_of PySem.F.slot_list_iadd.lookup (by decide +kernel)

theorem VO.iadd_list {l b : Addr} {xs ys : List Value} {Φ : Value → St → Prop} (hu : Upd l (.lst (xs ++ ys)) S (.lst xs) S') (hb : (b, Ch.lst ys) ∈ S) (hz : xs.length + ys.length ≤ 1000000) (h : Φ (.ref l) S') :
    ∀ a' b', nt a' = .ref l → nt b' = .ref b → VP (model prog w) A C S (inplaceOp .Add a' b') Φ := by
  intro a' b' ha hb'; obtain rfl := nt_ref ha; obtain rfl := nt_ref hb'
  intro s Q E I hq
  obtain ⟨o, ho, vs, n, rfl, e⟩ := I.get hu.mem
  obtain ⟨o2, ho2, ws, n2, rfl, e'⟩ := I.get hb
  have e1 : xs.length = vs.size := by rw [← e]; simp
  have e2 : ys.length = ws.size := by rw [← e']; simp
  have hnum : fillsNumberSlot (.type "list") "add" = pure false := noFill_list_add
  unfold inplaceOp
  refine wpAny_holding ?_
  refine wpAny_bind (wpAny_typeOf (T := "list") ⟨_, ho, rfl⟩ (wpAny_bind (wpAny_of_eq fill_list_iadd ?_)))
  show wpAny _ A (if false = true then _ else _) Q E s
  rw [if_neg Bool.false_ne_true]
  refine wpAny_bind (wpAny_binaryOp1_none (nm := "add") (T := "list") ⟨_, ho, rfl⟩ ⟨_, ho2, rfl⟩ hnum ?_)
  refine wpAny_bind (wpAny_of_eq seq_list_iadd ?_)
  refine wpAny_bind (wpAny_rule ?_)
  refine call_meets PySem.F.slot_list_iadd ⟨_, ho, rfl⟩ PySem.F.entry_list_iadd (PySem.F.args_list_iadd_2 _ _) (PySem.AutoSeq1.list___iadd___list_list_0 l vs n b ws n2 ?_ ?_ ?_) ⟨ho, ho2, hq _ _ S' (I.upd hu (Heap.SameBut.update ..).extBut ⟨_, Heap.get?_update_self _ ho ?_, vs ++ ws, _, rfl, by simp [e, e']⟩ _) h⟩
  · rw [← e1, ← e2]
    unfold Builtin.List.listTooLong
    have h2 : xs.length + ys.length ≤ sizeLine := by rw [sizeLine_eq]; omega
    simp [Nat.not_lt.mpr h2]
  · rw [← e1, sizeLine_eq]; omega
  · rw [← e1, ← e2, sizeLine_eq]; omega
  · rfl
theorem V.code_cellsT {a : Addr} {o : Obj} {fd : FuncData} {body : List Stmt} {vals : List Value} {binds : List (Str × Value)} {lb : List (Str × Value)} {cs : Addr → List (Str × Addr)} {cb : Str → Option Value} {Φ : Value → St → Prop}
    (ho : At C S a o) (hd : o.data = .func fd) (hcd : Code1 C S fd) (hb : fd.body = .stmts body) (hbind : bindArgs fd ⟨vals, []⟩ = pure binds) (hclo : fd.closure = []) (hroom : A.depth < recursionLimit)
    (hcs : ∀ L, cellsFrom (L + 1) fd.scope.names [] = cs L) (hcn : ∀ L, ((cs L).map Prod.fst).Nodup)
    (hkind : ∀ L, ∀ x ∈ binds, fd.scope.names.lookup x.1 = some .local ∨ (fd.scope.names.lookup x.1 = some .cell ∧ ((cs L).lookup x.1).isSome = true))
    (hlb : ∀ L x v, (x, v) ∈ lb → ∃ u, bindL (envF fd L a (cs L)).kindOf binds (fun _ => none) x = some u ∧ nt u = v)
    (hcb : ∀ L n c, (n, c) ∈ cs L → (bindC (envF fd L a (cs L)).kindOf binds (fun _ => none) n).map nt = cb n)
    (T : Addr → St) (hT : ∀ L, (L, Ch.ns lb) :: ((cs L).map fun x => (x.2, Ch.cell (cb x.1))) ++ S = T L)
    (h : ∀ L, VF (model prog w) (A.deeper (envF fd L a (cs L))) C (T L) (execs body (envF fd L a (cs L))) fun f S' => Φ (retOf f) S')
    (hco : fd.scope.isCoroutine = false := by with_unfolding_all rfl) (hgen : fd.scope.isGenerator = false := by with_unfolding_all rfl) (hk : fd.scope.kind = .function := by with_unfolding_all rfl) :
    VC (model prog w) A C S (.call (.ref a) ⟨vals, []⟩) Φ :=
  V.code_cells ho hd hcd hb hbind hclo hroom hcs hcn hkind hlb hcb (fun L => by rw [hT L]; exact h L) hco hgen hk
end
end Mine

set_option Elab.async false
set_option linter.unusedVariables false
set_option maxRecDepth 100000
namespace Mine
open PySem PyProof.Rows PySem.Calls PySem.W PySem.Spec
section
variable {prog : Program} {w : World} {A : Around} {C : Cx} {S S' : St} {env : Env}
theorem V.whileI {test body orelse pos} {Φ : Flow → St → Prop} (I : Nat → St → Prop) (n : Nat) (h : I n S)
    (turn : ∀ n S, I n S → VB (model prog w) A C S (isTrue test env (eval test env)) fun b S₁ =>
      (b = true → VF (model prog w) A C S₁ (execs body env) fun f S₂ => match f with | .next | .cont => ∃ m S', m < n ∧ Wk C S' S₂ ∧ I m S' | .brk => Φ .next S₂ | .ret v => Φ (.ret v) S₂) ∧
      (b = false → VF (model prog w) A C S₁ (execs orelse env) Φ)) : VF (model prog w) A C S (exec (.While test body orelse pos) env) Φ := by
  refine V.while_ (fun n S₀ => ∃ S, I n S ∧ Wk C S S₀) (fun n S₀ hS => ?_) n ⟨S, h, .refl⟩
  obtain ⟨S, hI, hw⟩ := hS
  refine VG.wk hw (VG.mono (turn n S hI) fun b S₁ h₁ => ⟨fun e => VG.mono (h₁.1 e) fun f S₂ h₂ => ?_, h₁.2⟩)
  cases f with
  | next => obtain ⟨m, S', hm, hw', hI'⟩ := h₂; exact ⟨m, hm, S', hI', hw'⟩
  | cont => obtain ⟨m, S', hm, hw', hI'⟩ := h₂; exact ⟨m, hm, S', hI', hw'⟩
  | brk => exact h₂
  | ret v => exact h₂
theorem V.assign_pair {e₁ e₂ : Expr} {k : Nat} {tpos : Pos} {a : Addr} {x y : Value} {Φ : Unit → St → Prop} (hA : A.handled = none) (hm : (a, Ch.tup [x, y]) ∈ S)
    (h : ∀ x', nt x' = x → ∀ y', nt y' = y → VU (model prog w) A C S (assign e₁ env x') fun _ S₂ => VU (model prog w) A C S₂ (assign e₂ env y') Φ)
    (he : ∀ v, assign (.Tuple [e₁, e₂] k tpos) env v = (do standAt tpos; unpack v [(false, assign e₁ env), (false, assign e₂ env)]) := by intro _; with_unfolding_all rfl) :
    ∀ v, nt v = .ref a → VU (model prog w) A C S (assign (.Tuple [e₁, e₂] k tpos) env v) Φ := fun v hv => by
  obtain rfl := nt_ref hv
  exact V.assign_tuple (V.unpack2 (.tup hm) rfl hA ⟨_, _, rfl, h⟩) (he _)
theorem V.st_ref {x : Str} {a : Addr} {l l'} {Φ : Unit → St → Prop} (hu : Upd env.locals (.ns l') S (.ns l) S') (hx : SetAt x (.ref a) l l') (h : Φ () S')
    (hn : decide (l'.map Prod.fst).Nodup = true := by kernel_rfl) (hl : env.kindOf x = some .local := by with_unfolding_all rfl)
    (hp : (env.scope.kind == .class || (env.scope.kind == .module && env.locals != env.globals)) = false := by with_unfolding_all rfl) : VU (model prog w) A C S (storeName env x (.ref a)) Φ := V.store_local hu hx h hn hl hp
theorem pyAt_nat (n k : Nat) : pyAt n (k : Int) = k := by
  unfold pyAt
  rw [if_neg (by omega)]; omega
theorem V.tail_nat {value slice : Expr} {l : Addr} {k : Nat} {x : Value} {t : Tok} {xs : List Value} {Φ : Value → St → Prop} (hl : IsL C S l xs) (hx : xs[k]? = some x) (hz : xs.length ≤ sizeLine) (h : Φ x S)
    (hs : ∀ o i, subscripted slice false o i = operate [o, i] (getItem o i) := by intro _ _; with_unfolding_all rfl) :
    ∀ o' i', nt o' = .ref l → nt i' = .int (k : Int) t → VP (model prog w) A C S (subscriptTail value slice o' i') Φ := by
  have hk := (List.getElem?_eq_some_iff.mp hx).1
  exact V.tail_list hl (by omega) (by omega) hz (by rw [pyAt_nat]; exact hx) h hs
theorem V.tail_strN {value slice : Expr} {x : Str} {k : Nat} {c : Nat} {t u : Tok} {Φ : Value → St → Prop} (hx : x.cps[k]? = some c) (hz : x.length ≤ sizeLine) (h : Φ (.str ⟨#[c]⟩ 0) S)
    (hs : ∀ o i, subscripted slice false o i = operate [o, i] (getItem o i) := by intro _ _; with_unfolding_all rfl) :
    ∀ o' i', nt o' = .str x u → nt i' = .int (k : Int) t → VP (model prog w) A C S (subscriptTail value slice o' i') Φ := by
  have hk : k < x.length := (Array.getElem?_eq_some_iff.mp hx).1
  exact V.tail_str (by omega) (by omega) hz (by rw [pyAt_nat]; exact hx) h hs
theorem fmod_nat {a : Int} {n : Nat} (hn : 0 < n) : ∃ k : Nat, a.fmod (n : Int) = k ∧ k < n := by
  refine ⟨(a.fmod n).toNat, ?_, ?_⟩
  · rw [Int.fmod_eq_emod_of_nonneg _ (by omega)]
    have := Int.emod_nonneg a (b := (n : Int)) (by omega); omega
  · rw [Int.fmod_eq_emod_of_nonneg _ (by omega)]
    have := Int.emod_lt_of_pos a (b := (n : Int)) (by omega)
    have := Int.emod_nonneg a (b := (n : Int)) (by omega); omega
end
end Mine

set_option Elab.async false
set_option linter.unusedVariables false
set_option maxRecDepth 100000
namespace Mine
open PySem PyProof.Rows PySem.Calls PySem.W PySem.Spec PySem.W.X
section
variable {prog : Program} {w : World} {A : Around} {C : Cx} {S S' : St} {env : Env} {P : End → Shared → Prop} {c : Code} {fs : List Frame}
  {K : Flow → Sem Fin} {H : Value → Sem Fin} {gd : Bool → Bool} {lv : List Value → List Value}

theorem sx_wrap {α : Type} {s : Shared} {m : Sem α} {K : α → Sem Fin} {H : Value → Sem Fin} {gd : Bool → Bool} {lv : List Value → List Value}
    (h : wpAny (model prog w) (A.over c fs) m (fun a s' => SegX (model prog w) A c (K a) fs s' P) (fun x s' => SegX (model prog w) A c (H x) fs s' P) s) : SegX (model prog w) A c (m.wrap K H gd lv) fs s P := by
  rintro Γ p rfl hΓ
  obtain ⟨e, s', hr, hq⟩ := runs_wrap_of_wp (Φ := fun e s' => e.quiet = true ∧ P e s') K H gd lv m (h (Γ.over fs) p (hΓ.over fs)) (fun a p' s' h' => h' Γ p' rfl hΓ) (fun x p' s' h' => h' Γ p' rfl hΓ)
  exact ⟨e, s', hr, hq⟩
theorem sx_at {s : Shared} {q : Pos} {k : Unit → Sem Fin} (h : SegX (model prog w) A c (k ()) fs s P) : SegX (model prog w) A c (.at q k) fs s P :=
  sx_wrap (m := standAt q) (K := k) (H := .raise) (gd := id) (lv := id) (wpAny_standAt h)

theorem sx_yield {s : Shared} {v : Value} {g : Bool} {l : List Value} {k : Resume → Sem Fin} (hfs : splitAtGen fs = none) (hg : g = false) (hfg : fs.any Frame.guarded = false) (x : ∀ p, P (.susp v false l k c p fs) s) : SegX (model prog w) A c (.yield v g l k) fs s P := by
  subst hg
  exact s_yield prog w A c fs P s v l k hfs hfg x

noncomputable def VX (prog : Program) (w : World) (A : Around) (C : Cx) (P : End → Shared → Prop) (c : Code) (fs : List Frame) (S : St) (t : Sem Fin) : Prop := ∀ s, Inv C S s → SegX (model prog w) A c t fs s P

theorem VX.of {α β : Type} {nf : α → β} {m : Sem α} {K : α → Sem Fin} (h : VG (model prog w) (A.over c fs) C nf S m fun b S₁ => ∀ a, nf a = b → VX prog w A C P c fs S₁ (K a)) : VX prog w A C P c fs S (m.wrap K H gd lv) := fun s I =>
  sx_wrap (h s _ _ I fun a s' S' I' hΦ => hΦ a rfl s' I')
theorem VX.wk {t : Sem Fin} (hw : Wk C S' S) (h : VX prog w A C P c fs S' t) : VX prog w A C P c fs S t := fun s I => h s (hw s I)
theorem VX.done (h : VX prog w A C P c fs S (K .next)) : VX prog w A C P c fs S ((execs [] env).wrap K H gd lv) := h
theorem VX.more {st : Stmt} {rest : List Stmt} (h : VX prog w A C P c fs S ((exec st env).wrap (fun f => match f with | .next => (execs rest env).wrap K H gd lv | f => K f) H gd lv)) :
    VX prog w A C P c fs S ((execs (st :: rest) env).wrap K H gd lv) := by rw [execs_cons_wrap]; exact h
theorem VX.stmt {st : Stmt} (h : VF (model prog w) (A.over c fs) C S (exec st env) fun f S₁ => f = .next ∧ VX prog w A C P c fs S₁ (K .next)) : VX prog w A C P c fs S ((exec st env).wrap K H gd lv) := fun s I =>
  sx_wrap (h s _ _ I fun a s' S' I' hΦ => by
    obtain ⟨e, hΦ⟩ := hΦ
    cases a with
    | next => exact hΦ s' I'
    | ret v => cases e
    | brk => cases e
    | cont => cases e)
theorem VX.if_ {test : Expr} {body orelse : List Stmt} {pos : Pos}
    (h : VB (model prog w) (A.over c fs) C S (isTrue test env (eval test env)) fun b S₁ => (b = true → VX prog w A C P c fs S₁ ((execs body env).wrap K H gd lv)) ∧ (b = false → VX prog w A C P c fs S₁ ((execs orelse env).wrap K H gd lv))) :
    VX prog w A C P c fs S ((exec (.If test body orelse pos) env).wrap K H gd lv) := fun s I => by
  rw [exec_If]
  show SegX _ A c (.at pos fun _ => (isTrue test env (eval test env) >>= fun b => if b = true then execs body env else execs orelse env).wrap K H gd lv) fs s P
  refine sx_at ?_
  rw [Sem.bind_eq_wrap', Sem.wrap_wrap]
  refine sx_wrap (h s _ _ I fun b s' S' I' h' => ?_)
  cases b with
  | true => exact h'.1 rfl s' I'
  | false => exact h'.2 rfl s' I'

theorem VX.yield {e : Expr} {ypos pos : Pos} (hfs : splitAtGen fs = none) (hgd : gd false = false) (hfg : fs.any Frame.guarded = false)
    (h : VP (model prog w) (A.over c fs) C S (eval e env) fun v S₁ => ∀ v' s', nt v' = v → Inv C S₁ s' → ∀ l k p, (∀ s'' P'', SegX (model prog w) A c (K .next) fs s'' P'' → SegX (model prog w) A c (k (.send .none)) fs s'' P'') → P (.susp v' false l k c p fs) s')
    (hco : env.scope.isCoroutine = false := by with_unfolding_all rfl) (hi : interactive env = false := by with_unfolding_all rfl) :
    VX prog w A C P c fs S ((exec (.Expr (.Yield (some e) ypos) pos) env).wrap K H gd lv) := fun s I => by
  rw [exec_Expr env _ pos hi rfl]
  show SegX (model prog w) A c (.at pos fun _ => ((eval e env >>= fun v => (standAt ypos >>= fun _ => yieldOut env v)) >>= fun x =>
    dropValue (.Yield (some e) ypos) pos x).wrap K H gd lv) fs s P
  have hy : ∀ v, yieldOut env v = yieldValue v := fun v => by simp only [yieldOut, hco, Bool.false_eq_true, if_false]
  simp only [hy]
  refine sx_at ?_
  rw [Sem.bind_eq_wrap', Sem.bind_eq_wrap', Sem.wrap_wrap, Sem.wrap_wrap]
  refine sx_wrap (h s _ _ I fun v s' S' I' h' => ?_)
  refine sx_at ?_
  refine sx_yield hfs hgd hfg fun p => h' v s' rfl I' _ _ p fun s'' P'' x => ?_
  exact x

theorem sx_call {s : Shared} {c' : Code} {hd : Option Value} {g : Bool} {l : List Value} {k : Result → Sem Fin} (x : ∀ p, SegX (model prog w) A c' ((model prog w).den c') (.ret k hd g l c p [] :: fs) s P) : SegX (model prog w) A c (.call c' hd g l k) fs s P := by
  rintro Γ p rfl hΓ
  obtain ⟨e, s', hr, hq⟩ := x p (Γ.goto c') p rfl (hΓ.goto c')
  exact ⟨e, s', runs_call_seg hr, hq⟩
theorem VX.again {c' : Code} (hq : c'.quiet = true) (x : VX prog w A C P c' fs S ((model prog w).den c')) : VX prog w A C P c fs S (.pure (.again c')) := fun s I => by
  rintro Γ p rfl hΓ
  obtain ⟨e, s', hr, hq'⟩ := x s I (Γ.goto c') p rfl (hΓ.goto c')
  exact ⟨e, s', Runs.head (c₁ := c') (fun _ _ y => .again hq y) hr, hq'⟩
theorem VX.while_ {test : Expr} {body orelse : List Stmt} {pos : Pos} (hgd : gd false = false)
    (h : ∀ k l p, VX prog w A C P (.whileLoop test body orelse env) (.ret k none false l c p [] :: fs) S ((model prog w).den (.whileLoop test body orelse env))) :
    VX prog w A C P c fs S ((exec (.While test body orelse pos) env).wrap K H gd lv) := fun s I => by
  refine sx_at (sx_call fun p => ?_)
  rw [hgd]
  exact h _ _ p s I

abbrev KF (again : Code) : Flow → Sem Fin := fun f => match f with
  | .next | .cont => .pure (.again again)
  | .brk => .pure (.done .next)
  | .ret v => .pure (.done (.ret v))
abbrev HF (env : Env) : Value → Sem Fin := fun e => (do noteFrame e env; theTreesLotGoes e : Sem Unit).wrap (fun _ => .raise e) .raise id id

theorem VX.whileLoop {test : Expr} {body orelse : List Stmt}
    (h : VB (model prog w) (A.over (.whileLoop test body orelse env) fs) C S (isTrue test env (eval test env)) fun b S₁ => b = true ∧ VX prog w A C P (.whileLoop test body orelse env) fs S₁ ((execs body env).wrap (KF (.whileLoop test body orelse env)) (HF env) id id)) :
    VX prog w A C P (.whileLoop test body orelse env) fs S ((model prog w).den (.whileLoop test body orelse env)) := fun s I => by
  show SegX _ A _ ((whileTurn test body orelse env).onRaise (fun x => do noteFrame x env; theTreesLotGoes x)) fs s P
  unfold whileTurn
  rw [Sem.onRaise_eq_wrap, Sem.bind_eq_wrap', Sem.wrap_wrap]
  refine sx_wrap (h s _ _ I fun b s' S' I' hb => ?_)
  obtain ⟨e, hb⟩ := hb
  obtain rfl : b = true := e
  show SegX _ A _ (Sem.wrap _ _ _ _ (if true = true then _ else _)) fs s' P
  rw [if_pos rfl, Sem.bind_eq_wrap', Sem.wrap_wrap]
  rw [Sem.wrap_congr (execs body env) _ _ (K' := KF (.whileLoop test body orelse env)) (H' := HF env)
    (fun f => by cases f <;> rfl)
    (fun e => by first | exact Sem.bind_eq_wrap _ _ | (show (do noteFrame e env; theTreesLotGoes e : Sem Unit).bind (fun _ => .raise e) = _; rw [Sem.bind_eq_wrap]))]
  exact hb s' I'

theorem VX.forLoop {target : Expr} {it : Value} {body orelse : List Stmt}
    (h : VN (model prog w) (A.over (.forLoop target it body orelse env) fs) C S (pyNext it) fun r S₁ => match r with
      | none => False
      | some v => ∀ v', nt v' = v → VU (model prog w) (A.over (.forLoop target it body orelse env) fs) C S₁ (assign target env v') fun _ S₂ => VX prog w A C P (.forLoop target it body orelse env) fs S₂ ((execs body env).wrap (KF (.forLoop target it body orelse env)) (HF env) id id))
    (ht : ∀ v, letOwnedTupleGo target it v = pure () := by intro _; with_unfolding_all rfl) :
    VX prog w A C P (.forLoop target it body orelse env) fs S ((model prog w).den (.forLoop target it body orelse env)) := fun s I => by
  show SegX _ A _ ((forTurn target it body orelse env).onRaise (fun x => do noteFrame x env; theTreesLotGoes x)) fs s P
  unfold forTurn
  rw [Sem.onRaise_eq_wrap]
  rw [Sem.bind_eq_wrap', Sem.wrap_wrap]
  refine sx_wrap (wpAny_standAt ?_)
  rw [Sem.bind_eq_wrap', Sem.wrap_wrap]
  refine sx_wrap (wpAny_onRaise (wpAny_mono (h s (fun r s₁ => ∃ S₁, Inv C S₁ s₁ ∧ (match r.map nt with
      | none => False
      | some v => ∀ v', nt v' = v → VU (model prog w) (A.over (.forLoop target it body orelse env) fs) C S₁ (assign target env v') fun _ S₂ => VX prog w A C P (.forLoop target it body orelse env) fs S₂ ((execs body env).wrap (KF (.forLoop target it body orelse env)) (HF env) id id))) _ I fun r s₁ S₁ I₁ h₁ => ⟨S₁, I₁, h₁⟩) ?_ fun _ _ h' => wpAny_standAt h'))
  rintro r s₁ ⟨S₁, I₁, h₁⟩
  cases r with
  | none => exact h₁.elim
  | some v =>
    dsimp only
    rw [ht v, Sem.bind_eq_wrap', Sem.wrap_wrap]
    refine sx_wrap (wpAny_pure ?_)
    rw [Sem.bind_eq_wrap', Sem.wrap_wrap]
    refine sx_wrap (h₁ v rfl s₁ _ _ I₁ fun _ s₂ S₂ I₂ h₂ => ?_)
    rw [Sem.bind_eq_wrap', Sem.wrap_wrap]
    rw [Sem.wrap_congr (execs body env) _ _ (K' := KF (.forLoop target it body orelse env)) (H' := HF env)
      (fun f => by cases f <;> rfl)
      (fun e => by first | exact Sem.bind_eq_wrap _ _ | (show (do noteFrame e env; theTreesLotGoes e : Sem Unit).bind (fun _ => .raise e) = _; rw [Sem.bind_eq_wrap]))]
    exact h₂ s₂ I₂
theorem VX.for_ {target iter : Expr} {body orelse : List Stmt} {pos : Pos} (hgd : gd false = false)
    (h : VP (model prog w) (A.over c fs) C S (eval iter env) fun x S₁ => ∀ x', nt x' = x → VP (model prog w) (A.over c fs) C S₁ (pyIter x') fun it S₂ => ∀ it', nt it' = it → ∀ k l p, VX prog w A C P (.forLoop target it' body orelse env) (.ret k none false l c p [] :: fs) S₂ ((model prog w).den (.forLoop target it' body orelse env)))
    (hs : ∀ x, foldedSetIterable iter env x = pure x := by intro _; with_unfolding_all rfl) :
    VX prog w A C P c fs S ((exec (.For target iter body orelse pos) env).wrap K H gd lv) := fun s I => by
  rw [exec_For]
  simp only [hs]
  rw [Sem.bind_eq_wrap', Sem.wrap_wrap]
  refine sx_wrap (wpAny_standAt ?_)
  rw [Sem.bind_eq_wrap', Sem.wrap_wrap]
  refine sx_wrap (h s _ _ I fun x s₁ S₁ I₁ h₁ => ?_)
  rw [Sem.bind_eq_wrap', Sem.wrap_wrap]
  refine sx_wrap (wpAny_pure ?_)
  rw [Sem.bind_eq_wrap', Sem.wrap_wrap]
  refine sx_wrap (wpAny_standAt ?_)
  rw [Sem.bind_eq_wrap', Sem.wrap_wrap]
  refine sx_wrap (wpAny_holding (h₁ x rfl s₁ _ _ I₁ fun it s₂ S₂ I₂ h₂ => ?_))
  refine sx_call fun p => ?_
  rw [hgd]
  exact h₂ it rfl _ _ p s₂ I₂
theorem VX.func {body : List Stmt} (h : VX prog w A C P (.func body env) fs S ((execs body env).wrap (fun f => .pure (.done (.ret (match f with | .ret v => v | _ => .none)))) (fun e => (leaving env e).wrap (fun _ => .raise e) .raise id id) id id)) :
    VX prog w A C P (.func body env) fs S ((model prog w).den (.func body env)) := fun s I => by
  show SegX _ A _ (.point [] fun _ => ((execs body env).onRaise (leaving env)) >>= _) fs s P
  refine sx_wrap (m := point) (H := .raise) (gd := id) (lv := fun _ => []) (wpAny_point ?_)
  rw [Sem.onRaise_eq_wrap, Sem.bind_eq_wrap', Sem.wrap_wrap]
  rw [Sem.wrap_congr (execs body env) _ _ (K' := fun f => .pure (.done (.ret (match f with | .ret v => v | _ => .none))))
    (H' := fun e => (leaving env e).wrap (fun _ => .raise e) .raise id id) (fun f => by cases f <;> rfl)
    (fun e => by rw [Sem.bind_eq_wrap, Sem.wrap_wrap]; rfl)]
  exact h s I
end
end Mine

set_option Elab.async false
set_option linter.unusedVariables false
set_option maxRecDepth 100000
namespace Mine
open PySem PyProof.Rows PySem.Calls PySem.W PySem.Spec PySem.W.X

@[reducible] noncomputable def Cx.fixG (C : Cx) (G : Array GenState) : Cx := { C with gp := fun x => x = G }
noncomputable def genObj (g : Nat) (nm qn : Value) : Obj := { cls := .type "generator", data := .fields #[.int g 0, nm, qn] }

theorem Inv.toG {C : Cx} {S : St} {s : Shared} (I : Inv C S s) {C' : Cx} (hC : ∃ p, C' = { C with gp := p }) {s' : Shared} (hh : s'.heap = s.heap) (ho : s'.os = s.os) (hg : C'.gp s'.gens) : Inv C' S s' := by
  obtain ⟨p, rfl⟩ := hC
  exact ⟨hh ▸ I.old, hh ▸ I.is, I.nod, I.above, hh ▸ I.known, I.small, hh ▸ I.arg, I.argB, hh ▸ I.g, hh ▸ I.b, I.nss, hh ▸ I.nolimit, ho ▸ I.os, hg⟩

noncomputable def GS (prog : Program) (w : World) (A : Around) (C : Cx) (y : Nat → Value) : Nat → Nat → GenState → St → Prop
  | 0, _, _, _ => True
  | n + 1, k, gs, T => ∃ c t fs, ((gs = .fresh c ∧ t = denote table c ∧ fs = []) ∨ ∃ k₀ l₀ p₀ cl, gs = .suspended k₀ l₀ c p₀ fs cl ∧ t = k₀ (.send .none)) ∧
      ∀ s S, Inv (C.fixG s.gens) (T ++ S) s → SegX (model prog w) A c t fs s fun e s₁ => ∃ v T', e.result = .yielded v ∧ nt v = y k ∧ Inv (C.fixG s.gens) (T' ++ S) s₁ ∧ e.genState.bare = true ∧ GS prog w A C y n (k + 1) e.genState T'

section
variable {prog : Program} {w : World} {A : Around} {C : Cx} {S S' : St} {env : Env}

theorem gens_size {s : Shared} {g : Nat} {gs : GenState} (h : s.gens[g]? = some gs) : g < s.gens.size := (Array.getElem?_eq_some_iff.mp h).1

theorem gen_next {a : Addr} {g n k : Nat} {gs : GenState} {nm qn : Value} {T : St} {y : Nat → Value} {Q : Option Value → Shared → Prop} {E : Value → Shared → Prop} {s : Shared} (hh : A.handled = none) (hroom : A.depth < recursionLimit)
    (I : Inv (C.fixG s.gens) (T ++ (a, .ob (genObj g nm qn)) :: S) s) (hgs : s.gens[g]? = some gs) (hG : GS prog w A.in1 C y (n + 1) k gs T)
    (hq : ∀ v s₁ gs' T', nt v = y k → Inv (C.fixG s₁.gens) (T' ++ (a, .ob (genObj g nm qn)) :: S) s₁ → s₁.gens[g]? = some gs' → (AllBare s.gens → AllBare s₁.gens) → GS prog w A.in1 C y n (k + 1) gs' T' → Q (some v) s₁) :
    wpAny (model prog w) A (pyNext (.ref a)) Q E s := by
  obtain ⟨o, ho, rfl⟩ := I.get (a := a) (c := .ob (genObj g nm qn)) (by simp)
  have hg : s.heap.IsGen a g := ⟨_, nm, qn, ho, rfl, rfl, rfl⟩
  have hl := I.nolimit
  have hlt := gens_size hgs
  obtain ⟨c, t, fs, hc, hseg⟩ := hG
  have I' : Inv (C.fixG (s.setGen g .running).gens) (T ++ (a, .ob (genObj g nm qn)) :: S) (s.setGen g .running) := I.toG ⟨_, rfl⟩ rfl rfl rfl
  have seg := hseg _ _ I'
  have fin : ∀ α (kk : GenResult → Sem α) (Q' : α → Shared → Prop) (E' : Value → Shared → Prop), (∀ v s₁, Q (some v) s₁ → wpAny (model prog w) A.in1 (kk (.yielded v)) Q' E' s₁) → wpAny (model prog w) A.in1 (.resume g (.send .none) [] kk) Q' E' s := by
    intro α kk Q' E' hk
    refine wake_any α prog w (A := A.in1) hgs (hc.imp (fun ⟨h1, h2, h3⟩ => ⟨h1, rfl, h2, h3⟩) id) (fun Γ => Γ.In A.in1) (fun _ h => h) (SegX.mono seg fun e s₁ h => ?_)
    obtain ⟨v, T', h1, h2, h3, h4, h5⟩ := h
    rw [h1]
    have e1 : s₁.gens = s.gens.setIfInBounds g .running := h3.gens
    have e2 : (s₁.setGen g e.genState).gens = s.gens.setIfInBounds g e.genState := by
      show s₁.gens.setIfInBounds g e.genState = _
      rw [e1, Array.setIfInBounds_setIfInBounds]
    refine hk v _ (hq v _ e.genState T' h2 (h3.toG ⟨_, rfl⟩ rfl rfl rfl) ?_ ?_ h5)
    · rw [e2, Array.getElem?_setIfInBounds_self_of_lt hlt]
    · intro hb x hx
      rw [e2] at hx
      rcases Array.mem_or_eq_of_mem_setIfInBounds hx with hx | rfl
      · exact hb x hx
      · exact h4
  unfold pyNext
  refine wpAny_bind (wpAny_attempt (wpAny_callSpecial?_slot (name := Str.ofString "__next__") hg.typeIs slot_gen_next
    (wpAny_call_entry slot_gen_next hg.typeIs entry_gen_next ?_ (args_gen_next _))))
  show wpAny _ _ (Builtin.Generator.genWake (.ref a) (.send .none)) _ _ s
  unfold Builtin.Generator.genWake
  refine wpAny_bind (wpAny_holding (wpAny_genNumber hg (wpAny_bind (wpAny_genState hgs ?_))))
  rcases hc with ⟨rfl, _⟩ | ⟨k₀, l₀, p₀, cl, rfl, _⟩
  all_goals
    refine wpAny_bind (wpAny_roomToWake hl hroom ?_)
    show wpAny _ _ (.resume g (.send .none) [] _) _ _ s
    refine fin _ _ _ _ fun v s₁ hv => ?_
    exact wpAny_pure ⟨v, rfl, wpAny_pure hv⟩

theorem V.for_gen (hgp : C.gp = AllBare) {target : Expr} {f : Str} {pf pos' pos : Pos} {arg : Expr} {body orelse gbody : List Stmt} {fa : Addr} {o : Obj} {fd : FuncData} {x : Value} {binds : Value → List (Str × Value)} {l : List (Str × Value)} {y : Nat → Value} {N : Nat} {Φ : Flow → St → Prop}
    (J : Nat → St → Prop) (hA : A.handled = none) (hroom : A.depth < recursionLimit) (hN : 0 < N)
    (hname : VP (model prog w) A C S (eval (.Name f pf) env) fun v S₁ => v = .ref fa ∧ S₁ = S) (harg : VP (model prog w) A C S (eval arg env) fun v S₁ => v = x ∧ S₁ = S)
    (ho : At C S fa o) (hd : o.data = .func fd) (hcd : Code1 C S fd) (hb : fd.body = .stmts gbody) (hbind : ∀ v, bindArgs fd ⟨[v], []⟩ = pure (binds v))
    (hc : ∀ z ∈ fd.scope.names, z.2 ≠ .cell) (hl : ∀ v, ((binds v).all fun z => decide (fd.scope.names.lookup z.1 = some .local)) = true) (hn : ∀ v, decide ((binds v).map Prod.fst).Nodup = true) (hlx : ∀ v, nt v = x → ((binds v).map fun z => (z.1, nt z.2)) = l)
    {Tx R₀ : St} (hS : Pw (Tx ++ R₀) S) (hG : ∀ L, GS prog w A.in1 C y N 0 (.fresh (.func gbody (envF fd L fa fd.closure))) ((L, .ns l) :: Tx)) (h0 : J 0 R₀)
    (turn : ∀ k R Fz G, k < N → J k R → ∀ v, nt v = y k → VU (model prog w) A (C.fixG G) (R ++ Fz) (assign target env v) fun _ S₂ => VF (model prog w) A (C.fixG G) S₂ (execs body env) fun f S₃ => match f with
      | .next | .cont => ∃ R', k + 1 < N ∧ Wk (C.fixG G) (R' ++ Fz) S₃ ∧ J (k + 1) R'
      | .brk => ∃ R', Wk (C.fixG G) (R' ++ Fz) S₃ ∧ Φ .next R'
      | .ret v => ∃ R', Wk (C.fixG G) (R' ++ Fz) S₃ ∧ Φ (.ret v) R')
    (hco : fd.scope.isCoroutine = false := by with_unfolding_all rfl) (hgen : fd.scope.isGenerator = true := by with_unfolding_all rfl) (hk : fd.scope.kind = .function := by with_unfolding_all rfl)
    (hst : starEach [arg] env = [(false, eval arg env)] := by with_unfolding_all rfl)
    (hs : ∀ x, foldedSetIterable (.Call (.Name f pf) [arg] [] pos') env x = pure x := by intro _; with_unfolding_all rfl)
    (ht : ∀ v it, letOwnedTupleGo target it v = pure () := by intro _ _; with_unfolding_all rfl) :
    VF (model prog w) A C S (exec (.For target (.Call (.Name f pf) [arg] [] pos') body orelse pos) env) Φ := fun s Q E I hq => by
  refine wpAny_For ?_ hs
  refine PyProof.Rows.Call_Name rfl (hname s _ _ I fun fv s₁ S₁ I₁ e => ?_)
  obtain ⟨e, rfl⟩ := e
  obtain rfl := nt_ref e
  have hcal : Callee (model prog w) C S₁ (.ref fa) := .fn ho hd
  rw [hst]
  refine callWith_of (P := fun h => ∃ k, (k = Keeper.frame ∨ k = Keeper.machine ∨ k = Keeper.boundFrame) ∧ Looks (model prog w) h (keeperOf (.ref fa)) k) rfl (fun _ p => p) (evalArgs_plain ?_)
  show wpAny _ A (spliced [(false, eval arg env)]) _ E s₁
  refine spliced_cons (harg s₁ _ _ I₁ fun v s₂ S₂ I₂ h₂ => ?_)
  obtain ⟨hx, rfl⟩ := h₂
  refine spliced_nil ⟨hcal s₂ I₂, ?_⟩
  show wpAny _ A (call (.ref fa) [v]) _ E s₂
  refine wpAny_call (codeAny_call_generator hroom (ho.get I₂) hd hco hgen hb (hcd.get I₂) ?_)
  rw [hbind v]
  refine wpAny_pure (V.newEnv (Φ := fun env' S' => ∃ L, env' = envF fd L fa fd.closure ∧ S' = ((L, Ch.ns ((binds v).map fun x => (x.1, nt x.2))) :: S₂)) hc (locs (hl v)) (of_decide_eq_true (hn v)) (fun L => ?_) hk s₂ _ _ I₂ fun env' s' S' I' h' => ?_)
  · exact ⟨L, envF_eq .., rfl⟩
  obtain ⟨L, rfl, rfl⟩ := h'
  refine ⟨I'.nolimit, ?_⟩
  rw [hlx v hx] at I'
  have hga : AllBare s'.gens := by have := I'.gens; rw [hgp] at this; exact this
  generalize hgo : ({ cls := .type "generator", data := .fields #[.int s'.gens.size 0, .str fd.name s'.toks, .str fd.qualname (s'.toks + 1)] } : Obj) = og
  have hog : og = genObj s'.gens.size (.str fd.name s'.toks) (.str fd.qualname (s'.toks + 1)) := hgo.symm
  clear hgo
  subst hog
  have I'' := I'.alloc (o := genObj s'.gens.size (.str fd.name s'.toks) (.str fd.qualname (s'.toks + 1))) (c := .ob (genObj s'.gens.size (.str fd.name s'.toks) (.str fd.qualname (s'.toks + 1)))) rfl rfl (s'.toks + 1 + 1)
  generalize hcode : Code.func gbody (envF fd L fa fd.closure) = gcode
  have I3 : Inv (C.fixG (s'.gens.push (.fresh gcode))) ((s'.heap.objs.size, .ob (genObj s'.gens.size (.str fd.name s'.toks) (.str fd.qualname (s'.toks + 1)))) :: (L, .ns l) :: S₂) { s' with gens := s'.gens.push (.fresh gcode), toks := s'.toks + 1 + 1, heap := s'.heap.push (genObj s'.gens.size (.str fd.name s'.toks) (.str fd.qualname (s'.toks + 1))) } :=
    I''.toG ⟨_, rfl⟩ rfl rfl rfl
  have hG0 := hG L
  rw [hcode] at hG0
  have hgg : (s'.gens.push (.fresh gcode))[s'.gens.size]? = some (.fresh gcode) := by simp
  have hab : AllBare (s'.gens.push (.fresh gcode)) := hga.push rfl
  obtain ⟨og, hog, rfl⟩ := I3.get (a := s'.heap.objs.size) (c := .ob (genObj s'.gens.size (.str fd.name s'.toks) (.str fd.qualname (s'.toks + 1)))) List.mem_cons_self
  refine wpAny_pyIter_gen ⟨_, _, _, hog, rfl, rfl, rfl⟩ ?_
  revert I3 hgg hab
  generalize s'.gens.size = g
  generalize s'.heap.objs.size = a
  generalize Value.str fd.name s'.toks = nm
  generalize Value.str fd.qualname (s'.toks + 1) = qn
  intro I3 hgg hab
  have hS' : Wk (C.fixG (s'.gens.push (.fresh gcode))) (((L, .ns l) :: Tx) ++ (a, .ob (genObj g nm qn)) :: R₀) ((a, .ob (genObj g nm qn)) :: (L, .ns l) :: S₂) := fun st Ist =>
    (hS.inv [(a, .ob (genObj g nm qn)), (L, .ns l)] st Ist).perm List.perm_middle
  have I4 := hS' _ I3
  refine codeAny_forLoop (fun m st => ∃ k R gs T, m = N - k ∧ k < N ∧ J k R ∧ Inv (C.fixG st.gens) (T ++ (a, .ob (genObj g nm qn)) :: R) st ∧ st.gens[g]? = some gs ∧ AllBare st.gens ∧ GS prog w A.in1 C y (N - k) k gs T) ?_ N ⟨0, R₀, _, _, rfl, hN, h0, I4, hgg, hab, hG0⟩ (fun v => ht v _)
  rintro m st ⟨k, R, gs, T, rfl, hk, hJ, Ik, hgk, hbk, hGk⟩
  obtain ⟨n, hn'⟩ : ∃ n, N - k = n + 1 := ⟨N - k - 1, by omega⟩
  rw [hn'] at hGk
  refine gen_next hA hroom Ik hgk hGk fun v s₃ gs' T' hv I₅ hg' hb' hG' => ?_
  have I₆ := I₅.perm (S' := R ++ (T' ++ [(a, .ob (genObj g nm qn))])) (by
    refine (List.perm_append_comm (l₁ := R)).trans ?_
    rw [List.append_assoc]; rfl)
  have hab' := hb' hbk
  refine turn k R _ s₃.gens hk hJ v hv s₃ _ _ I₆ fun _ s₄ S₄ I₇ h₇ => h₇ s₄ _ _ I₇ fun fl s₅ S₅ I₈ h₈ => ?_
  have fin : ∀ R', Wk (C.fixG s₃.gens) (R' ++ (T' ++ [(a, .ob (genObj g nm qn))])) S₅ → Inv C R' s₅ := fun R' hw => by
    have I₉ := hw s₅ I₈
    have eg : s₅.gens = s₃.gens := I₉.gens
    exact (I₉.drop (List.sublist_append_left _ _)).toG ⟨C.gp, rfl⟩ rfl rfl (by rw [hgp, eg]; exact hab')
  have go : ∀ R', k + 1 < N → Wk (C.fixG s₃.gens) (R' ++ (T' ++ [(a, .ob (genObj g nm qn))])) S₅ → J (k + 1) R' → ∃ m, m < N - k ∧ ∃ k R gs T, m = N - k ∧ k < N ∧ J k R ∧ Inv (C.fixG s₅.gens) (T ++ (a, .ob (genObj g nm qn)) :: R) s₅ ∧ s₅.gens[g]? = some gs ∧ AllBare s₅.gens ∧ GS prog w A.in1 C y (N - k) k gs T := by
    intro R' hk1 hw hJ'
    have I₉ := hw s₅ I₈
    have eg : s₅.gens = s₃.gens := I₉.gens
    refine ⟨N - (k + 1), by omega, k + 1, R', gs', T', rfl, hk1, hJ', ?_, by rw [eg]; exact hg', by rw [eg]; exact hab', ?_⟩
    · rw [eg]
      refine I₉.perm ?_
      refine List.Perm.trans ?_ (List.perm_append_comm (l₁ := T' ++ [(a, .ob (genObj g nm qn))]))
      rw [List.append_assoc]; rfl
    · rw [show N - (k + 1) = n by omega]; exact hG'
  cases fl with
  | next => obtain ⟨R', h1, h2, h3⟩ := h₈; exact go R' h1 h2 h3
  | cont => obtain ⟨R', h1, h2, h3⟩ := h₈; exact go R' h1 h2 h3
  | brk => obtain ⟨R', h1, h2⟩ := h₈; exact hq .next s₅ R' (fin R' h1) h2
  | ret v => obtain ⟨R', h1, h2⟩ := h₈; exact hq (.ret v) s₅ R' (fin R' h1) h2
end
end Mine

set_option Elab.async false
set_option linter.unusedVariables false
set_option maxRecDepth 100000
namespace Mine
open PySem PyProof.Rows PySem.Calls PySem.W

theorem nt_of_ints {vs : List Value} {ns : List Int} (h : IntsAre vs ns) : vs.map nt = ns.map fun i => .int i 0 := by
  induction h with
  | nil => rfl
  | cons n t _ ih => rw [List.map_cons, List.map_cons, ih]; rfl
theorem carried_strs {vs : List Value} {ns : List Str} (h : vs.map nt = ns.map fun i => .str i 0) : CarriedAll vs (ns.map PyData.str) := by
  induction ns generalizing vs with
  | nil => cases vs with
    | nil => exact .nil
    | cons _ _ => cases h
  | cons n ns ih => cases vs with
    | nil => cases h
    | cons v vs =>
      rw [List.map_cons, List.map_cons, List.cons.injEq] at h
      obtain ⟨t, rfl⟩ := nt_str h.1
      exact .cons (.str n t) (ih h.2)
theorem ks_canLayAll0 : ∀ ns : List Str, (ns.all fun x => PyData.strOk x) = true → PyData.canLayAll0 (ns.map PyData.str) = true
  | [], _ => rfl
  | a :: r, h => by
    rw [List.all_cons, Bool.and_eq_true] at h
    simp [PyData.canLayAll0, PyData.canLay0, ks_canLayAll0 r h.2, h.1]
theorem ks_depthAll : ∀ ns : List Str, PyData.depthAll (ns.map PyData.str) = 0
  | [] => rfl
  | _ :: r => by simp [PyData.depthAll, PyData.depth, ks_depthAll r]
theorem ks_shaped (ns : List Str) (h : (ns.all fun x => PyData.strOk x) = true) : SeqAt.shaped (.list (ns.map PyData.str)) = true := by
  simp [SeqAt.shaped, PyData.canLay0, PyData.depth, ks_canLayAll0 ns h, ks_depthAll]
theorem ks_sameAll : ∀ ns ms : List Str, PySem.Spec.sameAll (ns.map PyData.str) (ms.map PyData.str) = decide (ns = ms)
  | [], [] => by simp [PySem.Spec.sameAll]
  | [], _ :: _ => by simp [PySem.Spec.sameAll]
  | _ :: _, [] => by simp [PySem.Spec.sameAll]
  | a :: r, b :: t => by
    simp only [List.map_cons, PySem.Spec.sameAll, PySem.Spec.same, ks_sameAll r t]
    by_cases h : a = b <;> by_cases h' : r = t <;> simp [h, h']
theorem ks_same (ns ms : List Str) : PySem.Spec.same (.list (ns.map PyData.str)) (.list (ms.map PyData.str)) = decide (ns = ms) := by
  simp only [PySem.Spec.same]; exact ks_sameAll ns ms

section
variable {prog : Program} {w : World} {A : Around} {C : Cx} {S S' : St} {env : Env}

theorem VO.eq_ints {l b : Addr} {ns ms : List Int} {Φ : Value → St → Prop} (hu : A.units + 64 < cLine) (hl : IsL C S l (ns.map fun i => .int i 0)) (hb : IsL C S b (ms.map fun i => .int i 0)) (h : Φ (.bool (decide (ns = ms))) S) :
    ∀ a' b', nt a' = .ref l → nt b' = .ref b → VP (model prog w) A C S (compareOp .Eq a' b') Φ := by
  intro a' b' ha hb'; obtain rfl := nt_ref ha; obtain rfl := nt_ref hb'
  intro s Q E I hq
  obtain ⟨⟨vs⟩, hv, e⟩ := hl s I
  obtain ⟨⟨ws⟩, hw, e'⟩ := hb s I
  exact ke_eq_ints hv hw (ints_of e) (ints_of e') hu (hq _ _ _ I h)
theorem VO.ne_ints {l b : Addr} {ns ms : List Int} {Φ : Value → St → Prop} (hu : A.units + 64 < cLine) (hl : IsL C S l (ns.map fun i => .int i 0)) (hb : IsL C S b (ms.map fun i => .int i 0)) (h : Φ (.bool (!decide (ns = ms))) S) :
    ∀ a' b', nt a' = .ref l → nt b' = .ref b → VP (model prog w) A C S (compareOp .NotEq a' b') Φ := by
  intro a' b' ha hb'; obtain rfl := nt_ref ha; obtain rfl := nt_ref hb'
  intro s Q E I hq
  obtain ⟨⟨vs⟩, hv, e⟩ := hl s I
  obtain ⟨⟨ws⟩, hw, e'⟩ := hb s I
  exact ke_ne_ints hv hw (ints_of e) (ints_of e') hu (hq _ _ _ I h)
theorem VO.ne_strs {l b : Addr} {ns ms : List Str} {Φ : Value → St → Prop} (hu : A.units + 64 < cLine) (k1 : (ns.all fun x => PyData.strOk x) = true) (k2 : (ms.all fun x => PyData.strOk x) = true) (hl : IsL C S l (ns.map fun i => .str i 0)) (hb : IsL C S b (ms.map fun i => .str i 0)) (h : Φ (.bool (!decide (ns = ms))) S) :
    ∀ a' b', nt a' = .ref l → nt b' = .ref b → VP (model prog w) A C S (compareOp .NotEq a' b') Φ := by
  intro a' b' ha hb'; obtain rfl := nt_ref ha; obtain rfl := nt_ref hb'
  intro s Q E I hq
  obtain ⟨⟨vs⟩, hv, e⟩ := hl s I
  obtain ⟨⟨ws⟩, hw, e'⟩ := hb s I
  exact ne_dataH_same (reads_newData hv (carried_strs e)) (reads_newData hw (carried_strs e')) (ks_shaped _ k1) (ks_shaped _ k2) hu (SeqAt.noMix_of_shape (.list .str) rfl _ _ (list_map_has fun _ => rfl) (list_map_has fun _ => rfl)) (by rw [ks_same]; exact hq _ _ _ I h)

theorem VO.in_tup {l : Addr} {k : Int} {ns : List Int} {Φ : Value → St → Prop} (hm : (l, Ch.tup (ns.map fun i => .int i 0)) ∈ S) (h : Φ (.bool (ns.any (· == k))) S) :
    ∀ a' b', nt a' = .int k 0 → nt b' = .ref l → VP (model prog w) A C S (compareOp .In a' b') Φ := by
  intro a' b' ha hb'; obtain ⟨t, rfl⟩ := nt_int ha; obtain rfl := nt_ref hb'
  intro s Q E I hq
  obtain ⟨o, ho, vs, rfl, e⟩ := I.get hm
  have hi : ∀ y ∈ vs, ∃ i t, y = .int i t := fun y hy => by
    have : nt y ∈ vs.toList.map nt := List.mem_map.mpr ⟨y, by simpa using hy, rfl⟩
    rw [e] at this
    obtain ⟨i, _, e⟩ := List.mem_map.mp this
    obtain ⟨t, rfl⟩ := nt_int e.symm
    exact ⟨i, t, rfl⟩
  have hany : (vs.any fun y => match y with | .int i _ => i == k | _ => false) = ns.any (· == k) := by
    have : (vs.toList.map nt).any (fun y => match y with | .int i _ => i == k | _ => false) = ns.any (· == k) := by
      rw [e, List.any_map]; rfl
    rw [← this, List.any_map, ← Array.any_toList]
    have key : ∀ y, (match y with | Value.int i _ => i == k | _ => false) = ((fun y => match y with | Value.int i _ => i == k | _ => false) ∘ nt) y := fun y => by cases y <;> rfl
    congr 1; funext y; exact key y
  refine SeqAt.in_tupleAt (items := vs) (fun y => match y with | .int i _ => i == k | _ => false) ⟨_, ho, rfl, 0, rfl⟩ (fun y hy => ?_) (by rw [hany]; exact hq _ _ _ I h)
  obtain ⟨i, t', rfl⟩ := hi y hy
  exact SeqAt.EqAt.int_int i t' k t

theorem V.sorted {l : Addr} {ns : List Int} (hl : IsL C S l (ns.map fun i => .int i 0)) (h64 : ns.length < 64) {Φ : Value → St → Prop}
    (h : ∀ (a : Addr) (ns' : List Int), ns'.Perm ns → ns'.Pairwise (· ≤ ·) → Φ (.ref a) ((a, .lst (ns'.map fun i => .int i 0)) :: S)) : ∀ v, nt v = .ref l → VP (model prog w) A C S (call (.builtin "sorted") [v]) Φ := by
  intro v hv0; obtain rfl := nt_ref hv0
  intro s Q E I hq
  obtain ⟨⟨vs⟩, hv, e⟩ := hl s I
  have hlen : vs.length = ns.length := by have := congrArg List.length e; simpa using this
  refine sorted_ints hv (ints_of e) (by omega) fun out ns' a1 a2 a3 => ?_
  obtain ⟨ep, he⟩ := sortedAll_at s.heap vs out
  have hfr : s.heap.get? (s.heap.objs.size + 1) = none := by
    cases e : s.heap.get? (s.heap.objs.size + 1) with
    | none => rfl
    | some o' => exact absurd (Heap.lt_size e) (Nat.not_lt.mpr (Nat.le_succ _))
  have J := I.more (T := [(s.heap.objs.size + 1, .lst (ns'.map fun i => .int i 0))]) (h' := sortedAll s.heap vs out) (fun _ _ => sortedAll_old) (fun p hp => ?_) (by simp) s.toks
  · exact hq _ _ _ J (h _ ns' a2 a3)
  · rw [List.mem_singleton] at hp; subst hp
    exact ⟨hfr, _, he, out, ep, rfl, nt_of_ints a1⟩

theorem V.insert {l : Addr} {k : Nat} {v : Value} {x : Value} {xs : List Value} {Φ : Value → St → Prop} (hv : nt v = .int (k : Int) 0) (hk : k ≤ xs.length) (hu : Upd l (.lst (xs.take k ++ x :: xs.drop k)) S (.lst xs) S') (hz : xs.length ≤ 1000) (h : Φ .none S') :
    ∀ u, nt u = x → VP (model prog w) A C S (call (.builtin "list.insert") [.ref l, v, u]) Φ := fun u hx s Q E I hq => by
  subst hx
  have hv0 := hv
  obtain ⟨t, rfl⟩ := nt_int hv
  obtain ⟨o, ho, ⟨vs⟩, ep, rfl, e⟩ := I.get hu.mem
  have el : vs.length = xs.length := by rw [← e]; simp
  have hh : Builtin.List.listFitsIndex (k : Int) = true := by
    unfold Builtin.List.listFitsIndex
    rw [Bool.and_eq_true, decide_eq_true_eq, decide_eq_true_eq]; omega
  have hh' : ¬(!Builtin.List.listFitsIndex (k : Int)) = true := by rw [hh]; exact Bool.false_ne_true
  have hz' : vs.toArray.size ≤ sizeLine := by rw [List.size_toArray, sizeLine_eq]; omega
  generalize hx : (k : Int) = x at hh' hv0 ⊢
  refine call_meets PySem.F.slot_list_insert ⟨_, ho, rfl⟩ PySem.F.entry_list_insert (PySem.F.args_list_insert_3 _ _ _) (PySem.AutoSeq1.list_insert_list_int_val_1 l vs.toArray ep x t u hh' hz') ⟨ho, hq _ _ S' (I.upd hu (Heap.SameBut.update ..).extBut ⟨_, Heap.get?_update_self _ ho ?_, (vs.take k ++ u :: vs.drop k).toArray, ?_, ?_, ?_⟩ _) h⟩
  · rfl
  · exact ep + 1
  · subst hx
    have e1 : (if (k : Int) < 0 then ((k : Int) + (vs.toArray.size : Int)).toNat else min (k : Int).toNat vs.toArray.size) = k := by
      rw [if_neg (by omega), List.size_toArray, Int.toNat_natCast, Nat.min_eq_left (by omega)]
    have e2 := kl_ins_eq vs k u
    have e3 : ¬ ((vs.take k ++ u :: vs.drop k).toArray.size == vs.toArray.size) = true := by
      rw [List.size_toArray, List.size_toArray, List.length_append, List.length_cons, List.length_take, List.length_drop, beq_iff_eq]; omega
    simp only [Obj.mapSeq, e1, e2]
    rw [if_neg e3]
  · rw [List.toList_toArray, List.map_append, List.map_cons, List.map_take, List.map_drop]
    rw [show vs.map nt = xs from e]

theorem VO.mul_str {c n : Nat} {Φ : Value → St → Prop} (h1 : 1 ≤ n) (h2 : n ≤ 1000) (h : Φ (.str ⟨(List.replicate n c).toArray⟩ 0) S) : ∀ a' b', nt a' = .str ⟨#[c]⟩ 0 → nt b' = .int (n : Int) 0 → VP (model prog w) A C S (binaryOp .Mult a' b') Φ := by
  intro a' b' ha hb; obtain ⟨t, rfl⟩ := nt_str ha; obtain ⟨u, rfl⟩ := nt_int hb
  intro s Q E I hq
  have hf : ∀ (m : Nat) (acc : Array Nat), (List.replicate m (#[c] : Array Nat)).foldl (· ++ ·) acc = (acc.toList ++ List.replicate m c).toArray := by
    intro m
    induction m with
    | zero => intro acc; simp
    | succ m ih => intro acc; rw [List.replicate_succ, List.foldl_cons, ih]; simp [List.replicate_succ]
  refine PySem.P.mul_str (by simp; omega) (fun _ _ => ?_) (fun _ _ => ?_) ?_
  · show ¬ (((1 : Nat) : Int) > (2 ^ 63 - 1) / (n : Int))
    have : (1 : Int) ≤ (2 ^ 63 - 1) / (n : Int) := (Int.le_ediv_iff_mul_le (by omega)).mpr (by omega)
    omega
  · show Builtin.Str.tooLong (1 * n) = false
    unfold Builtin.Str.tooLong
    rw [sizeLine_eq, decide_eq_false_iff_not]; omega
  · rw [if_neg (by omega)]
    refine post_val_or_str ?_
    split
    · rename_i hc
      have : n = 1 := by
        rw [Bool.or_eq_true] at hc
        rcases hc with hc | hc
        · have := beq_iff_eq.mp hc; omega
        · exact absurd (show ((1 : Nat) == 0) = true from hc) (by decide)
      subst this
      exact ⟨by rw [sizeLine_eq]; exact (by decide : 1 ≤ 16777216), fun t' k => hq _ _ _ (I.tok _) h⟩
    · have e : (⟨(List.replicate (n : Int).toNat (⟨#[c]⟩ : Str).cps).foldl (· ++ ·) #[]⟩ : Str) = ⟨(List.replicate n c).toArray⟩ := by
        rw [Int.toNat_natCast]; show (⟨(List.replicate n #[c]).foldl (· ++ ·) #[]⟩ : Str) = _
        rw [hf]; rfl
      rw [e]
      exact ⟨by show (List.replicate n c).toArray.size ≤ _; rw [List.size_toArray, List.length_replicate, sizeLine_eq]; omega, fun t' k => hq _ _ _ (I.tok _) h⟩

theorem VO.mul_list {l : Addr} {n : Nat} {x : Value} {Φ : Value → St → Prop} (hl : IsL C S l [x]) (h2 : n ≤ 1000) (h : ∀ a, Φ (.ref a) ((a, .lst (List.replicate n x)) :: S)) : ∀ a' b', nt a' = .ref l → nt b' = .int (n : Int) 0 → VP (model prog w) A C S (binaryOp .Mult a' b') Φ := by
  intro a' b' ha hb; obtain rfl := nt_ref ha; obtain ⟨u, rfl⟩ := nt_int hb
  intro s Q E I hq
  obtain ⟨⟨vs⟩, hv, e⟩ := hl s I
  obtain ⟨⟨cls, d, data, sl⟩, ho, hcl, k, hd⟩ := hv
  simp only at hcl hd
  subst hcl hd
  obtain ⟨v, rfl, ex⟩ : ∃ v, vs = [v] ∧ nt v = x := by
    cases vs with
    | nil => cases e
    | cons v r => cases r with
      | nil => simp at e; exact ⟨v, rfl, e⟩
      | cons _ _ => cases e
  have hf : ∀ (m : Nat) (acc : Array Value), (List.replicate m ([v] : List Value).toArray).foldl (fun x1 x2 => x1 ++ x2) acc = (acc.toList ++ List.replicate m v).toArray := by
    intro m
    induction m with
    | zero => intro acc; simp
    | succ m ih => intro acc; rw [List.replicate_succ, List.foldl_cons, ih]; simp [List.replicate_succ]
  have hh : Builtin.List.listFitsIndex (n : Int) = true := by
    unfold Builtin.List.listFitsIndex
    rw [Bool.and_eq_true, decide_eq_true_eq, decide_eq_true_eq]; omega
  have hh' : ¬(!Builtin.List.listFitsIndex (n : Int)) = true := by rw [hh]; exact Bool.false_ne_true
  have h1' : ¬([v] : List Value).toArray.size * (n : Int).toNat > (2 ^ 63 - 1) / 8 := by rw [List.size_toArray, Int.toNat_natCast]; show ¬ 1 * n > _; omega
  have h2' : ¬Builtin.List.listTooLong (([v] : List Value).toArray.size * (n : Int).toNat) = true := by
    unfold Builtin.List.listTooLong
    rw [List.size_toArray, Int.toNat_natCast, sizeLine_eq, decide_eq_true_eq]; show ¬ 1 * n > _; omega
  generalize hx : (n : Int) = z at hh' h1' h2' ⊢
  refine wpAny_binaryOp_repeat_ref (T := "list") (U := "int") (by decide) ⟨_, ho, rfl⟩ (fun s' => typeIs_int s' _ u) noFill_list_mul F.fills_int_mul F.slot_int_rmul repeat_list F.slot_int_index.lookup
    (call_meets F.slot_int_rmul (typeIs_int s _ u) F.entry_int_rmul (F.args_int_rmul_2 _ _) (lm_int_rmul_list_any _ u l [v].toArray k d sl)
      ⟨ho, rfl, ⟨_, ho, rfl⟩, call_meets F.slot_list_mul ⟨_, ho, rfl⟩ F.entry_list_mul (F.args_list_mul_2 _ _)
        (lm_list_mul_any l [v].toArray k d sl z u hh' h1' h2')
        ⟨ho, ?_⟩⟩)
  subst hx
  refine hq _ _ _ (I.allocs (c := .lst (List.replicate n x)) rfl ⟨_, _, rfl, ?_⟩) (h _)
  have e0 : (if ([v] : List Value).toArray.isEmpty = true then 0 else (n : Int).toNat) = n := by simp
  rw [e0, hf]
  simp [ex]

theorem V.and_cons {e e₂ : Expr} {rest : List Expr} {pos : Pos} {Φ : Value → St → Prop}
    (h : VP (model prog w) A C S (eval e env) fun v S₁ => ∃ b, v = .bool b ∧ (b = false → Φ (.bool false) S₁) ∧ (b = true → VP (model prog w) A C S₁ (eval (.BoolOp .And (e₂ :: rest) pos) env) Φ)) :
    VP (model prog w) A C S (eval (.BoolOp .And (e :: e₂ :: rest) pos) env) Φ := fun s Q E I hq => by
  show wpAny _ A (do
    let v ← eval e env
    standAt pos
    let t ← holding [v] (truthy v)
    match BoolOp.And, t with
    | .And, false | .Or, true => pure v
    | _, _ => eval (.BoolOp .And (e₂ :: rest) pos) env) Q E s
  refine wpAny_bind (h s _ E I fun v s₁ S₁ I₁ h₁ => ?_)
  obtain ⟨b, hb, h0, h1⟩ := h₁
  obtain rfl := nt_bool hb
  refine wpAny_bind (wpAny_standAt ?_)
  refine wpAny_bind (wpAny_holding ?_)
  refine V.truthy_bool (Φ := fun b' S' => b' = b ∧ S' = S₁) ⟨rfl, rfl⟩ s₁ _ E I₁ fun b' s' S' I' hh => ?_
  obtain ⟨rfl, rfl⟩ := hh
  cases b' with
  | false => exact wpAny_pure (hq _ _ _ I' (h0 rfl))
  | true => exact h1 rfl s' Q E I' hq
theorem V.and_one {e : Expr} {pos : Pos} {Φ : Value → St → Prop} (h : VP (model prog w) A C S (eval e env) Φ) : VP (model prog w) A C S (eval (.BoolOp .And [e] pos) env) Φ := h
end
end Mine

set_option Elab.async false
set_option linter.unusedVariables false
set_option maxRecDepth 100000
namespace Mine
open PySem PyProof.Rows PySem.Calls PySem.W
section
variable {prog : Program} {w : World} {A : Around} {C : Cx} {S S' : St} {env : Env}
theorem V.newEnv1 {scope : Scope} {globals : Addr} {cl : List (Str × Addr)} {x0 : Str} {qual : Str} {func : Option Addr} {code : Value} {outer : Env} {builtins : Addr} {Φ : Env → St → Prop}
    (hcf : ∀ n, cellsFrom n scope.names cl = (x0, n) :: cl) (hpc : ∀ h, pushCells h scope.names = h.push { cls := .type "cell", data := .cell none })
    (h : ∀ L, Φ (PySem.newEnv scope L globals ((x0, L + 1) :: cl) qual func code (some outer) builtins) ((L + 1, .cell none) :: (L, .ns []) :: S)) :
    VG (model prog w) A C (fun x => x) S (newFunctionEnv scope globals cl [] qual func code (some outer) builtins) Φ := fun s Q E I hq => by
  simp only [newFunctionEnv, Option.isSome_some, if_true]
  refine wpAny_bind (wpAny_alloc ?_)
  refine wpAny_bind (wpAny_layCells _ (fun name kind cells => by cases hkc : kind == NameKind.cell <;> simp [hkc]) _ _ _ _ ?_)
  rw [hcf, hpc]
  have J := I.allocs (o := { cls := .type "dict", data := .dict #[] }) (c := .ns []) rfl ⟨#[], _, rfl, (fun e he => by simp at he), fun x v hm => nomatch hm⟩
  have J2 := J.allocs (o := { cls := .type "cell", data := .cell none }) (c := .cell none) rfl ⟨none, rfl, rfl⟩
  have e : ({ s with heap := s.heap.push { cls := .type "dict", data := .dict #[] } } : Shared).heap.objs.size = s.heap.objs.size + 1 := Heap.size_push ..
  rw [e] at J2 ⊢
  show wpAny _ _ (do
    for (name, v) in ([] : List (Str × Value)) do storeName (PySem.newEnv scope s.heap.objs.size globals ((x0, s.heap.objs.size + 1) :: cl) qual func code (some outer) builtins) name v
    return (PySem.newEnv scope s.heap.objs.size globals ((x0, s.heap.objs.size + 1) :: cl) qual func code (some outer) builtins)) _ _ _
  refine wpAny_bind ?_
  rw [List.forIn_nil]
  refine wpAny_pure (wpAny_pure ?_)
  exact hq _ _ _ J2 (h _)

theorem V.listcomp1 {elt target iter : Expr} {ifs : List Expr} {rest : List Comprehension} {scope : Scope} {pos : Pos} {cl : List (Str × Addr)} {x0 : Str} {Φ : Value → St → Prop}
    (hclos : closureFor scope env = pure cl) (hcf : ∀ n, cellsFrom n scope.names cl = (x0, n) :: cl) (hpc : ∀ h, pushCells h scope.names = h.push { cls := .type "cell", data := .cell none })
    (h : VP (model prog w) A C S (eval iter env) fun x S₁ => ∀ x', nt x' = x → VP (model prog w) A C S₁ (pyIter x') fun it S₂ => ∀ it', nt it' = it → ∀ acc L, VK (model prog w) A C ((L + 1, .cell none) :: (L, .ns []) :: (acc, .lst []) :: S₂) (.compStart (.ListComp elt (⟨target, iter, ifs, 0⟩ :: rest) scope pos) 0 it' (.ref acc) (envC scope ((x0, L + 1) :: cl) L env))
      fun _ S₃ => ∃ l S₄, Rem (L, .ns l) S₃ S₄ ∧ Φ (.ref acc) S₄)
    (hkind : scope.kind = .function := by with_unfolding_all rfl) (hnames : ∀ y ∈ scope.names, y.2 = .local → scope.names.lookup y.1 = some .local := by decide +kernel)
    (hs : ∀ x, foldedSetIterable iter env x = pure x := by intro _; with_unfolding_all rfl) :
    VP (model prog w) A C S (eval (.ListComp elt (⟨target, iter, ifs, 0⟩ :: rest) scope pos) env) Φ := fun s Q E J hq => by
  rw [eval_ListComp]
  refine wpAny_comprehension_free (use := none) rfl hs hclos hkind hnames (h s _ _ J fun x s₁ S₁ J₁ h₁ => h₁ x rfl s₁ _ _ J₁ fun it s₂ S₂ J₂ h₂ => ?_)
  refine wpAny_newObj_type ?_ (by show (0 : Nat) ≤ sizeLine; exact Nat.zero_le _)
  have J₃ := J₂.allocs (o := { cls := .type "list", data := .seq ([] : List Value).toArray }) (c := .lst []) rfl ⟨#[], 0, rfl, rfl⟩
  refine V.newEnv1 (Φ := fun cenv S' => ∃ L, cenv = PySem.newEnv scope L env.globals ((x0, L + 1) :: cl) env.qual none .none (some env) builtinsNs ∧ S' = ((L + 1, .cell none) :: (L, .ns []) :: (s₂.heap.objs.size, .lst []) :: S₂)) hcf hpc (fun L => ⟨L, rfl, rfl⟩) _ _ _ J₃ fun cenv s₄ S₄ J₄ h₄ => ?_
  obtain ⟨L, rfl, rfl⟩ := h₄
  refine h₂ it rfl s₂.heap.objs.size L s₄ _ J₄ fun f s₅ S₅ J₅ h₅ => ?_
  obtain ⟨l, S₆, hr, hΦ⟩ := h₅
  obtain ⟨m, hm, _⟩ := J₅.ns hr.mem
  exact ⟨m, hm, fun h' hs' => hq _ _ S₆ (J₅.rem hr hs'.extBut _) hΦ⟩
end
end Mine

namespace Mine.Head
open PySem PyProof.Rows PySem.Calls PySem.W PySem.Spec
local macro_rules | `(tactic| walk_at "mem") => `(tactic| (repeat (first | with_reducible exact List.mem_cons_self | with_reducible apply List.mem_cons_of_mem)))
local macro_rules | `(tactic| walk_at "upd") => `(tactic| (repeat (first | with_reducible exact Upd.head | with_reducible apply Upd.tail)))
local macro_rules | `(tactic| walk_at "rem") => `(tactic| (repeat (first | with_reducible exact Rem.head | with_reducible apply Rem.tail)))
local macro_rules | `(tactic| walk_at "set") => `(tactic| (repeat (first | with_reducible exact SetAt.here | with_reducible exact SetAt.new | with_reducible apply SetAt.there)))
local macro_rules | `(tactic| walk_at "name") => `(tactic| ((with_reducible refine V.name ?_); first
  | with_reducible refine V.load_local (by walk_at "mem") (by walk_at "mem") ?_
  | with_reducible refine V.load_cell (by with_unfolding_all rfl) (by walk_at "mem") ?_
  | with_reducible refine V.load_free (by with_unfolding_all rfl) (by walk_at "mem") ?_
  | with_reducible refine V.load_global (G.t (by assumption)) (by walk_at "mem") ?_
  | with_reducible refine V.load_builtin (G.t (by assumption)) (by walk_at "mem") ?_))
local macro_rules | `(tactic| walk_at "store") => `(tactic| first
  | with_reducible refine V.st_local (by walk_at "upd") (by walk_at "set") ?_
  | with_reducible refine V.st_cell (by with_unfolding_all rfl) (by walk_at "upd") ?_)
local macro_rules | `(tactic| walk_at "dec") => `(tactic| exact of_decide_eq_true (by kernel_rfl))
local macro_rules | `(tactic| walk_at "nsub") => `(tactic| first | with_reducible exact List.Sublist.refl _ | with_reducible exact List.nil_sublist _ | with_reducible exact List.sublist_append_right _ _ | (with_reducible apply List.Sublist.cons_cons; walk_at "nsub") | (with_reducible apply List.Sublist.cons; walk_at "nsub"))
local macro_rules | `(tactic| walk_at "rem1") => `(tactic| first | with_reducible exact Rem.head | (with_reducible apply Rem.tail; walk_at "rem1"))
local macro_rules | `(tactic| walk_at "pk") => `(tactic| (with_reducible apply Pw.wk; repeat (first
  | (with_reducible apply Pw.cons; walk_at "rem1")
  | (with_reducible apply Pw.ns; walk_at "rem1"; walk_at "nsub")
  | (with_reducible apply Pw.sq; walk_at "rem1")
  | (with_reducible apply Pw.sub; walk_at "nsub"))))
local macro_rules | `(tactic| walk_at "V") => `(tactic| first
  | with_reducible refine V.execs_cons ?_
  | with_reducible refine V.execs_nil ?_
  | with_reducible refine V.assign_name ?_
  | with_reducible refine V.aug_name ?_
  | with_reducible refine V.aug_sub ?_
  | with_reducible refine V.for_ ?_
  | with_reducible refine V.list ?_
  | with_reducible refine V.tuple ?_
  | with_reducible refine V.ret ?_
  | with_reducible refine V.ret_none ?_
  | with_reducible refine V.brk ?_
  | with_reducible refine V.cont ?_
  | walk_at "name"
  | with_reducible refine V.load_local (by walk_at "mem") (by walk_at "mem") ?_
  | with_reducible refine V.load_cell (by with_unfolding_all rfl) (by walk_at "mem") ?_
  | with_reducible refine V.slice ?_
  | with_reducible refine V.part_some ?_
  | with_reducible refine V.part_none ?_
  | with_reducible refine V.assign_tup ?_
  | with_reducible refine V.c_int ?_
  | with_reducible refine V.c_str ?_
  | with_reducible refine V.c_none ?_
  | with_reducible refine V.binop ?_
  | with_reducible refine V.cmp ?_
  | with_reducible refine V.t_cmp ?_
  | with_reducible refine V.t_not ?_
  | with_reducible refine V.t_plain ?_
  | with_reducible refine V.tr_bool ?_
  | with_reducible refine V.subscript ?_
  | with_reducible refine V.if_ ?_
  | with_reducible refine V.ifexp ?_
  | with_reducible refine V.call_name ?_
  | with_reducible refine V.cwb ?_
  | with_reducible refine V.cwt ?_
  | with_reducible refine V.cwr ?_
  | with_reducible refine V.cw1 ?_
  | with_reducible refine V.cw2 ?_
  | with_reducible refine V.sp_n ?_
  | with_reducible refine V.sp_e ?_
  | with_reducible refine VO.add_int ?_
  | with_reducible refine VO.sub_int ?_
  | with_reducible refine VO.iadd_int ?_
  | with_reducible refine VO.sub_bool ?_
  | with_reducible refine VO.eq_int ?_
  | with_reducible refine VO.ne_int ?_
  | with_reducible refine VO.lt_int ?_
  | with_reducible refine VO.le_int ?_
  | with_reducible refine VO.gt_int ?_
  | with_reducible refine VO.ge_int ?_
  | with_reducible refine VO.eq_str ?_
  | with_reducible refine VO.ne_str ?_
  | with_reducible refine VO.lt_str ?_
  | with_reducible refine VO.gt_str ?_
  | with_reducible refine VO.in_str ?_
  | with_reducible refine VO.notIn_str ?_
  | with_reducible refine VO.is_none ?_
  | with_reducible refine VO.isNot_none ?_)

section
open PySem PyProof.Rows PySem.Calls PySem.W PySem.Spec
variable {w : World} {A : Around} {C : Cx} {S S' : St} {env : Env}
theorem in_table (g : G w C) (hd : A.depth < recursionLimit) {c : Nat} {v : Value} (hv : nt v = .str ⟨#[c]⟩ 0) {Φ : Value → St → Prop} (h : Φ (.bool (inB1 c)) S) : VC (model pw w) A C S (.call (.ref 88) ⟨[v], []⟩) Φ := by
  refine VC.shrink (V.code_fn (fd := fd88) (binds := [(Str.ofString "code", v)]) (at_K g (lk88 _)) rfl (code_K g rfl (cd88 _)) rfl rfl hd (by decide +kernel) (by kernel_rfl) (by kernel_rfl) fun L => ?_)
  simp only [List.map_cons, List.map_nil, hv]
  refine V.execs_cons ?_
  repeat walk_at "V"
  refine ⟨.builtin, fun v hv => ?_⟩
  refine V.ord hv ?_
  walk_at "V"
  refine V.in_set (fun h X => b1_set h (g.K ▸ X)) ?_
  exact ⟨S, List.sublist_cons_self _ _, h⟩

noncomputable def mapB3 (c : Nat) : Str := match b3.lookup (c : Int) with
  | some r => r
  | none => Txt.lower ⟨#[c]⟩

theorem map_table (g : G w C) (hd : A.depth < recursionLimit) {c : Nat} {v : Value} (hv : nt v = .str ⟨#[c]⟩ 0) {Φ : Value → St → Prop} (hfit : (Txt.lower ⟨#[c]⟩).length ≤ sizeLine) (h : Φ (.str (mapB3 c) 0) S) : VC (model pw w) A C S (.call (.ref 134) ⟨[v], []⟩) Φ := by
  refine VC.shrink (V.code_fn (fd := fd134) (binds := [(Str.ofString "code", v)]) (at_K g (lk134 _)) rfl (code_K g rfl (cd134 _)) rfl rfl hd (by decide +kernel) (by kernel_rfl) (by kernel_rfl) fun L => ?_)
  simp only [List.map_cons, List.map_nil, hv]
  refine V.execs_cons (V.assign_name (V.call_meth ?_))
  walk_at "V"
  intro ov hov; obtain rfl := nt_ref hov
  refine V.meth_dict (fun h X => b3_tab h (g.K ▸ X)) ?_
  repeat walk_at "V"
  refine ⟨.builtin, fun v hv => ?_⟩
  refine V.ord hv ?_
  refine ⟨.builtin, fun v hv => ?_⟩
  refine V.dict_get (fun h X => b3_tab h (g.K ▸ X)) hv fun r hr => ?_
  rw [lookup_tabD] at hr
  cases e : b3.lookup (c : Int) with
  | some x =>
    have em : mapB3 c = x := by unfold mapB3; rw [e]
    rw [e] at hr
    obtain ⟨t, rfl⟩ := flat_str hr
    walk_at "store"
    repeat walk_at "V"
    refine ⟨_, rfl, fun _ => ?_, (fun h => by cases h)⟩
    repeat walk_at "V"
    rw [← em]
    exact ⟨S, List.sublist_cons_self _ _, h⟩
  | none =>
    have em : mapB3 c = Txt.lower ⟨#[c]⟩ := by unfold mapB3; rw [e]
    rw [e] at hr
    obtain rfl := flat_none hr
    walk_at "store"
    repeat walk_at "V"
    refine ⟨_, rfl, (fun h => by cases h), fun _ => ?_⟩
    repeat walk_at "V"
    refine V.call_meth ?_
    walk_at "V"
    intro ov hov
    refine V.meth_str hov PySem.F.slot_str_lower PySem.F.type_str_lower ?_
    refine V.cw0 .builtin (V.str_lower hov ?_ ?_)
    · unfold Builtin.Str.tooLong; rw [decide_eq_false_iff_not]; omega
    rw [← em]
    exact ⟨S, List.sublist_cons_self _ _, h⟩
end

section
open PySem PyProof.Rows PySem.Calls PySem.W PySem.Spec
variable {w : World} {A : Around} {C : Cx} {S S' : St} {env : Env}
noncomputable def prepL (l : List Nat) : List Str := (l.filter fun c : Nat => !inB1 (c : Int)).map mapB3
noncomputable def prep (x : Str) : Str := Txt.join (Str.ofString "") (prepL x.cps.toList)

theorem prepL_snoc (l : List Nat) (c : Nat) : prepL (l ++ [c]) = if inB1 (c : Int) then prepL l else prepL l ++ [mapB3 c] := by
  unfold prepL
  cases h : inB1 (c : Int) <;> simp [h]

theorem prepared (g : G w C) (hA : A.handled = none) (hd : A.depth + 1 < recursionLimit) {x : Str} {v : Value} (hv : nt v = .str x 0) {Φ : Value → St → Prop} (hfit : ∀ c ∈ x.cps.toList, (Txt.lower ⟨#[c]⟩).length ≤ sizeLine) (hx : x.length ≤ sizeLine)
    (hj : JoinOk (Str.ofString "") (prepL x.cps.toList) = true) (h : Φ (.str (prep x) 0) S) : VC (model pw w) A C S (.call (.ref 163) ⟨[v], []⟩) Φ := by
  refine VC.shrink (V.code_fn (fd := fd163) (binds := [(Str.ofString "word", v)]) (at_K g (lk163 _)) rfl (code_K g rfl (cd163 _)) rfl rfl (by omega) (by decide +kernel) (by kernel_rfl) (by kernel_rfl) fun L => ?_)
  simp only [List.map_cons, List.map_nil, hv]
  have hA' : (A.deeper (envF fd163 L 163 fd163.closure)).handled = none := hA
  have hd' : (A.deeper (envF fd163 L 163 fd163.closure)).depth < recursionLimit := hd
  generalize A.deeper (envF fd163 L 163 fd163.closure) = A' at hA' hd'
  refine V.execs_cons (V.ret (V.call_meth ?_))
  walk_at "V"
  intro ov hov
  refine V.meth_str hov PySem.F.slot_str_join PySem.F.type_str_join ?_
  refine V.cw1 ?_
  refine V.listcomp (cl := []) rfl ?_
  walk_at "V"
  intro x' hx'
  obtain ⟨t, rfl⟩ := nt_str hx'
  refine V.iter_str fun it => ?_
  intro it' hit acc L'
  obtain rfl := nt_ref hit
  refine V.compStart ?_ (V.iter_sit (by walk_at "mem") ⟨rfl, rfl⟩)
  refine V.compLoop (I := fun n S' => ∃ i l, i ≤ x.length ∧ n = x.length - i ∧ S' = (L', .ns l) :: (acc, .lst ((prepL (x.cps.toList.take i)).map fun y => .str y 0)) :: (it, .sit x i) :: (L, .ns [(Str.ofString "word", .str x 0)]) :: S) ?_ x.length ⟨0, [], Nat.zero_le _, rfl, by simp [prepL]⟩
  rintro n S' ⟨i, l, hi, rfl, rfl⟩
  refine VG.forget (l' := []) .head (by simp) ?_
  by_cases hlt : i < x.length
  · have hc : x.cps[i]? = some x.cps[i] := Array.getElem?_eq_getElem hlt
    generalize x.cps[i] = c at hc
    have htake : x.cps.toList.take (i + 1) = x.cps.toList.take i ++ [c] := by
      rw [List.take_add_one, Array.getElem?_toList, hc]; rfl
    have hlen : (prepL (x.cps.toList.take i)).length ≤ i := by
      unfold prepL
      rw [List.length_map]
      refine Nat.le_trans (List.length_filter_le _ _) ?_
      rw [List.length_take]; omega
    refine V.next_str (by walk_at "upd") hc ?_
    dsimp only
    intro v' hv'
    refine V.own_name (V.assign_Name ?_)
    revert v' hv'
    walk_at "store"
    refine V.tests_one ?_
    repeat walk_at "V"
    refine ⟨.fn (at_K g (lk88 _)) rfl, fun v hv => V.call_of (in_table g hd' hv ?_)⟩
    walk_at "V"
    refine ⟨fun hb => ?_, fun hb => ?_⟩
    · repeat walk_at "V"
      refine ⟨.fn (at_K g (lk134 _)) rfl, fun v hv => V.call_of (map_table g hd' hv ?_ ?_)⟩
      · refine hfit c ?_
        rw [← Array.getElem?_toList] at hc
        exact List.mem_of_getElem? hc
      refine V.ap (by walk_at "upd") (by rw [List.length_map]; exact Nat.le_trans hlen (Nat.le_trans hi hx)) ?_
      refine ⟨x.length - (i + 1), by omega, i + 1, [(Str.ofString "sign", .str ⟨#[c]⟩ 0)], hlt, rfl, ?_⟩
      rw [htake, prepL_snoc, if_neg (by simpa using hb), List.map_append]; rfl
    · refine ⟨x.length - (i + 1), by omega, i + 1, [(Str.ofString "sign", .str ⟨#[c]⟩ 0)], hlt, rfl, ?_⟩
      rw [htake, prepL_snoc, if_pos (by simpa using hb)]
  · have hi' : i = x.length := by omega
    subst hi'
    refine V.next_str_end (by walk_at "rem") (by rw [Array.getElem?_eq_none_iff]; exact Nat.le_refl _) ?_ hA'
    dsimp only
    refine ⟨_, _, .head, ?_⟩
    refine ⟨.builtin, fun v hv => ?_⟩
    obtain rfl := nt_ref hv
    have he : x.cps.toList.take x.length = x.cps.toList := List.take_of_length_le (by simp [Str.length])
    rw [he]
    refine V.join hov (.lst (by walk_at "mem")) hj ?_
    exact ⟨S, (List.sublist_cons_self _ _).trans (List.sublist_cons_self _ _), h⟩
end

section
open PySem PyProof.Rows PySem.Calls PySem.W PySem.Spec
variable {w : World} {A : Around} {C : Cx} {S S' : St} {env : Env}
noncomputable def nested : Stmt → Nat → Stmt
  | .FunctionDef _ _ b .., j => b[j]?.getD (.Pass ⟨0, 0, 0, 0⟩)
  | s, _ => s
@[reducible] noncomputable def rdName : Str := Str.ofString "read"
@[reducible] noncomputable def rdQual : Str := Str.ofString "_law_lexer.<locals>.read"
structure LA where
  (pl cT cP fr cd sx sd lx ld pb pb' : Addr)
@[reducible] noncomputable def wsp : Str := Str.ofString "\n\t\r "
@[reducible] noncomputable def lexS (a : LA) (text : Str) (p n : Int) (ps : List Str) (R : St) : St :=
  (a.pl, .sq [.int p 0]) :: (a.cT, .cell (some (.str text 0))) :: (a.cP, .cell (some (.ref a.pl))) ::
   (a.fr, .clos rdName rdQual (dArgs (nested (st 15) 1)) (dBody (nested (st 15) 1)) (dScope (nested (st 15) 1)) [(Str.ofString "text", a.cT), (Str.ofString "place", a.cP)] a.cd) :: (a.cd, .code rdQual) ::
   (a.sx, .inst 52 a.sd) :: (a.sd, .at [(Str.ofString "lineno", .int 1 0), (Str.ofString "instream", .none), (Str.ofString "whitespace", .str wsp 0), (Str.ofString "pushback", .ref a.pb'), (Str.ofString "read", .ref a.fr)]) ::
   (a.lx, .inst 52 a.ld) :: (a.ld, .at [(Str.ofString "lineno", .int n 0), (Str.ofString "instream", .ref a.sx), (Str.ofString "whitespace", .str wsp 0), (Str.ofString "pushback", .ref a.pb)]) ::
   (a.pb, .lst (ps.map fun x => .str x 0)) :: R

noncomputable def mNP (P : Params) : Str → Option Value := match (o51x1 P).data with
  | .dict es _ => nsFind es
  | _ => fun _ => none
noncomputable def isStrV : Value → Bool
  | .str _ _ => true
  | _ => false
theorem strKeys_of {es : Array DictEntry} (h : (es.toList.all fun e => isStrV e.key) = true) : StrKeys es := fun e he => by
  have := List.all_eq_true.mp h e (by simpa using he)
  cases hk : e.key with
  | str n t => exact ⟨n, t, rfl⟩
  | _ => rw [hk] at this; cases this
theorem cls52 (g : G w C) : Cls C 52 51 (mNP w.params) where
  obj := ⟨_, _, _, _, _, _, _, _, _, _, _, _, by rw [g.K]; rfl⟩
  ns := ⟨o51x1 w.params, _, _, by rw [g.K]; rfl, rfl, strKeys_of (by kernel_rfl), fun _ => rfl⟩
  g1 := by kernel_rfl
  g2 := by kernel_rfl
  g3 := by kernel_rfl

noncomputable def chAt (text : Str) (p : Int) : Str := Txt.slice text (some p) (some (p + 1))

theorem read1 (g : G w C) (hd : A.depth < recursionLimit) {a : LA} {text : Str} {p n : Int} {ps : List Str} {R : St} {v : Value} (hv : nt v = .int 1 0) (hx : text.length ≤ sizeLine) {Φ : Value → St → Prop} (h : Φ (.str (chAt text p) 0) (lexS a text (p + 1) n ps R)) :
    VC (model pw w) A C (lexS a text p n ps R) (.call (.ref a.fr) ⟨[v], []⟩) Φ := by
  refine VC.shrink (V.code_clos (by walk_at "mem") (by walk_at "mem") hd (binds := [(Str.ofString "size", v)]) (fun _ _ _ => rfl) (by decide +kernel) (by kernel_rfl) (by kernel_rfl) fun L => ?_)
  simp only [List.map_cons, List.map_nil, hv]
  refine V.execs_cons (V.aug_sub ?_)
  repeat walk_at "V"
  intro ov iv ho hi; obtain rfl := nt_ref ho; obtain ⟨t, rfl⟩ := nt_int hi
  refine V.item_list (xs := [.int p 0]) (x := .int p 0) (.sq (by walk_at "mem")) (by simp) (by simp) (by simp [sizeLine_eq]) rfl ?_
  repeat walk_at "V"
  refine V.si0 (.inr rfl) (by walk_at "upd") (by simp [sizeLine_eq]) ?_
  dsimp only
  repeat walk_at "V"
  repeat walk_at "V"
  refine V.tail_list (xs := [.int (p + 1) 0]) (x := .int (p + 1) 0) (.sq (by walk_at "mem")) (by simp) (by simp) (by simp [sizeLine_eq]) rfl ?_
  repeat walk_at "V"
  refine V.tail_list (xs := [.int (p + 1) 0]) (x := .int (p + 1) 0) (.sq (by walk_at "mem")) (by simp) (by simp) (by simp [sizeLine_eq]) rfl ?_
  refine ⟨some (p + 1 - 1), some (p + 1), rfl, rfl, fun sl => ?_⟩
  refine V.tail_str_slice (by walk_at "mem") hx ?_
  refine ⟨_, .trans (List.sublist_cons_self _ _) (List.sublist_cons_self _ _), ?_⟩
  rw [Int.add_sub_cancel]
  exact h
end

section
open PySem PyProof.Rows PySem.Calls PySem.W PySem.Spec
variable {w : World} {A : Around} {C : Cx} {S S' : St} {env : Env}
theorem on_lineno : typeLookup (.type "object") (Str.ofString "lineno") = pure none := by rw [typeLookup_type, builtinLookup_eq_fast]; kernel_rfl
theorem on_instream : typeLookup (.type "object") (Str.ofString "instream") = pure none := by rw [typeLookup_type, builtinLookup_eq_fast]; kernel_rfl
theorem on_whitespace : typeLookup (.type "object") (Str.ofString "whitespace") = pure none := by rw [typeLookup_type, builtinLookup_eq_fast]; kernel_rfl
theorem on_pushback : typeLookup (.type "object") (Str.ofString "pushback") = pure none := by rw [typeLookup_type, builtinLookup_eq_fast]; kernel_rfl
theorem on_read : typeLookup (.type "object") (Str.ofString "read") = pure none := by rw [typeLookup_type, builtinLookup_eq_fast]; kernel_rfl
theorem on_read_char : typeLookup (.type "object") (Str.ofString "_read_char") = pure none := by rw [typeLookup_type, builtinLookup_eq_fast]; kernel_rfl
theorem on_get_token : typeLookup (.type "object") (Str.ofString "get_token") = pure none := by rw [typeLookup_type, builtinLookup_eq_fast]; kernel_rfl
theorem on_push_token : typeLookup (.type "object") (Str.ofString "push_token") = pure none := by rw [typeLookup_type, builtinLookup_eq_fast]; kernel_rfl
theorem b130 (g : G w C) : C.B.get? 52 ≠ none := by rw [g.kb 52 _ rfl]; nofun

theorem lex_in {a : LA} {text : Str} {p n : Int} {ps : List Str} {R : St} (F : St) : (lexS a text p n ps (F ++ R)).Perm (F ++ lexS a text p n ps R) := by
  show (lexS a text p n ps [] ++ (F ++ R)).Perm (F ++ (lexS a text p n ps [] ++ R))
  exact List.perm_append_comm_assoc ..

noncomputable def nlOf (c : Str) : Int := if c == Str.ofString "\n" then 1 else 0

theorem read_char (g : G w C) (hd : A.depth + 1 < recursionLimit) {a : LA} {text : Str} {p n : Int} {ps : List Str} {R : St} {v : Value} (hv : nt v = .ref a.lx) (hx : text.length ≤ sizeLine) {Φ : Value → St → Prop}
    (h : Φ (.str (chAt text p) 0) (lexS a text (p + 1) (n + nlOf (chAt text p)) ps R)) :
    VC (model pw w) A C (lexS a text p n ps R) (.call (.ref 35) ⟨[v], []⟩) Φ := by
  refine VC.shrink (V.code_fn (fd := fd35) (binds := [(Str.ofString "self", v)]) (at_K g (lk35 _)) rfl (code_K g rfl (cd35 _)) rfl rfl (by omega) (by decide +kernel) (by kernel_rfl) (by kernel_rfl) fun L => ?_)
  simp only [List.map_cons, List.map_nil, hv]
  have hd' : (A.deeper (envF fd35 L 35 fd35.closure)).depth < recursionLimit := hd
  generalize A.deeper (envF fd35 L 35 fd35.closure) = A' at hd'
  refine V.execs_cons (V.assign_name (V.call_meth (V.attribute ?_)))
  walk_at "V"
  intro o ho; obtain rfl := nt_ref ho
  refine V.attr (cls52 g) (by walk_at "mem") (by walk_at "mem") (by rfl) (by kernel_rfl) on_instream rfl ?_
  intro o ho; obtain rfl := nt_ref ho
  refine V.method_own (cls52 g) (by walk_at "mem") (by walk_at "mem") (by rfl) (by kernel_rfl) on_read ⟨_, rfl⟩ (by rw [g.K]; kernel_rfl) (by rw [g.K]; kernel_rfl) (by rw [g.K]; kernel_rfl) ?_
  refine V.cw1 ?_
  walk_at "V"
  refine ⟨.clos (by walk_at "mem"), fun v hv => V.call_of (VC.perm (lex_in [_]) (read1 g hd' hv hx ?_))⟩
  simp only [List.cons_append, List.nil_append]
  walk_at "store"
  repeat walk_at "V"
  refine ⟨_, rfl, fun hb => ?_, fun hb => ?_⟩
  · refine V.execs_cons (V.aug_attr ?_)
    walk_at "V"
    intro o ho; obtain rfl := nt_ref ho
    refine V.attr (cls52 g) (by walk_at "mem") (by walk_at "mem") (by rfl) (by kernel_rfl) on_lineno rfl ?_
    repeat walk_at "V"
    refine V.sa (cls52 g) (by walk_at "mem") (by walk_at "upd") (by walk_at "set") (by kernel_rfl) on_lineno (b130 g) ?_
    repeat walk_at "V"
    have e : nlOf (chAt text p) = 1 := by unfold nlOf; rw [if_pos hb]
    rw [e] at h
    refine ⟨lexS a text (p + 1) (n + 1) ps R, ?_, h⟩
    repeat (first | exact List.sublist_cons_self _ _ | apply List.Sublist.cons_cons)
  · repeat walk_at "V"
    have e : nlOf (chAt text p) = 0 := by unfold nlOf; rw [if_neg (by rw [hb]; decide)]
    rw [e, Int.add_zero] at h
    refine ⟨lexS a text (p + 1) n ps R, ?_, h⟩
    repeat (first | exact List.sublist_cons_self _ _ | apply List.Sublist.cons_cons)
end

section
open PySem PyProof.Rows PySem.Calls PySem.W PySem.Spec
variable {w : World} {A : Around} {C : Cx} {S S' : St} {env : Env}
theorem tr_list {prog : Program} {l : Addr} {xs : List Value} {Φ : Bool → St → Prop} (hl : IsL C S l xs) (hz : xs.length ≤ sizeLine) (h : Φ (!xs.isEmpty) S) : ∀ v, nt v = .ref l → VB (model prog w) A C S (truthy v) Φ := fun v hv => by
  obtain rfl := nt_ref hv
  intro s Q E I hq
  obtain ⟨vs, hv, e⟩ := hl s I
  have e1 : xs.length = vs.size := by rw [← e]; simp
  rw [sizeLine_eq] at hz
  refine wpAny_truthy_list hv (by omega) (hq _ _ _ (I.tok _) ?_)
  have e2 : (!vs.isEmpty) = !xs.isEmpty := by
    subst e
    cases vs with
    | mk l => cases l <;> rfl
  rw [e2]; exact h

theorem push_token (g : G w C) (hd : A.depth < recursionLimit) {a : LA} {text tok : Str} {p n : Int} {ps : List Str} {R : St} {v u : Value} (hv : nt v = .ref a.lx) (hu : nt u = .str tok 0) (hz : ps.length ≤ sizeLine) {Φ : Value → St → Prop}
    (h : Φ .none (lexS a text p n (ps ++ [tok]) R)) : VC (model pw w) A C (lexS a text p n ps R) (.call (.ref 49) ⟨[v, u], []⟩) Φ := by
  refine VC.shrink (V.code_fn (fd := fd49) (binds := [(Str.ofString "self", v), (Str.ofString "token", u)]) (at_K g (lk49 _)) rfl (code_K g rfl (cd49 _)) rfl rfl (by omega) (by decide +kernel) (by kernel_rfl) (by kernel_rfl) fun L => ?_)
  simp only [List.map_cons, List.map_nil, hv, hu]
  refine V.execs_cons (V.expr (V.call_meth (V.attribute ?_)))
  walk_at "V"
  intro o ho; obtain rfl := nt_ref ho
  refine V.attr (cls52 g) (by walk_at "mem") (by walk_at "mem") (by rfl) (by kernel_rfl) on_pushback rfl ?_
  intro o ho; obtain rfl := nt_ref ho
  refine V.meth_list (by walk_at "mem") slot_list_append F.type_list_append ?_
  refine V.cw1 ?_
  walk_at "V"
  refine ⟨.builtin, ?_⟩
  refine V.ap (by walk_at "upd") (by simpa using hz) ?_
  refine ⟨rfl, ?_⟩
  repeat walk_at "V"
  refine ⟨lexS a text p n (ps ++ [tok]) R, ?_, h⟩
  simp only [lexS, List.map_append, List.map_cons, List.map_nil]
  exact List.sublist_cons_self _ _

theorem pop_token (g : G w C) (hd : A.depth < recursionLimit) {a : LA} {text tok : Str} {p n : Int} {ps : List Str} {R : St} {v : Value} (hv : nt v = .ref a.lx) (hz : ps.length < sizeLine) {Φ : Value → St → Prop}
    (h : Φ (.str tok 0) (lexS a text p n ps R)) : VC (model pw w) A C (lexS a text p n (tok :: ps) R) (.call (.ref 42) ⟨[v], []⟩) Φ := by
  refine VC.shrink (V.code_fn (fd := fd42) (binds := [(Str.ofString "self", v)]) (at_K g (lk42 _)) rfl (code_K g rfl (cd42 _)) rfl rfl (by omega) (by decide +kernel) (by kernel_rfl) (by kernel_rfl) fun L => ?_)
  simp only [List.map_cons, List.map_nil, hv]
  refine V.execs_cons (V.if_ (V.t_plain (V.attribute ?_)))
  walk_at "V"
  intro o ho; obtain rfl := nt_ref ho
  refine V.attr (cls52 g) (by walk_at "mem") (by walk_at "mem") (by rfl) (by kernel_rfl) on_pushback rfl ?_
  refine tr_list (.lst (by walk_at "mem")) (by simp; omega) ⟨fun _ => ?_, (fun h => by cases h)⟩
  refine V.execs_cons (V.ret (V.call_meth (V.attribute ?_)))
  walk_at "V"
  intro o ho; obtain rfl := nt_ref ho
  refine V.attr (cls52 g) (by walk_at "mem") (by walk_at "mem") (by rfl) (by kernel_rfl) on_pushback rfl ?_
  intro o ho; obtain rfl := nt_ref ho
  refine V.meth_list (by walk_at "mem") PySem.F.slot_list_pop PySem.F.type_list_pop ?_
  refine V.cw1 ?_
  walk_at "V"
  refine ⟨.builtin, fun v hv => ?_⟩
  simp only [lexS, List.map_cons]
  refine V.pop0 (xs := ps.map fun x => .str x 0) hv (by walk_at "upd") (by simpa using hz) ?_
  exact ⟨lexS a text p n ps R, List.sublist_cons_self _ _, h⟩
end

section
open PySem PyProof.Rows PySem.Calls PySem.W PySem.Spec
variable {w : World} {A : Around} {C : Cx} {S S' : St} {env : Env}
theorem idx_clip (a b n : Nat) : Builtin.Str.strSliceIndices (some (a : Int)) (some (b : Int)) 1 n = Builtin.Str.strSliceIndices (some ((min a n : Nat) : Int)) (some ((min b n : Nat) : Int)) 1 n := by
  unfold Builtin.Str.strSliceIndices
  have h : ∀ k : Nat, (max (0 : Int) (min (if (k : Int) < 0 then (k : Int) + n else k) n)) = max (0 : Int) (min (if ((min k n : Nat) : Int) < 0 then ((min k n : Nat) : Int) + n else ((min k n : Nat) : Int)) n) := by
    intro k; split <;> split <;> omega
  simp only [show (1 : Int) > 0 by decide, if_true]
  rw [h a, h b]
theorem slice_nat (x : Str) {a b : Nat} (hab : a ≤ b) : Txt.slice x (some (a : Int)) (some (b : Int)) = ⟨((x.cps.toList.drop a).take (b - a)).toArray⟩ := by
  have e : Txt.slice x (some (a : Int)) (some (b : Int)) = Txt.slice x (some ((min a x.length : Nat) : Int)) (some ((min b x.length : Nat) : Int)) := by
    unfold Txt.slice; rw [idx_clip]
  rw [e]
  have h := StrLaws.sliceText_nat x (a := min a x.length) (b := min b x.length) (by omega) (by omega)
  refine Eq.trans h ?_
  congr 2
  have hl : x.cps.toList.length = x.length := by simp [Str.length]
  by_cases h1 : a ≤ x.length
  · rw [Nat.min_eq_left h1]
    by_cases h2 : b ≤ x.length
    · rw [Nat.min_eq_left h2]
    · rw [Nat.min_eq_right (by omega), List.take_of_length_le (by rw [List.length_drop, hl]; omega), List.take_of_length_le (by rw [List.length_drop, hl]; omega)]
  · rw [List.drop_of_length_le (by omega), List.drop_of_length_le (by omega)]; simp
theorem chAt_some {text : Str} {p c : Nat} (h : text.cps.toList[p]? = some c) : chAt text (p : Int) = ⟨#[c]⟩ := by
  unfold chAt
  rw [show ((p : Int) + 1) = ((p + 1 : Nat) : Int) by omega, slice_nat text (Nat.le_succ p)]
  have : (text.cps.toList.drop p).take (p + 1 - p) = [c] := by
    rw [Nat.add_sub_cancel_left]
    have hl : p < text.cps.toList.length := (List.getElem?_eq_some_iff.mp h).1
    rw [List.drop_eq_getElem_cons hl]
    simp
    have := (List.getElem?_eq_some_iff.mp h).2
    simpa using this
  rw [this]
theorem chAt_none {text : Str} {p : Nat} (h : text.length ≤ p) : chAt text (p : Int) = ⟨#[]⟩ := by
  unfold chAt
  rw [show ((p : Int) + 1) = ((p + 1 : Nat) : Int) by omega, slice_nat text (Nat.le_succ p), List.drop_of_length_le (by simpa [Str.length] using h)]
  simp
end

section
open PySem PyProof.Rows PySem.Calls PySem.W PySem.Spec
variable {w : World} {A : Around} {C : Cx} {S S' : St} {env : Env}
noncomputable def spell (its : List (Bool × Nat)) : List Nat := its.flatMap fun x => if x.1 then [92, x.2] else [x.2]
@[reducible] noncomputable def emp : Str := Str.ofString ""

theorem spell_append (a b : List (Bool × Nat)) : spell (a ++ b) = spell a ++ spell b := by simp [spell]
theorem drop_get {l a b : List Nat} {p : Nat} (h : l.drop p = a ++ b) (j : Nat) : l[p + a.length + j]? = b[j]? := by
  have := congrArg (·[a.length + j]?) h
  simp only [List.getElem?_drop] at this
  rw [Nat.add_assoc, this, List.getElem?_append_right (by omega)]
  congr 1; omega
theorem lex_sub {a : LA} {text : Str} {p n : Int} {ps : List Str} {R R' : St} (h : R.Sublist R') : (lexS a text p n ps R).Sublist (lexS a text p n ps R') := by
  unfold lexS; repeat (first | exact h | apply List.Sublist.cons_cons)
theorem spell_len (l : List (Bool × Nat)) : l.length ≤ (spell l).length := by
  induction l with
  | nil => simp
  | cons x l ih => rw [show spell (x :: l) = (if x.1 then [92, x.2] else [x.2]) ++ spell l from rfl, List.length_append]; split <;> simp <;> omega
theorem nl_ne {c : Nat} (h : c ≠ 10) : nlOf ⟨#[c]⟩ = 0 := by
  unfold nlOf
  rw [if_neg]
  intro e
  have e := eq_of_beq e
  have e := congrArg Array.toList (congrArg Str.cps e)
  exact h (List.cons.inj e).1
theorem tok_snoc (l : List (Bool × Nat)) (x : Bool × Nat) : (⟨(l.map (·.2)).toArray⟩ : Str) ++ ⟨#[x.2]⟩ = ⟨((l ++ [x]).map (·.2)).toArray⟩ := by
  show (⟨_ ++ _⟩ : Str) = _
  simp
theorem ne_one {c d : Nat} (h : c ≠ d) : ((⟨#[c]⟩ : Str) == ⟨#[d]⟩) = false := by
  refine beq_false_of_ne fun e => h ?_
  have e := congrArg Array.toList (congrArg Str.cps e)
  exact (List.cons.inj e).1
theorem ne_emp {c : Nat} : (⟨#[c]⟩ : Str) ≠ emp := fun e => by
  have e := congrArg Array.toList (congrArg Str.cps e)
  cases e
theorem get_quoted (g : G w C) (hA : A.handled = none) (hd : A.depth + 2 < recursionLimit) {a : LA} {text : Str} {p : Nat} {n : Int} {R : St} {v : Value} {its : List (Bool × Nat)} {post : List Nat} (hv : nt v = .ref a.lx) (hx : text.length ≤ sizeLine)
    (ht : text.cps.toList.drop p = 34 :: (spell its ++ 34 :: post)) (hi : ∀ x ∈ its, x.2 ≠ 10 ∧ (x.1 = false → x.2 ≠ 34 ∧ x.2 ≠ 92)) {Φ : Value → St → Prop}
    (h : Φ (.str ⟨(its.map (·.2)).toArray⟩ 0) (lexS a text ((p + 2 + (spell its).length : Nat) : Int) n [] R)) : VC (model pw w) A C (lexS a text p n [] R) (.call (.ref 42) ⟨[v], []⟩) Φ := by
  refine VC.shrink (V.code_fn (fd := fd42) (binds := [(Str.ofString "self", v)]) (at_K g (lk42 _)) rfl (code_K g rfl (cd42 _)) rfl rfl (by omega) (by decide +kernel) (by kernel_rfl) (by kernel_rfl) fun L => ?_)
  simp only [List.map_cons, List.map_nil, hv]
  have hd' : (A.deeper (envF fd42 L 42 fd42.closure)).depth + 1 < recursionLimit := hd
  have hA' : (A.deeper (envF fd42 L 42 fd42.closure)).handled = none := hA
  generalize A.deeper (envF fd42 L 42 fd42.closure) = A' at hd' hA'
  refine V.execs_cons (V.if_ (V.t_plain (V.attribute ?_)))
  walk_at "V"
  intro o ho; obtain rfl := nt_ref ho
  refine V.attr (cls52 g) (by walk_at "mem") (by walk_at "mem") (by rfl) (by kernel_rfl) on_pushback rfl ?_
  refine tr_list (.lst (by walk_at "mem")) (by simp) ⟨(fun h => by cases h), fun _ => ?_⟩
  refine V.execs_nil (V.execs_cons (V.assign_name ?_))
  walk_at "V"
  walk_at "store"
  refine V.execs_cons (V.assign_name ?_)
  iterate 4 walk_at "V"
  refine V.attribute ?_
  walk_at "V"
  intro o ho; obtain rfl := nt_ref ho
  refine V.attr_bound (f := 35) (by walk_at "mem") (by walk_at "mem") (by rfl) (by rw [g.K]; kernel_rfl) (by rw [g.K]; kernel_rfl) (by rw [g.K]; kernel_rfl) (by rw [g.K]; kernel_rfl) (by rw [g.K]; kernel_rfl) (by rw [g.K]; kernel_rfl) (by decide +kernel) fun q => ?_
  walk_at "V"
  refine ⟨.builtin, fun v u hv hu => ?_⟩
  obtain rfl := nt_ref hv
  refine V.iter2 (by walk_at "mem") hu fun it => ?_
  walk_at "store"
  refine V.execs_cons (V.for_ ?_)
  walk_at "V"
  intro o ho; obtain rfl := nt_ref ho
  refine V.iter_cit (by walk_at "mem") (.inr ⟨_, _, rfl⟩) ?_
  intro o ho; obtain rfl := nt_ref ho
  have e0 : text.cps.toList[p]? = some 34 := by
    have := congrArg (·[0]?) ht
    simpa using this
  have e1 := chAt_some e0
  refine V.forLoop (I := fun n S' => S' = _ ∧ n = 1) ?_ 1 ⟨rfl, rfl⟩
  rintro n' S' ⟨rfl, rfl⟩
  refine V.next_cit hA' (by walk_at "mem") (by walk_at "mem") (at_K g (lk35 _)) rfl ?_
  refine V.call_of (V.code_bound (by walk_at "mem") (VC.perm (lex_in [_, _, _]) (read_char g (by exact hd') rfl hx ?_)))
  rw [e1]
  simp only [List.cons_append, List.nil_append]
  refine ⟨_, rfl, by walk_at "mem", at_K g (lk35 _), by walk_at "mem", fun _ => ?_, fun h => absurd h (by decide)⟩
  intro v' hv'
  refine V.assign_Name ?_
  revert v' hv'
  walk_at "store"
  refine V.execs_cons (V.if_ (V.t_cmp ?_))
  walk_at "V"
  refine V.attribute ?_
  walk_at "V"
  intro o ho; obtain rfl := nt_ref ho
  refine V.attr (cls52 g) (by walk_at "mem") (by walk_at "mem") (by rfl) (by kernel_rfl) on_whitespace rfl ?_
  walk_at "V"
  refine ⟨_, rfl, fun hb => absurd hb (by decide +kernel), fun _ => ?_⟩
  refine V.execs_nil (V.execs_cons (V.if_ (V.t_cmp ?_)))
  repeat walk_at "V"
  refine ⟨_, rfl, fun _ => ?_, fun hb => absurd hb (by decide)⟩
  refine V.execs_cons (V.for_ ?_)
  walk_at "V"
  intro o ho; obtain rfl := nt_ref ho
  refine V.iter_cit (by walk_at "mem") (.inr ⟨_, _, rfl⟩) ?_
  intro o ho; obtain rfl := nt_ref ho
  refine V.forLoop (I := fun n' S' => ∃ dn td, its = dn ++ td ∧ n' = td.length ∧ S' = lexS a text ((p + 1 + (spell dn).length : Nat) : Int) n [] ((it, .cit q emp) :: (q, .ob (methodObj (.ref 35) (.ref a.lx))) :: (L, .ns [(Str.ofString "self", .ref a.lx), (Str.ofString "token", .str ⟨(dn.map (·.2)).toArray⟩ 0), (Str.ofString "fiter", .ref it), (Str.ofString "ch", .str ⟨#[(dn.getLast?.map (·.2)).getD 34]⟩ 0)]) :: R)) ?_ its.length ⟨[], its, rfl, rfl, ?_⟩
  rotate_left
  · have e : n + nlOf ⟨#[34]⟩ = n := by rw [show nlOf ⟨#[34]⟩ = 0 by decide +kernel]; omega
    rw [e]; rfl
  rintro n' S' ⟨dn, td, rfl, rfl, rfl⟩
  refine V.next_cit hA' (by walk_at "mem") (by walk_at "mem") (at_K g (lk35 _)) rfl ?_
  refine V.call_of (V.code_bound (by walk_at "mem") (read_char g (by exact hd') rfl hx ?_))
  have ht' : text.cps.toList.drop p = (34 :: spell dn) ++ (spell td ++ 34 :: post) := by rw [ht, spell_append]; simp
  have hg : ∀ j, text.cps.toList[p + 1 + (spell dn).length + j]? = (spell td ++ 34 :: post)[j]? := fun j => by
    have := drop_get ht' j
    rw [← this, List.length_cons]; congr 1; omega
  have hlen : dn.length + td.length + 2 ≤ text.length := by
    have h1 := congrArg List.length ht'
    have h2 := spell_len dn
    have h3 := spell_len td
    have h4 : text.cps.toList.length = text.length := by simp [Str.length]
    simp only [List.length_drop, List.length_append, List.length_cons] at h1
    omega
  generalize hP : p + 1 + (spell dn).length = P at hg
  match td with
  | [] =>
    rw [chAt_some (p := P) (hg 0), show nlOf ⟨#[34]⟩ = 0 by decide +kernel, Int.add_zero]
    refine ⟨_, rfl, by walk_at "mem", at_K g (lk35 _), by walk_at "mem", fun _ => ?_, fun h => absurd h (by decide)⟩
    intro v' hv'
    refine V.assign_Name ?_
    revert v' hv'
    walk_at "store"
    repeat walk_at "V"
    refine ⟨_, rfl, fun _ => ?_, fun hb => absurd hb (by decide)⟩
    repeat walk_at "V"
    rw [List.append_nil] at h
    refine ⟨lexS a text _ n [] R, lex_sub (.cons _ (.cons _ (.cons _ (.refl _)))), ?_⟩
    rw [show ((p + 2 + (spell dn).length : Nat) : Int) = (P : Int) + 1 by omega] at h
    exact h
  | (true, c) :: td =>
    rw [chAt_some (p := P) (hg 0), show nlOf ⟨#[92]⟩ = 0 by decide +kernel, Int.add_zero]
    refine ⟨_, rfl, by walk_at "mem", at_K g (lk35 _), by walk_at "mem", fun _ => ?_, fun h => absurd h (by decide)⟩
    intro v' hv'
    refine V.assign_Name ?_
    revert v' hv'
    walk_at "store"
    repeat walk_at "V"
    refine ⟨_, rfl, fun hb => absurd hb (by decide), fun _ => ?_⟩
    repeat walk_at "V"
    refine ⟨_, rfl, fun _ => ?_, fun hb => absurd hb (by decide)⟩
    repeat walk_at "V"
    refine V.call_meth ?_
    walk_at "V"
    intro o ho; obtain rfl := nt_ref ho
    refine V.method (f := 35) (cls52 g) (by walk_at "mem") (by walk_at "mem") (by rfl) (by kernel_rfl) (by rw [g.K]; exact lk35 _) rfl on_read_char ?_
    refine V.cw0 (.fn (at_K g (lk35 _)) rfl) (V.call_of (read_char g hd' rfl hx ?_))
    rw [show ((P : Int) + 1) = ((P + 1 : Nat) : Int) by omega, chAt_some (p := P + 1) (hg 1)]
    walk_at "store"
    repeat walk_at "V"
    refine VO.iadd_str ?_ (by simp only [Str.length, List.size_toArray, List.length_map, List.length_cons, List.length_nil]; simp only [List.length_cons] at hlen; unfold Str.length at hlen hx; omega)
    walk_at "store"
    repeat walk_at "V"
    refine ⟨td.length, Nat.lt_succ_self _, dn ++ [(true, c)], td, by simp, rfl, ?_⟩
    rw [tok_snoc dn (true, c), nl_ne (hi (true, c) (by simp)).1, List.getLast?_concat, spell_append, List.length_append, Int.add_zero]
    have e3 : (spell [(true, c)]).length = 2 := rfl
    rw [show ((p + 1 + ((spell dn).length + (spell [(true, c)]).length) : Nat) : Int) = (((P + 1 : Nat) : Int) : Int) + 1 by omega]
    rfl
  | (false, c) :: td =>
    have hc := (hi (false, c) (by simp)).2 rfl
    rw [chAt_some (p := P) (c := c) (hg 0)]
    refine ⟨_, rfl, by walk_at "mem", at_K g (lk35 _), by walk_at "mem", fun _ => ?_, fun h => absurd h ne_emp⟩
    intro v' hv'
    refine V.assign_Name ?_
    revert v' hv'
    walk_at "store"
    repeat walk_at "V"
    refine ⟨_, rfl, fun hb => Bool.noConfusion ((ne_one hc.1).symm.trans hb), fun _ => ?_⟩
    repeat walk_at "V"
    refine ⟨_, rfl, fun hb => Bool.noConfusion ((ne_one hc.2).symm.trans hb), fun _ => ?_⟩
    repeat walk_at "V"
    refine VO.iadd_str ?_ (by simp only [Str.length, List.size_toArray, List.length_map, List.length_cons, List.length_nil]; simp only [List.length_cons] at hlen; unfold Str.length at hlen hx; omega)
    walk_at "store"
    repeat walk_at "V"
    refine ⟨td.length, Nat.lt_succ_self _, dn ++ [(false, c)], td, by simp, rfl, ?_⟩
    rw [tok_snoc dn (false, c), nl_ne (hi (false, c) (by simp)).1, List.getLast?_concat, spell_append, List.length_append, Int.add_zero]
    have e3 : (spell [(false, c)]).length = 1 := rfl
    rw [show ((p + 1 + ((spell dn).length + (spell [(false, c)]).length) : Nat) : Int) = ((P : Int) : Int) + 1 by omega]
    rfl
end

section
open PySem PyProof.Rows PySem.Calls PySem.W PySem.Spec
variable {w : World} {A : Around} {C : Cx} {S S' : St} {env : Env}
noncomputable def isWs (c : Nat) : Bool := !(Builtin.Str.occurrences wsp ⟨#[c]⟩ 0 wsp.length 1).isEmpty
noncomputable def elseOf : Stmt → List Stmt
  | .If _ _ e _ => e
  | _ => []
noncomputable def bodyOf : Stmt → List Stmt
  | .For _ _ b _ _ => b
  | _ => []
noncomputable def stAt (l : List Stmt) (i : Nat) : Stmt := l.getD i (.Pass ⟨0, 0, 0, 0⟩)
noncomputable def plainFor : Stmt := stAt (elseOf (stAt (bodyOf (stAt (dBody (inCls (st 1) 2)) 3)) 1)) 2
theorem plain_loop (g : G w C) {A' : Around} (hA' : A'.handled = none) (hd' : A'.depth + 1 < recursionLimit) {a : LA} {text : Str} {p : Nat} {n : Int} {R : St} {L it q : Addr} {b0 : Bool} {c0 : Nat} {its : List (Bool × Nat)} {bl : Nat} {post : List Nat} (hx : text.length ≤ sizeLine)
    (ht : text.cps.toList.drop p = spell ((b0, c0) :: its) ++ bl :: post) (hlen0 : its.length + 2 ≤ text.length) (hi : ∀ x ∈ (b0, c0) :: its, x.2 ≠ 10 ∧ (x.1 = false → isWs x.2 = false ∧ x.2 ≠ 34 ∧ x.2 ≠ 92)) (hb : isWs bl = true) {Φ : Flow → St → Prop}
    (h : ∀ l, Φ (.ret (.str ⟨(((b0, c0) :: its).map (·.2)).toArray⟩ 0)) (lexS a text ((p + 1 + (spell ((b0, c0) :: its)).length : Nat) : Int) (n + nlOf ⟨#[bl]⟩) [] ((it, .cit q emp) :: (q, .ob (methodObj (.ref 35) (.ref a.lx))) :: (L, .ns l) :: R))) :
    VF (model pw w) A' C (lexS a text ((p + (spell [(b0, c0)]).length : Nat) : Int) n [] ((it, .cit q emp) :: (q, .ob (methodObj (.ref 35) (.ref a.lx))) :: (L, .ns [(Str.ofString "self", .ref a.lx), (Str.ofString "token", .str ⟨#[c0]⟩ 0), (Str.ofString "fiter", .ref it), (Str.ofString "ch", .str ⟨#[c0]⟩ 0)]) :: R)) (execs [plainFor] (envF fd42 L 42 fd42.closure)) Φ := by
  change VG _ _ _ _ _ (execs (Stmt.For _ _ _ _ _ :: _) _) _
  refine V.execs_cons (V.for_ ?_)
  walk_at "V"
  intro o ho; obtain rfl := nt_ref ho
  refine V.iter_cit (by walk_at "mem") (.inr ⟨_, _, rfl⟩) ?_
  intro o ho; obtain rfl := nt_ref ho
  refine V.forLoop (I := fun n' S' => ∃ dn td, its = dn ++ td ∧ n' = td.length ∧ S' = lexS a text ((p + (spell ((b0, c0) :: dn)).length : Nat) : Int) n [] ((it, .cit q emp) :: (q, .ob (methodObj (.ref 35) (.ref a.lx))) :: (L, .ns [(Str.ofString "self", .ref a.lx), (Str.ofString "token", .str ⟨(((b0, c0) :: dn).map (·.2)).toArray⟩ 0), (Str.ofString "fiter", .ref it), (Str.ofString "ch", .str ⟨#[(((b0, c0) :: dn).getLast?.map (·.2)).getD 0]⟩ 0)]) :: R)) ?_ its.length ⟨[], its, rfl, rfl, rfl⟩
  rintro n' S' ⟨dn, td, rfl, rfl, rfl⟩
  refine V.next_cit hA' (by walk_at "mem") (by walk_at "mem") (at_K g (lk35 _)) rfl ?_
  refine V.call_of (V.code_bound (by walk_at "mem") (read_char g (by exact hd') rfl hx ?_))
  have ht' : text.cps.toList.drop p = spell ((b0, c0) :: dn) ++ (spell td ++ bl :: post) := by rw [ht, ← List.cons_append, spell_append, List.append_assoc]
  have hlen : dn.length + td.length + 2 ≤ text.length := by
    simp only [List.length_append] at hlen0; exact hlen0
  have hg : ∀ j, text.cps.toList[p + (spell ((b0, c0) :: dn)).length + j]? = (spell td ++ bl :: post)[j]? := fun j => drop_get ht' j
  generalize hP : p + (spell ((b0, c0) :: dn)).length = P at hg
  match td with
  | [] =>
    rw [chAt_some (p := P) (c := bl) (hg 0)]
    refine ⟨_, rfl, by walk_at "mem", at_K g (lk35 _), by walk_at "mem", fun _ => ?_, fun h => absurd h ne_emp⟩
    intro v' hv'
    refine V.assign_Name ?_
    revert v' hv'
    walk_at "store"
    repeat walk_at "V"
    refine V.attribute ?_
    walk_at "V"
    intro o ho; obtain rfl := nt_ref ho
    refine V.attr (cls52 g) (by walk_at "mem") (by walk_at "mem") (by rfl) (by kernel_rfl) on_whitespace rfl ?_
    walk_at "V"
    refine ⟨_, rfl, fun _ => ?_, fun hb' => Bool.noConfusion (Eq.trans (Eq.symm hb') hb)⟩
    repeat walk_at "V"
    simp only [List.append_nil] at h
    rw [show ((p + 1 + (spell ((b0, c0) :: dn)).length : Nat) : Int) = (P : Int) + 1 by omega] at h
    exact h _
  | (true, c) :: td =>
    rw [chAt_some (p := P) (c := 92) (hg 0), show nlOf ⟨#[92]⟩ = 0 by decide +kernel, Int.add_zero]
    refine ⟨_, rfl, by walk_at "mem", at_K g (lk35 _), by walk_at "mem", fun _ => ?_, fun h => absurd h (by decide)⟩
    intro v' hv'
    refine V.assign_Name ?_
    revert v' hv'
    walk_at "store"
    repeat walk_at "V"
    refine V.attribute ?_
    walk_at "V"
    intro o ho; obtain rfl := nt_ref ho
    refine V.attr (cls52 g) (by walk_at "mem") (by walk_at "mem") (by rfl) (by kernel_rfl) on_whitespace rfl ?_
    walk_at "V"
    refine ⟨_, rfl, fun hb => absurd hb (by decide +kernel), fun _ => ?_⟩
    repeat walk_at "V"
    refine ⟨_, rfl, fun _ => ?_, fun hb => absurd hb (by decide)⟩
    repeat walk_at "V"
    refine V.call_meth ?_
    walk_at "V"
    intro o ho; obtain rfl := nt_ref ho
    refine V.method (f := 35) (cls52 g) (by walk_at "mem") (by walk_at "mem") (by rfl) (by kernel_rfl) (by rw [g.K]; exact lk35 _) rfl on_read_char ?_
    refine V.cw0 (.fn (at_K g (lk35 _)) rfl) (V.call_of (read_char g hd' rfl hx ?_))
    rw [show (((P : Int) : Int) + 1) = ((P + 1 : Nat) : Int) by omega, chAt_some (p := P + 1) (c := c) (hg 1), nl_ne (hi (true, c) (by simp)).1, Int.add_zero]
    walk_at "store"
    repeat walk_at "V"
    refine VO.iadd_str ?_ (by simp only [Str.length, List.size_toArray, List.length_map, List.length_cons, List.length_nil]; simp only [List.length_cons] at hlen; unfold Str.length at hlen hx; omega)
    walk_at "store"
    repeat walk_at "V"
    refine ⟨td.length, Nat.lt_succ_self _, dn ++ [(true, c)], td, by simp, rfl, ?_⟩
    have e3 : (spell [(true, c)]).length = 2 := rfl
    have e4 : ((b0, c0) :: (dn ++ [(true, c)])) = ((b0, c0) :: dn) ++ [(true, c)] := rfl
    rw [tok_snoc ((b0, c0) :: dn) (true, c)]
    rw [e4, List.getLast?_concat, spell_append, List.length_append, show ((p + ((spell ((b0, c0) :: dn)).length + (spell [(true, c)]).length) : Nat) : Int) = ((P + 1 : Nat) : Int) + 1 by omega]
    rfl
  | (false, c) :: td =>
    have hc := (hi (false, c) (by simp)).2 rfl
    rw [chAt_some (p := P) (c := c) (hg 0), nl_ne (hi (false, c) (by simp)).1, Int.add_zero]
    refine ⟨_, rfl, by walk_at "mem", at_K g (lk35 _), by walk_at "mem", fun _ => ?_, fun h => absurd h ne_emp⟩
    intro v' hv'
    refine V.assign_Name ?_
    revert v' hv'
    walk_at "store"
    repeat walk_at "V"
    refine V.attribute ?_
    walk_at "V"
    intro o ho; obtain rfl := nt_ref ho
    refine V.attr (cls52 g) (by walk_at "mem") (by walk_at "mem") (by rfl) (by kernel_rfl) on_whitespace rfl ?_
    walk_at "V"
    refine ⟨_, rfl, fun hb' => Bool.noConfusion (Eq.trans (Eq.symm hc.1) hb'), fun _ => ?_⟩
    repeat walk_at "V"
    refine ⟨_, rfl, fun hb => Bool.noConfusion ((ne_one hc.2.2).symm.trans hb), fun _ => ?_⟩
    repeat walk_at "V"
    refine VO.iadd_str ?_ (by simp only [Str.length, List.size_toArray, List.length_map, List.length_cons, List.length_nil]; simp only [List.length_cons] at hlen; unfold Str.length at hlen hx; omega)
    walk_at "store"
    repeat walk_at "V"
    refine ⟨td.length, Nat.lt_succ_self _, dn ++ [(false, c)], td, by simp, rfl, ?_⟩
    have e3 : (spell [(false, c)]).length = 1 := rfl
    have e4 : ((b0, c0) :: (dn ++ [(false, c)])) = ((b0, c0) :: dn) ++ [(false, c)] := rfl
    rw [tok_snoc ((b0, c0) :: dn) (false, c)]
    rw [e4, List.getLast?_concat, spell_append, List.length_append, show ((p + ((spell ((b0, c0) :: dn)).length + (spell [(false, c)]).length) : Nat) : Int) = (P : Int) + 1 by omega]
    rfl
theorem get_plain (g : G w C) (hA : A.handled = none) (hd : A.depth + 2 < recursionLimit) {a : LA} {text : Str} {p : Nat} {n : Int} {R : St} {v : Value} {x0 : Bool × Nat} {its : List (Bool × Nat)} {bl : Nat} {post : List Nat} (hv : nt v = .ref a.lx) (hx : text.length ≤ sizeLine)
    (ht : text.cps.toList.drop p = spell (x0 :: its) ++ bl :: post) (hi : ∀ x ∈ x0 :: its, x.2 ≠ 10 ∧ (x.1 = false → isWs x.2 = false ∧ x.2 ≠ 34 ∧ x.2 ≠ 92)) (hb : isWs bl = true) {Φ : Value → St → Prop}
    (h : Φ (.str ⟨((x0 :: its).map (·.2)).toArray⟩ 0) (lexS a text ((p + 1 + (spell (x0 :: its)).length : Nat) : Int) (n + nlOf ⟨#[bl]⟩) [] R)) : VC (model pw w) A C (lexS a text p n [] R) (.call (.ref 42) ⟨[v], []⟩) Φ := by
  refine VC.shrink (V.code_fn (fd := fd42) (binds := [(Str.ofString "self", v)]) (at_K g (lk42 _)) rfl (code_K g rfl (cd42 _)) rfl rfl (by omega) (by decide +kernel) (by kernel_rfl) (by kernel_rfl) fun L => ?_)
  simp only [List.map_cons, List.map_nil, hv]
  have hd' : (A.deeper (envF fd42 L 42 fd42.closure)).depth + 1 < recursionLimit := hd
  have hA' : (A.deeper (envF fd42 L 42 fd42.closure)).handled = none := hA
  generalize A.deeper (envF fd42 L 42 fd42.closure) = A' at hd' hA'
  refine V.execs_cons (V.if_ (V.t_plain (V.attribute ?_)))
  walk_at "V"
  intro o ho; obtain rfl := nt_ref ho
  refine V.attr (cls52 g) (by walk_at "mem") (by walk_at "mem") (by rfl) (by kernel_rfl) on_pushback rfl ?_
  refine tr_list (.lst (by walk_at "mem")) (by simp) ⟨(fun h => by cases h), fun _ => ?_⟩
  refine V.execs_nil (V.execs_cons (V.assign_name ?_))
  walk_at "V"
  walk_at "store"
  refine V.execs_cons (V.assign_name ?_)
  iterate 4 walk_at "V"
  refine V.attribute ?_
  walk_at "V"
  intro o ho; obtain rfl := nt_ref ho
  refine V.attr_bound (f := 35) (by walk_at "mem") (by walk_at "mem") (by rfl) (by rw [g.K]; kernel_rfl) (by rw [g.K]; kernel_rfl) (by rw [g.K]; kernel_rfl) (by rw [g.K]; kernel_rfl) (by rw [g.K]; kernel_rfl) (by rw [g.K]; kernel_rfl) (by decide +kernel) fun q => ?_
  walk_at "V"
  refine ⟨.builtin, fun v u hv hu => ?_⟩
  obtain rfl := nt_ref hv
  refine V.iter2 (by walk_at "mem") hu fun it => ?_
  walk_at "store"
  refine V.execs_cons (V.for_ ?_)
  walk_at "V"
  intro o ho; obtain rfl := nt_ref ho
  refine V.iter_cit (by walk_at "mem") (.inr ⟨_, _, rfl⟩) ?_
  intro o ho; obtain rfl := nt_ref ho
  have hg0 : ∀ j, text.cps.toList[p + j]? = (spell (x0 :: its) ++ bl :: post)[j]? := fun j => drop_get (a := []) ht j
  have hlen0 : its.length + 2 ≤ text.length := by
    have h1 := congrArg List.length ht
    have h2 := spell_len (x0 :: its)
    have h4 : text.cps.toList.length = text.length := by simp [Str.length]
    simp only [List.length_drop, List.length_append, List.length_cons] at h1 h2
    omega
  refine V.forLoop (I := fun n S' => S' = _ ∧ n = 1) ?_ 1 ⟨rfl, rfl⟩
  rintro n' S' ⟨rfl, rfl⟩
  refine V.next_cit hA' (by walk_at "mem") (by walk_at "mem") (at_K g (lk35 _)) rfl ?_
  refine V.call_of (V.code_bound (by walk_at "mem") (VC.perm (lex_in [_, _, _]) (read_char g (by exact hd') rfl hx ?_)))
  simp only [List.cons_append, List.nil_append]
  obtain ⟨b0, c0⟩ := x0
  cases b0 with
  | true =>
    rw [chAt_some (p := p) (c := 92) (hg0 0), show nlOf ⟨#[92]⟩ = 0 by decide +kernel, Int.add_zero]
    refine ⟨_, rfl, by walk_at "mem", at_K g (lk35 _), by walk_at "mem", fun _ => ?_, fun h => absurd h (by decide)⟩
    intro v' hv'
    refine V.assign_Name ?_
    revert v' hv'
    walk_at "store"
    refine V.execs_cons (V.if_ (V.t_cmp ?_))
    walk_at "V"
    refine V.attribute ?_
    walk_at "V"
    intro o ho; obtain rfl := nt_ref ho
    refine V.attr (cls52 g) (by walk_at "mem") (by walk_at "mem") (by rfl) (by kernel_rfl) on_whitespace rfl ?_
    walk_at "V"
    refine ⟨_, rfl, fun hb => absurd hb (by decide +kernel), fun _ => ?_⟩
    refine V.execs_nil (V.execs_cons (V.if_ (V.t_cmp ?_)))
    repeat walk_at "V"
    refine ⟨_, rfl, fun hb => absurd hb (by decide), fun _ => ?_⟩
    repeat walk_at "V"
    refine ⟨_, rfl, fun _ => ?_, fun hb => absurd hb (by decide)⟩
    repeat walk_at "V"
    refine V.call_meth ?_
    walk_at "V"
    intro o ho; obtain rfl := nt_ref ho
    refine V.method (f := 35) (cls52 g) (by walk_at "mem") (by walk_at "mem") (by rfl) (by kernel_rfl) (by rw [g.K]; exact lk35 _) rfl on_read_char ?_
    refine V.cw0 (.fn (at_K g (lk35 _)) rfl) (V.call_of (read_char g hd' rfl hx ?_))
    rw [show (((p : Int) : Int) + 1) = ((p + 1 : Nat) : Int) by omega, chAt_some (p := p + 1) (c := c0) (hg0 1), nl_ne (hi (true, c0) (by simp)).1, Int.add_zero]
    walk_at "store"
    repeat walk_at "V"
    refine VO.iadd_str ?_ (by unfold Str.length at *; show 0 + 1 ≤ _; omega)
    walk_at "store"
    refine plain_loop g hA' hd' hx ht hlen0 hi hb fun l => ?_
    exact ⟨lexS a text _ _ [] R, lex_sub (.cons _ (.cons _ (.cons _ (.refl _)))), h⟩
  | false =>
    have hc := (hi (false, c0) (by simp)).2 rfl
    rw [chAt_some (p := p) (c := c0) (hg0 0), nl_ne (hi (false, c0) (by simp)).1, Int.add_zero]
    refine ⟨_, rfl, by walk_at "mem", at_K g (lk35 _), by walk_at "mem", fun _ => ?_, fun h => absurd h ne_emp⟩
    intro v' hv'
    refine V.assign_Name ?_
    revert v' hv'
    walk_at "store"
    refine V.execs_cons (V.if_ (V.t_cmp ?_))
    walk_at "V"
    refine V.attribute ?_
    walk_at "V"
    intro o ho; obtain rfl := nt_ref ho
    refine V.attr (cls52 g) (by walk_at "mem") (by walk_at "mem") (by rfl) (by kernel_rfl) on_whitespace rfl ?_
    walk_at "V"
    refine ⟨_, rfl, fun hb' => Bool.noConfusion (Eq.trans (Eq.symm hc.1) hb'), fun _ => ?_⟩
    refine V.execs_nil (V.execs_cons (V.if_ (V.t_cmp ?_)))
    repeat walk_at "V"
    refine ⟨_, rfl, fun hb => Bool.noConfusion ((ne_one hc.2.1).symm.trans hb), fun _ => ?_⟩
    repeat walk_at "V"
    refine ⟨_, rfl, fun hb => Bool.noConfusion ((ne_one hc.2.2).symm.trans hb), fun _ => ?_⟩
    repeat walk_at "V"
    refine VO.iadd_str ?_ (by unfold Str.length at *; show 0 + 1 ≤ _; omega)
    walk_at "store"
    refine plain_loop g hA' hd' hx ht hlen0 hi hb fun l => ?_
    exact ⟨lexS a text _ _ [] R, lex_sub (.cons _ (.cons _ (.cons _ (.refl _)))), h⟩
end

section
open PySem PyProof.Rows PySem.Calls PySem.W PySem.Spec
variable {w : World} {A : Around} {C : Cx} {S S' : St} {env : Env}
theorem get_end (g : G w C) (hA : A.handled = none) (hd : A.depth + 2 < recursionLimit) {a : LA} {text : Str} {p : Nat} {n : Int} {R : St} {v : Value} (hv : nt v = .ref a.lx) (hx : text.length ≤ sizeLine)
    (hp : text.length ≤ p) {Φ : Value → St → Prop}
    (h : Φ (.str emp 0) (lexS a text ((p + 1 : Nat) : Int) n [] R)) : VC (model pw w) A C (lexS a text p n [] R) (.call (.ref 42) ⟨[v], []⟩) Φ := by
  refine VC.shrink (V.code_fn (fd := fd42) (binds := [(Str.ofString "self", v)]) (at_K g (lk42 _)) rfl (code_K g rfl (cd42 _)) rfl rfl (by omega) (by decide +kernel) (by kernel_rfl) (by kernel_rfl) fun L => ?_)
  simp only [List.map_cons, List.map_nil, hv]
  have hd' : (A.deeper (envF fd42 L 42 fd42.closure)).depth + 1 < recursionLimit := hd
  have hA' : (A.deeper (envF fd42 L 42 fd42.closure)).handled = none := hA
  generalize A.deeper (envF fd42 L 42 fd42.closure) = A' at hd' hA'
  refine V.execs_cons (V.if_ (V.t_plain (V.attribute ?_)))
  walk_at "V"
  intro o ho; obtain rfl := nt_ref ho
  refine V.attr (cls52 g) (by walk_at "mem") (by walk_at "mem") (by rfl) (by kernel_rfl) on_pushback rfl ?_
  refine tr_list (.lst (by walk_at "mem")) (by simp) ⟨(fun h => by cases h), fun _ => ?_⟩
  refine V.execs_nil (V.execs_cons (V.assign_name ?_))
  walk_at "V"
  walk_at "store"
  refine V.execs_cons (V.assign_name ?_)
  iterate 4 walk_at "V"
  refine V.attribute ?_
  walk_at "V"
  intro o ho; obtain rfl := nt_ref ho
  refine V.attr_bound (f := 35) (by walk_at "mem") (by walk_at "mem") (by rfl) (by rw [g.K]; kernel_rfl) (by rw [g.K]; kernel_rfl) (by rw [g.K]; kernel_rfl) (by rw [g.K]; kernel_rfl) (by rw [g.K]; kernel_rfl) (by rw [g.K]; kernel_rfl) (by decide +kernel) fun q => ?_
  walk_at "V"
  refine ⟨.builtin, fun v u hv hu => ?_⟩
  obtain rfl := nt_ref hv
  refine V.iter2 (by walk_at "mem") hu fun it => ?_
  walk_at "store"
  refine V.execs_cons (V.for_ ?_)
  walk_at "V"
  intro o ho; obtain rfl := nt_ref ho
  refine V.iter_cit (by walk_at "mem") (.inr ⟨_, _, rfl⟩) ?_
  intro o ho; obtain rfl := nt_ref ho
  refine V.forLoop (I := fun n S' => S' = _ ∧ n = 1) ?_ 1 ⟨rfl, rfl⟩
  rintro n' S' ⟨rfl, rfl⟩
  refine V.next_cit hA' (by walk_at "mem") (by walk_at "mem") (at_K g (lk35 _)) rfl ?_
  refine V.call_of (V.code_bound (by walk_at "mem") (VC.perm (lex_in [_, _, _]) (read_char g (by exact hd') rfl hx ?_)))
  simp only [List.cons_append, List.nil_append]
  rw [chAt_none hp, show nlOf ⟨#[]⟩ = 0 by decide +kernel, Int.add_zero]
  refine ⟨_, rfl, by walk_at "mem", at_K g (lk35 _), by walk_at "mem", fun h => absurd (by rfl) h, fun _ => ⟨_, by walk_at "upd", ?_⟩⟩
  repeat walk_at "V"
  refine ⟨lexS a text _ _ [] R, lex_sub (.cons _ (.cons _ (.cons _ (.refl _)))), ?_⟩
  exact h
end

section
open PySem PyProof.Rows PySem.Calls PySem.W PySem.Spec
variable {w : World} {A : Around} {C : Cx} {S S' : St} {env : Env}
@[reducible] noncomputable def init0 (fp : Value) (pb : Addr) : List (Str × Value) := [(Str.ofString "lineno", .int 1 0), (Str.ofString "instream", fp), (Str.ofString "whitespace", .str wsp 0), (Str.ofString "pushback", .ref pb)]
theorem init (g : G w C) (hd : A.depth < recursionLimit) {x dx : Addr} {v u fp : Value} {R : St} (hv : nt v = .ref x) (hu : nt u = fp) {Φ : Value → St → Prop}
    (h : ∀ pb, Φ .none ((pb, .lst []) :: (x, .inst 52 dx) :: (dx, .at (init0 fp pb)) :: R)) : VC (model pw w) A C ((x, .inst 52 dx) :: (dx, .at []) :: R) (.call (.ref 28) ⟨[v, u], []⟩) Φ := by
  refine VC.shrink (V.code_fn (fd := fd28) (binds := [(Str.ofString "self", v), (Str.ofString "fp", u)]) (at_K g (lk28 _)) rfl (code_K g rfl (cd28 _)) rfl rfl (by omega) (by decide +kernel) (by kernel_rfl) (by kernel_rfl) fun L => ?_)
  simp only [List.map_cons, List.map_nil, hv, hu]
  refine V.execs_cons (V.assign_attr ?_)
  repeat walk_at "V"
  intro v' hv'
  walk_at "V"
  intro o ho; obtain rfl := nt_ref ho
  revert v' hv'
  refine V.sa (cls52 g) (by walk_at "mem") (by walk_at "upd") (by walk_at "set") (by kernel_rfl) on_lineno (b130 g) ?_
  refine V.execs_cons (V.assign_attr ?_)
  repeat walk_at "V"
  intro v' hv'
  walk_at "V"
  intro o ho; obtain rfl := nt_ref ho
  revert v' hv'
  refine V.sa (cls52 g) (by walk_at "mem") (by walk_at "upd") (by walk_at "set") (by kernel_rfl) on_instream (b130 g) ?_
  refine V.execs_cons (V.assign_attr ?_)
  repeat walk_at "V"
  intro v' hv'
  walk_at "V"
  intro o ho; obtain rfl := nt_ref ho
  revert v' hv'
  refine V.sa (cls52 g) (by walk_at "mem") (by walk_at "upd") (by walk_at "set") (by kernel_rfl) on_whitespace (b130 g) ?_
  refine V.execs_cons (V.assign_attr ?_)
  refine V.list ?_
  walk_at "V"
  refine ⟨by decide, fun pb => ?_⟩
  intro v' hv'
  walk_at "V"
  intro o ho; obtain rfl := nt_ref ho
  revert v' hv'
  refine V.sa (cls52 g) (by walk_at "mem") (by walk_at "upd") (by walk_at "set") (by kernel_rfl) on_pushback (b130 g) ?_
  repeat walk_at "V"
  exact ⟨_, .cons_cons _ (.cons _ (.refl _)), h pb⟩
end

section
open PySem PyProof.Rows PySem.Calls PySem.W PySem.Spec
variable {w : World} {A : Around} {C : Cx} {S S' : St} {env : Env}
theorem VC.wk {c : Code} {Φ : Value → St → Prop} (h : VC (model pw w) A C S c fun v S' => ∃ S'', (∀ s, Inv C S' s → Inv C S'' s) ∧ Φ v S'') : VC (model pw w) A C S c Φ := fun s R I hq =>
  h s R I fun v s' S' I' ⟨S'', hs, p⟩ => hq v s' S'' (hs s' I') p
theorem Inv.toSq {s : Shared} {a : Addr} {xs : List Value} (I : Inv C ((a, .lst xs) :: S) s) : Inv C ((a, .sq xs) :: S) s :=
  ⟨I.old, fun p hp => by
    rcases List.mem_cons.mp hp with rfl | hp
    · obtain ⟨o, h1, vs, ep, rfl, h2⟩ := I.is _ (List.mem_cons_self)
      exact ⟨_, h1, rfl, vs, ep, rfl, h2⟩
    · exact I.is p (List.mem_cons_of_mem _ hp), I.nod, fun p hp => by
    rcases List.mem_cons.mp hp with rfl | hp
    · exact fun _ => I.above (a, .lst xs) (List.mem_cons_self) (by nofun)
    · exact I.above p (List.mem_cons_of_mem _ hp), I.known, I.small, I.arg, I.argB, I.g, I.b, I.nss, I.nolimit, I.os, I.gens⟩
inductive Pk : St → St → Prop
  | sub {S S' : St} (h : S'.Sublist S) : Pk S' S
  | cons {p : Addr × Ch} {S S' T : St} (u : Rem p S S') (h : Pk T S') : Pk (p :: T) S
theorem Pk.inv {T S : St} (h : Pk T S) : ∀ (F : St) (s : Shared), Inv C (F ++ S) s → Inv C (F ++ T) s := by
  induction h with
  | sub h => exact fun F s I => I.drop (List.Sublist.append_left h F)
  | cons u _ ih =>
    intro F s I
    have I1 := I.perm (S' := F ++ _ :: _) (List.Perm.append_left F u.perm)
    rw [List.append_cons] at I1 ⊢
    exact ih _ s I1
@[reducible] noncomputable def cs153 (L : Addr) : List (Str × Addr) := [(Str.ofString "place", L + 2), (Str.ofString "text", L + 1)]
theorem lexer (g : G w C) (D : DefAt C 157 153 4 (boot_o_4 w.params)) (hd : A.depth + 2 < recursionLimit) {text : Str} {v : Value} {R : St} (hv : nt v = .str text 0) {Φ : Value → St → Prop}
    (h : ∀ a : LA, Φ (.ref a.lx) (lexS a text 0 1 [] R)) : VC (model pw w) A C ((153, .tab) :: R) (.call (.ref 158) ⟨[v], []⟩) Φ := by
  refine VC.wk (V.code_cells (fd := fd158) (binds := [(Str.ofString "text", v)]) (lb := []) (cs := cs153) (cb := fun n => if n == Str.ofString "text" then some (.str text 0) else none) (at_K g (lk158 _)) rfl (code_K g rfl (cd158 _)) rfl rfl rfl (by omega) (fun L => by rfl) (fun L => by show [Str.ofString "place", Str.ofString "text"].Nodup; decide +kernel) (fun L x hx => ?_) (fun L x v hx => by cases hx) (fun L n c hm => ?_) fun L => ?_)
  · cases List.mem_singleton.mp hx
    exact .inr ⟨by kernel_rfl, by kernel_rfl⟩
  · rcases List.mem_cons.mp hm with e | hm
    · cases e; rfl
    · cases List.mem_singleton.mp hm
      show (some v).map nt = some (.str text 0)
      rw [Option.map_some, hv]
  have hd1 : (A.deeper (envF fd158 L 153 (cs153 L))).depth + 1 < recursionLimit := hd
  refine VG.perm (S' := (L, .ns []) :: (L + 2, .cell none) :: (L + 1, .cell (some (.str text 0))) :: (153, .tab) :: R) (.refl _) ?_
  refine V.execs_cons (V.assign_name ?_)
  refine V.list ?_
  repeat walk_at "V"
  refine ⟨by decide, fun pl => ?_⟩
  walk_at "store"
  refine V.execs_cons (V.def_clos (qual := rdQual) (cl := [(Str.ofString "text", L + 1), (Str.ofString "place", L + 2)]) D rfl rfl rfl (by kernel_rfl) (by kernel_rfl) (by kernel_rfl) rfl (by show 2 ≤ sizeLine; decide) rfl rfl rfl (by walk_at "rem") fun f c' => ?_)
  refine V.store_local (by walk_at "upd") (by walk_at "set") ?_
  refine V.execs_cons (V.assign_name ?_)
  repeat walk_at "V"
  refine ⟨.cls (by rw [g.K]; kernel_rfl), fun v hv => V.new (cls52 g) (by kernel_rfl) (by rw [g.K]; exact lk28 _) rfl fun sx sd => V.call_of (init g (by exact hd1) rfl hv fun pb' => ⟨rfl, ?_⟩)⟩
  walk_at "store"
  refine V.execs_cons (V.assign_attr ?_)
  walk_at "V"
  intro v' hv'
  walk_at "V"
  intro o ho; obtain rfl := nt_ref ho
  revert v' hv'
  refine V.sa (cls52 g) (by walk_at "mem") (by walk_at "upd") (by walk_at "set") (by kernel_rfl) on_read (b130 g) ?_
  repeat walk_at "V"
  refine ⟨.cls (by rw [g.K]; kernel_rfl), fun v hv => V.new (cls52 g) (by kernel_rfl) (by rw [g.K]; exact lk28 _) rfl fun lx ld => V.call_of (init g (by exact hd1) rfl hv fun pb => ⟨rfl, ?_⟩)⟩
  refine ⟨lexS ⟨pl, L + 1, L + 2, f, c', sx, sd, lx, ld, pb, pb'⟩ text 0 1 [] R, fun s I => ?_, h ⟨pl, L + 1, L + 2, f, c', sx, sd, lx, ld, pb, pb'⟩⟩
  refine Inv.toSq (Pk.inv (S := _) ?_ [] s I)
  iterate 10 refine Pk.cons (by repeat (first | exact Rem.head | apply Rem.tail)) ?_
  exact .sub (.cons _ (.cons _ (.refl _)))
end

section
open PySem PyProof.Rows PySem.Calls PySem.W PySem.Spec
variable {w : World} {A : Around} {C : Cx} {S S' : St} {env : Env}
@[reducible] noncomputable def intV (i : Int) : Value := .int i 0
theorem totals (g : G w C) (hA : A.handled = none) (hd : A.depth < recursionLimit) {xs : List Int} (hl : ∀ S, IsL C S C.arg.1 (xs.map intV)) (hz : xs.length ≤ 63) {v : Value} (hv : nt v = .ref C.arg.1) {Φ : Value → St → Prop}
    (h : ∀ a t0 t1 t2 t3, Φ (.ref a) ((a, .sq [intV t0, intV t1, intV t2, intV t3]) :: S)) : VC (model pw w) A C S (.call (.ref 141) ⟨[v], []⟩) Φ := by
  refine VC.end (V.code_fn (fd := fd141) (binds := [(Str.ofString "script", v)]) (at_K g (lk141 _)) rfl (code_K g rfl (cd141 _)) rfl rfl hd (by decide +kernel) (by kernel_rfl) (by kernel_rfl) fun L => ?_)
  simp only [List.map_cons, List.map_nil, hv]
  have hA' : (A.deeper (envF fd141 L 141 fd141.closure)).handled = none := hA
  generalize A.deeper (envF fd141 L 141 fd141.closure) = A' at hA'
  refine V.execs_cons (V.assign_name (V.list ?_))
  repeat walk_at "V"
  refine ⟨by decide, fun a => ?_⟩
  walk_at "store"
  refine V.execs_cons (V.for_ ?_)
  repeat walk_at "V"
  have hz' : (xs.map intV).length ≤ sizeLine := by rw [List.length_map, sizeLine_eq]; omega
  refine ⟨.builtin, fun u hu => V.len_list hu (hl _) hz' ?_⟩
  refine ⟨.builtin, fun u1 u2 h1 h2 => V.min2 h1 h2 hA' ?_⟩
  have hN : ∃ N : Nat, N ≤ xs.length ∧ (if ((xs.map intV).length : Int) < 60 then ((xs.map intV).length : Int) else 60) = N := by
    rw [List.length_map]
    split
    · exact ⟨_, Nat.le_refl _, rfl⟩
    · exact ⟨60, by omega, rfl⟩
  obtain ⟨N, hN, e⟩ := hN
  rw [e]
  refine ⟨.type, fun u hu => V.range1 hu fun r => ?_⟩
  intro x' hx'
  obtain rfl := nt_ref hx'
  refine V.iter_rng (n := N) (by walk_at "mem") (by omega) fun it => ?_
  intro it' hit
  obtain rfl := nt_ref hit
  refine VK.wk (S' := (it, rc 0 N 0) :: (a, .sq [intV 2, intV 153, intV 5, intV 1234]) :: (L, .ns [(Str.ofString "script", .ref C.arg.1), (Str.ofString "totals", .ref a)]) :: S) (by walk_at "pk") ?_
  refine V.forI (c := rc 0 N) (fun i S' => ∃ t0 t1 t2 t3, S' = (a, .sq [intV t0, intV t1, intV t2, intV t3]) :: (L, .ns [(Str.ofString "script", .ref C.arg.1), (Str.ofString "totals", .ref a)]) :: S) (fun i S' _ => It.rng hA') ⟨_, _, _, _, rfl⟩ ?_ ?_
  · rintro i S' hi ⟨t0, t1, t2, t3, rfl⟩ v hv
    refine V.assign_Name ?_
    revert v hv
    refine V.st_local (l' := [(Str.ofString "script", .ref C.arg.1), (Str.ofString "totals", .ref a), (Str.ofString "k", intV (0 + (i : Nat)))]) (by walk_at "upd") (by walk_at "set") ?_
    refine V.execs_cons (V.aug_sub ?_)
    repeat walk_at "V"
    refine VO.mod_int ?_ (by decide)
    intro ov iv h1 h2
    obtain rfl := nt_ref h1
    obtain ⟨t, rfl⟩ := nt_int h2
    have ef : (0 + (i : Int)).fmod 4 = ((i % 4 : Nat) : Int) := by
      rw [Int.fmod_eq_emod_of_nonneg _ (by decide)]; omega
    have hx : ∃ y, (xs.map intV)[pyAt (xs.map intV).length (0 + (i : Nat))]? = some (intV y) := by
      have e1 : pyAt (xs.map intV).length (0 + (i : Nat)) = i := by
        unfold pyAt
        rw [if_neg (by omega)]; omega
      rw [e1, List.getElem?_map, List.getElem?_eq_getElem (by omega)]
      exact ⟨_, rfl⟩
    obtain ⟨y, hy⟩ := hx
    rw [ef]
    have h3 : i % 4 = 0 ∨ i % 4 = 1 ∨ i % 4 = 2 ∨ i % 4 = 3 := by omega
    rcases h3 with e3 | e3 | e3 | e3 <;> rw [e3]
    all_goals
      refine V.item_list (IsL.sq (by walk_at "mem")) (by walk_at "dec") (by walk_at "dec") (by walk_at "dec") rfl ?_
      repeat walk_at "V"
      refine V.tail_list (hl _) (by rw [List.length_map]; omega) (by rw [List.length_map]; omega) hz' hy ?_
      repeat walk_at "V"
      first
        | refine V.setTo (ys := [intV (t0 + y), intV t1, intV t2, intV t3]) (.inr rfl) rfl (by walk_at "upd") (by decide) (by walk_at "dec") (by walk_at "dec") ?_
        | refine V.setTo (ys := [intV t0, intV (t1 + y), intV t2, intV t3]) (.inr rfl) rfl (by walk_at "upd") (by decide) (by walk_at "dec") (by walk_at "dec") ?_
        | refine V.setTo (ys := [intV t0, intV t1, intV (t2 + y), intV t3]) (.inr rfl) rfl (by walk_at "upd") (by decide) (by walk_at "dec") (by walk_at "dec") ?_
        | refine V.setTo (ys := [intV t0, intV t1, intV t2, intV (t3 + y)]) (.inr rfl) rfl (by walk_at "upd") (by decide) (by walk_at "dec") (by walk_at "dec") ?_
      walk_at "V"
      dsimp only
      exact ⟨_, (by walk_at "pk"), _, _, _, _, rfl⟩
  · rintro S' ⟨t0, t1, t2, t3, rfl⟩
    walk_at "V"
    dsimp only
    repeat walk_at "V"
    exact ⟨_, (by walk_at "pk"), h _ _ _ _ _⟩
end

section
open PySem PyProof.Rows PySem.Calls PySem.W PySem.Spec
variable {w : World} {A : Around} {C : Cx} {S S' : St} {env : Env}
@[reducible] noncomputable def cs146 (L : Addr) : List (Str × Addr) := [(Str.ofString "place", L + 2), (Str.ofString "plain", L + 1)]
noncomputable def shopL : List (Str × Int) := [(Str.ofString "ffi", 64259), (Str.ofString "ff", 64256), (Str.ofString "fi", 64257), (Str.ofString "f", 70), (Str.ofString "f", 119813), (Str.ofString "f", 102), (Str.ofString "i", 73), (Str.ofString "i", 8464)]
noncomputable def unseenL : List Int := [173, 847, 6150, 6155, 6156, 6157, 8203, 8204, 8205, 8288, 65279, 65024, 65025, 65026, 65027, 65028, 65029, 65030, 65031, 65032, 65033, 65034, 65035, 65036, 65037, 65038, 65039]
theorem take_snoc {α : Type} {l : List α} {n : Nat} {x : α} (h : l[n]? = some x) : l.take (n + 1) = l.take n ++ [x] := by
  rw [List.take_add_one, h]; rfl
theorem word_head (g : G w C) (hA : A.handled = none) (hd : A.depth + 1 < recursionLimit) {x : Str} {sd : Int} {v u : Value} (hv : nt v = .str x 0) (hu : nt u = .int sd 0) {Φ : Value → St → Prop}
    (rest : ∀ L A' sh ua T xs, A'.handled = none → A'.depth < recursionLimit → Tups T xs shopL → VF (model pw w) A' C ((sh, .lst xs) :: (ua, .lst (unseenL.map intV)) :: (L, .ns [(Str.ofString "seed", .int sd 0), (Str.ofString "unseen", .ref ua), (Str.ofString "shop", .ref sh)]) :: (L + 2, .cell none) :: (L + 1, .cell (some (.str x 0))) :: (T ++ S))
      (execs ((dBody (st 13)).drop 2) (envF fd146 L 146 (cs146 L))) fun f S' => ∃ T, Wk C T S' ∧ Φ (retOf f) T) : VC (model pw w) A C S (.call (.ref 146) ⟨[v, u], []⟩) Φ := by
  refine VC.end (V.code_cellsT (fd := fd146) (binds := [(Str.ofString "plain", v), (Str.ofString "seed", u)]) (lb := [(Str.ofString "seed", .int sd 0)]) (cs := cs146) (cb := fun n => if n == Str.ofString "plain" then some (.str x 0) else none) (at_K g (lk146 _)) rfl (code_K g rfl (cd146 _)) rfl rfl rfl (by omega) (fun L => by rfl) (fun L => by show [Str.ofString "place", Str.ofString "plain"].Nodup; decide +kernel) (fun L y hx => ?_) (fun L y z hx => ?_) (fun L n c hm => ?_) (fun L => (L, .ns [(Str.ofString "seed", .int sd 0)]) :: (L + 2, .cell none) :: (L + 1, .cell (some (.str x 0))) :: S) (fun L => rfl) fun L => ?_)
  · rcases List.mem_cons.mp hx with e | hx
    · cases e; exact .inr ⟨by kernel_rfl, by kernel_rfl⟩
    · cases List.mem_singleton.mp hx; exact .inl (by kernel_rfl)
  · cases List.mem_singleton.mp hx
    exact ⟨u, by kernel_rfl, hu⟩
  · rcases List.mem_cons.mp hm with e | hm
    · cases e; rfl
    · cases List.mem_singleton.mp hm
      show (some v).map nt = some (.str x 0)
      rw [Option.map_some, hv]
  have hd1 : (A.deeper (envF fd146 L 146 (cs146 L))).depth < recursionLimit := hd
  have hA' : (A.deeper (envF fd146 L 146 (cs146 L))).handled = none := hA
  generalize A.deeper (envF fd146 L 146 (cs146 L)) = A' at hA' hd1
  change VG _ _ _ _ _ (execs (_ :: _) _) _
  repeat walk_at "V"
  refine ⟨by decide, fun u0 => ?_⟩
  repeat walk_at "V"
  refine ⟨.type, fun v1 v2 h1 h2 => V.range2 h1 h2 fun r0 => ?_⟩
  refine ⟨.type, fun v1 h1 => ?_⟩
  obtain rfl := nt_ref h1
  refine V.list_range (n := 16) hA' (by walk_at "mem") (by decide +kernel) (by decide +kernel) (by decide) fun u1 => ?_
  refine V.list_add (xs := unseenL.take 11 |>.map intV) (ys := unseenL.drop 11 |>.map intV) (.lst (.tail _ (.tail _ (.head _)))) (.lst (.head _)) (by decide) fun ua => ?_
  rw [show (unseenL.take 11 |>.map intV) ++ (unseenL.drop 11 |>.map intV) = unseenL.map intV from rfl]
  walk_at "store"
  with_reducible refine VG.to ((ua, .lst (unseenL.map intV)) :: (L, .ns [(Str.ofString "seed", .int sd 0), (Str.ofString "unseen", .ref ua)]) :: (L + 2, .cell none) :: (L + 1, .cell (some (.str x 0))) :: S) (by walk_at "pk") ?_
  (repeat walk_at "V"); refine ⟨by walk_at "dec", fun a0 => ?_⟩
  (repeat walk_at "V"); refine ⟨by walk_at "dec", fun a1 => ?_⟩
  (repeat walk_at "V"); refine ⟨by walk_at "dec", fun a2 => ?_⟩
  (repeat walk_at "V"); refine ⟨by walk_at "dec", fun a3 => ?_⟩
  (repeat walk_at "V"); refine ⟨by walk_at "dec", fun a4 => ?_⟩
  (repeat walk_at "V"); refine ⟨by walk_at "dec", fun a5 => ?_⟩
  (repeat walk_at "V"); refine ⟨by walk_at "dec", fun a6 => ?_⟩
  (repeat walk_at "V"); refine ⟨by walk_at "dec", fun a7 => ?_⟩
  repeat walk_at "V"
  refine ⟨by walk_at "dec", fun sh => ?_⟩
  walk_at "store"
  have hT : Tups [(a7, Ch.tup [Value.str (Str.ofString "i") 0, Value.int 8464 0]), (a6, Ch.tup [Value.str (Str.ofString "i") 0, Value.int 73 0]), (a5, Ch.tup [Value.str (Str.ofString "f") 0, Value.int 102 0]), (a4, Ch.tup [Value.str (Str.ofString "f") 0, Value.int 119813 0]), (a3, Ch.tup [Value.str (Str.ofString "f") 0, Value.int 70 0]), (a2, Ch.tup [Value.str (Str.ofString "fi") 0, Value.int 64257 0]), (a1, Ch.tup [Value.str (Str.ofString "ff") 0, Value.int 64256 0]), (a0, Ch.tup [Value.str (Str.ofString "ffi") 0, Value.int 64259 0])] [Value.ref a0, Value.ref a1, Value.ref a2, Value.ref a3, Value.ref a4, Value.ref a5, Value.ref a6, Value.ref a7] shopL := Tups.snoc (Tups.snoc (Tups.snoc (Tups.snoc (Tups.snoc (Tups.snoc (Tups.snoc (Tups.snoc (Tups.nil) (by walk_at "mem")) (by walk_at "mem")) (by walk_at "mem")) (by walk_at "mem")) (by walk_at "mem")) (by walk_at "mem")) (by walk_at "mem")) (by walk_at "mem")
  with_reducible refine VG.to ((sh, .lst [Value.ref a0, Value.ref a1, Value.ref a2, Value.ref a3, Value.ref a4, Value.ref a5, Value.ref a6, Value.ref a7]) :: (ua, .lst (unseenL.map intV)) :: (L, .ns [(Str.ofString "seed", .int sd 0), (Str.ofString "unseen", .ref ua), (Str.ofString "shop", .ref sh)]) :: (L + 2, .cell none) :: (L + 1, .cell (some (.str x 0))) :: ([(a7, Ch.tup [Value.str (Str.ofString "i") 0, Value.int 8464 0]), (a6, Ch.tup [Value.str (Str.ofString "i") 0, Value.int 73 0]), (a5, Ch.tup [Value.str (Str.ofString "f") 0, Value.int 102 0]), (a4, Ch.tup [Value.str (Str.ofString "f") 0, Value.int 119813 0]), (a3, Ch.tup [Value.str (Str.ofString "f") 0, Value.int 70 0]), (a2, Ch.tup [Value.str (Str.ofString "fi") 0, Value.int 64257 0]), (a1, Ch.tup [Value.str (Str.ofString "ff") 0, Value.int 64256 0]), (a0, Ch.tup [Value.str (Str.ofString "ffi") 0, Value.int 64259 0])] ++ S)) (by simp only [List.cons_append, List.nil_append]; walk_at "pk") ?_
  generalize [(a7, Ch.tup [Value.str (Str.ofString "i") 0, Value.int 8464 0]), (a6, Ch.tup [Value.str (Str.ofString "i") 0, Value.int 73 0]), (a5, Ch.tup [Value.str (Str.ofString "f") 0, Value.int 102 0]), (a4, Ch.tup [Value.str (Str.ofString "f") 0, Value.int 119813 0]), (a3, Ch.tup [Value.str (Str.ofString "f") 0, Value.int 70 0]), (a2, Ch.tup [Value.str (Str.ofString "fi") 0, Value.int 64257 0]), (a1, Ch.tup [Value.str (Str.ofString "ff") 0, Value.int 64256 0]), (a0, Ch.tup [Value.str (Str.ofString "ffi") 0, Value.int 64259 0])] = T₀ at hT
  generalize [Value.ref a0, Value.ref a1, Value.ref a2, Value.ref a3, Value.ref a4, Value.ref a5, Value.ref a6, Value.ref a7] = xs₀ at hT
  exact rest L A' sh ua T₀ xs₀ hA' hd1 hT
end

section
open PySem PyProof.Rows PySem.Calls PySem.W PySem.Spec

theorem join_emp : ∀ ss : List Str, Txt.join (Str.ofString "") ss = ⟨(ss.flatMap fun s => s.cps.toList).toArray⟩ := by
  intro ss
  show Builtin.Str.glued _ ss = _
  rw [StrLaws.glued_eq_join]
  induction ss with
  | nil => rfl
  | cons a r ih =>
    cases r with
    | nil => simp [Str.join]
    | cons b r =>
      show a ++ Str.ofString "" ++ Str.join (Str.ofString "") (b :: r) = _
      rw [ih]
      show (⟨a.cps ++ #[] ++ _⟩ : Str) = _
      congr 1
      apply Array.toList_inj.mp
      simp
theorem joinOk_emp {ss : List Str} (h : (ss.map (·.length)).sum ≤ 1000000) : JoinOk (Str.ofString "") ss = true := by
  unfold JoinOk Builtin.Str.tooLong
  rw [StrLaws.joinTotal, show (Str.ofString "").length = 0 from rfl, sizeLine_eq]
  simp
  omega
noncomputable def pcs (cs : List Nat) : List Nat := (prepL cs).flatMap fun s => s.cps.toList
theorem prep_pcs (cs : List Nat) : prep ⟨cs.toArray⟩ = ⟨(pcs cs).toArray⟩ := by
  unfold prep pcs; rw [join_emp]
theorem pcs_append (a b : List Nat) : pcs (a ++ b) = pcs a ++ pcs b := by simp [pcs, prepL]
theorem prepL_append (a b : List Nat) : prepL (a ++ b) = prepL a ++ prepL b := by simp [prepL]
theorem pcs_len (cs : List Nat) : ((prepL cs).map (·.length)).sum = (pcs cs).length := by
  unfold pcs
  generalize prepL cs = l
  induction l with
  | nil => rfl
  | cons a r ih => simp [ih, Str.length]

noncomputable def isFI (x : Str) : Prop := (∀ c ∈ x.cps.toList, c = 102 ∨ c = 105) ∧ 0 < x.length ∧ x.length ≤ 16
noncomputable def fits (x : Str) (i : Nat) (p : Str × Int) : Bool := (x.cps.toList.drop i).take p.1.length == p.1.cps.toList
noncomputable def okc : List Nat := (shopL.map (·.2.toNat)) ++ unseenL.map (·.toNat)
theorem shop_pcs : (shopL.all fun p => pcs [p.2.toNat] == p.1.cps.toList) = true := by decide +kernel
theorem unseen_pcs : (unseenL.all fun c => pcs [c.toNat] == []) = true := by decide +kernel
theorem okc_chr : (okc.all fun c => !(decide ((c : Int) < 0) || decide ((c : Int) > 0x10FFFF))) = true := by decide +kernel
theorem okc_ok : (okc.all fun c => decide (c ≠ 10) && decide (c ≠ 34) && decide (c ≠ 92) && !isWs c) = true := by decide +kernel
theorem okc_low : (okc.all fun c => decide ((Txt.lower ⟨#[c]⟩).length ≤ 100)) = true := by decide +kernel
theorem slice_fits (x : Str) (i : Nat) (p : Str × Int) : (Txt.slice x (some (i : Int)) (some ((i : Int) + (p.1.length : Nat))) == p.1) = fits x i p := by
  rw [show (i : Int) + (p.1.length : Nat) = ((i + p.1.length : Nat) : Int) by omega, slice_nat x (Nat.le_add_right _ _), Nat.add_sub_cancel_left]
  unfold fits
  rw [Bool.eq_iff_iff, beq_iff_eq, beq_iff_eq]
  constructor
  · intro e; have := congrArg (fun s : Str => s.cps.toList) e; exact this
  · intro e; rw [e]
theorem shop_len : ∀ p ∈ shopL, p.1.length ≤ 3 := by decide
theorem shop_pos : ∀ p ∈ shopL, 0 < p.1.length := by decide
theorem fits_len {x : Str} (hx : isFI x) {i : Nat} (hi : i < x.length) : shopL.filter (fits x i) ≠ [] ∧ ∀ p ∈ shopL.filter (fits x i), i + p.1.length ≤ x.length ∧ 0 < p.1.length ∧ x.cps.toList.take (i + p.1.length) = x.cps.toList.take i ++ p.1.cps.toList := by
  have hl : x.cps.toList.length = x.length := Array.length_toList
  refine ⟨fun e => ?_, fun p hp => ?_⟩
  · have hc := hx.1 (x.cps.toList[i]'(by omega)) (List.getElem_mem _)
    have hd : (x.cps.toList.drop i).take 1 = [x.cps.toList[i]'(by omega)] := by
      rw [List.drop_eq_getElem_cons (by omega)]; rfl
    rcases hc with hc | hc
    · have : (Str.ofString "f", (70 : Int)) ∈ shopL.filter (fits x i) := List.mem_filter.mpr ⟨by decide, by
        unfold fits
        rw [show (Str.ofString "f").length = 1 by decide]
        show ((x.cps.toList.drop i).take 1 == _) = true
        rw [hd, hc]; decide⟩
      rw [e] at this; cases this
    · have : (Str.ofString "i", (73 : Int)) ∈ shopL.filter (fits x i) := List.mem_filter.mpr ⟨by decide, by
        unfold fits
        rw [show (Str.ofString "i").length = 1 by decide]
        show ((x.cps.toList.drop i).take 1 == _) = true
        rw [hd, hc]; decide⟩
      rw [e] at this; cases this
  · obtain ⟨hp1, hp2⟩ := List.mem_filter.mp hp
    have h2 := beq_iff_eq.mp hp2
    have h3 := congrArg List.length h2
    rw [List.length_take, List.length_drop, hl, Array.length_toList] at h3
    have h4 := shop_pos p hp1
    have h5 : p.1.cps.size = p.1.length := rfl
    refine ⟨by omega, h4, ?_⟩
    rw [List.take_add]
    congr 1
theorem shop_ok : ∀ p ∈ shopL, pcs [p.2.toNat] = p.1.cps.toList ∧ p.2.toNat ∈ okc ∧ (decide (p.2 < 0) || decide (p.2 > 0x10FFFF)) = false := by
  intro p hp
  refine ⟨beq_iff_eq.mp (List.all_eq_true.mp shop_pcs p hp), List.mem_append_left _ (List.mem_map.mpr ⟨p, hp, rfl⟩), ?_⟩
  revert p; decide
theorem unseen_ok : ∀ c ∈ unseenL, pcs [c.toNat] = [] ∧ c.toNat ∈ okc ∧ (decide (c < 0) || decide (c > 0x10FFFF)) = false := by
  intro c hc
  refine ⟨beq_iff_eq.mp (List.all_eq_true.mp unseen_pcs c hc), List.mem_append_right _ (List.mem_map.mpr ⟨c, hc, rfl⟩), ?_⟩
  revert c; decide
end

section
open PySem PyProof.Rows PySem.Calls PySem.W PySem.Spec
variable {w : World} {A : Around} {C : Cx} {S S' : St} {env : Env}
noncomputable def itsOf (cs : List Nat) : List (Bool × Nat) := cs.map fun c => (c % 2 == 1, c)
noncomputable def IsWord (x : Str) (t : List Nat) : Prop := ∃ cs : List Nat, cs ≠ [] ∧ (∀ c ∈ cs, c ∈ okc) ∧ pcs cs = x.cps.toList ∧ cs.length ≤ 32 ∧ (t = 34 :: (spell (itsOf cs) ++ [34]) ∨ ∃ bl, isWs bl = true ∧ t = spell (itsOf cs) ++ [bl])
theorem word_len {cs : List Nat} {c : Nat} (h : cs.length ≤ 100) : (⟨cs.toArray⟩ : Str).length + (⟨#[c]⟩ : Str).length ≤ sizeLine := by
  rw [sizeLine_eq]; show cs.toArray.size + 1 ≤ _; rw [List.size_toArray]; omega
theorem word_cat (cs : List Nat) (c : Nat) : (⟨cs.toArray⟩ ++ ⟨#[c]⟩ : Str) = ⟨(cs ++ [c]).toArray⟩ := by
  show (⟨cs.toArray ++ #[c]⟩ : Str) = _; simp
theorem word_mid (g : G w C) {A' : Around} (hA' : A'.handled = none) {x : Str} {sd : Int} (hx : isFI x) (h0 : 0 ≤ sd) {L sh ua : Addr} {T : St} {xs : List Value} (hT : Tups T xs shopL) {Φ : Flow → St → Prop}
    (rest : ∀ cs s', pcs cs = x.cps.toList → (∀ c ∈ cs, c ∈ okc) → cs ≠ [] → cs.length ≤ 32 → 0 ≤ s' → s' < 65537 → VF (model pw w) A' C ((L, .ns [(Str.ofString "seed", intV s'), (Str.ofString "unseen", .ref ua), (Str.ofString "shop", .ref sh), (Str.ofString "word", .str ⟨cs.toArray⟩ 0)]) :: (L + 2, .cell (some (intV (x.length : Nat)))) :: (L + 1, .cell (some (.str x 0))) :: (sh, .lst xs) :: (ua, .lst (unseenL.map intV)) :: (T ++ S))
      (execs ((dBody (st 13)).drop 4) (envF fd146 L 146 (cs146 L))) Φ) :
    VF (model pw w) A' C ((sh, .lst xs) :: (ua, .lst (unseenL.map intV)) :: (L, .ns [(Str.ofString "seed", .int sd 0), (Str.ofString "unseen", .ref ua), (Str.ofString "shop", .ref sh)]) :: (L + 2, .cell none) :: (L + 1, .cell (some (.str x 0))) :: (T ++ S))
      (execs ((dBody (st 13)).drop 2) (envF fd146 L 146 (cs146 L))) Φ := by
  change VG _ _ _ _ _ (execs (_ :: _) _) _
  with_reducible refine V.execs_cons ?_
  first
  | with_reducible refine V.assign_tup ?_
  | with_reducible refine V.assign_swapped ?_
  repeat walk_at "V"
  refine ⟨by walk_at "dec", fun ta => ?_⟩
  with_reducible refine V.assign_pair hA' (by walk_at "mem") fun x' hx' y' hy' => ?_
  with_reducible refine V.assign_Name ?_
  revert x'
  walk_at "store"
  with_reducible refine V.assign_Name ?_
  revert y'
  walk_at "store"
  dsimp only
  have hxl : x.length ≤ 16 := hx.2.2
  with_reducible refine VG.to ((L, .ns [(Str.ofString "seed", .int sd 0), (Str.ofString "unseen", .ref ua), (Str.ofString "shop", .ref sh), (Str.ofString "word", .str (Str.ofString "") 0)]) :: (L + 2, .cell (some (.int 0 0))) :: (L + 1, .cell (some (.str x 0))) :: (sh, .lst xs) :: (ua, .lst (unseenL.map intV)) :: (T ++ S)) (by walk_at "pk") ?_
  walk_at "V"
  with_reducible refine V.whileI (fun n S' => ∃ (i : Nat) (cs : List Nat) (s' : Int), n = x.length - i ∧ i ≤ x.length ∧ pcs cs = x.cps.toList.take i ∧ (∀ c ∈ cs, c ∈ okc) ∧ (i = 0 ∨ (cs ≠ [] ∧ s' < 65537)) ∧ cs.length ≤ 2 * i ∧ 0 ≤ s' ∧ S' = (L, .ns [(Str.ofString "seed", intV s'), (Str.ofString "unseen", .ref ua), (Str.ofString "shop", .ref sh), (Str.ofString "word", .str ⟨cs.toArray⟩ 0)]) :: (L + 2, .cell (some (intV i))) :: (L + 1, .cell (some (.str x 0))) :: (sh, .lst xs) :: (ua, .lst (unseenL.map intV)) :: (T ++ S)) x.length ⟨0, [], sd, by simp, by simp, rfl, by simp, .inl rfl, by simp, h0, by with_unfolding_all rfl⟩ ?_
  rintro n S' ⟨i, cs, s', rfl, hi, hpc, hok, hne, hcl, hs0, rfl⟩
  repeat walk_at "V"
  have hxz : x.length ≤ sizeLine := by rw [sizeLine_eq]; omega
  refine ⟨.builtin, fun v hv => V.len_str hv hxz ?_⟩
  walk_at "V"
  refine ⟨_, rfl, fun hb => ?_, fun hb => ?_⟩
  · have hlt : i < x.length := by have := of_decide_eq_true hb; omega
    walk_at "V"
    with_reducible refine V.assign_comp (cl := [(Str.ofString "plain", L + 1), (Str.ofString "place", L + 2)]) (by kernel_rfl) ?_
    walk_at "V"
    intro x' hx'
    obtain rfl := nt_ref hx'
    with_reducible refine V.iter_list (.lst (by walk_at "mem")) fun it => ?_
    intro it' hit acc L'
    obtain rfl := nt_ref hit
    with_reducible refine V.compStart ?_ (V.iter_lit (by walk_at "mem") ⟨rfl, rfl⟩)
    have hx18 : xs.length = 8 := hT.1
    with_reducible refine V.compI (c := fun j => .lit sh j) (item := fun j => xs.getD j .none) (n := xs.length) (fun j ys S' => ∃ T', S' = (L, .ns [(Str.ofString "seed", intV s'), (Str.ofString "unseen", .ref ua), (Str.ofString "shop", .ref sh), (Str.ofString "word", .str ⟨cs.toArray⟩ 0)]) :: (L + 2, .cell (some (intV i))) :: (L + 1, .cell (some (.str x 0))) :: (sh, .lst xs) :: (ua, .lst (unseenL.map intV)) :: (T' ++ (T ++ S)) ∧ Tups T' ys ((shopL.take j).filter (fits x i))) ?_ (by rw [sizeLine_eq]; simp only [List.length_nil]; omega) ⟨[], by with_unfolding_all rfl, Tups.nil⟩ ?_ ?_
    · rintro j ys S' ⟨T', rfl, _⟩
      exact It.list hA' fun c => .lst (by walk_at "mem")
    · rintro j ys S' hj ⟨T', rfl, hT'⟩ u hu
      obtain ⟨p, hp⟩ : ∃ p, shopL[j]? = some p := ⟨_, List.getElem?_eq_getElem (by rw [← hT.1]; exact hj)⟩
      obtain ⟨b, hb1, hb2⟩ := hT.2 j p hp
      rw [List.getD_eq_getElem?_getD, hb1, Option.getD_some] at hu
      have hpm : p ∈ shopL := List.mem_of_getElem? hp
      have hpl : p.1.length ≤ sizeLine := by have := shop_len p hpm; rw [sizeLine_eq]; omega
      with_reducible refine V.own_lit (by walk_at "mem") ?_
      revert u
      with_reducible refine V.assign_pair hA' (by (repeat (with_reducible apply List.mem_cons_of_mem)); exact List.mem_append_right _ (List.mem_append_left _ hb2)) fun x' hx' y' hy' => ?_
      with_reducible refine V.assign_Name ?_
      revert x'
      walk_at "store"
      with_reducible refine V.assign_Name ?_
      revert y'
      walk_at "store"
      with_reducible refine V.tests_one ?_
      repeat walk_at "V"
      refine ⟨.builtin, fun v hv => V.len_str hv hpl ?_⟩
      repeat walk_at "V"
      refine ⟨some (i : Int), some ((i : Int) + (p.1.length : Nat)), rfl, rfl, fun sl => ?_⟩
      refine V.tail_str_slice (by walk_at "mem") hxz ?_
      repeat walk_at "V"
      rw [slice_fits]
      refine ⟨_, rfl, fun hb => ?_, fun hb => ?_⟩
      · repeat walk_at "V"
        refine ⟨by walk_at "dec", fun tt => ?_⟩
        refine ⟨(L, .ns [(Str.ofString "seed", intV s'), (Str.ofString "unseen", .ref ua), (Str.ofString "shop", .ref sh), (Str.ofString "word", .str ⟨cs.toArray⟩ 0)]) :: (L + 2, .cell (some (intV i))) :: (L + 1, .cell (some (.str x 0))) :: (sh, .lst xs) :: (ua, .lst (unseenL.map intV)) :: ((tt, .tup [.str p.1 0, intV p.2]) :: (T' ++ (T ++ S))), by walk_at "pk", (tt, .tup [.str p.1 0, intV p.2]) :: T', by with_unfolding_all rfl, ?_⟩
        rw [take_snoc hp, List.filter_append, show [p].filter (fits x i) = [p] by simp [hb]]
        exact (hT'.mono (List.subset_cons_self _ _)).snoc List.mem_cons_self
      · refine ⟨(L, .ns [(Str.ofString "seed", intV s'), (Str.ofString "unseen", .ref ua), (Str.ofString "shop", .ref sh), (Str.ofString "word", .str ⟨cs.toArray⟩ 0)]) :: (L + 2, .cell (some (intV i))) :: (L + 1, .cell (some (.str x 0))) :: (sh, .lst xs) :: (ua, .lst (unseenL.map intV)) :: (T' ++ (T ++ S)), by walk_at "pk", T', rfl, ?_⟩
        rw [take_snoc hp, List.filter_append, show [p].filter (fits x i) = [] by simp [hb], List.append_nil]
        exact hT'
    · rintro ys S' ⟨T', rfl, hT'⟩
      rw [List.take_of_length_le (by rw [hT.1]; exact Nat.le_refl _)] at hT'
      with_reducible refine V.st_ref (by walk_at "upd") (by walk_at "set") ?_
      refine ⟨_, _, .head, ?_⟩
      dsimp only
      repeat walk_at "V"
      obtain ⟨hf1, hf2⟩ := fits_len hx hlt
      have hps : ∀ p ∈ shopL.filter (fits x i), p ∈ shopL := fun p hp => (List.mem_filter.mp hp).1
      have hpz : (shopL.filter (fits x i)).length ≤ 8 := List.length_filter_le _ _
      generalize shopL.filter (fits x i) = ps at hT' hf1 hf2 hps hpz
      have hpp : 0 < ps.length := List.length_pos_iff.mpr hf1
      have hyz : ys.length ≤ sizeLine := by rw [hT'.1, sizeLine_eq]; omega
      refine ⟨.builtin, fun v hv => V.len_list hv (.lst (by walk_at "mem")) hyz ?_⟩
      rw [hT'.1]
      with_reducible refine VO.mod_int ?_ (by omega)
      obtain ⟨k, hk, hkn⟩ := fmod_nat (a := s') hpp
      rw [hk]
      obtain ⟨p, hp⟩ : ∃ p, ps[k]? = some p := ⟨_, List.getElem?_eq_getElem hkn⟩
      obtain ⟨b, hb1, hb2⟩ := hT'.2 k p hp
      have hpm := List.mem_of_getElem? hp
      obtain ⟨hp1, hp2, hp3⟩ := hf2 p hpm
      obtain ⟨hs1, hs2, hs3⟩ := shop_ok p (hps p hpm)
      with_reducible refine V.tail_nat (.lst (by walk_at "mem")) hb1 hyz ?_
      with_reducible refine V.assign_pair hA' (by (repeat (with_reducible apply List.mem_cons_of_mem)); exact List.mem_append_left _ hb2) fun x' hx' y' hy' => ?_
      with_reducible refine V.assign_Name ?_
      revert x'
      walk_at "store"
      with_reducible refine V.assign_Name ?_
      revert y'
      walk_at "store"
      dsimp only
      repeat walk_at "V"
      refine ⟨.builtin, fun v hv => V.chr hv hs3 ?_⟩
      with_reducible refine VO.iadd_str ?_ (word_len (by omega))
      rw [word_cat]
      walk_at "store"
      dsimp only
      repeat walk_at "V"
      have hpl : p.1.length ≤ sizeLine := by have := shop_len p (hps p hpm); rw [sizeLine_eq]; omega
      refine ⟨.builtin, fun v hv => V.len_str hv hpl ?_⟩
      walk_at "V"
      rw [show (i : Int) + (p.1.length : Nat) = ((i + p.1.length : Nat) : Int) by omega]
      walk_at "store"
      dsimp only
      repeat walk_at "V"
      with_reducible refine VO.fdiv_int ?_ (by decide) (by decide)
      repeat walk_at "V"
      with_reducible refine VO.mod_int ?_ (by decide)
      repeat walk_at "V"
      refine ⟨_, rfl, fun hb => ?_, fun hb => ?_⟩
      · repeat walk_at "V"
        with_reducible refine VO.fdiv_int ?_ (by decide) (by decide)
        repeat walk_at "V"
        with_reducible refine VO.mod_int ?_ (by decide)
        obtain ⟨k2, hk2, hk2n⟩ := fmod_nat (a := s'.fdiv 72) (n := 27) (by decide)
        rw [show (s'.fdiv 72).fmod 27 = (k2 : Int) from hk2]
        obtain ⟨c, hc⟩ : ∃ c, unseenL[k2]? = some c := ⟨_, List.getElem?_eq_getElem hk2n⟩
        obtain ⟨hc1, hc2, hc3⟩ := unseen_ok c (List.mem_of_getElem? hc)
        with_reducible refine V.tail_nat (.lst (by walk_at "mem")) (by rw [List.getElem?_map, hc, Option.map_some]) (by decide) ?_
        refine ⟨.builtin, fun v hv => V.chr hv hc3 ?_⟩
        with_reducible refine VO.iadd_str ?_ (word_len (by simp only [List.length_append, List.length_cons, List.length_nil]; omega))
        rw [word_cat]
        walk_at "store"
        dsimp only
        repeat walk_at "V"
        with_reducible refine VO.mul_int ?_ (.of_right (by decide))
        repeat walk_at "V"
        with_reducible refine VO.mod_int ?_ (by decide)
        walk_at "store"
        dsimp only
        repeat walk_at "V"
        refine ⟨x.length - (i + p.1.length), (L, .ns [(Str.ofString "seed", intV ((s' * 75 + 74).fmod 65537)), (Str.ofString "unseen", .ref ua), (Str.ofString "shop", .ref sh), (Str.ofString "word", .str ⟨(cs ++ [p.2.toNat] ++ [c.toNat]).toArray⟩ 0)]) :: (L + 2, .cell (some (intV ((i + p.1.length : Nat) : Int)))) :: (L + 1, .cell (some (.str x 0))) :: (sh, .lst xs) :: (ua, .lst (unseenL.map intV)) :: (T ++ S), by omega, by walk_at "pk", i + p.1.length, cs ++ [p.2.toNat] ++ [c.toNat], (s' * 75 + 74).fmod 65537, rfl, hp1, ?_, ?_, .inr ⟨by simp, ?_⟩, ?_, ?_, rfl⟩
        · rw [pcs_append, pcs_append, hpc, hs1, hc1, List.append_nil, hp3]
        · intro d hd; simp only [List.mem_append, List.mem_singleton] at hd; rcases hd with (hd | rfl) | rfl; (exact hok d hd); (exact hs2); exact hc2
        · rw [Int.fmod_eq_emod_of_nonneg _ (by decide)]; exact Int.emod_lt_of_pos _ (by decide)
        · simp only [List.length_append, List.length_cons, List.length_nil]; omega
        · rw [Int.fmod_eq_emod_of_nonneg _ (by decide)]; exact Int.emod_nonneg _ (by decide)
      · repeat walk_at "V"
        dsimp only
        repeat walk_at "V"
        with_reducible refine VO.mul_int ?_ (.of_right (by decide))
        repeat walk_at "V"
        with_reducible refine VO.mod_int ?_ (by decide)
        walk_at "store"
        dsimp only
        repeat walk_at "V"
        refine ⟨x.length - (i + p.1.length), (L, .ns [(Str.ofString "seed", intV ((s' * 75 + 74).fmod 65537)), (Str.ofString "unseen", .ref ua), (Str.ofString "shop", .ref sh), (Str.ofString "word", .str ⟨(cs ++ [p.2.toNat]).toArray⟩ 0)]) :: (L + 2, .cell (some (intV ((i + p.1.length : Nat) : Int)))) :: (L + 1, .cell (some (.str x 0))) :: (sh, .lst xs) :: (ua, .lst (unseenL.map intV)) :: (T ++ S), by omega, by walk_at "pk", i + p.1.length, cs ++ [p.2.toNat], (s' * 75 + 74).fmod 65537, rfl, hp1, ?_, ?_, .inr ⟨by simp, ?_⟩, ?_, ?_, rfl⟩
        · rw [pcs_append, hpc, hs1, hp3]
        · intro d hd; simp only [List.mem_append, List.mem_singleton] at hd; rcases hd with hd | rfl; (exact hok d hd); exact hs2
        · rw [Int.fmod_eq_emod_of_nonneg _ (by decide)]; exact Int.emod_lt_of_pos _ (by decide)
        · simp only [List.length_append, List.length_cons, List.length_nil]; omega
        · rw [Int.fmod_eq_emod_of_nonneg _ (by decide)]; exact Int.emod_nonneg _ (by decide)
  · have hi' : i = x.length := by have := of_decide_eq_false hb; omega
    subst hi'
    walk_at "V"
    dsimp only
    have hxp : 0 < x.length := hx.2.1
    obtain ⟨hn1, hn2⟩ := hne.resolve_left (by omega)
    exact rest cs s' (by rw [hpc]; exact List.take_of_length_le (Nat.le_refl _)) hok hn1 (by omega) hs0 hn2
end

section
open PySem PyProof.Rows PySem.Calls PySem.W PySem.Spec
variable {w : World} {A : Around} {C : Cx} {S S' : St} {env : Env}
noncomputable def esc (c : Nat) : Str := if c % 2 == 1 then ⟨#[92, c]⟩ else ⟨#[c]⟩
theorem spell_esc (cs : List Nat) : (cs.map esc).flatMap (fun s => s.cps.toList) = spell (itsOf cs) := by
  unfold spell itsOf
  rw [List.flatMap_map, List.flatMap_map]
  congr 1; funext c
  unfold esc
  cases c % 2 == 1 <;> rfl
theorem esc_sum (cs : List Nat) : ((cs.map esc).map (·.length)).sum ≤ 2 * cs.length := by
  induction cs with
  | nil => simp
  | cons c cs ih =>
    simp only [List.map_cons, List.sum_cons, List.length_cons]
    have : (esc c).length ≤ 2 := by unfold esc; split <;> simp [Str.length]
    omega
theorem spell_le (cs : List Nat) : (spell (itsOf cs)).length ≤ 2 * cs.length := by
  rw [← spell_esc]
  have h := esc_sum cs
  have e : ((cs.map esc).flatMap fun s => s.cps.toList).length = ((cs.map esc).map (·.length)).sum := by
    rw [List.length_flatMap]; simp [Str.length]
  omega
theorem It.strL {prog : Program} {it : Addr} {cs : List Nat} (hA : A.handled = none) : It prog w A C it (fun i => .sit ⟨cs.toArray⟩ i) (fun i => .str ⟨#[cs.getD i 0]⟩ 0) cs.length S := by
  have h := It.str (prog := prog) (w := w) (A := A) (C := C) (it := it) (x := ⟨cs.toArray⟩) (S := S) hA
  have e : (fun i => Value.str ⟨#[(⟨cs.toArray⟩ : Str).cps.getD i 0]⟩ 0) = (fun i => Value.str ⟨#[cs.getD i 0]⟩ 0) := by
    funext i; simp [Array.getD_eq_getD_getElem?]
  rw [e] at h
  exact h
theorem esc_true {c : Nat} (h : ((c : Int).fmod 2 == 1) = true) : (Str.ofString "\\" ++ ⟨#[c]⟩ : Str) = esc c := by
  have : (c % 2 == 1) = true := by
    rw [beq_iff_eq] at h ⊢
    rw [Int.fmod_eq_emod_of_nonneg _ (by decide)] at h; omega
  unfold esc; rw [if_pos this]; rfl
theorem esc_false {c : Nat} (h : ((c : Int).fmod 2 == 1) = false) : (⟨#[c]⟩ : Str) = esc c := by
  have : ¬ (c % 2 == 1) = true := by
    rw [beq_iff_eq]; rw [beq_eq_false_iff_ne] at h
    rw [Int.fmod_eq_emod_of_nonneg _ (by decide)] at h; omega
  unfold esc; rw [if_neg this]
theorem str_len (l : List Nat) : (⟨l.toArray⟩ : Str).length = l.length := by show l.toArray.size = _; simp
theorem quote_eq (sp : List Nat) : (Str.ofString "\"" ++ ⟨sp.toArray⟩ ++ Str.ofString "\"" : Str) = ⟨(34 :: (sp ++ [34])).toArray⟩ := by
  show (⟨#[34] ++ sp.toArray ++ #[34]⟩ : Str) = _
  congr 1; apply Array.toList_inj.mp; simp
theorem ws_at : ∀ k, k < 4 → ∃ c, (Str.ofString "\n\t\r ").cps[k]? = some c ∧ isWs c = true := by
  intro k hk
  have : k = 0 ∨ k = 1 ∨ k = 2 ∨ k = 3 := by omega
  rcases this with rfl | rfl | rfl | rfl
  · exact ⟨10, by decide, by decide +kernel⟩
  · exact ⟨9, by decide, by decide +kernel⟩
  · exact ⟨13, by decide, by decide +kernel⟩
  · exact ⟨32, by decide, by decide +kernel⟩
@[reducible] noncomputable def strV (x : Str) : Value := .str x 0
theorem word (g : G w C) (hA : A.handled = none) (hd : A.depth + 1 < recursionLimit) {x : Str} {sd : Int} {v u : Value} (hx : isFI x) (hv : nt v = .str x 0) (hu : nt u = .int sd 0) (h0 : 0 ≤ sd) {Φ : Value → St → Prop}
    (h : ∀ a t s', IsWord x t.cps.toList → 0 ≤ s' → s' < 65537 → Φ (.ref a) ((a, .tup [.str t 0, .int s' 0]) :: S)) : VC (model pw w) A C S (.call (.ref 146) ⟨[v, u], []⟩) Φ := by
  refine word_head g hA hd hv hu fun L A' sh ua T xs hA' hd' hT => word_mid g hA' hx h0 hT fun cs s' hpc hok hne hcl hs0 hs1 => ?_
  change VG _ _ _ _ _ (execs (_ :: _) _) _
  with_reducible refine V.execs_cons (V.assign_name (V.call_meth ?_))
  repeat walk_at "V"
  intro ov hov
  with_reducible refine V.meth_str hov PySem.F.slot_str_join PySem.F.type_str_join ?_
  with_reducible refine V.cw1 ?_
  with_reducible refine V.listcomp (cl := []) (by kernel_rfl) ?_
  repeat walk_at "V"
  intro x' hx'
  obtain ⟨t, rfl⟩ := nt_str hx'
  refine V.iter_str fun it => ?_
  intro it' hit acc L'
  obtain rfl := nt_ref hit
  with_reducible refine V.compStart ?_ (V.iter_sit (by walk_at "mem") ⟨rfl, rfl⟩)
  have hcz : cs.length ≤ sizeLine := by rw [sizeLine_eq]; omega
  with_reducible refine VK.to ((L', .ns []) :: (acc, .lst []) :: (it, .sit ⟨cs.toArray⟩ 0) :: (L, .ns [(Str.ofString "seed", intV s'), (Str.ofString "unseen", .ref ua), (Str.ofString "shop", .ref sh), (Str.ofString "word", .str ⟨cs.toArray⟩ 0)]) :: S) (by walk_at "pk") ?_
  with_reducible refine V.compI (c := fun i => .sit ⟨cs.toArray⟩ i) (item := fun i => .str ⟨#[cs.getD i 0]⟩ 0) (n := cs.length) (fun j ys S' => ys = ((cs.take j).map esc).map strV ∧ S' = (L, .ns [(Str.ofString "seed", intV s'), (Str.ofString "unseen", .ref ua), (Str.ofString "shop", .ref sh), (Str.ofString "word", .str ⟨cs.toArray⟩ 0)]) :: S) ?_ (by rw [List.length_nil, Nat.zero_add]; exact hcz) ⟨by with_unfolding_all rfl, rfl⟩ ?_ ?_
  · rintro j ys S' ⟨_, rfl⟩
    exact It.strL hA'
  · rintro j ys S' hj ⟨rfl, rfl⟩ u hu
    obtain ⟨c, hc⟩ : ∃ c, cs[j]? = some c := ⟨_, List.getElem?_eq_getElem hj⟩
    rw [List.getD_eq_getElem?_getD, hc, Option.getD_some] at hu
    with_reducible refine V.own_name ?_
    with_reducible refine V.assign_Name ?_
    revert u
    walk_at "store"
    with_reducible refine V.tests_nil ?_
    refine ⟨fun _ => ?_, fun hb => by cases hb⟩
    repeat walk_at "V"
    refine ⟨.builtin, fun v hv => V.ord hv ?_⟩
    repeat walk_at "V"
    with_reducible refine VO.mod_int ?_ (by decide)
    repeat walk_at "V"
    refine ⟨_, rfl, fun hb => ?_, fun hb => ?_⟩
    · repeat walk_at "V"
      with_reducible refine VO.add_str ?_ (by walk_at "dec")
      rw [esc_true hb]
      refine ⟨(L, .ns [(Str.ofString "seed", intV s'), (Str.ofString "unseen", .ref ua), (Str.ofString "shop", .ref sh), (Str.ofString "word", .str ⟨cs.toArray⟩ 0)]) :: S, by walk_at "pk", ?_, rfl⟩
      rw [take_snoc hc, List.map_append, List.map_append]; rfl
    · repeat walk_at "V"
      rw [esc_false hb]
      refine ⟨(L, .ns [(Str.ofString "seed", intV s'), (Str.ofString "unseen", .ref ua), (Str.ofString "shop", .ref sh), (Str.ofString "word", .str ⟨cs.toArray⟩ 0)]) :: S, by walk_at "pk", ?_, rfl⟩
      rw [take_snoc hc, List.map_append, List.map_append]; rfl
  rintro ys S' ⟨rfl, rfl⟩
  rw [List.take_length]
  refine ⟨_, _, .head, ?_⟩
  refine ⟨.builtin, fun v hv => ?_⟩
  obtain rfl := nt_ref hv
  refine V.join hov (.lst (by walk_at "mem")) (joinOk_emp (Nat.le_trans (esc_sum cs) (by omega))) ?_
  rw [join_emp, spell_esc]
  have hsl := spell_le cs
  generalize hsp : spell (itsOf cs) = sp at hsl
  walk_at "store"
  dsimp only
  repeat walk_at "V"
  with_reducible refine VO.fdiv_int ?_ (by decide) (by decide)
  repeat walk_at "V"
  with_reducible refine VO.mod_int ?_ (by decide)
  repeat walk_at "V"
  refine ⟨_, rfl, fun hb => ?_, fun hb => ?_⟩
  · repeat walk_at "V"
    have hl0 := str_len sp
    have hl1 : (Str.ofString "\"").length + (⟨sp.toArray⟩ : Str).length ≤ sizeLine := by
      have : (Str.ofString "\"").length = 1 := by decide
      rw [sizeLine_eq]; omega
    have hl2 : (Str.ofString "\"" ++ ⟨sp.toArray⟩ : Str).length + (Str.ofString "\"").length ≤ sizeLine := by
      have : (Str.ofString "\"").length = 1 := by decide
      rw [Str.length_append, sizeLine_eq]; omega
    with_reducible refine VO.add_str ?_ hl1
    repeat walk_at "V"
    with_reducible refine VO.add_str ?_ hl2
    rw [quote_eq]
    repeat walk_at "V"
    refine ⟨by walk_at "dec", fun ra => ?_⟩
    dsimp only
    exact ⟨_, by walk_at "pk", h ra _ s' ⟨cs, hne, hok, hpc, by omega, .inl (by rw [hsp])⟩ hs0 hs1⟩
  · repeat walk_at "V"
    with_reducible refine VO.fdiv_int ?_ (by decide) (by decide)
    repeat walk_at "V"
    with_reducible refine VO.mod_int ?_ (by decide)
    obtain ⟨k, hk, hkn⟩ := fmod_nat (a := s'.fdiv 8) (n := 4) (by decide)
    rw [show (s'.fdiv 8).fmod 4 = (k : Int) from hk]
    obtain ⟨c, hc1, hc2⟩ := ws_at k hkn
    with_reducible refine V.tail_strN hc1 (by decide) ?_
    with_reducible refine VO.add_str ?_ (word_len (by omega))
    rw [word_cat]
    repeat walk_at "V"
    refine ⟨by walk_at "dec", fun ra => ?_⟩
    dsimp only
    exact ⟨_, by walk_at "pk", h ra _ s' ⟨cs, hne, hok, hpc, by omega, .inr ⟨c, hc2, by rw [hsp]⟩⟩ hs0 hs1⟩
end

section
open PySem PySem.W.X PyProof.Rows PySem.Calls PySem.W PySem.Spec
variable {w : World} {A : Around} {C : Cx} {S S' : St} {env : Env}
theorem G.fix (g : G w C) (X : Array GenState) : G w (C.fixG X) := ⟨g.K, ⟨g.t.1, g.t.2⟩, g.kb⟩
theorem V.c_bool {b : Bool} {k pos} {Φ : Value → St → Prop} (h : Φ (.bool b) S) : VP (model pw w) A C S (eval (.Constant (.bool b) k pos) env) Φ :=
  fun s Q E I hq => show wpAny (model pw w) A (pure (Value.bool b)) Q E s from wpAny_pure (hq _ _ _ I h)
noncomputable def gy (pre : List Int) (k : Nat) : Value := intV (pre.getD (min k (pre.length - 1)) 0)
noncomputable def gl0 (pre : List Int) (k : Nat) : Value := if k = 0 then .none else intV (pre.getD (k - 1) 0)
@[reducible] noncomputable def gNs (rl : Addr) (v : Value) : List (Str × Value) := [(Str.ofString "grouping", .ref rl), (Str.ofString "last_interval", v)]
@[reducible] noncomputable def gNs3 (rl : Addr) (v a : Value) : List (Str × Value) := [(Str.ofString "grouping", .ref rl), (Str.ofString "last_interval", v), (Str.ofString "interval", a)]
noncomputable def PostGS (w : World) (A : Around) (C : Cx) (pre : List Int) (n k : Nat) (S : St) (X : Array GenState) : End → Shared → Prop :=
  fun e s₁ => ∃ v T', e.result = .yielded v ∧ nt v = gy pre k ∧ Inv (C.fixG X) (T' ++ S) s₁ ∧ e.genState.bare = true ∧ GS pw w A C (gy pre) n (k + 1) e.genState T'
theorem GS.later {A : Around} {C : Cx} {pre : List Int} {n k : Nat} {l : List Value} {kk : Resume → Sem PySem.Fin} {c : Code} {p : Pos} {fs : List Frame} {b : Bool} {T : St} {t : Sem PySem.Fin}
    (hk : ∀ (s : Shared) (P : End → Shared → Prop), SegX (model pw w) A c t fs s P → SegX (model pw w) A c (kk (.send .none)) fs s P)
    (h : ∀ n' s S, n = n' + 1 → Inv (C.fixG s.gens) (T ++ S) s → SegX (model pw w) A c t fs s (PostGS w A C pre n' k S s.gens)) : GS pw w A C (gy pre) n k (.suspended kk l c p fs b) T := by
  cases n with
  | zero => trivial
  | succ n => exact ⟨c, _, fs, .inr ⟨kk, l, p, b, rfl, rfl⟩, fun s S I => hk s _ (h n s S rfl I)⟩
@[reducible] noncomputable def env92 (L : Addr) : Env := envF fd70 L 70 fd70.closure
noncomputable def forBody : Stmt → List Stmt
  | .For _ _ b _ _ => b
  | .While _ b _ _ => b
  | .If _ b _ _ => b
  | _ => []
noncomputable def forTarget : Stmt → Expr
  | .For t _ _ _ _ => t
  | .While t _ _ _ => t
  | s => .Constant .none 0 ⟨0, 0, 0, 0⟩
noncomputable def nth (l : List Stmt) (i : Nat) : Stmt := l.getD i (.Pass ⟨0, 0, 0, 0⟩)
noncomputable def for92 : Stmt := nth (dBody (st 5)) 1
noncomputable def whl92 : Stmt := nth (forBody (nth (forBody for92) 1)) 1
@[reducible] noncomputable def cf92 (L it : Addr) : Code := .forLoop (forTarget for92) (.ref it) (forBody for92) [] (env92 L)
@[reducible] noncomputable def cw92 (L : Addr) : Code := .whileLoop (forTarget whl92) (forBody whl92) [] (env92 L)
theorem gap_while (g : G w C) {rl L : Addr} {pre : List Int} (hp : pre ≠ []) {fs : List Frame} (hfs : splitAtGen fs = none) (hfg : fs.any Frame.guarded = false) : ∀ n k, pre.length ≤ k → ∀ s S, Inv (C.fixG s.gens) ((L, .ns (gNs rl (gl0 pre pre.length))) :: S) s →
    SegX (model pw w) A (cw92 L) ((model pw w).den (cw92 L)) fs s (PostGS w A C pre n k S s.gens) := by
  intro n
  induction n using Nat.strongRecOn with
  | _ n ih =>
  intro k hk s S I
  have gF := g.fix s.gens
  have hpl : 0 < pre.length := List.length_pos_iff.mpr hp
  have hy : gl0 pre pre.length = gy pre k := by
    unfold gl0 gy
    rw [if_neg (by omega), Nat.min_eq_right (by omega)]
  refine VX.whileLoop (C := C.fixG s.gens) ?_ s I
  change VB _ _ _ _ (isTrue (.Constant (.bool true) _ _) _ _) _
  refine V.t_plain (V.c_bool ?_)
  walk_at "V"
  refine ⟨rfl, ?_⟩
  change VX _ _ _ _ _ _ _ _ (Sem.wrap _ _ _ _ (execs (.Expr (.Yield (some _) _) _ :: []) _))
  refine VX.more (VX.yield hfs rfl hfg ?_)
  rw [hy]
  repeat walk_at "V"
  intro v' s' hv' I' l kk p hkk
  refine ⟨v', [(L, .ns (gNs rl (gy pre k)))], rfl, hv', I', by show (!(false || fs.any Frame.guarded)) = true; rw [hfg]; rfl, ?_⟩
  refine GS.later hkk fun n' s'' S'' e I'' => ?_
  refine VX.again (C := C.fixG s''.gens) (S := (L, .ns (gNs rl (gy pre k))) :: S'') rfl (fun s I => ?_) s'' I''
  rw [← hy] at I
  have eg : s.gens = s''.gens := I.gens
  rw [← eg] at I ⊢
  exact ih n' (by omega) (k + 1) (by omega) s S'' I
theorem gap_for (g : G w C) {rl L it : Addr} {pre : List Int} (hp : pre ≠ []) (hv : ∀ a ∈ pre, a ≠ 127 ∧ a ≠ 0) {fs : List Frame} (hfs : splitAtGen fs = none) (hfg : fs.any Frame.guarded = false) : ∀ n k, k ≤ pre.length → ∀ s S, Inv (C.fixG s.gens) ((L, .ns (gNs rl (gl0 pre k))) :: (rl, .lst (List.map intV (pre ++ [0]))) :: (it, .lit rl k) :: S) s →
    SegX (model pw w) A (cf92 L it) ((model pw w).den (cf92 L it)) fs s (PostGS w A C pre n k S s.gens) := by
  intro n
  induction n using Nat.strongRecOn with
  | _ n ih =>
  intro k hk s S I
  have gF := g.fix s.gens
  have hpl : 0 < pre.length := List.length_pos_iff.mpr hp
  suffices h : VX pw w A (C.fixG s.gens) (PostGS w A C pre n k S s.gens) (cf92 L it) fs ((L, .ns (gNs rl (gl0 pre k))) :: (rl, .lst (List.map intV (pre ++ [0]))) :: (it, .lit rl k) :: S) ((model pw w).den (cf92 L it)) from h s I
  refine VX.forLoop ?_
  by_cases hlt : k < pre.length
  · obtain ⟨a, ha⟩ : ∃ a, pre[k]? = some a := ⟨_, List.getElem?_eq_getElem hlt⟩
    obtain ⟨ha1, ha2⟩ := hv a (List.mem_of_getElem? ha)
    have hy : intV a = gy pre k := by
      unfold gy
      rw [Nat.min_eq_left (by omega), List.getD_eq_getElem?_getD, ha]; rfl
    have hy1 : intV a = gl0 pre (k + 1) := by
      unfold gl0
      rw [if_neg (by omega), Nat.add_sub_cancel, List.getD_eq_getElem?_getD, ha]; rfl
    with_reducible refine V.next_list (v := intV a) (by walk_at "upd") (.lst (by walk_at "mem")) (by rw [List.getElem?_map, List.getElem?_append_left hlt, ha, Option.map_some]) ?_
    dsimp only
    intro v' hv'
    change VG _ _ _ _ _ (assign (.Name _ _) _ _) _
    with_reducible refine V.assign_Name ?_
    revert v'
    walk_at "store"
    change VX _ _ _ _ _ _ _ _ (Sem.wrap _ _ _ _ (execs (.If _ _ _ _ :: .If _ _ _ _ :: .Expr (.Yield (some _) _) _ :: .Assign _ _ _ :: []) _))
    refine VX.more (VX.if_ ?_)
    repeat walk_at "V"
    refine ⟨_, rfl, fun hb => absurd (by simpa using hb) ha1, fun _ => ?_⟩
    refine VX.done ?_
    dsimp only
    refine VX.more (VX.if_ ?_)
    repeat walk_at "V"
    refine ⟨_, rfl, fun hb => absurd (by simpa using hb) ha2, fun _ => ?_⟩
    refine VX.done ?_
    dsimp only
    refine VX.more (VX.yield hfs rfl hfg ?_)
    repeat walk_at "V"
    intro v' s' hv' I' l kk p hkk
    refine ⟨v', [(L, .ns (gNs3 rl (gl0 pre k) (intV a))), (rl, .lst (List.map intV (pre ++ [0]))), (it, .lit rl (k + 1))], rfl, hv'.trans hy, I', by show (!(false || fs.any Frame.guarded)) = true; rw [hfg]; rfl, ?_⟩
    refine GS.later hkk fun n' s'' S'' e I'' => ?_
    have gF := g.fix s''.gens
    refine VX.more (C := C.fixG s''.gens) (S := (L, .ns (gNs3 rl (gl0 pre k) (intV a))) :: (rl, .lst (List.map intV (pre ++ [0]))) :: (it, .lit rl (k + 1)) :: S'') (VX.stmt ?_) s'' I''
    simp only [List.cons_append, List.nil_append]
    repeat walk_at "V"
    walk_at "store"
    refine ⟨rfl, VX.done ?_⟩
    dsimp only
    refine VX.again rfl (VX.wk (S' := (L, .ns (gNs rl (gl0 pre (k + 1)))) :: (rl, .lst (List.map intV (pre ++ [0]))) :: (it, .lit rl (k + 1)) :: S'') (by rw [← hy1]; walk_at "pk") fun s I => ?_)
    have eg : s.gens = s''.gens := I.gens
    rw [← eg] at I ⊢
    exact ih n' (by omega) (k + 1) (by omega) s S'' I
  · obtain rfl : k = pre.length := by omega
    have h0 : (List.map intV (pre ++ [0]))[pre.length]? = some (intV 0) := by simp
    with_reducible refine V.next_list (v := intV 0) (by walk_at "upd") (.lst (by walk_at "mem")) h0 ?_
    dsimp only
    intro v' hv'
    change VG _ _ _ _ _ (assign (.Name _ _) _ _) _
    with_reducible refine V.assign_Name ?_
    revert v'
    walk_at "store"
    change VX _ _ _ _ _ _ _ _ (Sem.wrap _ _ _ _ (execs (.If _ _ _ _ :: .If _ (.If _ _ _ _ :: .While _ _ _ _ :: []) _ _ :: .Expr (.Yield (some _) _) _ :: .Assign _ _ _ :: []) _))
    refine VX.more (VX.if_ ?_)
    repeat walk_at "V"
    refine ⟨_, rfl, fun hb => absurd hb (by decide), fun _ => ?_⟩
    refine VX.done ?_
    dsimp only
    refine VX.more (VX.if_ ?_)
    repeat walk_at "V"
    refine ⟨_, rfl, fun _ => ?_, fun hb => absurd hb (by decide)⟩
    refine VX.more (VX.if_ ?_)
    repeat walk_at "V"
    refine ⟨_, rfl, fun hb => ?_, fun _ => ?_⟩
    · have : gl0 pre pre.length = intV (pre.getD (pre.length - 1) 0) := by unfold gl0; rw [if_neg (by omega)]
      rw [this] at hb
      exact absurd hb (by simp)
    refine VX.done ?_
    dsimp only
    refine VX.more (VX.while_ rfl fun kk l p => ?_)
    refine VX.wk (S' := (L, .ns (gNs rl (gl0 pre pre.length))) :: S) (by walk_at "pk") fun s' I' => ?_
    have eg : s'.gens = s.gens := I'.gens
    rw [← eg] at I' ⊢
    exact gap_while g hp (by show (splitAtGen fs).map _ = none; rw [hfs]; rfl) (by show (_ || fs.any Frame.guarded) = false; rw [hfg]; rfl) n pre.length (Nat.le_refl _) s' S I'
theorem gap (g : G w C) {rl : Addr} {pre : List Int} (hp : pre ≠ []) (hv : ∀ a ∈ pre, a ≠ 127 ∧ a ≠ 0) (hz : pre.length ≤ 1000) (L : Addr) (n : Nat) :
    GS pw w A C (gy pre) n 0 (.fresh (.func (dBody (st 5)) (env92 L))) [(L, .ns [(Str.ofString "grouping", .ref rl)]), (rl, .lst (List.map intV (pre ++ [0])))] := by
  cases n with
  | zero => trivial
  | succ n =>
  refine ⟨_, _, [], .inl ⟨rfl, rfl, rfl⟩, fun s S I => ?_⟩
  have gF := g.fix s.gens
  refine VX.func (C := C.fixG s.gens) (S := [(L, .ns [(Str.ofString "grouping", .ref rl)]), (rl, .lst (List.map intV (pre ++ [0])))] ++ S) ?_ s I
  change VX _ _ _ _ _ _ _ _ (Sem.wrap _ _ _ _ (execs (_ :: _) _))
  refine VX.more (VX.stmt ?_)
  simp only [List.cons_append, List.nil_append]
  repeat walk_at "V"
  walk_at "store"
  refine ⟨rfl, ?_⟩
  dsimp only
  refine VX.more (VX.for_ rfl ?_)
  repeat walk_at "V"
  intro x' hx'
  obtain rfl := nt_ref hx'
  with_reducible refine V.iter_list (.lst (by walk_at "mem")) fun it => ?_
  intro it' hit
  obtain rfl := nt_ref hit
  intro k l p
  refine VX.wk (S' := (L, .ns (gNs rl .none)) :: (rl, .lst (List.map intV (pre ++ [0]))) :: (it, .lit rl 0) :: S) (by walk_at "pk") fun s' I' => ?_
  have eg : s'.gens = s.gens := I'.gens
  rw [← eg] at I' ⊢
  exact gap_for g hp hv rfl rfl n 0 (Nat.zero_le _) s' S I'
end

section
open PySem PyProof.Rows PySem.Calls PySem.W PySem.Spec
variable {w : World} {A : Around} {C : Cx} {S S' : St} {env : Env}
noncomputable def gi (pre : List Int) (k : Nat) : Int := pre.getD (min k (pre.length - 1)) 0
noncomputable def marksGo (pre : List Int) (P : Int) : Nat → Nat → Int → List Int
  | 0, _, _ => []
  | n + 1, k, place => if place + gi pre k ≥ P then [place + gi pre k] else (place + gi pre k) :: marksGo pre P n (k + 1) (place + gi pre k)
noncomputable def marksL (pre : List Int) (P : Nat) : List Int := 0 :: marksGo pre P (P + 1) 0 0
theorem gi_pos {pre : List Int} (hp : pre ≠ []) (hv : ∀ a ∈ pre, a ≠ 127 ∧ 0 < a) (k : Nat) : 0 < gi pre k := by
  have hpl : 0 < pre.length := List.length_pos_iff.mpr hp
  have hlt : min k (pre.length - 1) < pre.length := by omega
  unfold gi
  rw [List.getD_eq_getElem?_getD, List.getElem?_eq_getElem hlt]
  exact (hv _ (List.getElem_mem hlt)).2
theorem marksGo_len (pre : List Int) (P : Int) : ∀ n k p, (marksGo pre P n k p).length ≤ n
  | 0, _, _ => Nat.le_refl _
  | n + 1, k, p => by
    unfold marksGo; split
    · exact Nat.succ_le_succ (Nat.zero_le _)
    · exact Nat.succ_le_succ (marksGo_len pre P n (k + 1) _)
theorem last_at {b : List Int} {x : Int} : (List.map intV (b ++ [x]))[pyAt (List.map intV (b ++ [x])).length (-1)]? = some (intV x) := by
  have e : pyAt (List.map intV (b ++ [x])).length (-1) = b.length := by
    unfold pyAt
    rw [if_pos (by decide)]
    simp only [List.length_map, List.length_append, List.length_cons, List.length_nil]; omega
  rw [e, List.getElem?_map, List.getElem?_append_right (Nat.le_refl _), Nat.sub_self]; rfl
theorem V.neg_const {i : Int} {k : Nat} {p pos : Pos} {Φ : Value → St → Prop} (h : Φ (.int (-i) 0) S) : VP (model pw w) A C S (eval (.UnaryOp .USub (.Constant (.int i) k p) pos) env) Φ := fun s Q E I hq =>
  UnaryOp_ (wpAny_Constant_int (PyProof.Rows.neg_int (hq _ _ _ ((I.tok _).tok _) h)))
theorem marks (g : G w C) (hgp : C.gp = AllBare) (hA : A.handled = none) (hd : A.depth + 1 < recursionLimit) {rl : Addr} {pre : List Int} {P : Nat} {v u : Value} (hp : pre ≠ []) (hq : ∀ a ∈ pre, a ≠ 127 ∧ 0 < a) (hz : pre.length ≤ 1000) (hP0 : 0 < P) (hP : P ≤ 1000) (hv : nt v = .ref rl) (hu : nt u = .int (P : Nat) 0) {Φ : Value → St → Prop}
    (h : ∀ a, Φ (.ref a) ((a, .lst (List.map intV (marksL pre P))) :: S)) : VC (model pw w) A C ((rl, .lst (List.map intV (pre ++ [0]))) :: S) (.call (.ref 170) ⟨[v, u], []⟩) Φ := by
  refine VC.end (V.code_fn (fd := fd170) (binds := [(Str.ofString "row", v), (Str.ofString "end", u)]) (at_K g (lk170 _)) rfl (code_K g rfl (cd170 _)) rfl rfl (by omega) (by decide +kernel) (by kernel_rfl) (by kernel_rfl) fun L => ?_)
  simp only [List.map_cons, List.map_nil, hv, hu]
  have hA' : (A.deeper (envF fd170 L 170 fd170.closure)).handled = none := hA
  have hd' : (A.deeper (envF fd170 L 170 fd170.closure)).depth < recursionLimit := hd
  generalize A.deeper (envF fd170 L 170 fd170.closure) = A' at hA' hd'
  change VG _ _ _ _ _ (execs (_ :: _) _) _
  repeat walk_at "V"
  refine ⟨by walk_at "dec", fun m => ?_⟩
  walk_at "store"
  dsimp only
  have ho : At C S 70 _ := at_K g (lk70 _)
  with_reducible refine V.execs_cons ?_
  refine V.for_gen hgp (N := P + 1) (x := .ref rl) (l := [(Str.ofString "grouping", .ref rl)]) (y := gy pre) (binds := fun v => [(Str.ofString "grouping", v)]) (Tx := [(rl, .lst (List.map intV (pre ++ [0])))]) (R₀ := (m, .lst (List.map intV ([] ++ [0]))) :: (L, .ns [(Str.ofString "row", .ref rl), (Str.ofString "end", .int (P : Nat) 0), (Str.ofString "marks", .ref m)]) :: S)
    (fun k R => ∃ place acc, R = (m, .lst (List.map intV (acc ++ [place]))) :: (L, .ns [(Str.ofString "row", .ref rl), (Str.ofString "end", .int (P : Nat) 0), (Str.ofString "marks", .ref m)]) :: S ∧ (k : Int) ≤ place ∧ place < P ∧ acc ++ [place] ++ marksGo pre P (P + 1 - k) k place = marksL pre P) hA' hd' (Nat.succ_pos _) ?_ ?_ (at_K g (lk70 _)) rfl (code_K g rfl (cd70 _)) rfl (fun _ => rfl) (by decide +kernel) (fun _ => by kernel_rfl) (fun _ => by kernel_rfl) (fun v hv => by simp only [List.map_cons, List.map_nil, hv]) ?_ (fun L => gap g hp (fun a ha => ⟨(hq a ha).1, by have := (hq a ha).2; omega⟩) hz L _) ⟨0, [], rfl, Int.le_refl _, by omega, rfl⟩ ?_
  · walk_at "V"
    exact ⟨rfl, rfl⟩
  · walk_at "V"
    exact ⟨rfl, rfl⟩
  · refine Pw.cons (.tail (.tail .head)) (.cons .head (.cons .head (.sub (.refl _))))
  rintro k R Fz X hk ⟨place, acc, rfl, h1, h3, h2⟩ v hv
  have gX := g.fix X
  simp only [List.cons_append]
  with_reducible refine V.assign_Name ?_
  revert v
  have hgi := gi_pos hp hq k
  rw [show gy pre k = intV (gi pre k) from rfl]
  have hmk : marksGo pre P (P + 1 - k) k place = if place + gi pre k ≥ P then [place + gi pre k] else (place + gi pre k) :: marksGo pre P (P + 1 - (k + 1)) (k + 1) (place + gi pre k) := by
    rw [show P + 1 - k = (P + 1 - (k + 1)) + 1 by omega]; rfl
  have hl := congrArg List.length h2
  rw [List.length_append, List.length_append] at hl
  have hl2 := marksGo_len pre P (P + 1) 0 0
  unfold marksL at hl
  simp only [List.length_cons, List.length_nil] at hl
  have hz1 : (List.map intV (acc ++ [place])).length ≤ sizeLine := by simp only [List.length_map, List.length_append, List.length_cons, List.length_nil, sizeLine_eq]; omega
  walk_at "store"
  repeat walk_at "V"
  with_reducible refine V.expr (V.call_meth ?_)
  repeat walk_at "V"
  intro o ho; obtain rfl := nt_ref ho
  with_reducible refine V.meth_list (by walk_at "mem") slot_list_append F.type_list_append ?_
  with_reducible refine V.cw1 ?_
  repeat walk_at "V"
  with_reducible refine V.neg_const ?_
  with_reducible refine V.tail_list (.lst (by walk_at "mem")) (by simp only [List.length_map, List.length_append, List.length_cons, List.length_nil]; omega) (by simp only [List.length_map, List.length_append, List.length_cons, List.length_nil]; omega) hz1 last_at ?_
  repeat walk_at "V"
  refine ⟨.builtin, ?_⟩
  refine V.ap (by walk_at "upd") hz1 ?_
  refine ⟨rfl, ?_⟩
  rw [show List.map intV (acc ++ [place]) ++ [.int (place + gi pre k) 0] = List.map intV (acc ++ [place] ++ [place + gi pre k]) by simp]
  have hz2 : (List.map intV (acc ++ [place] ++ [place + gi pre k])).length ≤ sizeLine := by simp only [List.length_map, List.length_append, List.length_cons, List.length_nil, sizeLine_eq]; omega
  repeat walk_at "V"
  with_reducible refine V.neg_const ?_
  with_reducible refine V.tail_list (.lst (by walk_at "mem")) (by simp only [List.length_map, List.length_append, List.length_cons, List.length_nil]; omega) (by simp only [List.length_map, List.length_append, List.length_cons, List.length_nil]; omega) hz2 last_at ?_
  repeat walk_at "V"
  refine ⟨_, rfl, fun hb => ?_, fun hb => ?_⟩
  · have hb' := of_decide_eq_true hb
    rw [hmk, if_pos hb'] at h2
    rw [h2]
    repeat walk_at "V"
    dsimp only
    refine ⟨(m, .lst (List.map intV (marksL pre P))) :: (L, .ns [(Str.ofString "row", .ref rl), (Str.ofString "end", .int (P : Nat) 0), (Str.ofString "marks", .ref m)]) :: S, by simp only [List.cons_append]; walk_at "pk", ?_⟩
    repeat walk_at "V"
    exact ⟨_, by walk_at "pk", h m⟩
  · have hb' := of_decide_eq_false hb
    repeat walk_at "V"
    dsimp only
    rw [hmk, if_neg hb'] at h2
    refine ⟨(m, .lst (List.map intV (acc ++ [place] ++ [place + gi pre k]))) :: (L, .ns [(Str.ofString "row", .ref rl), (Str.ofString "end", .int (P : Nat) 0), (Str.ofString "marks", .ref m)]) :: S, by omega, by simp only [List.cons_append]; walk_at "pk", place + gi pre k, acc ++ [place], rfl, by omega, by omega, by rw [← h2]; simp⟩
end

section
open PySem PyProof.Rows PySem.Calls PySem.W PySem.Spec
variable {w : World} {A : Around} {C : Cx} {S S' : St} {env : Env}
@[reducible] noncomputable def natV (n : Nat) : Value := .int (n : Int) 0
@[reducible] noncomputable def lV (l : List Nat) : Value := .str ⟨l.toArray⟩ 0
noncomputable def wordN (size mark : Nat) : List Nat := (List.range size).map fun k => if mark / 2 ^ (3 - k) % 2 = 0 then 102 else 105
noncomputable def codeGo (ss : List Nat) : Nat → List (List Nat) → Nat → List (List Nat)
  | 0, codes, _ => codes
  | f + 1, codes, mark => if mark < 16 then codeGo ss f (codes ++ [wordN (ss.getD (min codes.length (ss.length - 1)) 1) mark]) (mark + 2 ^ (4 - ss.getD (min codes.length (ss.length - 1)) 1)) else codes
noncomputable def codeF (ss : List Nat) : List (List Nat) := codeGo ss 17 [] 0
theorem codeGo_done {ss : List Nat} {codes : List (List Nat)} {mark : Nat} (h : ¬ mark < 16) : ∀ f, codeGo ss f codes mark = codes
  | 0 => rfl
  | f + 1 => by rw [codeGo, if_neg h]
theorem codeGo_len {ss : List Nat} : ∀ f codes mark, codes.length ≤ (codeGo ss f codes mark).length ∧ (codeGo ss f codes mark).length ≤ codes.length + f
  | 0, codes, mark => ⟨Nat.le_refl _, Nat.le_refl _⟩
  | f + 1, codes, mark => by
    rw [codeGo]
    split
    · have := codeGo_len (ss := ss) f (codes ++ [wordN (ss.getD (min codes.length (ss.length - 1)) 1) mark]) (mark + 2 ^ (4 - ss.getD (min codes.length (ss.length - 1)) 1))
      rw [List.length_append, List.length_cons, List.length_nil] at this
      omega
    · omega
theorem fig_idx (m i : Nat) (h : i ≤ 3) : ((m : Int).fdiv ((2 : Int) ^ (3 - (i : Int)).toNat)).fmod 2 = ((m / 2 ^ (3 - i) % 2 : Nat) : Int) := by
  have e : (3 - (i : Int)).toNat = 3 - i := by omega
  rw [e]
  have e2 : ((2 : Int) ^ (3 - i)) = ((2 ^ (3 - i) : Nat) : Int) := by rw [Int.natCast_pow]; rfl
  rw [e2, Int.fdiv_eq_ediv_of_nonneg _ (Int.natCast_nonneg _), ← Int.natCast_ediv, Int.fmod_eq_emod_of_nonneg _ (by decide)]
  omega
theorem fi_at {b : Nat} (h : b < 2) : (Str.ofString "fi").cps[b]? = some (if b = 0 then 102 else 105) := by
  have : b = 0 ∨ b = 1 := by omega
  rcases this with rfl | rfl <;> decide
theorem join_ones (cs : List Nat) : Txt.join (Str.ofString "") (cs.map fun c => (⟨#[c]⟩ : Str)) = ⟨cs.toArray⟩ := by
  rw [join_emp, List.flatMap_map]
  congr 1
  show (cs.flatMap fun c => [c]).toArray = _
  rw [List.flatMap_singleton']
theorem ones_sum (cs : List Nat) : ((cs.map fun c => (⟨#[c]⟩ : Str)).map (·.length)).sum = cs.length := by
  induction cs with
  | nil => rfl
  | cons c cs ih => rw [List.map_cons, List.map_cons, List.sum_cons, ih, List.length_cons]; show 1 + _ = _; omega
theorem pow2_facts {i : Nat} (h : i ≤ 3) : (2 : Int) ^ (3 - (i : Int)).toNat ≠ 0 ∧ ((2 : Int) ^ (3 - (i : Int)).toNat).natAbs < 1073741824 := by
  have : i = 0 ∨ i = 1 ∨ i = 2 ∨ i = 3 := by omega
  rcases this with rfl | rfl | rfl | rfl <;> decide
@[reducible] noncomputable def cs151 (L : Addr) : List (Str × Addr) := [(Str.ofString "mark", L + 1)]
@[reducible] noncomputable def env151 (L : Addr) : Env := envF fd151 L 151 (cs151 L)
theorem code151 (g : G w C) (hA : A.handled = none) (hd : A.depth + 1 < recursionLimit) {ll : Addr} {ss : List Nat} {v : Value} (hss : ss ≠ []) (hr : ∀ s ∈ ss, 1 ≤ s ∧ s ≤ 4) (hz : ss.length ≤ 1000) (hv : nt v = .ref ll) {Φ : Value → St → Prop}
    (h : ∀ a, Φ (.ref a) ((a, .lst (List.map lV (codeF ss))) :: S)) : VC (model pw w) A C ((ll, .lst (List.map natV ss)) :: S) (.call (.ref 151) ⟨[v], []⟩) Φ := by
  refine VC.end (V.code_cellsT (fd := fd151) (binds := [(Str.ofString "lengths", v)]) (lb := [(Str.ofString "lengths", .ref ll)]) (cs := cs151) (cb := fun _ => none) (at_K g (lk151 _)) rfl (code_K g rfl (cd151 _)) rfl rfl rfl (by omega) (fun L => by rfl) (fun L => by show [Str.ofString "mark"].Nodup; decide +kernel) (fun L y hx => ?_) (fun L y z hx => ?_) (fun L n c hm => ?_)
    (fun L => (L, .ns [(Str.ofString "lengths", .ref ll)]) :: (L + 1, .cell none) :: (ll, .lst (List.map natV ss)) :: S) (fun L => rfl) fun L => ?_)
  · cases List.mem_singleton.mp hx; exact .inl (by kernel_rfl)
  · cases List.mem_singleton.mp hx
    exact ⟨v, by kernel_rfl, hv⟩
  · simp only [List.mem_cons, List.mem_nil_iff, or_false, Prod.mk.injEq] at hm
    rcases hm with ⟨rfl, _⟩; rfl
  have hA' : (A.deeper (envF fd151 L 151 (cs151 L))).handled = none := hA
  generalize A.deeper (envF fd151 L 151 (cs151 L)) = A' at hA'
  have hsl : 0 < ss.length := List.length_pos_iff.mpr hss
  change VG _ _ _ _ _ (execs (_ :: _) _) _
  with_reducible refine V.execs_cons ?_
  first
  | with_reducible refine V.assign_tup ?_
  | with_reducible refine V.assign_swapped ?_
  repeat walk_at "V"
  refine ⟨by walk_at "dec", fun cl => ?_⟩
  repeat walk_at "V"
  refine ⟨by walk_at "dec", fun ta => ?_⟩
  with_reducible refine V.assign_pair hA' (by walk_at "mem") fun x' hx' y' hy' => ?_
  with_reducible refine V.assign_Name ?_
  revert x'
  walk_at "store"
  with_reducible refine V.assign_Name ?_
  revert y'
  walk_at "store"
  dsimp only
  with_reducible refine VG.to ((L, .ns [(Str.ofString "lengths", .ref ll), (Str.ofString "code", .ref cl)]) :: (L + 1, .cell (some (.int 0 0))) :: (cl, .lst []) :: (ll, .lst (List.map natV ss)) :: S) (by walk_at "pk") ?_
  walk_at "V"
  with_reducible refine V.whileI (fun n S' => ∃ f codes mark, codeGo ss f codes mark = codeF ss ∧ 16 - mark < f ∧ n = 16 - mark ∧ codes.length ≤ mark ∧ S' = (L, .ns [(Str.ofString "lengths", .ref ll), (Str.ofString "code", .ref cl)]) :: (L + 1, .cell (some (natV (mark)))) :: (cl, .lst (List.map lV (codes))) :: (ll, .lst (List.map natV ss)) :: S) 16 ⟨17, [], 0, rfl, by decide, rfl, Nat.le_refl _, by with_unfolding_all rfl⟩ ?_
  rintro n S' ⟨f, codes, mark, hgo, hf, rfl, hcm, rfl⟩
  repeat walk_at "V"
  refine ⟨_, rfl, fun hb => ?_, fun hb => ?_⟩
  · have hlt : mark < 16 := by have := of_decide_eq_true hb; omega
    obtain ⟨f, rfl⟩ : ∃ f', f = f' + 1 := ⟨f - 1, by omega⟩
    rw [codeGo, if_pos hlt] at hgo
    repeat walk_at "V"
    have hcz : (List.map lV codes).length ≤ sizeLine := by rw [List.length_map, sizeLine_eq]; omega
    have hsz : (List.map natV ss).length ≤ sizeLine := by rw [List.length_map, sizeLine_eq]; omega
    refine ⟨.builtin, fun v hv => V.len_list hv (.lst (by walk_at "mem")) hcz ?_⟩
    repeat walk_at "V"
    refine ⟨.builtin, fun v hv => V.len_list hv (.lst (by walk_at "mem")) hsz ?_⟩
    repeat walk_at "V"
    refine ⟨.builtin, fun u1 u2 h1 h2 => V.min2 h1 h2 hA' ?_⟩
    have ei : (if ((List.map natV ss).length : Int) - 1 < ((List.map lV codes).length : Int) then ((List.map natV ss).length : Int) - 1 else ((List.map lV codes).length : Int)) = ((min codes.length (ss.length - 1) : Nat) : Int) := by
      rw [List.length_map, List.length_map]; split <;> omega
    rw [ei]
    have hix : min codes.length (ss.length - 1) < ss.length := by omega
    have hsg : ss[min codes.length (ss.length - 1)]? = some (ss.getD (min codes.length (ss.length - 1)) 1) := by
      rw [List.getD_eq_getElem?_getD, List.getElem?_eq_getElem hix]; rfl
    obtain ⟨hs1, hs4⟩ := hr _ (List.mem_of_getElem? hsg)
    generalize ss.getD (min codes.length (ss.length - 1)) 1 = sz at hsg hs1 hs4 hgo
    with_reducible refine V.tail_nat (.lst (by walk_at "mem")) (by rw [List.getElem?_map, hsg, Option.map_some]) hsz ?_
    walk_at "store"
    dsimp only
    repeat walk_at "V"
    with_reducible refine V.expr (V.call_meth ?_)
    repeat walk_at "V"
    intro o ho; obtain rfl := nt_ref ho
    with_reducible refine V.meth_list (by walk_at "mem") slot_list_append F.type_list_append ?_
    with_reducible refine V.cw1 ?_
    with_reducible refine V.call_meth ?_
    repeat walk_at "V"
    intro ov hov
    with_reducible refine V.meth_str hov PySem.F.slot_str_join PySem.F.type_str_join ?_
    with_reducible refine V.cw1 ?_
    with_reducible refine V.listcomp (cl := [(Str.ofString "mark", L + 1)]) (by kernel_rfl) ?_
    repeat walk_at "V"
    refine ⟨.type, fun u hu => V.range1 hu fun r => ?_⟩
    intro x' hx'
    obtain rfl := nt_ref hx'
    with_reducible refine V.iter_rng (n := sz) (by walk_at "mem") (by omega) (fun it => ?_) (by omega) (by omega)
    intro it' hit acc L'
    obtain rfl := nt_ref hit
    with_reducible refine V.compStart ?_ (V.iter_rit (by unfold rc; walk_at "mem") ⟨rfl, rfl⟩)
    with_reducible refine VK.to ((L', .ns []) :: (acc, .lst []) :: (it, rc 0 sz 0) :: (L, .ns [(Str.ofString "lengths", .ref ll), (Str.ofString "code", .ref cl), (Str.ofString "size", natV sz)]) :: (L + 1, .cell (some (natV (mark)))) :: (cl, .lst (List.map lV (codes))) :: (ll, .lst (List.map natV ss)) :: S) (by walk_at "pk") ?_
    with_reducible refine V.compI (c := rc 0 sz) (item := fun i => .int (0 + (i : Nat)) 0) (n := sz) (fun i ys S' => ys = List.map (fun c => Value.str ⟨#[c]⟩ 0) (wordN i mark) ∧ S' = (L, .ns [(Str.ofString "lengths", .ref ll), (Str.ofString "code", .ref cl), (Str.ofString "size", natV sz)]) :: (L + 1, .cell (some (natV (mark)))) :: (cl, .lst (List.map lV (codes))) :: (ll, .lst (List.map natV ss)) :: S) (fun _ _ _ _ => It.rng hA') (by rw [sizeLine_eq]; simp only [List.length_nil]; omega) ⟨by with_unfolding_all rfl, by with_unfolding_all rfl⟩ ?_ ?_
    · rintro i ys S' hi ⟨rfl, rfl⟩ v hv
      have hi3 : i ≤ 3 := by omega
      have hv0 : nt v = natV i := by rw [hv]; exact congrArg (fun x => Value.int x 0) (Int.zero_add _)
      clear hv
      with_reducible refine V.own_name ?_
      with_reducible refine V.assign_Name ?_
      revert v
      walk_at "store"
      with_reducible refine V.tests_nil ?_
      refine ⟨fun _ => ?_, fun hb => by cases hb⟩
      repeat walk_at "V"
      with_reducible refine VO.pow_int ?_ (by omega) (by omega) (by decide)
      obtain ⟨hp1, hp2⟩ := pow2_facts hi3
      with_reducible refine VO.fdiv_int ?_ hp1 hp2
      repeat walk_at "V"
      with_reducible refine VO.mod_int ?_ (by decide)
      rw [fig_idx mark i hi3]
      with_reducible refine V.tail_strN (fi_at (Nat.mod_lt _ (by decide))) (by decide) ?_
      refine ⟨(L, .ns [(Str.ofString "lengths", .ref ll), (Str.ofString "code", .ref cl), (Str.ofString "size", natV sz)]) :: (L + 1, .cell (some (natV (mark)))) :: (cl, .lst (List.map lV (codes))) :: (ll, .lst (List.map natV ss)) :: S, by walk_at "pk", ?_, rfl⟩
      unfold wordN
      rw [List.range_succ, List.map_append, List.map_append]; rfl
    rintro ys S' ⟨rfl, rfl⟩
    refine ⟨_, _, .head, ?_⟩
    refine ⟨.builtin, fun v hv => ?_⟩
    obtain rfl := nt_ref hv
    have hwl : (wordN sz mark).length = sz := by unfold wordN; rw [List.length_map, List.length_range]
    refine V.join (ys := (wordN sz mark).map fun c => (⟨#[c]⟩ : Str)) hov (by rw [List.map_map, show ((fun i => Value.str i 0) ∘ fun c => (⟨#[c]⟩ : Str)) = fun c => Value.str ⟨#[c]⟩ 0 from rfl]; exact .lst (by walk_at "mem")) (joinOk_emp (by rw [ones_sum, hwl]; omega)) ?_
    rw [join_ones]
    refine ⟨.builtin, ?_⟩
    refine V.ap (by walk_at "upd") hcz ?_
    refine ⟨rfl, ?_⟩
    repeat walk_at "V"
    with_reducible refine VO.pow_int ?_ (by omega) (by omega) (by decide)
    have ep : (2 : Int) ^ (4 - (sz : Int)).toNat = ((2 ^ (4 - sz) : Nat) : Int) := by
      rw [show (4 - (sz : Int)).toNat = 4 - sz by omega, Int.natCast_pow]; rfl
    rw [ep]
    repeat walk_at "V"
    rw [show (mark : Int) + ((2 ^ (4 - sz) : Nat) : Int) = ((mark + 2 ^ (4 - sz) : Nat) : Int) from rfl]
    walk_at "store"
    dsimp only
    repeat walk_at "V"
    have hpp : 0 < 2 ^ (4 - sz) := Nat.pow_pos (by decide)
    refine ⟨16 - (mark + 2 ^ (4 - sz)), (L, .ns [(Str.ofString "lengths", .ref ll), (Str.ofString "code", .ref cl)]) :: (L + 1, .cell (some (natV (mark + 2 ^ (4 - sz))))) :: (cl, .lst (List.map lV (codes ++ [wordN sz mark]))) :: (ll, .lst (List.map natV ss)) :: S, by omega, ?_, f, codes ++ [wordN sz mark], mark + 2 ^ (4 - sz), hgo, by omega, rfl, by rw [List.length_append, List.length_cons, List.length_nil]; omega, rfl⟩
    rw [List.map_append, show List.map lV [wordN sz mark] = [Value.str ⟨(wordN sz mark).toArray⟩ 0] from rfl]
    walk_at "pk"
  · have hge : ¬ mark < 16 := by have := of_decide_eq_false hb; omega
    rw [codeGo_done hge] at hgo
    subst hgo
    repeat walk_at "V"
    dsimp only
    repeat walk_at "V"
    exact ⟨_, by walk_at "pk", h cl⟩
end

section
open PySem PyProof.Rows PySem.Calls PySem.W PySem.Spec
variable {w : World} {A : Around} {C : Cx} {S S' : St} {env : Env}
noncomputable def IsTok (x : Str) (tok : Str) : Prop := ∃ cs : List Nat, tok = ⟨cs.toArray⟩ ∧ (∀ c ∈ cs, c ∈ okc) ∧ pcs cs = x.cps.toList ∧ cs.length ≤ 32
theorem okc_facts {c : Nat} (h : c ∈ okc) : c ≠ 10 ∧ c ≠ 34 ∧ c ≠ 92 ∧ isWs c = false := by
  have := List.all_eq_true.mp okc_ok c h
  simp only [Bool.and_eq_true, decide_eq_true_eq, Bool.not_eq_true'] at this
  exact ⟨this.1.1.1, this.1.1.2, this.1.2, this.2⟩
theorem its_snd (cs : List Nat) : (itsOf cs).map (·.2) = cs := by
  unfold itsOf; rw [List.map_map]; exact List.map_id _
theorem its_ok {cs : List Nat} (hok : ∀ c ∈ cs, c ∈ okc) : ∀ x ∈ itsOf cs, x.2 ≠ 10 ∧ (x.1 = false → isWs x.2 = false ∧ x.2 ≠ 34 ∧ x.2 ≠ 92) := by
  intro x hx
  obtain ⟨c, hc, rfl⟩ := List.mem_map.mp hx
  obtain ⟨h1, h2, h3, h4⟩ := okc_facts (hok c hc)
  exact ⟨h1, fun _ => ⟨h4, h2, h3⟩⟩
theorem spell_no10 {cs : List Nat} (hok : ∀ c ∈ cs, c ∈ okc) : (spell (itsOf cs)).count 10 = 0 := by
  rw [List.count_eq_zero]
  intro hm
  unfold spell itsOf at hm
  rw [List.flatMap_map, List.mem_flatMap] at hm
  obtain ⟨c, hc, hm⟩ := hm
  have := (okc_facts (hok c hc)).1
  split at hm
  · simp only [List.mem_cons, List.mem_nil_iff, or_false] at hm
    omega
  · simp only [List.mem_cons, List.mem_nil_iff, or_false] at hm
    omega
theorem nlOf_count (bl : Nat) : nlOf ⟨#[bl]⟩ = (([bl].count 10 : Nat) : Int) := by
  by_cases e : bl = 10
  · subst e; rfl
  · rw [nl_ne e, List.count_singleton]
    simp [e]
theorem get_word (g : G w C) (hA : A.handled = none) (hd : A.depth + 2 < recursionLimit) {a : LA} {text x : Str} {p : Nat} {n : Int} {R : St} {v : Value} {t post : List Nat} (hv : nt v = .ref a.lx) (hx : text.length ≤ sizeLine)
    (hw : IsWord x t) (ht : text.cps.toList.drop p = t ++ post) {Φ : Value → St → Prop}
    (h : ∀ tok, IsTok x tok → Φ (.str tok 0) (lexS a text ((p + t.length : Nat) : Int) (n + (t.count 10 : Nat)) [] R)) : VC (model pw w) A C (lexS a text p n [] R) (.call (.ref 42) ⟨[v], []⟩) Φ := by
  obtain ⟨cs, hne, hok, hpc, hl, hw⟩ := hw
  rcases hw with rfl | ⟨bl, hb, rfl⟩
  · refine get_quoted g hA hd (its := itsOf cs) (post := post) hv hx (by rw [ht]; simp) (fun x hx => ⟨(its_ok hok x hx).1, fun e => ((its_ok hok x hx).2 e).2⟩) ?_
    have := h ⟨cs.toArray⟩ ⟨cs, rfl, hok, hpc, hl⟩
    rw [its_snd]
    have e1 : (34 :: (spell (itsOf cs) ++ [34])).length = 2 + (spell (itsOf cs)).length := by simp; omega
    have e2 : (34 :: (spell (itsOf cs) ++ [34])).count 10 = 0 := by
      rw [List.count_cons, List.count_append, spell_no10 hok]; rfl
    rw [e1, e2] at this
    have e3 : n + ((0 : Nat) : Int) = n := Int.add_zero n
    rw [e3, ← Nat.add_assoc] at this
    exact this
  · obtain ⟨x0, its, hi⟩ : ∃ x0 its, itsOf cs = x0 :: its := by
      cases hc : itsOf cs with
      | nil => unfold itsOf at hc; exact absurd (List.map_eq_nil_iff.mp hc) hne
      | cons a b => exact ⟨a, b, rfl⟩
    have hio := its_ok hok
    rw [hi] at ht hio
    refine get_plain g hA hd (x0 := x0) (its := its) (bl := bl) (post := post) hv hx (by rw [ht]; simp) hio hb ?_
    have := h ⟨cs.toArray⟩ ⟨cs, rfl, hok, hpc, hl⟩
    rw [← hi, its_snd]
    have e1 : (spell (itsOf cs) ++ [bl]).length = 1 + (spell (itsOf cs)).length := by simp; omega
    have e2 : (spell (itsOf cs) ++ [bl]).count 10 = [bl].count 10 := by
      rw [List.count_append, spell_no10 hok, Nat.zero_add]
    rw [e1, e2, ← nlOf_count, ← Nat.add_assoc] at this
    exact this
theorem word_size {x : Str} {t : List Nat} (hw : IsWord x t) : t.length ≤ 66 := by
  obtain ⟨cs, hne, hok, hpc, hl, hw⟩ := hw
  have := spell_le cs
  rcases hw with rfl | ⟨bl, hb, rfl⟩ <;> simp <;> omega
theorem prep_tok (g : G w C) (hA : A.handled = none) (hd : A.depth + 1 < recursionLimit) {x tok : Str} {v : Value} (ht : IsTok x tok) (hx : x.length ≤ 100) (hv : nt v = .str tok 0) {Φ : Value → St → Prop} (h : Φ (.str x 0) S) : VC (model pw w) A C S (.call (.ref 163) ⟨[v], []⟩) Φ := by
  obtain ⟨cs, rfl, hok, hpc, hl⟩ := ht
  refine prepared g hA hd hv (fun c hc => ?_) (by rw [str_len, sizeLine_eq]; omega) (joinOk_emp ?_) ?_
  · have := List.all_eq_true.mp okc_low c (hok c (by simpa using hc))
    have := of_decide_eq_true this
    rw [sizeLine_eq]; omega
  · show ((prepL cs.toArray.toList).map (·.length)).sum ≤ _
    rw [List.toList_toArray, pcs_len, hpc]
    show x.cps.toList.length ≤ _
    rw [Array.length_toList]; show x.length ≤ _; omega
  · rw [prep_pcs, hpc]
    exact h
theorem get_dot (g : G w C) (hA : A.handled = none) (hd : A.depth + 2 < recursionLimit) {a : LA} {text : Str} {c p : Nat} {n : Int} {R : St} {v : Value} {post : List Nat} (hv : nt v = .ref a.lx) (hx : text.length ≤ sizeLine)
    (hc : c = 46 ∨ c = 58) (ht : text.cps.toList.drop p = [c, 32] ++ post) {Φ : Value → St → Prop}
    (h : Φ (.str ⟨#[c]⟩ 0) (lexS a text ((p + 2 : Nat) : Int) n [] R)) : VC (model pw w) A C (lexS a text p n [] R) (.call (.ref 42) ⟨[v], []⟩) Φ := by
  have hs : spell [(false, c)] = [c] := rfl
  refine get_plain g hA hd (x0 := (false, c)) (its := []) (bl := 32) (post := post) hv hx (by rw [hs, ht]; rfl) (fun x hx => ?_) (by decide +kernel) ?_
  · cases List.mem_singleton.mp hx
    rcases hc with rfl | rfl
    · exact ⟨by decide, fun _ => ⟨by decide +kernel, by decide, by decide⟩⟩
    · exact ⟨by decide, fun _ => ⟨by decide +kernel, by decide, by decide⟩⟩
  · rw [hs]
    have e2 : n + nlOf ⟨#[32]⟩ = n := by rw [show nlOf ⟨#[32]⟩ = 0 by decide]; exact Int.add_zero n
    rw [e2]
    exact h
end

section
open PySem PyProof.Rows PySem.Calls PySem.W PySem.Spec
variable {w : World} {A : Around} {C : Cx} {S S' : St} {env : Env}
theorem V.m_get (g : G w C) {a : LA} {text : Str} {p n : Int} {ps : List Str} {R : St} {pl : Sem Bool} {Φ : Value × List Value → St → Prop} (h : Φ (.ref 42, [.ref a.lx]) (lexS a text p n ps R)) :
    VG (model pw w) A C (fun x => x) (lexS a text p n ps R) (getMethod (.ref a.lx) (Str.ofString "get_token") pl) Φ :=
  V.method (f := 42) (cls52 g) (by walk_at "mem") (by walk_at "mem") (by rfl) (by kernel_rfl) (by rw [g.K]; exact lk42 _) rfl on_get_token h
theorem V.m_push (g : G w C) {a : LA} {text : Str} {p n : Int} {ps : List Str} {R : St} {pl : Sem Bool} {Φ : Value × List Value → St → Prop} (h : Φ (.ref 49, [.ref a.lx]) (lexS a text p n ps R)) :
    VG (model pw w) A C (fun x => x) (lexS a text p n ps R) (getMethod (.ref a.lx) (Str.ofString "push_token") pl) Φ :=
  V.method (f := 49) (cls52 g) (by walk_at "mem") (by walk_at "mem") (by rfl) (by kernel_rfl) (by rw [g.K]; exact lk49 _) rfl on_push_token h
theorem V.tokW (g : G w C) (hA : A.handled = none) (hd : A.depth + 2 < recursionLimit) {a : LA} {text x : Str} {p : Nat} {n : Int} {t post : List Nat} {pl : Sem Bool} {pos pos' : Pos} {Φ : Value → St → Prop} (R : St) (hS : Wk C (lexS a text p n [] R) S) (hx : text.length ≤ sizeLine)
    (hw : IsWord x t) (ht : text.cps.toList.drop p = t ++ post) (h : ∀ tok, IsTok x tok → Φ (.str tok 0) (lexS a text ((p + t.length : Nat) : Int) (n + (t.count 10 : Nat)) [] R)) :
    ∀ ov, nt ov = .ref a.lx → VG (model pw w) A C (fun x => x) S (getMethod ov (Str.ofString "get_token") pl) fun fx S₂ => VP (model pw w) A C S₂ (callWith pos fx.1 fx.2 (backTo pos' (starEach [] env)) []) Φ := by
  intro ov ho
  obtain rfl := nt_ref ho
  exact VG.wk hS (V.m_get g (V.cw0 (.fn (at_K g (lk42 _)) rfl) (V.call_of (get_word g hA hd rfl hx hw ht h))))
theorem V.tokD (g : G w C) (hA : A.handled = none) (hd : A.depth + 2 < recursionLimit) {a : LA} {text : Str} {c p : Nat} {n : Int} {post : List Nat} {pl : Sem Bool} {pos pos' : Pos} {Φ : Value → St → Prop} (R : St) (hS : Wk C (lexS a text p n [] R) S) (hx : text.length ≤ sizeLine)
    (hc : c = 46 ∨ c = 58) (ht : text.cps.toList.drop p = [c, 32] ++ post) (h : Φ (.str ⟨#[c]⟩ 0) (lexS a text ((p + 2 : Nat) : Int) n [] R)) :
    ∀ ov, nt ov = .ref a.lx → VG (model pw w) A C (fun x => x) S (getMethod ov (Str.ofString "get_token") pl) fun fx S₂ => VP (model pw w) A C S₂ (callWith pos fx.1 fx.2 (backTo pos' (starEach [] env)) []) Φ := by
  intro ov ho
  obtain rfl := nt_ref ho
  exact VG.wk hS (V.m_get g (V.cw0 (.fn (at_K g (lk42 _)) rfl) (V.call_of (get_dot g hA hd rfl hx hc ht h))))
theorem V.tokP (g : G w C) (hd : A.depth + 2 < recursionLimit) {a : LA} {text tok : Str} {p n : Int} {ps : List Str} {pl : Sem Bool} {pos pos' : Pos} {Φ : Value → St → Prop} (R : St) (hS : Wk C (lexS a text p n (tok :: ps) R) S) (hz : ps.length < sizeLine)
    (h : Φ (.str tok 0) (lexS a text p n ps R)) :
    ∀ ov, nt ov = .ref a.lx → VG (model pw w) A C (fun x => x) S (getMethod ov (Str.ofString "get_token") pl) fun fx S₂ => VP (model pw w) A C S₂ (callWith pos fx.1 fx.2 (backTo pos' (starEach [] env)) []) Φ := by
  intro ov ho
  obtain rfl := nt_ref ho
  exact VG.wk hS (V.m_get g (V.cw0 (.fn (at_K g (lk42 _)) rfl) (V.call_of (pop_token g (by omega) rfl hz h))))
theorem V.tokE (g : G w C) (hA : A.handled = none) (hd : A.depth + 2 < recursionLimit) {a : LA} {text : Str} {p : Nat} {n : Int} {pl : Sem Bool} {pos pos' : Pos} {Φ : Value → St → Prop} (R : St) (hS : Wk C (lexS a text p n [] R) S) (hx : text.length ≤ sizeLine) (hp : text.length ≤ p)
    (h : Φ (.str emp 0) (lexS a text ((p + 1 : Nat) : Int) n [] R)) :
    ∀ ov, nt ov = .ref a.lx → VG (model pw w) A C (fun x => x) S (getMethod ov (Str.ofString "get_token") pl) fun fx S₂ => VP (model pw w) A C S₂ (callWith pos fx.1 fx.2 (backTo pos' (starEach [] env)) []) Φ := by
  intro ov ho
  obtain rfl := nt_ref ho
  exact VG.wk hS (V.m_get g (V.cw0 (.fn (at_K g (lk42 _)) rfl) (V.call_of (get_end g hA hd rfl hx hp h))))
theorem V.pushT (g : G w C) (hd : A.depth + 2 < recursionLimit) {a : LA} {text tok : Str} {p n : Int} {ps : List Str} {v : Value} {Φ : Value → St → Prop} (R : St) (hS : Wk C (lexS a text p n ps R) S) (hv : nt v = .str tok 0) (hz : ps.length ≤ sizeLine)
    (h : Φ .none (lexS a text p n (ps ++ [tok]) R)) : VP (model pw w) A C S (call (.ref 49) [.ref a.lx, v]) Φ := 
  VG.wk hS (V.call_of (push_token g (by omega) rfl hv hz h))
theorem V.m_pushW (g : G w C) {a : LA} {text : Str} {p n : Int} {ps : List Str} {pl : Sem Bool} {Φ : Value × List Value → St → Prop} (R : St) (hS : Wk C (lexS a text p n ps R) S) (h : Φ (.ref 49, [.ref a.lx]) (lexS a text p n ps R)) :
    ∀ ov, nt ov = .ref a.lx → VG (model pw w) A C (fun x => x) S (getMethod ov (Str.ofString "push_token") pl) Φ := by
  intro ov ho
  obtain rfl := nt_ref ho
  exact VG.wk hS (V.m_push g h)
end

section
open PySem PyProof.Rows PySem.Calls PySem.W PySem.Spec
noncomputable def treeGo (ss : List Nat) : Nat → List (List Nat) → List (List Nat) → Option (List (List Nat))
  | 0, _, _ => none
  | _ + 1, [], found => some found
  | f + 1, t :: q, found =>
    if t.length = 0 ∨ ss.getD (min found.length (ss.length - 1)) 1 < t.length then none
    else if t.length = ss.getD (min found.length (ss.length - 1)) 1 then treeGo ss f q (found ++ [t])
    else treeGo ss f (q ++ [t ++ [102], t ++ [105]]) found
noncomputable def scF (a b : List Nat) : Int := b2i (decide (b < a)) - b2i (decide (a < b))
noncomputable def ltAt : List Nat → List Nat → Bool
  | x :: a, y :: b => decide (x < y) || (x == y && ltAt a b)
  | _, _ => false
noncomputable def pairB : List (List Nat) → Bool
  | [] => true
  | c :: r => r.all (ltAt c) && pairB r
noncomputable def powS (ss : List Nat) : List Int := ss.map fun s => ((2 ^ (4 - s) : Nat) : Int)
noncomputable def mN (ss : List Nat) : List Nat := (marksL (powS ss) 16).map Int.toNat
noncomputable def figsF (ss : List Nat) : List (List Nat) := ((mN ss).take ((mN ss).length - 1)).map (wordN 4)
noncomputable def repF (s : Nat) : List Nat := List.replicate s 102
noncomputable def okCode (ss : List Nat) (cs : List (List Nat)) : Bool :=
  decide (2 ≤ cs.length) && decide (cs.length ≤ 16) && cs.all (fun c => decide (1 ≤ c.length) && decide (c.length ≤ 4) && c.all (fun x => x == 102 || x == 105))
  && (treeGo ss 64 [[102], [105]] [] == some cs) && pairB cs
  && (cs.map (fun c => scF c (cs.getD 0 [])) == 0 :: List.replicate (cs.length - 1) 1) && (scF (cs.getD 0 []) (cs.getD 1 []) == -1)
noncomputable def okMarks (ss : List Nat) (cs : List (List Nat)) : Bool :=
  (marksL (powS ss) 16 == (mN ss).map (fun (n : Nat) => (n : Int))) && decide (2 ≤ (mN ss).length) && decide ((mN ss).length ≤ 17) && ((mN ss).getD ((mN ss).length - 1) 0 == 16) && ((figsF ss).length == cs.length)
  && (cs == (List.range cs.length).map fun k => ((figsF ss).getD k []).take (cs.getD k []).length)
noncomputable def okPairs (ss : List Nat) : Bool := (List.range (ss.length - 1)).all fun k => scF (repF (ss.getD k 0)) (repF (ss.getD (k + 1) 0)) == if ss.getD k 0 == ss.getD (k + 1) 0 then 0 else -1
noncomputable def okS (ss : List Nat) : Bool := okCode ss (codeF ss) && okMarks ss (codeF ss) && okPairs ss
noncomputable def slists : Nat → Nat → List (List Nat)
  | 0, _ => [[]]
  | n + 1, lo => [1, 2, 3, 4].flatMap fun d => if lo ≤ d then (slists n d).map (d :: ·) else []
theorem slists_mem : ∀ (ss : List Nat) (lo : Nat), ss.Pairwise (· ≤ ·) → (∀ s ∈ ss, 1 ≤ s ∧ s ≤ 4 ∧ lo ≤ s) → ss ∈ slists ss.length lo
  | [], _, _, _ => List.mem_singleton.mpr rfl
  | d :: r, lo, hp, hr => by
    obtain ⟨h1, h2⟩ := List.pairwise_cons.mp hp
    obtain ⟨a1, a2, a3⟩ := hr d List.mem_cons_self
    have ih := slists_mem r d h2 fun s hs => ⟨(hr s (List.mem_cons_of_mem _ hs)).1, (hr s (List.mem_cons_of_mem _ hs)).2.1, h1 s hs⟩
    show d :: r ∈ [1, 2, 3, 4].flatMap _
    refine List.mem_flatMap.mpr ⟨d, by have : d = 1 ∨ d = 2 ∨ d = 3 ∨ d = 4 := by omega
                                       rcases this with rfl | rfl | rfl | rfl <;> decide, ?_⟩
    rw [if_pos a3]
    exact List.mem_map.mpr ⟨r, ih, rfl⟩
theorem okS2 : (slists 2 0).all okS = true := by decide +kernel
theorem okS3 : (slists 3 0).all okS = true := by decide +kernel
theorem okS4 : (slists 4 0).all okS = true := by decide +kernel
theorem okS5 : (slists 5 0).all okS = true := by decide +kernel
theorem okS6 : (slists 6 0).all okS = true := by decide +kernel
theorem okS_all {ss : List Nat} (h1 : 2 ≤ ss.length) (h2 : ss.length ≤ 6) (hp : ss.Pairwise (· ≤ ·)) (hr : ∀ s ∈ ss, 1 ≤ s ∧ s ≤ 4) : okS ss = true := by
  have hm := slists_mem ss 0 hp fun s hs => ⟨(hr s hs).1, (hr s hs).2, Nat.zero_le _⟩
  have : ss.length = 2 ∨ ss.length = 3 ∨ ss.length = 4 ∨ ss.length = 5 ∨ ss.length = 6 := by omega
  rcases this with e | e | e | e | e <;> rw [e] at hm
  · exact List.all_eq_true.mp okS2 _ hm
  · exact List.all_eq_true.mp okS3 _ hm
  · exact List.all_eq_true.mp okS4 _ hm
  · exact List.all_eq_true.mp okS5 _ hm
  · exact List.all_eq_true.mp okS6 _ hm
end

section
open PySem PyProof.Rows PySem.Calls PySem.W PySem.Spec
variable {w : World} {A : Around} {C : Cx} {S S' : St} {env : Env}
@[reducible] noncomputable def cs175 (L : Addr) : List (Str × Addr) := [(Str.ofString "rest", L + 7), (Str.ofString "figures", L + 6), (Str.ofString "found", L + 5), (Str.ofString "plain", L + 4), (Str.ofString "rising", L + 3), (Str.ofString "code", L + 2), (Str.ofString "totals", L + 1)]
@[reducible] noncomputable def cells (L : Addr) (tot cod ris pla fou fig res : Option Value) (R : St) : St :=
  (L + 1, .cell tot) :: (L + 2, .cell cod) :: (L + 3, .cell ris) :: (L + 4, .cell pla) :: (L + 5, .cell fou) :: (L + 6, .cell fig) :: (L + 7, .cell res) :: R
@[reducible] noncomputable def env175 (L : Addr) : Env := envF fd175 L 175 (cs175 L)
theorem V.st_cref {x : Str} {a : Addr} {c : Addr} {v₁} {Φ : Unit → St → Prop} (hc : env.cells.lookup x = some c) (hu : Upd c (.cell (some (.ref a))) S (.cell v₁) S') (h : Φ () S')
    (hk : env.scope.kind = .function := by with_unfolding_all rfl) (hl : env.kindOf x = some .cell := by with_unfolding_all rfl) : VU (model pw w) A C S (storeName env x (.ref a)) Φ := V.store_cell hc hu h hk hl
structure Drawn (ds ss : List Nat) : Prop where
  l2 : 2 ≤ ds.length
  l6 : ds.length ≤ 6
  r : ∀ s ∈ ds, 1 ≤ s ∧ s ≤ 4
  p : ss.Perm ds
  o : ss.Pairwise (· ≤ ·)
theorem Drawn.sl {ds ss : List Nat} (D : Drawn ds ss) : ss.length = ds.length := D.p.length_eq
theorem Drawn.sr {ds ss : List Nat} (D : Drawn ds ss) : ∀ s ∈ ss, 1 ≤ s ∧ s ≤ 4 := fun s hs => D.r s (D.p.mem_iff.mp hs)
theorem Drawn.ok {ds ss : List Nat} (D : Drawn ds ss) : okS ss = true := okS_all (by rw [D.sl]; exact D.l2) (by rw [D.sl]; exact D.l6) D.o D.sr
theorem Drawn.code {ds ss : List Nat} (D : Drawn ds ss) : okCode ss (codeF ss) = true := by
  have := D.ok
  unfold okS at this
  rw [Bool.and_eq_true, Bool.and_eq_true] at this
  exact this.1.1
theorem Drawn.clen {ds ss : List Nat} (D : Drawn ds ss) : 2 ≤ (codeF ss).length ∧ (codeF ss).length ≤ 16 := by
  have := D.code
  unfold okCode at this
  simp only [Bool.and_eq_true, decide_eq_true_eq] at this
  exact ⟨this.1.1.1.1.1.1, this.1.1.1.1.1.2⟩
theorem natVs (l : List Nat) : List.map natV l = List.map (fun i => Value.int i 0) (l.map fun (n : Nat) => (n : Int)) := by rw [List.map_map]; rfl
theorem V.sortedN {l : Addr} {ds : List Nat} (hl : IsL C S l (List.map natV ds)) (h64 : ds.length < 64) {Φ : Value → St → Prop}
    (h : ∀ (a : Addr) (ss : List Nat), ss.Perm ds → ss.Pairwise (· ≤ ·) → Φ (.ref a) ((a, .lst (List.map natV ss)) :: S)) : ∀ v, nt v = .ref l → VP (model pw w) A C S (call (.builtin "sorted") [v]) Φ := by
  rw [natVs] at hl
  refine V.sorted hl (by rw [List.length_map]; exact h64) fun a ns' hp ho => ?_
  have hid : ((ds.map fun (n : Nat) => (n : Int)).map Int.toNat) = ds := by
    rw [List.map_map]; exact List.map_id _
  have hn : ns' = (ns'.map Int.toNat).map fun (n : Nat) => (n : Int) := by
    rw [List.map_map]
    conv => lhs; rw [← List.map_id ns']
    refine List.map_congr_left fun x hx => ?_
    obtain ⟨n, _, rfl⟩ := List.mem_map.mp (hp.mem_iff.mp hx)
    rfl
  have hp' : (ns'.map Int.toNat).Perm ds := by
    have := hp.map Int.toNat
    rw [hid] at this; exact this
  have ho' : (ns'.map Int.toNat).Pairwise (· ≤ ·) := List.Pairwise.map _ (fun a b hab => by omega) ho
  have := h a _ hp' ho'
  rw [natVs, ← hn] at this
  exact this
theorem pow_small {b : Int} (hb : 1 ≤ b) (hb2 : b ≤ 17) {i : Nat} (hi : i ≤ 6) : b ^ (i : Int).toNat ≠ 0 ∧ (b ^ (i : Int).toNat).natAbs < 1073741824 := by
  rw [Int.toNat_natCast]
  refine ⟨?_, ?_⟩
  · have := Int.pow_pos (n := b) (m := i) (by omega); omega
  · rw [Int.natAbs_pow]
    have h1 : b.natAbs ≤ 17 := by omega
    exact Nat.lt_of_le_of_lt (Nat.le_trans (Nat.pow_le_pow_left h1 i) (Nat.pow_le_pow_right (by decide) hi)) (by decide)
theorem law_a (g : G w C) (hA : A.handled = none) (hd : A.depth + 4 < recursionLimit) (hU : A.units + 67 < cLine) {xs : List Int} (hl : ∀ S, IsL C S C.arg.1 (xs.map intV)) (hz : xs.length ≤ 63) {v : Value} (hv : nt v = .ref C.arg.1) {Φ : Value → St → Prop}
    (rest : ∀ L A' tl dl ml cl ds ss ms (sd : Int), A'.handled = none → A'.depth + 3 < recursionLimit → A'.units + 64 < cLine → Drawn ds ss → ms.length = 4 → (∀ m ∈ ms, m < (codeF ss).length) → 0 ≤ sd →
      VF (model pw w) A' C ((L, .ns [(Str.ofString "script", .ref C.arg.1), (Str.ofString "drawn", .ref dl), (Str.ofString "message", .ref ml), (Str.ofString "seed", intV sd), (Str.ofString "text", strV (Str.ofString ""))]) :: cells L (some (.ref tl)) (some (.ref cl)) none none none none none ((cl, .lst (List.map lV (codeF ss))) :: (dl, .lst (List.map natV ds)) :: (ml, .lst (List.map natV ms)) :: S))
        (execs ((dBody (st 18)).drop 5) (env175 L)) fun f S' => ∃ T, Wk C T S' ∧ Φ (retOf f) T) : VC (model pw w) A C S (.call (.ref 175) ⟨[v], []⟩) Φ := by
  refine VC.end (V.code_cellsT (fd := fd175) (binds := [(Str.ofString "script", v)]) (lb := [(Str.ofString "script", .ref C.arg.1)]) (cs := cs175) (cb := fun _ => none) (at_K g (lk175 _)) rfl (code_K g rfl (cd175 _)) rfl rfl rfl (by omega) (fun L => by rfl) (fun L => by show [Str.ofString "rest", Str.ofString "figures", Str.ofString "found", Str.ofString "plain", Str.ofString "rising", Str.ofString "code", Str.ofString "totals"].Nodup; decide +kernel) (fun L y hx => ?_) (fun L y z hx => ?_) (fun L n c hm => ?_)
    (fun L => (L, .ns [(Str.ofString "script", .ref C.arg.1)]) :: (L + 7, .cell none) :: (L + 6, .cell none) :: (L + 5, .cell none) :: (L + 4, .cell none) :: (L + 3, .cell none) :: (L + 2, .cell none) :: (L + 1, .cell none) :: S) (fun L => rfl) fun L => ?_)
  · cases List.mem_singleton.mp hx; exact .inl (by kernel_rfl)
  · cases List.mem_singleton.mp hx
    exact ⟨v, by kernel_rfl, hv⟩
  · simp only [List.mem_cons, List.mem_nil_iff, or_false, Prod.mk.injEq] at hm
    rcases hm with ⟨rfl, _⟩ | ⟨rfl, _⟩ | ⟨rfl, _⟩ | ⟨rfl, _⟩ | ⟨rfl, _⟩ | ⟨rfl, _⟩ | ⟨rfl, _⟩ <;> rfl
  have hd1 : (A.deeper (envF fd175 L 175 (cs175 L))).depth + 3 < recursionLimit := by show A.depth + 1 + 3 < _; omega
  have hU1 : (A.deeper (envF fd175 L 175 (cs175 L))).units + 64 < cLine := by show A.units + 3 + 64 < _; omega
  have hA' : (A.deeper (envF fd175 L 175 (cs175 L))).handled = none := hA
  generalize A.deeper (envF fd175 L 175 (cs175 L)) = A' at hA' hd1 hU1
  change VG _ _ _ _ _ (execs (_ :: _) _) _
  repeat walk_at "V"
  refine ⟨.fn (at_K g (lk141 _)) rfl, fun v hv => V.call_of (totals g hA' (by omega) hl hz hv fun ta t0 t1 t2 t3 => ?_)⟩
  walk_at "store"
  dsimp only
  with_reducible refine V.execs_cons ?_
  with_reducible refine V.assign_comp (cl := [(Str.ofString "totals", L + 1)]) (by kernel_rfl) ?_
  repeat walk_at "V"
  refine V.tail_nat (k := 0) (.sq (by walk_at "mem")) rfl (by walk_at "dec") ?_
  repeat walk_at "V"
  with_reducible refine VO.mod_int ?_ (by decide)
  repeat walk_at "V"
  obtain ⟨n, hn, hn3⟩ : ∃ n : Nat, 2 + t0.fmod 5 = (n : Int) ∧ 2 ≤ n ∧ n ≤ 6 := by
    obtain ⟨m, hm, hm3⟩ := fmod_nat (a := t0) (n := 5) (by decide)
    refine ⟨2 + m, ?_, by omega⟩
    have : t0.fmod 5 = (m : Int) := hm
    omega
  rw [hn]
  refine ⟨.type, fun u hu => V.range1 hu fun r => ?_⟩
  intro x' hx'
  obtain rfl := nt_ref hx'
  with_reducible refine V.iter_rng (n := n) (by walk_at "mem") (by omega) (fun it => ?_) (by omega) (by omega)
  intro it' hit dl L'
  obtain rfl := nt_ref hit
  refine V.compStart ?_ (V.iter_rit (by unfold rc; walk_at "mem") ⟨rfl, rfl⟩)
  with_reducible refine VK.to ((L', .ns []) :: (dl, .lst []) :: (it, rc 0 n 0) :: (L, .ns [(Str.ofString "script", .ref C.arg.1)]) :: (L + 1, .cell (some (.ref ta))) :: (L + 2, .cell none) :: (L + 3, .cell none) :: (L + 4, .cell none) :: (L + 5, .cell none) :: (L + 6, .cell none) :: (L + 7, .cell none) :: (ta, .sq [intV t0, intV t1, intV t2, intV t3]) :: S) (by walk_at "pk") ?_
  with_reducible refine V.compI (c := rc 0 n) (item := fun i => .int (0 + (i : Nat)) 0) (n := n) (fun i ys S' => ∃ bs : List Nat, ys = List.map natV bs ∧ bs.length = i ∧ (∀ x ∈ bs, 1 ≤ x ∧ x ≤ 4) ∧ S' = (L, .ns [(Str.ofString "script", .ref C.arg.1)]) :: (L + 1, .cell (some (.ref ta))) :: (L + 2, .cell none) :: (L + 3, .cell none) :: (L + 4, .cell none) :: (L + 5, .cell none) :: (L + 6, .cell none) :: (L + 7, .cell none) :: (ta, .sq [intV t0, intV t1, intV t2, intV t3]) :: S) (fun _ _ _ _ => It.rng hA') (by rw [sizeLine_eq]; simp only [List.length_nil]; omega) ⟨[], by with_unfolding_all rfl, by with_unfolding_all rfl, (by intro x hx; exact absurd hx List.not_mem_nil), by with_unfolding_all rfl⟩ ?_ ?_
  · rintro i ys S' hi ⟨bs, rfl, rfl, hbs, rfl⟩ v hv
    have hv0 : nt v = intV (bs.length : Nat) := by rw [hv]; exact congrArg intV (Int.zero_add _)
    clear hv
    with_reducible refine V.own_name ?_
    with_reducible refine V.assign_Name ?_
    revert v
    walk_at "store"
    with_reducible refine V.tests_nil ?_
    refine ⟨fun _ => ?_, fun hb => by cases hb⟩
    repeat walk_at "V"
    refine V.tail_nat (k := 1) (.sq (by walk_at "mem")) rfl (by walk_at "dec") ?_
    repeat walk_at "V"
    with_reducible refine VO.pow_int ?_ (by omega) (by omega) (by decide)
    obtain ⟨hp1, hp2⟩ := pow_small (b := 4) (by decide) (by decide) (i := bs.length) (by omega)
    with_reducible refine VO.fdiv_int ?_ hp1 hp2
    repeat walk_at "V"
    with_reducible refine VO.mod_int ?_ (by decide)
    repeat walk_at "V"
    obtain ⟨f, hf, hf4⟩ := fmod_nat (a := t1.fdiv (4 ^ (bs.length : Int).toNat)) (n := 4) (by decide)
    rw [show (t1.fdiv (4 ^ (bs.length : Int).toNat)).fmod 4 = (f : Int) from hf, show (1 : Int) + (f : Int) = ((1 + f : Nat) : Int) by omega]
    refine ⟨(L, .ns [(Str.ofString "script", .ref C.arg.1)]) :: (L + 1, .cell (some (.ref ta))) :: (L + 2, .cell none) :: (L + 3, .cell none) :: (L + 4, .cell none) :: (L + 5, .cell none) :: (L + 6, .cell none) :: (L + 7, .cell none) :: (ta, .sq [intV t0, intV t1, intV t2, intV t3]) :: S, by walk_at "pk", bs ++ [1 + f], by simp, by simp, ?_, rfl⟩
    intro x hx
    rcases List.mem_append.mp hx with hx | hx
    · exact hbs x hx
    · cases List.mem_singleton.mp hx; omega
  rintro ys S' ⟨ds, rfl, hdl, hds, rfl⟩
  with_reducible refine V.st_ref (by walk_at "upd") (by walk_at "set") ?_
  refine ⟨_, _, .head, ?_⟩
  dsimp only
  repeat walk_at "V"
  refine ⟨.builtin, V.sortedN (.lst (by walk_at "mem")) (by omega) fun sa ss hsp hso => ?_⟩
  have D : Drawn ds ss := ⟨by omega, by omega, hds, hsp, hso⟩
  have hss : ss ≠ [] := by intro e; have := D.sl; rw [e, hdl] at this; simp only [List.length_nil] at this; omega
  refine ⟨.fn (at_K g (lk151 _)) rfl, fun v hv => V.call_of (VC.wkl (S' := (sa, .lst (List.map natV ss)) :: (dl, .lst (List.map natV ds)) :: (L, .ns [(Str.ofString "script", .ref C.arg.1), (Str.ofString "drawn", .ref dl)]) :: (L + 1, .cell (some (.ref ta))) :: (L + 2, .cell none) :: (L + 3, .cell none) :: (L + 4, .cell none) :: (L + 5, .cell none) :: (L + 6, .cell none) :: (L + 7, .cell none) :: (ta, .sq [intV t0, intV t1, intV t2, intV t3]) :: S) (by walk_at "pk") (code151 g hA' (by omega) hss D.sr (by rw [D.sl]; omega) hv fun cl => ?_))⟩
  walk_at "store"
  dsimp only
  with_reducible refine V.execs_cons ?_
  with_reducible refine V.assign_comp (cl := [(Str.ofString "totals", L + 1), (Str.ofString "code", L + 2)]) (by kernel_rfl) ?_
  repeat walk_at "V"
  refine ⟨.type, fun u hu => V.range1 hu fun r => ?_⟩
  intro x' hx'
  obtain rfl := nt_ref hx'
  with_reducible refine V.iter_rng (n := 4) (by walk_at "mem") (by decide) (fun it => ?_) (by decide) (by decide)
  intro it' hit ml L'
  obtain rfl := nt_ref hit
  obtain ⟨hc2, hc16⟩ := D.clen
  have hcz : (List.map lV (codeF ss)).length ≤ sizeLine := by rw [List.length_map, sizeLine_eq]; omega
  refine V.compStart ?_ (V.iter_rit (by unfold rc; walk_at "mem") ⟨rfl, rfl⟩)
  with_reducible refine VK.to ((L', .ns []) :: (ml, .lst []) :: (it, rc 0 4 0) :: (cl, .lst (List.map lV (codeF ss))) :: (dl, .lst (List.map natV ds)) :: (L, .ns [(Str.ofString "script", .ref C.arg.1), (Str.ofString "drawn", .ref dl)]) :: (L + 1, .cell (some (.ref ta))) :: (L + 2, .cell (some (.ref cl))) :: (L + 3, .cell none) :: (L + 4, .cell none) :: (L + 5, .cell none) :: (L + 6, .cell none) :: (L + 7, .cell none) :: (ta, .sq [intV t0, intV t1, intV t2, intV t3]) :: S) (by walk_at "pk") ?_
  with_reducible refine V.compI (c := rc 0 4) (item := fun i => .int (0 + (i : Nat)) 0) (n := 4) (fun i ys S' => ∃ bs : List Nat, ys = List.map natV bs ∧ bs.length = i ∧ (∀ x ∈ bs, x < (codeF ss).length) ∧ S' = (cl, .lst (List.map lV (codeF ss))) :: (dl, .lst (List.map natV ds)) :: (L, .ns [(Str.ofString "script", .ref C.arg.1), (Str.ofString "drawn", .ref dl)]) :: (L + 1, .cell (some (.ref ta))) :: (L + 2, .cell (some (.ref cl))) :: (L + 3, .cell none) :: (L + 4, .cell none) :: (L + 5, .cell none) :: (L + 6, .cell none) :: (L + 7, .cell none) :: (ta, .sq [intV t0, intV t1, intV t2, intV t3]) :: S) (fun _ _ _ _ => It.rng hA') (by decide) ⟨[], by with_unfolding_all rfl, by with_unfolding_all rfl, (by intro x hx; exact absurd hx List.not_mem_nil), by with_unfolding_all rfl⟩ ?_ ?_
  · rintro i ys S' hi ⟨bs, rfl, rfl, hbs, rfl⟩ v hv
    have hv0 : nt v = intV (bs.length : Nat) := by rw [hv]; exact congrArg intV (Int.zero_add _)
    clear hv
    with_reducible refine V.own_name ?_
    with_reducible refine V.assign_Name ?_
    revert v
    walk_at "store"
    with_reducible refine V.tests_nil ?_
    refine ⟨fun _ => ?_, fun hb => by cases hb⟩
    repeat walk_at "V"
    refine V.tail_nat (k := 3) (.sq (by walk_at "mem")) rfl (by walk_at "dec") ?_
    repeat walk_at "V"
    with_reducible refine VO.pow_int ?_ (by omega) (by omega) (by decide)
    obtain ⟨hp1, hp2⟩ := pow_small (b := 17) (by decide) (by decide) (i := bs.length) (by omega)
    with_reducible refine VO.fdiv_int ?_ hp1 hp2
    repeat walk_at "V"
    refine ⟨.builtin, fun v hv => V.len_list hv (.lst (by walk_at "mem")) hcz ?_⟩
    rw [List.length_map]
    with_reducible refine VO.mod_int ?_ (by omega)
    obtain ⟨f, hf, hf4⟩ := fmod_nat (a := t3.fdiv (17 ^ (bs.length : Int).toNat)) (n := (codeF ss).length) (by omega)
    rw [hf]
    refine ⟨(cl, .lst (List.map lV (codeF ss))) :: (dl, .lst (List.map natV ds)) :: (L, .ns [(Str.ofString "script", .ref C.arg.1), (Str.ofString "drawn", .ref dl)]) :: (L + 1, .cell (some (.ref ta))) :: (L + 2, .cell (some (.ref cl))) :: (L + 3, .cell none) :: (L + 4, .cell none) :: (L + 5, .cell none) :: (L + 6, .cell none) :: (L + 7, .cell none) :: (ta, .sq [intV t0, intV t1, intV t2, intV t3]) :: S, by walk_at "pk", bs ++ [f], by simp, by simp, ?_, rfl⟩
    intro x hx
    rcases List.mem_append.mp hx with hx | hx
    · exact hbs x hx
    · cases List.mem_singleton.mp hx; exact hf4
  rintro ys S' ⟨ms, rfl, hms4, hms, rfl⟩
  with_reducible refine V.st_ref (by walk_at "upd") (by walk_at "set") ?_
  refine ⟨_, _, .head, ?_⟩
  dsimp only
  repeat walk_at "V"
  with_reducible refine V.assign_swapped ?_
  repeat walk_at "V"
  refine V.tail_nat (k := 2) (.sq (by walk_at "mem")) rfl (by walk_at "dec") ?_
  repeat walk_at "V"
  with_reducible refine VO.mod_int ?_ (by decide)
  repeat walk_at "V"
  refine ⟨by walk_at "dec", fun tp => ?_⟩
  intro vv hvv
  obtain rfl := nt_ref hvv
  refine V.unpack2 (.tup (by walk_at "mem")) rfl hA' ⟨_, _, rfl, ?_⟩
  walk_at "store"
  walk_at "store"
  dsimp only
  refine VG.wk ?_ (rest L A' ta dl ml cl ds ss ms (t2.fmod 65537) hA' hd1 hU1 D hms4 hms (by rw [Int.fmod_eq_emod_of_nonneg _ (by decide)]; exact Int.emod_nonneg _ (by decide)))
  walk_at "pk"
end

section
open PySem PyProof.Rows PySem.Calls PySem.W PySem.Spec
variable {w : World} {A : Around} {C : Cx} {S S' : St} {env : Env}
noncomputable def textOf (W : List (Str × List Nat)) : Str := ⟨(W.flatMap (·.2)).toArray⟩
theorem textOf_snoc (W : List (Str × List Nat)) (x t : Str) : (textOf W ++ t : Str) = textOf (W ++ [(x, t.cps.toList)]) := by
  show (⟨(W.flatMap (·.2)).toArray ++ t.cps⟩ : Str) = _
  unfold textOf
  congr 1; apply Array.toList_inj.mp; simp
noncomputable def dotS : Str := ⟨#[46]⟩
noncomputable def colS : Str := ⟨#[58]⟩
theorem textOf_last (W : List (Str × List Nat)) (x t : Str) : (textOf W ++ (Str.ofString ". : " ++ t) : Str) = textOf (W ++ [(dotS, [46, 32]), (colS, [58, 32]), (x, t.cps.toList)]) := by
  show (⟨(W.flatMap (·.2)).toArray ++ (#[46, 32, 58, 32] ++ t.cps)⟩ : Str) = _
  unfold textOf
  congr 1; apply Array.toList_inj.mp; simp
theorem textOf_len {W : List (Str × List Nat)} (h : ∀ p ∈ W, p.2.length ≤ 66) : (W.flatMap (·.2)).length ≤ 66 * W.length := by
  induction W with
  | nil => simp
  | cons p W ih =>
    have h1 := h p List.mem_cons_self
    have h2 := ih fun q hq => h q (List.mem_cons_of_mem _ hq)
    simp only [List.flatMap_cons, List.length_append, List.length_cons]
    omega
theorem textOf_size {W : List (Str × List Nat)} (h : ∀ p ∈ W, IsWord p.1 p.2) (hl : W.length ≤ 10) : (textOf W).length ≤ 660 := by
  have h1 := textOf_len fun p hp => word_size (h p hp)
  have h3 : (textOf W).length = (W.flatMap (·.2)).length := str_len _
  omega
theorem word_size' {x t : Str} (h : IsWord x t.cps.toList) : t.length ≤ 66 := by
  have := word_size h
  rw [Array.length_toList] at this; exact this
noncomputable def wS (s : Nat) : Str := ⟨(repF s).toArray⟩
theorem wS_FI {s : Nat} (h1 : 1 ≤ s) (h4 : s ≤ 4) : isFI (wS s) := by
  refine ⟨fun c hc => ?_, ?_, ?_⟩
  · have : c ∈ repF s := by unfold wS at hc; simpa using hc
    exact .inl (List.eq_of_mem_replicate this)
  · rw [show (wS s).length = (repF s).length from str_len _]; unfold repF; rw [List.length_replicate]; exact h1
  · rw [show (wS s).length = (repF s).length from str_len _]; unfold repF; rw [List.length_replicate]; omega
theorem VO.mul_f {n : Nat} {Φ : Value → St → Prop} (h1 : 1 ≤ n) (h2 : n ≤ 1000) (h : Φ (.str (wS n) 0) S) : ∀ a' b', nt a' = .str (Str.ofString "f") 0 → nt b' = .int (n : Int) 0 → VP (model pw w) A C S (binaryOp .Mult a' b') Φ :=
  VO.mul_str (c := 102) h1 h2 h
noncomputable def msgN (cs : List (List Nat)) (ms : List Nat) : List Nat := ms.flatMap fun m => cs.getD m []
theorem Drawn.cfact {ds ss : List Nat} (D : Drawn ds ss) {c : List Nat} (hc : c ∈ codeF ss) : 1 ≤ c.length ∧ c.length ≤ 4 ∧ ∀ x ∈ c, x = 102 ∨ x = 105 := by
  have := D.code
  unfold okCode at this
  simp only [Bool.and_eq_true] at this
  have := List.all_eq_true.mp this.1.1.1.1.2 c hc
  simp only [Bool.and_eq_true, decide_eq_true_eq] at this
  refine ⟨this.1.1, this.1.2, fun x hx => ?_⟩
  have h := List.all_eq_true.mp this.2 x hx
  simpa using h
theorem getD_mem {cs : List (List Nat)} {m : Nat} (h : m < cs.length) : cs.getD m [] ∈ cs := by
  rw [List.getD_eq_getElem?_getD, List.getElem?_eq_getElem h]; exact List.getElem_mem h
theorem Drawn.msg {ds ss : List Nat} (D : Drawn ds ss) : ∀ {ms : List Nat}, (∀ m ∈ ms, m < (codeF ss).length) → (∀ x ∈ msgN (codeF ss) ms, x = 102 ∨ x = 105) ∧ ms.length ≤ (msgN (codeF ss) ms).length ∧ (msgN (codeF ss) ms).length ≤ 4 * ms.length
  | [], _ => ⟨fun x hx => by simp [msgN] at hx, Nat.le_refl _, Nat.le_refl _⟩
  | m :: r, h => by
    obtain ⟨a, b, c⟩ := Drawn.msg D (ms := r) fun q hq => h q (List.mem_cons_of_mem _ hq)
    obtain ⟨e, f, g⟩ := D.cfact (getD_mem (h m List.mem_cons_self))
    refine ⟨fun x hx => ?_, ?_, ?_⟩
    · rcases List.mem_append.mp (show x ∈ (codeF ss).getD m [] ++ msgN (codeF ss) r from hx) with hx | hx
      · exact g x hx
      · exact a x hx
    · show r.length + 1 ≤ ((codeF ss).getD m [] ++ msgN (codeF ss) r).length
      rw [List.length_append]; omega
    · show ((codeF ss).getD m [] ++ msgN (codeF ss) r).length ≤ 4 * (r.length + 1)
      rw [List.length_append]; omega
theorem Drawn.msgFI {ds ss : List Nat} (D : Drawn ds ss) {ms : List Nat} (h4 : ms.length = 4) (h : ∀ m ∈ ms, m < (codeF ss).length) : isFI ⟨(msgN (codeF ss) ms).toArray⟩ := by
  obtain ⟨a, b, c⟩ := D.msg h
  refine ⟨fun x hx => a x (by simpa using hx), ?_, ?_⟩
  · rw [show (⟨(msgN (codeF ss) ms).toArray⟩ : Str).length = (msgN (codeF ss) ms).length from str_len _]; omega
  · rw [show (⟨(msgN (codeF ss) ms).toArray⟩ : Str).length = (msgN (codeF ss) ms).length from str_len _]; omega
structure TX (ds ms : List Nat) (cs : List (List Nat)) (W : List (Str × List Nat)) : Prop where
  e : ∃ W0 tm, W = W0 ++ [(dotS, [46, 32]), (colS, [58, 32]), (⟨(msgN cs ms).toArray⟩, tm)] ∧ List.map Prod.fst W0 = ds.map wS ∧ (∀ p ∈ W0, IsWord p.1 p.2) ∧ IsWord ⟨(msgN cs ms).toArray⟩ tm
theorem law_b (g : G w C) {A' : Around} {L tl dl ml cl : Addr} {ds ss ms : List Nat} {sd : Int} (hA' : A'.handled = none) (hd : A'.depth + 3 < recursionLimit) (D : Drawn ds ss) (hm4 : ms.length = 4) (hms : ∀ m ∈ ms, m < (codeF ss).length) (h0 : 0 ≤ sd) {Φ : Flow → St → Prop}
    (rest : ∀ W, TX ds ms (codeF ss) W →
      VF (model pw w) A' C ((L, .ns [(Str.ofString "script", .ref C.arg.1), (Str.ofString "drawn", .ref dl), (Str.ofString "message", .ref ml), (Str.ofString "text", strV (textOf W))]) :: cells L (some (.ref tl)) (some (.ref cl)) none none none none none ((cl, .lst (List.map lV (codeF ss))) :: (dl, .lst (List.map natV ds)) :: (ml, .lst (List.map natV ms)) :: S)) (execs ((dBody (st 18)).drop 8) (env175 L)) Φ) :
    VF (model pw w) A' C ((L, .ns [(Str.ofString "script", .ref C.arg.1), (Str.ofString "drawn", .ref dl), (Str.ofString "message", .ref ml), (Str.ofString "seed", intV sd), (Str.ofString "text", strV (Str.ofString ""))]) :: cells L (some (.ref tl)) (some (.ref cl)) none none none none none ((cl, .lst (List.map lV (codeF ss))) :: (dl, .lst (List.map natV ds)) :: (ml, .lst (List.map natV ms)) :: S)) (execs ((dBody (st 18)).drop 5) (env175 L)) Φ := by
  have hdl := D.l6
  change VG _ _ _ _ _ (execs (_ :: _) _) _
  repeat walk_at "V"
  intro x' hx'
  obtain rfl := nt_ref hx'
  with_reducible refine V.iter_list (.lst (by walk_at "mem")) fun it => ?_
  intro it' hit
  obtain rfl := nt_ref hit
  with_reducible refine V.forI (c := fun i => .lit dl i) (item := fun i => (List.map natV ds).getD i .none) (n := (List.map natV ds).length) (fun i S' => ∃ W sd, List.map Prod.fst W = (ds.take i).map wS ∧ (∀ p ∈ W, IsWord p.1 p.2) ∧ 0 ≤ sd ∧ S' = (L, .ns [(Str.ofString "script", .ref C.arg.1), (Str.ofString "drawn", .ref dl), (Str.ofString "message", .ref ml), (Str.ofString "seed", intV (sd)), (Str.ofString "text", strV (textOf W))]) :: cells L (some (.ref tl)) (some (.ref cl)) none none none none none ((cl, .lst (List.map lV (codeF ss))) :: (dl, .lst (List.map natV ds)) :: (ml, .lst (List.map natV ms)) :: S)) (fun j S' hS' => by obtain ⟨_, _, _, _, _, rfl⟩ := hS'; exact It.list hA' fun c => .lst (by walk_at "mem")) ⟨[], sd, by with_unfolding_all rfl, by intro p hp; exact absurd hp List.not_mem_nil, h0, by with_unfolding_all rfl⟩ ?_ ?_
  · rintro i S' hi ⟨W, sd, hW1, hW2, h0, rfl⟩ v hv
    have hi' : i < ds.length := by rw [List.length_map] at hi; exact hi
    obtain ⟨c, hc⟩ : ∃ c, ds[i]? = some c := ⟨_, List.getElem?_eq_getElem hi'⟩
    rw [List.getD_eq_getElem?_getD, List.getElem?_map, hc, Option.map_some, Option.getD_some] at hv
    obtain ⟨hc1, hc4⟩ := D.r c (List.mem_of_getElem? hc)
    with_reducible refine V.assign_Name ?_
    revert v
    walk_at "store"
    repeat walk_at "V"
    with_reducible refine VO.mul_f hc1 (by omega) ?_
    repeat walk_at "V"
    refine ⟨.fn (at_K g (lk146 _)) rfl, fun v u hv hu => V.call_of (word g hA' (by omega) (wS_FI hc1 hc4) hv hu h0 fun wa t s' hw hs1 hs2 => ?_)⟩
    with_reducible refine V.assign_pair hA' (by walk_at "mem") fun x' hx' y' hy' => ?_
    with_reducible refine V.assign_Name ?_
    revert x'
    walk_at "store"
    with_reducible refine V.assign_Name ?_
    revert y'
    walk_at "store"
    dsimp only
    repeat walk_at "V"
    have hlW : W.length ≤ 10 := by
      have := congrArg List.length hW1
      rw [List.length_map, List.length_map, List.length_take] at this
      omega
    have htz : (textOf W).length + t.length ≤ sizeLine := by
      have := textOf_size hW2 hlW
      have := word_size' hw
      rw [sizeLine_eq]; omega
    with_reducible refine VO.iadd_str ?_ htz
    rw [textOf_snoc W (wS c) t]
    walk_at "store"
    dsimp only
    repeat walk_at "V"
    refine ⟨(L, .ns [(Str.ofString "script", .ref C.arg.1), (Str.ofString "drawn", .ref dl), (Str.ofString "message", .ref ml), (Str.ofString "seed", intV (s')), (Str.ofString "text", strV (textOf (W ++ [(wS c, t.cps.toList)])))]) :: cells L (some (.ref tl)) (some (.ref cl)) none none none none none ((cl, .lst (List.map lV (codeF ss))) :: (dl, .lst (List.map natV ds)) :: (ml, .lst (List.map natV ms)) :: S), by walk_at "pk", W ++ [(wS c, t.cps.toList)], s', ?_, ?_, hs1, rfl⟩
    · rw [List.map_append, hW1, take_snoc hc, List.map_append]; rfl
    · intro p hp
      rcases List.mem_append.mp hp with hp | hp
      · exact hW2 p hp
      · cases List.mem_singleton.mp hp; exact hw
  · rintro S' ⟨W, sd, hW1, hW2, h0, rfl⟩
    rw [List.length_map, List.take_length] at hW1
    repeat walk_at "V"
    with_reducible refine V.call_meth ?_
    repeat walk_at "V"
    intro ov hov
    with_reducible refine V.meth_str hov PySem.F.slot_str_join PySem.F.type_str_join ?_
    with_reducible refine V.cw1 ?_
    with_reducible refine V.listcomp (cl := [(Str.ofString "code", L + 2)]) (by kernel_rfl) ?_
    repeat walk_at "V"
    intro x' hx'
    obtain rfl := nt_ref hx'
    with_reducible refine V.iter_list (.lst (by walk_at "mem")) fun it => ?_
    intro it' hit acc L'
    obtain rfl := nt_ref hit
    with_reducible refine V.compStart ?_ (V.iter_lit (by walk_at "mem") ⟨rfl, rfl⟩)
    have hcz : (List.map lV (codeF ss)).length ≤ sizeLine := by have := D.clen; rw [List.length_map, sizeLine_eq]; omega
    with_reducible refine VK.to ((L', .ns []) :: (acc, .lst []) :: (it, .lit ml 0) :: (L, .ns [(Str.ofString "script", .ref C.arg.1), (Str.ofString "drawn", .ref dl), (Str.ofString "message", .ref ml), (Str.ofString "seed", intV (sd)), (Str.ofString "text", strV (textOf W))]) :: cells L (some (.ref tl)) (some (.ref cl)) none none none none none ((cl, .lst (List.map lV (codeF ss))) :: (dl, .lst (List.map natV ds)) :: (ml, .lst (List.map natV ms)) :: S)) (by walk_at "pk") ?_
    with_reducible refine V.compI (c := fun i => .lit ml i) (item := fun i => (List.map natV ms).getD i .none) (n := (List.map natV ms).length) (fun i ys S' => ys = List.map lV ((ms.take i).map fun m => (codeF ss).getD m []) ∧ S' = (L, .ns [(Str.ofString "script", .ref C.arg.1), (Str.ofString "drawn", .ref dl), (Str.ofString "message", .ref ml), (Str.ofString "seed", intV (sd)), (Str.ofString "text", strV (textOf W))]) :: cells L (some (.ref tl)) (some (.ref cl)) none none none none none ((cl, .lst (List.map lV (codeF ss))) :: (dl, .lst (List.map natV ds)) :: (ml, .lst (List.map natV ms)) :: S)) (fun i ys S' hS' => by obtain ⟨_, rfl⟩ := hS'; exact It.list hA' fun c => .lst (by walk_at "mem")) (by rw [List.length_map, hm4, sizeLine_eq]; decide) ⟨by with_unfolding_all rfl, by with_unfolding_all rfl⟩ ?_ ?_
    · rintro i ys S' hi ⟨rfl, rfl⟩ v hv
      have hi' : i < ms.length := by rw [List.length_map] at hi; exact hi
      obtain ⟨m, hm⟩ : ∃ c, ms[i]? = some c := ⟨_, List.getElem?_eq_getElem hi'⟩
      rw [List.getD_eq_getElem?_getD, List.getElem?_map, hm, Option.map_some, Option.getD_some] at hv
      have hmc := hms m (List.mem_of_getElem? hm)
      have hcm : (codeF ss)[m]? = some ((codeF ss).getD m []) := by rw [List.getD_eq_getElem?_getD, List.getElem?_eq_getElem hmc]; rfl
      with_reducible refine V.own_name ?_
      with_reducible refine V.assign_Name ?_
      revert v
      walk_at "store"
      with_reducible refine V.tests_nil ?_
      refine ⟨fun _ => ?_, fun hb => by cases hb⟩
      repeat walk_at "V"
      with_reducible refine V.tail_nat (.lst (by walk_at "mem")) (by rw [List.getElem?_map, hcm, Option.map_some]) hcz ?_
      refine ⟨(L, .ns [(Str.ofString "script", .ref C.arg.1), (Str.ofString "drawn", .ref dl), (Str.ofString "message", .ref ml), (Str.ofString "seed", intV (sd)), (Str.ofString "text", strV (textOf W))]) :: cells L (some (.ref tl)) (some (.ref cl)) none none none none none ((cl, .lst (List.map lV (codeF ss))) :: (dl, .lst (List.map natV ds)) :: (ml, .lst (List.map natV ms)) :: S), by walk_at "pk", ?_, rfl⟩
      rw [take_snoc hm, List.map_append, List.map_append]; rfl
    rintro ys S' ⟨rfl, rfl⟩
    rw [List.length_map, List.take_length]
    refine ⟨_, _, .head, ?_⟩
    refine ⟨.builtin, fun v hv => ?_⟩
    obtain rfl := nt_ref hv
    have hjs : Txt.join (Str.ofString "") (ms.map fun m => (⟨((codeF ss).getD m []).toArray⟩ : Str)) = ⟨(msgN (codeF ss) ms).toArray⟩ := by
      rw [join_emp, List.flatMap_map]; rfl
    obtain ⟨hm1, hm2, hm3⟩ := D.msg hms
    have hjl : ((ms.map fun m => (⟨((codeF ss).getD m []).toArray⟩ : Str)).map (·.length)).sum = (msgN (codeF ss) ms).length := by
      unfold msgN
      rw [List.length_flatMap, List.map_map]
      congr 1
    have hjv : (ms.map fun m => (⟨((codeF ss).getD m []).toArray⟩ : Str)).map (fun i => Value.str i 0) = List.map lV (ms.map fun m => (codeF ss).getD m []) := by
      rw [List.map_map, List.map_map]; rfl
    refine V.join (ys := ms.map fun m => (⟨((codeF ss).getD m []).toArray⟩ : Str)) hov (by rw [hjv]; exact .lst (by walk_at "mem")) (joinOk_emp (by rw [hjl]; omega)) ?_
    rw [hjs]
    repeat walk_at "V"
    refine ⟨.fn (at_K g (lk146 _)) rfl, fun v u hv hu => V.call_of (word g hA' (by omega) (D.msgFI hm4 hms) hv hu h0 fun wa t s' hw hs1 hs2 => ?_)⟩
    with_reducible refine V.assign_pair hA' (by walk_at "mem") fun x' hx' y' hy' => ?_
    with_reducible refine V.assign_Name ?_
    revert x'
    walk_at "store"
    with_reducible refine V.assign_Name ?_
    revert y'
    walk_at "store"
    dsimp only
    repeat walk_at "V"
    have hlW : W.length ≤ 10 := by
      have := congrArg List.length hW1
      rw [List.length_map, List.length_map] at this
      omega
    have hz1 : (Str.ofString ". : ").length + t.length ≤ sizeLine := by
      have := word_size' hw
      rw [show (Str.ofString ". : ").length = 4 by decide, sizeLine_eq]; omega
    have hz2 : (textOf W).length + (Str.ofString ". : " ++ t : Str).length ≤ sizeLine := by
      have := word_size' hw
      have := textOf_size hW2 hlW
      rw [Str.length_append, show (Str.ofString ". : ").length = 4 by decide, sizeLine_eq]; omega
    with_reducible refine VO.add_str ?_ hz1
    with_reducible refine VO.iadd_str ?_ hz2
    rw [textOf_last W ⟨(msgN (codeF ss) ms).toArray⟩ t]
    walk_at "store"
    dsimp only
    refine VG.wk ?_ (rest _ ⟨W, t.cps.toList, rfl, hW1, hW2, hw⟩)
    walk_at "pk"
end

section
open PySem PyProof.Rows PySem.Calls PySem.W PySem.Spec
variable {w : World} {A : Around} {C : Cx} {S S' : St} {env : Env}
noncomputable def posW (W : List (Str × List Nat)) (m : Nat) : Nat := ((W.take m).flatMap (·.2)).length
noncomputable def nlW (W : List (Str × List Nat)) (m : Nat) : Int := 1 + (((W.take m).flatMap (·.2)).count 10 : Nat)
theorem W_step {W : List (Str × List Nat)} {m : Nat} {x : Str} {t : List Nat} (h : W[m]? = some (x, t)) : (textOf W).cps.toList.drop (posW W m) = t ++ (W.drop (m + 1)).flatMap (·.2) ∧ posW W m + t.length = posW W (m + 1) ∧ nlW W m + (t.count 10 : Nat) = nlW W (m + 1) := by
  have e1 : W.take (m + 1) = W.take m ++ [(x, t)] := take_snoc h
  have e2 : W.drop m = (x, t) :: W.drop (m + 1) := by
    obtain ⟨hl, hx⟩ := List.getElem?_eq_some_iff.mp h
    rw [List.drop_eq_getElem_cons hl, hx]
  refine ⟨?_, ?_, ?_⟩
  · have e3 : W.flatMap (·.2) = (W.take m).flatMap (·.2) ++ (W.drop m).flatMap (·.2) := by rw [← List.flatMap_append, List.take_append_drop]
    show (W.flatMap (·.2)).toArray.toList.drop _ = _
    rw [List.toList_toArray, e3]
    unfold posW
    rw [List.drop_left, e2, List.flatMap_cons]
  · unfold posW; rw [e1, List.flatMap_append, List.length_append, List.flatMap_singleton]
  · unfold nlW; rw [e1, List.flatMap_append, List.count_append]; simp only [List.flatMap_cons, List.flatMap_nil, List.append_nil]; omega
noncomputable def TokAt (ds : List Nat) (m : Nat) (tok : Str) : Prop := (∃ s, ds[m]? = some s ∧ IsTok (wS s) tok) ∨ (m = ds.length ∧ tok = dotS)
theorem tok_ne_dot {x tok : Str} (h : IsTok x tok) : (tok != Str.ofString ".") = true := by
  obtain ⟨cs, rfl, hok, _, _⟩ := h
  rw [bne_iff_ne]
  intro e
  have e2 : cs = [46] := by
    have := congrArg (fun s : Str => s.cps.toList) e
    simpa using this.trans (by decide : (Str.ofString ".").cps.toList = [46])
  have := hok 46 (by rw [e2]; exact List.mem_singleton.mpr rfl)
  exact absurd this (by decide +kernel)
theorem TX.len {ds ms : List Nat} {cs : List (List Nat)} {W : List (Str × List Nat)} (h : TX ds ms cs W) : W.length = ds.length + 3 := by
  obtain ⟨W0, tm, rfl, h1, _, _⟩ := h.e
  have := congrArg List.length h1
  rw [List.length_map, List.length_map] at this
  rw [List.length_append, this]; rfl
theorem TX.word {ds ms : List Nat} {cs : List (List Nat)} {W : List (Str × List Nat)} (h : TX ds ms cs W) {m s : Nat} (hs : ds[m]? = some s) : ∃ t, W[m]? = some (wS s, t) ∧ IsWord (wS s) t := by
  obtain ⟨W0, tm, rfl, h1, h2, _⟩ := h.e
  have hl : W0.length = ds.length := by
    have := congrArg List.length h1
    rw [List.length_map, List.length_map] at this; exact this
  have hm : m < ds.length := (List.getElem?_eq_some_iff.mp hs).1
  have hx : (List.map Prod.fst W0)[m]? = some (wS s) := by rw [h1, List.getElem?_map, hs]; rfl
  rw [List.getElem?_map] at hx
  obtain ⟨⟨y, t⟩, e1, rfl⟩ := Option.map_eq_some_iff.mp hx
  exact ⟨t, by rw [List.getElem?_append_left (by omega)]; exact e1, h2 _ (List.mem_of_getElem? e1)⟩
theorem TX.rest {ds ms : List Nat} {cs : List (List Nat)} {W : List (Str × List Nat)} (h : TX ds ms cs W) : W[ds.length]? = some (dotS, [46, 32]) ∧ W[ds.length + 1]? = some (colS, [58, 32]) ∧ ∃ tm, W[ds.length + 2]? = some (⟨(msgN cs ms).toArray⟩, tm) ∧ IsWord ⟨(msgN cs ms).toArray⟩ tm := by
  obtain ⟨W0, tm, rfl, h1, h2, h3⟩ := h.e
  have hl : W0.length = ds.length := by
    have := congrArg List.length h1
    rw [List.length_map, List.length_map] at this; exact this
  refine ⟨?_, ?_, tm, ?_, h3⟩
  · rw [← hl, List.getElem?_append_right (Nat.le_refl _), Nat.sub_self]; rfl
  · rw [← hl, List.getElem?_append_right (by omega), show W0.length + 1 - W0.length = 1 by omega]; rfl
  · rw [← hl, List.getElem?_append_right (by omega), show W0.length + 2 - W0.length = 2 by omega]; rfl
theorem TX.size {ds ms : List Nat} {cs : List (List Nat)} {W : List (Str × List Nat)} (h : TX ds ms cs W) (hl : ds.length ≤ 6) : (textOf W).length ≤ sizeLine := by
  have h1 := h.len
  have h2 : ∀ p ∈ W, p.2.length ≤ 66 := by
    obtain ⟨W0, tm, rfl, _, h2, h3⟩ := h.e
    intro p hp
    rcases List.mem_append.mp hp with hp | hp
    · exact word_size (h2 p hp)
    · simp only [List.mem_cons, List.mem_nil_iff, or_false] at hp
      rcases hp with rfl | rfl | rfl
      · decide
      · decide
      · exact word_size h3
  have := textOf_len h2
  rw [show (textOf W).length = (W.flatMap (·.2)).length from str_len _, sizeLine_eq]; omega
theorem V.tokI (g : G w C) (hA : A.handled = none) (hd : A.depth + 2 < recursionLimit) {a : LA} {ds ms : List Nat} {cs : List (List Nat)} {W : List (Str × List Nat)} (hT : TX ds ms cs W) (hl : ds.length ≤ 6) {m : Nat} (hm : m ≤ ds.length) {pl : Sem Bool} {pos pos' : Pos} {Φ : Value → St → Prop} (R : St) (hS : Wk C (lexS a (textOf W) (posW W m : Nat) (nlW W m) [] R) S)
    (h : ∀ tok, TokAt ds m tok → Φ (.str tok 0) (lexS a (textOf W) (posW W (m + 1) : Nat) (nlW W (m + 1)) [] R)) :
    ∀ ov, nt ov = .ref a.lx → VG (model pw w) A C (fun x => x) S (getMethod ov (Str.ofString "get_token") pl) fun fx S₂ => VP (model pw w) A C S₂ (callWith pos fx.1 fx.2 (backTo pos' (starEach [] env)) []) Φ := by
  rcases Nat.lt_or_ge m ds.length with hlt | hge
  · obtain ⟨s, hs⟩ : ∃ s, ds[m]? = some s := ⟨_, List.getElem?_eq_getElem hlt⟩
    obtain ⟨t, hW, hw⟩ := hT.word hs
    obtain ⟨h1, h2, h3⟩ := W_step hW
    refine V.tokW g hA hd R hS (hT.size hl) hw h1 fun tok htok => ?_
    rw [h2, h3]
    exact h tok (.inl ⟨s, hs, htok⟩)
  · obtain rfl : m = ds.length := by omega
    obtain ⟨h1, h2, h3⟩ := W_step hT.rest.1
    refine V.tokD g hA hd R hS (hT.size hl) (.inl rfl) h1 ?_
    have e2 : nlW W ds.length = nlW W (ds.length + 1) := by rw [← h3]; exact (Int.add_zero _).symm
    have e1 : posW W ds.length + 2 = posW W (ds.length + 1) := h2
    rw [e1, e2]
    exact h dotS (.inr ⟨rfl, rfl⟩)
theorem law_c (g : G w C) (DA : DefAt C 157 153 4 (boot_o_4 w.params)) {A' : Around} {L tl dl ml cl : Addr} {ds ss ms : List Nat} (hA' : A'.handled = none) (hd : A'.depth + 3 < recursionLimit) (D : Drawn ds ss) {W : List (Str × List Nat)} (hT : TX ds ms (codeF ss) W) {Φ : Flow → St → Prop}
    (rest : ∀ (a : LA) ra ca, VF (model pw w) A' C (lexS a (textOf W) (posW W (ds.length + 1) : Nat) (nlW W (ds.length + 1)) ([]) ((L, .ns [(Str.ofString "script", .ref C.arg.1), (Str.ofString "drawn", .ref dl), (Str.ofString "message", .ref ml), (Str.ofString "text", strV (textOf W)), (Str.ofString "lexer", .ref a.lx), (Str.ofString "came", .ref ca), (Str.ofString "token", strV dotS)]) :: cells L (some (.ref tl)) (some (.ref cl)) (some (.ref ra)) none none none none ((cl, .lst (List.map lV (codeF ss))) :: (dl, .lst (List.map natV ds)) :: (ml, .lst (List.map natV ms)) :: (ra, .lst ([])) :: (ca, .lst (List.map strV (ds.map wS))) :: S))) (execs ((dBody (st 18)).drop 12) (env175 L)) Φ) :
    VF (model pw w) A' C ((L, .ns [(Str.ofString "script", .ref C.arg.1), (Str.ofString "drawn", .ref dl), (Str.ofString "message", .ref ml), (Str.ofString "text", strV (textOf W))]) :: cells L (some (.ref tl)) (some (.ref cl)) none none none none none ((cl, .lst (List.map lV (codeF ss))) :: (dl, .lst (List.map natV ds)) :: (ml, .lst (List.map natV ms)) :: ((153, .tab) :: S))) (execs ((dBody (st 18)).drop 8) (env175 L)) Φ := by
  have hdl := D.l6
  have hdl2 := D.l2
  have htx := hT.size hdl
  change VG _ _ _ _ _ (execs (_ :: _) _) _
  repeat walk_at "V"
  refine ⟨.fn (at_K g (lk158 _)) rfl, fun v hv => V.call_of (VC.wkl (S' := (153, .tab) :: (L, .ns [(Str.ofString "script", .ref C.arg.1), (Str.ofString "drawn", .ref dl), (Str.ofString "message", .ref ml), (Str.ofString "text", strV (textOf W))]) :: cells L (some (.ref tl)) (some (.ref cl)) none none none none none ((cl, .lst (List.map lV (codeF ss))) :: (dl, .lst (List.map natV ds)) :: (ml, .lst (List.map natV ms)) :: S)) (by walk_at "pk") (lexer g DA (by omega) hv fun a => ?_))⟩
  walk_at "store"
  dsimp only
  with_reducible refine V.execs_cons ?_
  first
  | with_reducible refine V.assign_tup ?_
  | with_reducible refine V.assign_swapped ?_
  repeat walk_at "V"
  refine ⟨by walk_at "dec", fun ra => ?_⟩
  repeat walk_at "V"
  refine ⟨by walk_at "dec", fun ca => ?_⟩
  repeat walk_at "V"
  refine ⟨by walk_at "dec", fun ta => ?_⟩
  with_reducible refine V.assign_pair hA' (by walk_at "mem") fun x' hx' y' hy' => ?_
  with_reducible refine V.assign_Name ?_
  revert x'
  walk_at "store"
  with_reducible refine V.assign_Name ?_
  revert y'
  walk_at "store"
  dsimp only
  with_reducible refine V.execs_cons ?_
  with_reducible refine V.assign_name ?_
  with_reducible refine V.call_meth ?_
  repeat walk_at "V"
  with_reducible refine V.tokI g hA' (by omega) hT hdl (m := 0) (Nat.zero_le _) ((L, .ns [(Str.ofString "script", .ref C.arg.1), (Str.ofString "drawn", .ref dl), (Str.ofString "message", .ref ml), (Str.ofString "text", strV (textOf W)), (Str.ofString "lexer", .ref a.lx), (Str.ofString "came", .ref ca)]) :: cells L (some (.ref tl)) (some (.ref cl)) (some (.ref ra)) none none none none ((cl, .lst (List.map lV (codeF ss))) :: (dl, .lst (List.map natV ds)) :: (ml, .lst (List.map natV ms)) :: (ra, .lst []) :: (ca, .lst []) :: S)) (by have e1 : ((posW W 0 : Nat) : Int) = 0 := rfl; have e2 : nlW W 0 = 1 := rfl; rw [e1, e2]; walk_at "pk") fun tok htok => ?_
  walk_at "store"
  dsimp only
  walk_at "V"
  with_reducible refine V.whileI (fun n S' => ∃ i tok, n = ds.length - i ∧ i ≤ ds.length ∧ TokAt ds i tok ∧ S' = lexS a (textOf W) (posW W (i + 1) : Nat) (nlW W (i + 1)) ([]) ((L, .ns [(Str.ofString "script", .ref C.arg.1), (Str.ofString "drawn", .ref dl), (Str.ofString "message", .ref ml), (Str.ofString "text", strV (textOf W)), (Str.ofString "lexer", .ref a.lx), (Str.ofString "came", .ref ca), (Str.ofString "token", strV tok)]) :: cells L (some (.ref tl)) (some (.ref cl)) (some (.ref ra)) none none none none ((cl, .lst (List.map lV (codeF ss))) :: (dl, .lst (List.map natV ds)) :: (ml, .lst (List.map natV ms)) :: (ra, .lst ([])) :: (ca, .lst (List.map strV ((ds.take i).map wS))) :: S))) ds.length ⟨0, tok, rfl, Nat.zero_le _, htok, by with_unfolding_all rfl⟩ ?_
  clear htok tok
  rintro n S' ⟨i, tok, rfl, hi, htok, rfl⟩
  rcases htok with ⟨s, hs, htok⟩ | ⟨rfl, rfl⟩
  · have hlt : i < ds.length := (List.getElem?_eq_some_iff.mp hs).1
    obtain ⟨hs1, hs4⟩ := D.r s (List.mem_of_getElem? hs)
    have hcz : (List.map strV ((ds.take i).map wS)).length ≤ sizeLine := by rw [List.length_map, List.length_map, List.length_take, sizeLine_eq]; omega
    have hdz : (List.map natV ds).length ≤ sizeLine := by rw [List.length_map, sizeLine_eq]; omega
    have hcl : (List.map strV ((ds.take i).map wS)).length = i := by rw [List.length_map, List.length_map, List.length_take]; omega
    with_reducible refine V.t_and ?_
    repeat walk_at "V"
    refine ⟨_, rfl, fun _ => ?_, fun hb => absurd (hb.symm.trans (tok_ne_dot htok)) (by decide)⟩
    with_reducible refine V.t_and ?_
    repeat walk_at "V"
    refine ⟨.builtin, fun v hv => V.len_list hv (.lst (by walk_at "mem")) hcz ?_⟩
    repeat walk_at "V"
    refine ⟨.builtin, fun v hv => V.len_list hv (.lst (by walk_at "mem")) hdz ?_⟩
    repeat walk_at "V"
    rw [hcl, List.length_map]
    refine ⟨_, rfl, fun _ => ?_, fun hb => absurd (of_decide_eq_false hb) (by omega)⟩
    with_reducible refine V.t_and_nil ?_
    refine ⟨fun _ => ?_, fun hb => by cases hb⟩
    with_reducible refine V.execs_cons ?_
    with_reducible refine V.expr (V.call_meth ?_)
    repeat walk_at "V"
    intro o ho; obtain rfl := nt_ref ho
    with_reducible refine V.meth_list (by walk_at "mem") slot_list_append F.type_list_append ?_
    with_reducible refine V.cw1 ?_
    repeat walk_at "V"
    refine ⟨.fn (at_K g (lk163 _)) rfl, fun v hv => V.call_of (prep_tok g hA' (by omega) htok (by have := (wS_FI hs1 hs4).2.2; omega) hv ?_)⟩
    refine ⟨.builtin, ?_⟩
    refine V.ap (by walk_at "upd") hcz ?_
    refine ⟨rfl, ?_⟩
    rw [show List.map strV ((ds.take i).map wS) ++ [Value.str (wS s) 0] = List.map strV ((ds.take (i + 1)).map wS) by rw [take_snoc hs, List.map_append, List.map_append]; rfl]
    with_reducible refine V.execs_cons ?_
    with_reducible refine V.assign_name ?_
    with_reducible refine V.call_meth ?_
    repeat walk_at "V"
    with_reducible refine V.tokI g hA' (by omega) hT hdl (m := i + 1) (by omega) ((L, .ns [(Str.ofString "script", .ref C.arg.1), (Str.ofString "drawn", .ref dl), (Str.ofString "message", .ref ml), (Str.ofString "text", strV (textOf W)), (Str.ofString "lexer", .ref a.lx), (Str.ofString "came", .ref ca), (Str.ofString "token", strV tok)]) :: cells L (some (.ref tl)) (some (.ref cl)) (some (.ref ra)) none none none none ((cl, .lst (List.map lV (codeF ss))) :: (dl, .lst (List.map natV ds)) :: (ml, .lst (List.map natV ms)) :: (ra, .lst ([])) :: (ca, .lst (List.map strV ((ds.take (i + 1)).map wS))) :: S)) (by walk_at "pk") fun tok2 htok2 => ?_
    walk_at "store"
    dsimp only
    walk_at "V"
    exact ⟨ds.length - (i + 1), lexS a (textOf W) (posW W (i + 1 + 1) : Nat) (nlW W (i + 1 + 1)) ([]) ((L, .ns [(Str.ofString "script", .ref C.arg.1), (Str.ofString "drawn", .ref dl), (Str.ofString "message", .ref ml), (Str.ofString "text", strV (textOf W)), (Str.ofString "lexer", .ref a.lx), (Str.ofString "came", .ref ca), (Str.ofString "token", strV tok2)]) :: cells L (some (.ref tl)) (some (.ref cl)) (some (.ref ra)) none none none none ((cl, .lst (List.map lV (codeF ss))) :: (dl, .lst (List.map natV ds)) :: (ml, .lst (List.map natV ms)) :: (ra, .lst ([])) :: (ca, .lst (List.map strV ((ds.take (i + 1)).map wS))) :: S)), by omega, by walk_at "pk", i + 1, tok2, rfl, hlt, htok2, rfl⟩
  · with_reducible refine V.t_and ?_
    repeat walk_at "V"
    refine ⟨_, rfl, fun hb => absurd hb (by decide), fun _ => ?_⟩
    refine ⟨fun hb => (by cases hb), fun _ => ?_⟩
    rw [List.take_length]
    walk_at "V"
    dsimp only
    exact rest a ra ca
end

section
open PySem PyProof.Rows PySem.Calls PySem.W PySem.Spec
variable {w : World} {A : Around} {C : Cx} {S S' : St} {env : Env}
noncomputable def cntF (l : List Nat) (x : Nat) : Nat := (l.filter fun o => decide (o ≤ x)).length
noncomputable def insF (l : List Nat) (x : Nat) : List Nat := l.take (cntF l x) ++ x :: l.drop (cntF l x)
noncomputable def insAll (l : List Nat) : List Nat := l.foldl insF []
theorem cntF_le (l : List Nat) (x : Nat) : cntF l x ≤ l.length := List.length_filter_le _ _
theorem insAll_snoc (l : List Nat) (x : Nat) : insAll (l ++ [x]) = insF (insAll l) x := by unfold insAll; rw [List.foldl_append]; rfl
theorem insF_perm (l : List Nat) (x : Nat) : (insF l x).Perm (x :: l) := by
  unfold insF
  have h := List.perm_middle (a := x) (l₁ := l.take (cntF l x)) (l₂ := l.drop (cntF l x))
  rw [List.take_append_drop] at h
  exact h
theorem insAll_perm : ∀ l : List Nat, (insAll l).Perm l := by
  intro l
  suffices h : ∀ (l acc : List Nat), (l.foldl insF acc).Perm (acc ++ l) from by have := h l []; simpa [insAll] using this
  intro l
  induction l with
  | nil => intro acc; simp
  | cons x l ih =>
    intro acc
    rw [List.foldl_cons]
    refine (ih _).trans ?_
    exact ((insF_perm acc x).append_right l).trans (List.perm_middle (a := x) (l₁ := acc) (l₂ := l)).symm
theorem cnt_split {l : List Nat} (x : Nat) (hl : l.Pairwise (· ≤ ·)) : (∀ a ∈ l.take (cntF l x), a ≤ x) ∧ ∀ a ∈ l.drop (cntF l x), x ≤ a := by
  induction l with
  | nil => exact ⟨fun a h => by simp at h, fun a h => by simp at h⟩
  | cons y l ih =>
    obtain ⟨h1, h2⟩ := List.pairwise_cons.mp hl
    obtain ⟨i1, i2⟩ := ih h2
    by_cases hy : y ≤ x
    · have e : cntF (y :: l) x = cntF l x + 1 := by unfold cntF; rw [List.filter_cons_of_pos (by simpa using hy)]; rfl
      rw [e, List.take_succ_cons, List.drop_succ_cons]
      exact ⟨fun a ha => by rcases List.mem_cons.mp ha with rfl | ha; exact hy; exact i1 a ha, i2⟩
    · have e : cntF (y :: l) x = 0 := by
        unfold cntF
        rw [List.filter_cons_of_neg (by simpa using hy), List.length_eq_zero_iff, List.filter_eq_nil_iff]
        intro a ha
        have := h1 a ha
        simp only [decide_eq_true_eq]; omega
      rw [e, List.take_zero, List.drop_zero]
      exact ⟨fun a ha => by simp at ha, fun a ha => by rcases List.mem_cons.mp ha with rfl | ha; omega; have := h1 a ha; omega⟩
theorem insF_sorted {l : List Nat} (x : Nat) (hl : l.Pairwise (· ≤ ·)) : (insF l x).Pairwise (· ≤ ·) := by
  obtain ⟨h1, h2⟩ := cnt_split x hl
  have hl' := hl
  rw [← List.take_append_drop (cntF l x) l] at hl'
  obtain ⟨a1, a2, a3⟩ := List.pairwise_append.mp hl'
  unfold insF
  refine List.pairwise_append.mpr ⟨a1, List.pairwise_cons.mpr ⟨h2, a2⟩, fun a ha b hb => ?_⟩
  rcases List.mem_cons.mp hb with rfl | hb
  · exact h1 a ha
  · exact a3 a ha b hb
theorem insAll_sorted : ∀ l : List Nat, (insAll l).Pairwise (· ≤ ·) := by
  intro l
  suffices h : ∀ (l acc : List Nat), acc.Pairwise (· ≤ ·) → (l.foldl insF acc).Pairwise (· ≤ ·) from h l [] List.Pairwise.nil
  intro l
  induction l with
  | nil => intro acc h; exact h
  | cons x l ih => intro acc h; exact ih _ (insF_sorted x h)
theorem sorted_one {a b : List Nat} (ha : a.Pairwise (· ≤ ·)) (hb : b.Pairwise (· ≤ ·)) (hp : a.Perm b) : a = b :=
  List.Perm.eq_of_pairwise (fun x y _ _ h1 h2 => Nat.le_antisymm h1 h2) ha hb hp
theorem Drawn.ins {ds ss : List Nat} (D : Drawn ds ss) : insAll ds = ss := sorted_one (insAll_sorted ds) D.o ((insAll_perm ds).trans D.p.symm)
theorem rep_lt : ∀ a b : Nat, (repF a < repF b) ↔ a < b
  | _, 0 => ⟨fun h => absurd h (List.not_lt_nil _), fun h => absurd h (Nat.not_lt_zero _)⟩
  | 0, b + 1 => ⟨fun _ => Nat.succ_pos _, fun _ => List.nil_lt_cons _ _⟩
  | a + 1, b + 1 => by
    show (102 :: repF a < 102 :: repF b) ↔ _
    rw [List.cons_lt_cons_iff, rep_lt a b]
    constructor
    · rintro (h | ⟨_, h⟩)
      · exact absurd h (Nat.lt_irrefl _)
      · exact Nat.succ_lt_succ h
    · intro h; exact .inr ⟨rfl, Nat.lt_of_succ_lt_succ h⟩
theorem scW (o s : Nat) : scF (repF o) (repF s) = if s < o then 1 else if o < s then -1 else 0 := by
  unfold scF
  rw [decide_eq_decide.mpr (rep_lt s o), decide_eq_decide.mpr (rep_lt o s)]
  rcases Nat.lt_trichotomy s o with h | h | h
  · rw [if_pos h, decide_eq_true h, decide_eq_false (by omega)]; rfl
  · subst h; rw [if_neg (by omega), if_neg (by omega), decide_eq_false (by omega)]; rfl
  · rw [if_neg (by omega), if_pos h, decide_eq_false (by omega), decide_eq_true h]; rfl
theorem sc_ne (o s : Nat) : ((b2i (decide ((wS s).cps.toList < (wS o).cps.toList)) - b2i (decide ((wS o).cps.toList < (wS s).cps.toList))) != 1) = decide (o ≤ s) := by
  show (scF (repF o) (repF s) != 1) = _
  rw [scW]
  rcases Nat.lt_trichotomy s o with h | h | h
  · rw [if_pos h, decide_eq_false (by omega)]; rfl
  · subst h; rw [if_neg (by omega), if_neg (by omega), decide_eq_true (by omega)]; rfl
  · rw [if_neg (by omega), if_pos h, decide_eq_true (by omega)]; rfl
theorem law_d (g : G w C) {A' : Around} {L tl dl ml cl ra ca : Addr} {ds ss ms : List Nat} {a : LA} {tx : Str} {p n : Int} (hA' : A'.handled = none) (hd : A'.depth + 3 < recursionLimit) (D : Drawn ds ss) {Φ : Flow → St → Prop}
    (rest : ∀ pv, VF (model pw w) A' C (lexS a tx p n ([]) ((L, .ns [(Str.ofString "script", .ref C.arg.1), (Str.ofString "drawn", .ref dl), (Str.ofString "message", .ref ml), (Str.ofString "text", strV (textOf W)), (Str.ofString "lexer", .ref a.lx), (Str.ofString "came", .ref ca), (Str.ofString "token", strV dotS)]) :: cells L (some (.ref tl)) (some (.ref cl)) (some (.ref ra)) pv none none none ((cl, .lst (List.map lV (codeF ss))) :: (dl, .lst (List.map natV ds)) :: (ml, .lst (List.map natV ms)) :: (ra, .lst (List.map strV (ss.map wS))) :: (ca, .lst (List.map strV (ds.map wS))) :: S))) (execs ((dBody (st 18)).drop 14) (env175 L)) Φ) :
    VF (model pw w) A' C (lexS a tx p n ([]) ((L, .ns [(Str.ofString "script", .ref C.arg.1), (Str.ofString "drawn", .ref dl), (Str.ofString "message", .ref ml), (Str.ofString "text", strV (textOf W)), (Str.ofString "lexer", .ref a.lx), (Str.ofString "came", .ref ca), (Str.ofString "token", strV dotS)]) :: cells L (some (.ref tl)) (some (.ref cl)) (some (.ref ra)) none none none none ((cl, .lst (List.map lV (codeF ss))) :: (dl, .lst (List.map natV ds)) :: (ml, .lst (List.map natV ms)) :: (ra, .lst ([])) :: (ca, .lst (List.map strV (ds.map wS))) :: S))) (execs ((dBody (st 18)).drop 12) (env175 L)) Φ := by
  have hdl := D.l6
  have hcm : (List.map strV (ds.map wS)).length = ds.length := by rw [List.length_map, List.length_map]
  have hcz : (List.map strV (ds.map wS)).length ≤ sizeLine := by rw [hcm, sizeLine_eq]; omega
  change VG _ _ _ _ _ (execs (_ :: _) _) _
  repeat walk_at "V"
  intro x' hx'
  obtain rfl := nt_ref hx'
  with_reducible refine V.iter_list (.lst (by walk_at "mem")) fun it => ?_
  intro it' hit
  obtain rfl := nt_ref hit
  with_reducible refine VK.to ((it, .lit ca 0) :: lexS a tx p n ([]) ((L, .ns [(Str.ofString "script", .ref C.arg.1), (Str.ofString "drawn", .ref dl), (Str.ofString "message", .ref ml), (Str.ofString "text", strV (textOf W)), (Str.ofString "lexer", .ref a.lx), (Str.ofString "came", .ref ca), (Str.ofString "token", strV dotS)]) :: cells L (some (.ref tl)) (some (.ref cl)) (some (.ref ra)) none none none none ((cl, .lst (List.map lV (codeF ss))) :: (dl, .lst (List.map natV ds)) :: (ml, .lst (List.map natV ms)) :: (ra, .lst ([])) :: (ca, .lst (List.map strV (ds.map wS))) :: S))) (by walk_at "pk") ?_
  with_reducible refine V.forI (c := fun i => .lit ca i) (item := fun i => (List.map strV (ds.map wS)).getD i .none) (n := (List.map strV (ds.map wS)).length) (fun i S' => ∃ pv, S' = lexS a tx p n ((ds.take i).map wS) ((L, .ns [(Str.ofString "script", .ref C.arg.1), (Str.ofString "drawn", .ref dl), (Str.ofString "message", .ref ml), (Str.ofString "text", strV (textOf W)), (Str.ofString "lexer", .ref a.lx), (Str.ofString "came", .ref ca), (Str.ofString "token", strV dotS)]) :: cells L (some (.ref tl)) (some (.ref cl)) (some (.ref ra)) pv none none none ((cl, .lst (List.map lV (codeF ss))) :: (dl, .lst (List.map natV ds)) :: (ml, .lst (List.map natV ms)) :: (ra, .lst ([])) :: (ca, .lst (List.map strV (ds.map wS))) :: S))) (fun j S' hS' => by obtain ⟨_, rfl⟩ := hS'; exact It.list hA' fun c => .lst (by walk_at "mem")) ⟨none, by with_unfolding_all rfl⟩ ?_ ?_
  · rintro i S' hi ⟨pv, rfl⟩ v hv
    rw [hcm] at hi
    obtain ⟨s, hs⟩ : ∃ c, ds[i]? = some c := ⟨_, List.getElem?_eq_getElem hi⟩
    rw [List.getD_eq_getElem?_getD, List.getElem?_map, List.getElem?_map, hs, Option.map_some, Option.map_some, Option.getD_some] at hv
    with_reducible refine V.assign_Name ?_
    revert v
    walk_at "store"
    with_reducible refine V.execs_cons ?_
    with_reducible refine V.expr (V.call_meth ?_)
    repeat walk_at "V"
    with_reducible refine V.m_pushW g ((it, .lit ca (i + 1)) :: (L, .ns [(Str.ofString "script", .ref C.arg.1), (Str.ofString "drawn", .ref dl), (Str.ofString "message", .ref ml), (Str.ofString "text", strV (textOf W)), (Str.ofString "lexer", .ref a.lx), (Str.ofString "came", .ref ca), (Str.ofString "token", strV dotS)]) :: cells L (some (.ref tl)) (some (.ref cl)) (some (.ref ra)) (some (strV (wS s))) none none none ((cl, .lst (List.map lV (codeF ss))) :: (dl, .lst (List.map natV ds)) :: (ml, .lst (List.map natV ms)) :: (ra, .lst ([])) :: (ca, .lst (List.map strV (ds.map wS))) :: S)) (by walk_at "pk") ?_
    with_reducible refine V.cw1 ?_
    repeat walk_at "V"
    refine ⟨.fn (at_K g (lk49 _)) rfl, fun v hv => V.pushT g (by omega) ((it, .lit ca (i + 1)) :: (L, .ns [(Str.ofString "script", .ref C.arg.1), (Str.ofString "drawn", .ref dl), (Str.ofString "message", .ref ml), (Str.ofString "text", strV (textOf W)), (Str.ofString "lexer", .ref a.lx), (Str.ofString "came", .ref ca), (Str.ofString "token", strV dotS)]) :: cells L (some (.ref tl)) (some (.ref cl)) (some (.ref ra)) (some (strV (wS s))) none none none ((cl, .lst (List.map lV (codeF ss))) :: (dl, .lst (List.map natV ds)) :: (ml, .lst (List.map natV ms)) :: (ra, .lst ([])) :: (ca, .lst (List.map strV (ds.map wS))) :: S)) (by walk_at "pk") hv (by rw [List.length_map, List.length_take, sizeLine_eq]; omega) ?_⟩
    refine ⟨rfl, ?_⟩
    repeat walk_at "V"
    refine ⟨lexS a tx p n ((ds.take (i + 1)).map wS) ((L, .ns [(Str.ofString "script", .ref C.arg.1), (Str.ofString "drawn", .ref dl), (Str.ofString "message", .ref ml), (Str.ofString "text", strV (textOf W)), (Str.ofString "lexer", .ref a.lx), (Str.ofString "came", .ref ca), (Str.ofString "token", strV dotS)]) :: cells L (some (.ref tl)) (some (.ref cl)) (some (.ref ra)) (some (strV (wS s))) none none none ((cl, .lst (List.map lV (codeF ss))) :: (dl, .lst (List.map natV ds)) :: (ml, .lst (List.map natV ms)) :: (ra, .lst ([])) :: (ca, .lst (List.map strV (ds.map wS))) :: S)), ?_, some (strV (wS s)), rfl⟩
    rw [show (ds.take i).map wS ++ [wS s] = (ds.take (i + 1)).map wS by rw [take_snoc hs, List.map_append]; rfl]
    walk_at "pk"
  rintro S' ⟨pv, rfl⟩
  rw [hcm, List.take_length]
  repeat walk_at "V"
  refine ⟨.builtin, fun v hv => V.len_list hv (.lst (by walk_at "mem")) hcz ?_⟩
  rw [hcm]
  refine ⟨.type, fun u hu => V.range1 hu fun r => ?_⟩
  intro x' hx'
  obtain rfl := nt_ref hx'
  with_reducible refine V.iter_rng (n := ds.length) (by walk_at "mem") (by omega) (fun it => ?_) (by omega) (by omega)
  intro it' hit
  obtain rfl := nt_ref hit
  with_reducible refine VK.to ((it, rc 0 ds.length 0) :: lexS a tx p n (ds.map wS) ((L, .ns [(Str.ofString "script", .ref C.arg.1), (Str.ofString "drawn", .ref dl), (Str.ofString "message", .ref ml), (Str.ofString "text", strV (textOf W)), (Str.ofString "lexer", .ref a.lx), (Str.ofString "came", .ref ca), (Str.ofString "token", strV dotS)]) :: cells L (some (.ref tl)) (some (.ref cl)) (some (.ref ra)) pv none none none ((cl, .lst (List.map lV (codeF ss))) :: (dl, .lst (List.map natV ds)) :: (ml, .lst (List.map natV ms)) :: (ra, .lst ([])) :: (ca, .lst (List.map strV (ds.map wS))) :: S))) (by walk_at "pk") ?_
  with_reducible refine V.forI (c := rc 0 ds.length) (item := fun i => .int (0 + (i : Nat)) 0) (n := ds.length) (fun i S' => ∃ pv, S' = lexS a tx p n ((ds.drop i).map wS) ((L, .ns [(Str.ofString "script", .ref C.arg.1), (Str.ofString "drawn", .ref dl), (Str.ofString "message", .ref ml), (Str.ofString "text", strV (textOf W)), (Str.ofString "lexer", .ref a.lx), (Str.ofString "came", .ref ca), (Str.ofString "token", strV dotS)]) :: cells L (some (.ref tl)) (some (.ref cl)) (some (.ref ra)) pv none none none ((cl, .lst (List.map lV (codeF ss))) :: (dl, .lst (List.map natV ds)) :: (ml, .lst (List.map natV ms)) :: (ra, .lst (List.map strV ((insAll (ds.take i)).map wS))) :: (ca, .lst (List.map strV (ds.map wS))) :: S))) (fun _ _ _ => It.rng hA') ⟨pv, by with_unfolding_all rfl⟩ ?_ ?_
  · rintro i S' hi ⟨pv, rfl⟩ v hv
    obtain ⟨s, hs⟩ : ∃ c, ds[i]? = some c := ⟨_, List.getElem?_eq_getElem hi⟩
    have hdr : ds.drop i = s :: ds.drop (i + 1) := by
      obtain ⟨h1, h2⟩ := List.getElem?_eq_some_iff.mp hs
      rw [List.drop_eq_getElem_cons h1, h2]
    have hil : (insAll (ds.take i)).length ≤ 6 := by rw [(insAll_perm _).length_eq, List.length_take]; omega
    rw [hdr, List.map_cons]
    with_reducible refine V.assign_Name ?_
    revert v
    walk_at "store"
    with_reducible refine V.execs_cons ?_
    with_reducible refine V.assign_name ?_
    with_reducible refine V.call_meth ?_
    repeat walk_at "V"
    with_reducible refine V.tokP g (by omega) ((it, rc 0 ds.length (i + 1)) :: (L, .ns [(Str.ofString "script", .ref C.arg.1), (Str.ofString "drawn", .ref dl), (Str.ofString "message", .ref ml), (Str.ofString "text", strV (textOf W)), (Str.ofString "lexer", .ref a.lx), (Str.ofString "came", .ref ca), (Str.ofString "token", strV dotS), (Str.ofString "k", intV (0 + (i : Nat)))]) :: cells L (some (.ref tl)) (some (.ref cl)) (some (.ref ra)) pv none none none ((cl, .lst (List.map lV (codeF ss))) :: (dl, .lst (List.map natV ds)) :: (ml, .lst (List.map natV ms)) :: (ra, .lst (List.map strV ((insAll (ds.take i)).map wS))) :: (ca, .lst (List.map strV (ds.map wS))) :: S)) (by walk_at "pk") (by rw [List.length_map, List.length_drop, sizeLine_eq]; omega) ?_
    walk_at "store"
    dsimp only
    have hz1 : (List.map strV ((insAll (ds.take i)).map wS)).length ≤ sizeLine := by rw [List.length_map, List.length_map, sizeLine_eq]; omega
    with_reducible refine V.execs_cons ?_
    with_reducible refine V.expr (V.call_meth ?_)
    repeat walk_at "V"
    intro o ho; obtain rfl := nt_ref ho
    with_reducible refine V.meth_list (by walk_at "mem") PySem.F.slot_list_insert PySem.F.type_list_insert ?_
    with_reducible refine V.cw2 ?_
    repeat walk_at "V"
    with_reducible refine V.listcomp (cl := [(Str.ofString "plain", L + 4)]) (by kernel_rfl) ?_
    repeat walk_at "V"
    intro x' hx'
    obtain rfl := nt_ref hx'
    with_reducible refine V.iter_list (.lst (by walk_at "mem")) fun it2 => ?_
    intro it2' hit2 acc L'
    obtain rfl := nt_ref hit2
    with_reducible refine V.compStart ?_ (V.iter_lit (by walk_at "mem") ⟨rfl, rfl⟩)
    generalize hIL : insAll (ds.take i) = il at hil hz1
    with_reducible refine VK.to ((L', .ns []) :: (acc, .lst []) :: (it2, .lit ra 0) :: lexS a tx p n ((ds.drop (i + 1)).map wS) ((it, rc 0 ds.length (i + 1)) :: (L, .ns [(Str.ofString "script", .ref C.arg.1), (Str.ofString "drawn", .ref dl), (Str.ofString "message", .ref ml), (Str.ofString "text", strV (textOf W)), (Str.ofString "lexer", .ref a.lx), (Str.ofString "came", .ref ca), (Str.ofString "token", strV dotS)]) :: cells L (some (.ref tl)) (some (.ref cl)) (some (.ref ra)) (some (strV (wS s))) none none none ((cl, .lst (List.map lV (codeF ss))) :: (dl, .lst (List.map natV ds)) :: (ml, .lst (List.map natV ms)) :: (ra, .lst (List.map strV (il.map wS))) :: (ca, .lst (List.map strV (ds.map wS))) :: S))) (by walk_at "pk") ?_
    with_reducible refine V.compI (c := fun j => .lit ra j) (item := fun j => (List.map strV (il.map wS)).getD j .none) (n := (List.map strV (il.map wS)).length) (fun j ys S' => ys = List.map strV (((il.take j).filter fun o => decide (o ≤ s)).map wS) ∧ S' = lexS a tx p n ((ds.drop (i + 1)).map wS) ((it, rc 0 ds.length (i + 1)) :: (L, .ns [(Str.ofString "script", .ref C.arg.1), (Str.ofString "drawn", .ref dl), (Str.ofString "message", .ref ml), (Str.ofString "text", strV (textOf W)), (Str.ofString "lexer", .ref a.lx), (Str.ofString "came", .ref ca), (Str.ofString "token", strV dotS)]) :: cells L (some (.ref tl)) (some (.ref cl)) (some (.ref ra)) (some (strV (wS s))) none none none ((cl, .lst (List.map lV (codeF ss))) :: (dl, .lst (List.map natV ds)) :: (ml, .lst (List.map natV ms)) :: (ra, .lst (List.map strV (il.map wS))) :: (ca, .lst (List.map strV (ds.map wS))) :: S))) (fun j ys S' hS' => by obtain ⟨_, rfl⟩ := hS'; exact It.list hA' fun c => .lst (by walk_at "mem")) (by rw [List.length_nil, Nat.zero_add]; exact hz1) ⟨by with_unfolding_all rfl, by with_unfolding_all rfl⟩ ?_ ?_
    · rintro j ys S' hj ⟨rfl, rfl⟩ v hv
      have hj' : j < il.length := by rw [List.length_map, List.length_map] at hj; exact hj
      obtain ⟨o, ho⟩ : ∃ c, il[j]? = some c := ⟨_, List.getElem?_eq_getElem hj'⟩
      rw [List.getD_eq_getElem?_getD, List.getElem?_map, List.getElem?_map, ho, Option.map_some, Option.map_some, Option.getD_some] at hv
      with_reducible refine V.own_name ?_
      with_reducible refine V.assign_Name ?_
      revert v
      walk_at "store"
      with_reducible refine V.tests_one ?_
      repeat walk_at "V"
      refine ⟨.fn (at_K g (lk63 _)) rfl, fun v u hv hu => V.call_of (strcoll g (by omega) hv hu ?_)⟩
      repeat walk_at "V"
      rw [sc_ne]
      refine ⟨_, rfl, fun hb => ?_, fun hb => ?_⟩
      · repeat walk_at "V"
        refine ⟨lexS a tx p n ((ds.drop (i + 1)).map wS) ((it, rc 0 ds.length (i + 1)) :: (L, .ns [(Str.ofString "script", .ref C.arg.1), (Str.ofString "drawn", .ref dl), (Str.ofString "message", .ref ml), (Str.ofString "text", strV (textOf W)), (Str.ofString "lexer", .ref a.lx), (Str.ofString "came", .ref ca), (Str.ofString "token", strV dotS)]) :: cells L (some (.ref tl)) (some (.ref cl)) (some (.ref ra)) (some (strV (wS s))) none none none ((cl, .lst (List.map lV (codeF ss))) :: (dl, .lst (List.map natV ds)) :: (ml, .lst (List.map natV ms)) :: (ra, .lst (List.map strV (il.map wS))) :: (ca, .lst (List.map strV (ds.map wS))) :: S)), by walk_at "pk", ?_, rfl⟩
        rw [take_snoc ho, List.filter_append, show [o].filter (fun o => decide (o ≤ s)) = [o] by simp only [List.filter_cons, hb, if_true, List.filter_nil], List.map_append, List.map_append]; rfl
      · refine ⟨lexS a tx p n ((ds.drop (i + 1)).map wS) ((it, rc 0 ds.length (i + 1)) :: (L, .ns [(Str.ofString "script", .ref C.arg.1), (Str.ofString "drawn", .ref dl), (Str.ofString "message", .ref ml), (Str.ofString "text", strV (textOf W)), (Str.ofString "lexer", .ref a.lx), (Str.ofString "came", .ref ca), (Str.ofString "token", strV dotS)]) :: cells L (some (.ref tl)) (some (.ref cl)) (some (.ref ra)) (some (strV (wS s))) none none none ((cl, .lst (List.map lV (codeF ss))) :: (dl, .lst (List.map natV ds)) :: (ml, .lst (List.map natV ms)) :: (ra, .lst (List.map strV (il.map wS))) :: (ca, .lst (List.map strV (ds.map wS))) :: S)), by walk_at "pk", ?_, rfl⟩
        rw [take_snoc ho, List.filter_append, show [o].filter (fun o => decide (o ≤ s)) = [] by simp only [List.filter_cons, hb, Bool.false_eq_true, if_false, List.filter_nil], List.append_nil]
    rintro ys S' ⟨rfl, rfl⟩
    rw [show il.take (List.map strV (il.map wS)).length = il by rw [List.length_map, List.length_map, List.take_length]]
    refine ⟨_, _, .head, ?_⟩
    have hfl : (List.map strV ((il.filter fun o => decide (o ≤ s)).map wS)).length = cntF il s := by rw [List.length_map, List.length_map]; rfl
    have hcl := cntF_le il s
    refine ⟨.builtin, fun v hv => V.len_list hv (.lst (by walk_at "mem")) (by rw [hfl, sizeLine_eq]; omega) ?_⟩
    rw [hfl]
    repeat walk_at "V"
    have hkz : cntF il s ≤ (List.map strV (il.map wS)).length := by rw [List.length_map, List.length_map]; exact hcl
    have hk1 : (List.map strV (il.map wS)).length ≤ 1000 := by rw [List.length_map, List.length_map]; omega
    refine ⟨.builtin, fun v u hv hu => V.insert hv hkz (by walk_at "upd") hk1 ?_ u hu⟩
    refine ⟨rfl, ?_⟩
    rw [show (List.map strV (il.map wS)).take (cntF il s) ++ Value.str (wS s) 0 :: (List.map strV (il.map wS)).drop (cntF il s) = List.map strV ((insAll (ds.take (i + 1))).map wS) by rw [take_snoc hs, insAll_snoc, hIL]; unfold insF; rw [List.map_append, List.map_append, List.map_cons, List.map_cons, ← List.map_take, ← List.map_take, ← List.map_drop, ← List.map_drop]]
    repeat walk_at "V"
    exact ⟨lexS a tx p n ((ds.drop (i + 1)).map wS) ((L, .ns [(Str.ofString "script", .ref C.arg.1), (Str.ofString "drawn", .ref dl), (Str.ofString "message", .ref ml), (Str.ofString "text", strV (textOf W)), (Str.ofString "lexer", .ref a.lx), (Str.ofString "came", .ref ca), (Str.ofString "token", strV dotS)]) :: cells L (some (.ref tl)) (some (.ref cl)) (some (.ref ra)) (some (strV (wS s))) none none none ((cl, .lst (List.map lV (codeF ss))) :: (dl, .lst (List.map natV ds)) :: (ml, .lst (List.map natV ms)) :: (ra, .lst (List.map strV ((insAll (ds.take (i + 1))).map wS))) :: (ca, .lst (List.map strV (ds.map wS))) :: S)), by walk_at "pk", some (strV (wS s)), rfl⟩
  rintro S' ⟨pv, rfl⟩
  rw [List.take_length, D.ins, List.drop_length]
  walk_at "V"
  exact rest pv
end

section
open PySem PyProof.Rows PySem.Calls PySem.W PySem.Spec
variable {w : World} {A : Around} {C : Cx} {S S' : St} {env : Env}
noncomputable def PTups (T : St) (xs : List Value) (ps : List (Str × Str)) : Prop := xs.length = ps.length ∧ ∀ (i : Nat) (p : Str × Str), ps[i]? = some p → ∃ a, xs[i]? = some (Value.ref a) ∧ (a, Ch.tup [.str p.1 0, .str p.2 0]) ∈ T
theorem PTups.nil {T : St} : PTups T [] [] := ⟨rfl, fun i p h => by simp at h⟩
theorem PTups.mono {T T' : St} {xs ps} (h : PTups T xs ps) (hs : T ⊆ T') : PTups T' xs ps := ⟨h.1, fun i p e => let ⟨a, h1, h2⟩ := h.2 i p e; ⟨a, h1, hs h2⟩⟩
theorem PTups.snoc {T : St} {xs : List Value} {ps : List (Str × Str)} {a : Addr} {x y : Str} (h : PTups T xs ps) (hm : (a, Ch.tup [.str x 0, .str y 0]) ∈ T) : PTups T (xs ++ [.ref a]) (ps ++ [(x, y)]) := by
  refine ⟨by simp [h.1], fun i p e => ?_⟩
  by_cases hi : i < ps.length
  · rw [List.getElem?_append_left hi] at e
    obtain ⟨b, h1, h2⟩ := h.2 i p e
    exact ⟨b, by rw [List.getElem?_append_left (h.1 ▸ hi)]; exact h1, h2⟩
  · rw [List.getElem?_append_right (by omega)] at e
    have hi0 : i - ps.length = 0 := by
      have := (List.getElem?_eq_some_iff.mp e).1
      simp at this; omega
    rw [hi0] at e
    cases e
    exact ⟨a, by rw [List.getElem?_append_right (by rw [h.1]; omega), h.1, hi0]; rfl, hm⟩
theorem wS_ok (l : List Nat) : ((l.map wS).all fun x => PyData.strOk x) = true := by
  rw [List.all_eq_true]
  intro x hx
  obtain ⟨s, _, rfl⟩ := List.mem_map.mp hx
  unfold PyData.strOk wS repF
  rw [← Array.all_toList, List.toList_toArray, List.all_eq_true]
  intro c hc
  rw [List.eq_of_mem_replicate hc]; decide
theorem wS_beq (a b : Nat) : (wS a == wS b) = (a == b) := by
  rw [Bool.eq_iff_iff, beq_iff_eq, beq_iff_eq]
  constructor
  · intro e
    have := congrArg Str.length e
    rw [show (wS a).length = (repF a).length from str_len _, show (wS b).length = (repF b).length from str_len _] at this
    unfold repF at this
    rwa [List.length_replicate, List.length_replicate] at this
  · rintro rfl; rfl
noncomputable def pairL (ss : List Nat) (n : Nat) : List (Nat × Nat) := (List.range n).map fun k => (ss.getD k 0, ss.getD (k + 1) 0)
noncomputable def pairS (p : Nat × Nat) : Str × Str := (wS p.1, wS p.2)
noncomputable def pairI (p : Nat × Nat) : Int := scF (repF p.1) (repF p.2)
theorem pairL_succ (ss : List Nat) (n : Nat) : pairL ss (n + 1) = pairL ss n ++ [(ss.getD n 0, ss.getD (n + 1) 0)] := by
  unfold pairL; rw [List.range_succ, List.map_append]; rfl
theorem pair_le {ss : List Nat} (ho : ss.Pairwise (· ≤ ·)) {n : Nat} (hn : n ≤ ss.length - 1) : ∀ p ∈ pairL ss n, p.1 ≤ p.2 := by
  intro p hp
  obtain ⟨k, hk, rfl⟩ := List.mem_map.mp hp
  have hk' := List.mem_range.mp hk
  have := List.pairwise_iff_getElem.mp ho k (k + 1) (by omega) (by omega) (by omega)
  show ss.getD k 0 ≤ ss.getD (k + 1) 0
  rw [List.getD_eq_getElem?_getD, List.getD_eq_getElem?_getD, List.getElem?_eq_getElem (by omega), List.getElem?_eq_getElem (by omega)]
  exact this
theorem pairI_eq {p : Nat × Nat} (h : p.1 ≤ p.2) : pairI p = if (wS p.1 == wS p.2) = true then 0 else -1 := by
  unfold pairI
  rw [scW, if_neg (by omega), wS_beq]
  by_cases e : p.1 = p.2
  · rw [if_neg (by omega), if_pos (by simpa using e)]
  · rw [if_pos (by omega), if_neg (by simpa using e)]
theorem law_e (g : G w C) {A' : Around} {L tl dl ml cl ra ca : Addr} {ds ss ms : List Nat} {a : LA} {tx : Str} {p n : Int} {W : List (Str × List Nat)} {pv : Option Value} (hA' : A'.handled = none) (hd : A'.depth + 3 < recursionLimit) (hU : A'.units + 64 < cLine) (D : Drawn ds ss) {Φ : Flow → St → Prop}
    (rest : VF (model pw w) A' C (lexS a tx p n ([]) ((L, .ns [(Str.ofString "script", .ref C.arg.1), (Str.ofString "drawn", .ref dl), (Str.ofString "message", .ref ml), (Str.ofString "text", strV (textOf W)), (Str.ofString "lexer", .ref a.lx), (Str.ofString "came", .ref ca), (Str.ofString "token", strV dotS)]) :: cells L (some (.ref tl)) (some (.ref cl)) (some (.ref ra)) pv none none none ((cl, .lst (List.map lV (codeF ss))) :: (dl, .lst (List.map natV ds)) :: (ml, .lst (List.map natV ms)) :: (ra, .lst (List.map strV (ss.map wS))) :: (ca, .lst (List.map strV (ds.map wS))) :: S))) (execs ((dBody (st 18)).drop 15) (env175 L)) Φ) :
    VF (model pw w) A' C (lexS a tx p n ([]) ((L, .ns [(Str.ofString "script", .ref C.arg.1), (Str.ofString "drawn", .ref dl), (Str.ofString "message", .ref ml), (Str.ofString "text", strV (textOf W)), (Str.ofString "lexer", .ref a.lx), (Str.ofString "came", .ref ca), (Str.ofString "token", strV dotS)]) :: cells L (some (.ref tl)) (some (.ref cl)) (some (.ref ra)) pv none none none ((cl, .lst (List.map lV (codeF ss))) :: (dl, .lst (List.map natV ds)) :: (ml, .lst (List.map natV ms)) :: (ra, .lst (List.map strV (ss.map wS))) :: (ca, .lst (List.map strV (ds.map wS))) :: S))) (execs ((dBody (st 18)).drop 14) (env175 L)) Φ := by
  have hdl := D.l6
  change VG _ _ _ _ _ (execs (_ :: _) _) _
  with_reducible refine V.execs_cons ?_
  with_reducible refine V.if_ ?_
  with_reducible refine V.t_or ?_
  repeat walk_at "V"
  refine ⟨_, rfl, fun _ => ?_, fun hb => absurd hb (by decide)⟩
  with_reducible refine V.t_or ?_
  repeat walk_at "V"
  with_reducible refine V.listcomp (cl := []) (by kernel_rfl) ?_
  repeat walk_at "V"
  intro x' hx'
  obtain rfl := nt_ref hx'
  with_reducible refine V.iter_list (.lst (by walk_at "mem")) fun it => ?_
  intro it' hit acc L'
  obtain rfl := nt_ref hit
  with_reducible refine V.compStart ?_ (V.iter_lit (by walk_at "mem") ⟨rfl, rfl⟩)
  with_reducible refine VK.to ((L', .ns []) :: (acc, .lst []) :: (it, .lit dl 0) :: lexS a tx p n ([]) ((L, .ns [(Str.ofString "script", .ref C.arg.1), (Str.ofString "drawn", .ref dl), (Str.ofString "message", .ref ml), (Str.ofString "text", strV (textOf W)), (Str.ofString "lexer", .ref a.lx), (Str.ofString "came", .ref ca), (Str.ofString "token", strV dotS)]) :: cells L (some (.ref tl)) (some (.ref cl)) (some (.ref ra)) pv none none none ((cl, .lst (List.map lV (codeF ss))) :: (dl, .lst (List.map natV ds)) :: (ml, .lst (List.map natV ms)) :: (ra, .lst (List.map strV (ss.map wS))) :: (ca, .lst (List.map strV (ds.map wS))) :: S))) (by walk_at "pk") ?_
  with_reducible refine V.compI (c := fun j => .lit dl j) (item := fun j => (List.map natV ds).getD j .none) (n := (List.map natV ds).length) (fun j ys S' => ys = List.map strV ((ds.take j).map wS) ∧ S' = lexS a tx p n ([]) ((L, .ns [(Str.ofString "script", .ref C.arg.1), (Str.ofString "drawn", .ref dl), (Str.ofString "message", .ref ml), (Str.ofString "text", strV (textOf W)), (Str.ofString "lexer", .ref a.lx), (Str.ofString "came", .ref ca), (Str.ofString "token", strV dotS)]) :: cells L (some (.ref tl)) (some (.ref cl)) (some (.ref ra)) pv none none none ((cl, .lst (List.map lV (codeF ss))) :: (dl, .lst (List.map natV ds)) :: (ml, .lst (List.map natV ms)) :: (ra, .lst (List.map strV (ss.map wS))) :: (ca, .lst (List.map strV (ds.map wS))) :: S))) (fun j ys S' hS' => by obtain ⟨_, rfl⟩ := hS'; exact It.list hA' fun c => .lst (by walk_at "mem")) (by rw [List.length_nil, Nat.zero_add, List.length_map, sizeLine_eq]; omega) ⟨by with_unfolding_all rfl, by with_unfolding_all rfl⟩ ?_ ?_
  · rintro j ys S' hj ⟨rfl, rfl⟩ v hv
    rw [List.length_map] at hj
    obtain ⟨s, hs⟩ : ∃ c, ds[j]? = some c := ⟨_, List.getElem?_eq_getElem hj⟩
    rw [List.getD_eq_getElem?_getD, List.getElem?_map, hs, Option.map_some, Option.getD_some] at hv
    obtain ⟨hs1, hs4⟩ := D.r s (List.mem_of_getElem? hs)
    with_reducible refine V.own_name ?_
    with_reducible refine V.assign_Name ?_
    revert v
    walk_at "store"
    with_reducible refine V.tests_nil ?_
    refine ⟨fun _ => ?_, fun hb => by cases hb⟩
    repeat walk_at "V"
    with_reducible refine VO.mul_f hs1 (by omega) ?_
    refine ⟨lexS a tx p n ([]) ((L, .ns [(Str.ofString "script", .ref C.arg.1), (Str.ofString "drawn", .ref dl), (Str.ofString "message", .ref ml), (Str.ofString "text", strV (textOf W)), (Str.ofString "lexer", .ref a.lx), (Str.ofString "came", .ref ca), (Str.ofString "token", strV dotS)]) :: cells L (some (.ref tl)) (some (.ref cl)) (some (.ref ra)) pv none none none ((cl, .lst (List.map lV (codeF ss))) :: (dl, .lst (List.map natV ds)) :: (ml, .lst (List.map natV ms)) :: (ra, .lst (List.map strV (ss.map wS))) :: (ca, .lst (List.map strV (ds.map wS))) :: S)), by walk_at "pk", ?_, rfl⟩
    rw [take_snoc hs, List.map_append, List.map_append]; rfl
  rintro ys S' ⟨rfl, rfl⟩
  rw [List.length_map, List.take_length]
  refine ⟨_, _, .head, ?_⟩
  with_reducible refine VO.ne_strs (ns := ds.map wS) (ms := ds.map wS) hU (wS_ok ds) (wS_ok ds) (.lst (by walk_at "mem")) (.lst (by walk_at "mem")) ?_
  refine ⟨_, rfl, fun _ => ?_, fun hb => absurd hb (by simp)⟩
  with_reducible refine VG.to (lexS a tx p n ([]) ((L, .ns [(Str.ofString "script", .ref C.arg.1), (Str.ofString "drawn", .ref dl), (Str.ofString "message", .ref ml), (Str.ofString "text", strV (textOf W)), (Str.ofString "lexer", .ref a.lx), (Str.ofString "came", .ref ca), (Str.ofString "token", strV dotS)]) :: cells L (some (.ref tl)) (some (.ref cl)) (some (.ref ra)) pv none none none ((cl, .lst (List.map lV (codeF ss))) :: (dl, .lst (List.map natV ds)) :: (ml, .lst (List.map natV ms)) :: (ra, .lst (List.map strV (ss.map wS))) :: (ca, .lst (List.map strV (ds.map wS))) :: S))) (by walk_at "pk") ?_
  with_reducible refine V.t_or ?_
  repeat walk_at "V"
  with_reducible refine V.listcomp (cl := []) (by kernel_rfl) ?_
  repeat walk_at "V"
  refine ⟨.builtin, V.sortedN (.lst (by walk_at "mem")) (by omega) fun sa ss' hsp hso => ?_⟩
  have hse : ss' = ss := sorted_one hso D.o (hsp.trans D.p.symm)
  rw [hse]
  have hsl := D.sl
  intro x' hx'
  obtain rfl := nt_ref hx'
  with_reducible refine V.iter_list (.lst (by walk_at "mem")) fun it => ?_
  intro it' hit acc L'
  obtain rfl := nt_ref hit
  with_reducible refine V.compStart ?_ (V.iter_lit (by walk_at "mem") ⟨rfl, rfl⟩)
  with_reducible refine VK.to ((L', .ns []) :: (acc, .lst []) :: (it, .lit sa 0) :: (sa, .lst (List.map natV ss)) :: lexS a tx p n ([]) ((L, .ns [(Str.ofString "script", .ref C.arg.1), (Str.ofString "drawn", .ref dl), (Str.ofString "message", .ref ml), (Str.ofString "text", strV (textOf W)), (Str.ofString "lexer", .ref a.lx), (Str.ofString "came", .ref ca), (Str.ofString "token", strV dotS)]) :: cells L (some (.ref tl)) (some (.ref cl)) (some (.ref ra)) pv none none none ((cl, .lst (List.map lV (codeF ss))) :: (dl, .lst (List.map natV ds)) :: (ml, .lst (List.map natV ms)) :: (ra, .lst (List.map strV (ss.map wS))) :: (ca, .lst (List.map strV (ds.map wS))) :: S))) (by walk_at "pk") ?_
  with_reducible refine V.compI (c := fun j => .lit sa j) (item := fun j => (List.map natV ss).getD j .none) (n := (List.map natV ss).length) (fun j ys S' => ys = List.map strV ((ss.take j).map wS) ∧ S' = (sa, .lst (List.map natV ss)) :: lexS a tx p n ([]) ((L, .ns [(Str.ofString "script", .ref C.arg.1), (Str.ofString "drawn", .ref dl), (Str.ofString "message", .ref ml), (Str.ofString "text", strV (textOf W)), (Str.ofString "lexer", .ref a.lx), (Str.ofString "came", .ref ca), (Str.ofString "token", strV dotS)]) :: cells L (some (.ref tl)) (some (.ref cl)) (some (.ref ra)) pv none none none ((cl, .lst (List.map lV (codeF ss))) :: (dl, .lst (List.map natV ds)) :: (ml, .lst (List.map natV ms)) :: (ra, .lst (List.map strV (ss.map wS))) :: (ca, .lst (List.map strV (ds.map wS))) :: S))) (fun j ys S' hS' => by obtain ⟨_, rfl⟩ := hS'; exact It.list hA' fun c => .lst (by walk_at "mem")) (by rw [List.length_nil, Nat.zero_add, List.length_map, sizeLine_eq]; omega) ⟨by with_unfolding_all rfl, by with_unfolding_all rfl⟩ ?_ ?_
  · rintro j ys S' hj ⟨rfl, rfl⟩ v hv
    rw [List.length_map] at hj
    obtain ⟨s, hs⟩ : ∃ c, ss[j]? = some c := ⟨_, List.getElem?_eq_getElem hj⟩
    rw [List.getD_eq_getElem?_getD, List.getElem?_map, hs, Option.map_some, Option.getD_some] at hv
    obtain ⟨hs1, hs4⟩ := D.sr s (List.mem_of_getElem? hs)
    with_reducible refine V.own_name ?_
    with_reducible refine V.assign_Name ?_
    revert v
    walk_at "store"
    with_reducible refine V.tests_nil ?_
    refine ⟨fun _ => ?_, fun hb => by cases hb⟩
    repeat walk_at "V"
    with_reducible refine VO.mul_f hs1 (by omega) ?_
    refine ⟨(sa, .lst (List.map natV ss)) :: lexS a tx p n ([]) ((L, .ns [(Str.ofString "script", .ref C.arg.1), (Str.ofString "drawn", .ref dl), (Str.ofString "message", .ref ml), (Str.ofString "text", strV (textOf W)), (Str.ofString "lexer", .ref a.lx), (Str.ofString "came", .ref ca), (Str.ofString "token", strV dotS)]) :: cells L (some (.ref tl)) (some (.ref cl)) (some (.ref ra)) pv none none none ((cl, .lst (List.map lV (codeF ss))) :: (dl, .lst (List.map natV ds)) :: (ml, .lst (List.map natV ms)) :: (ra, .lst (List.map strV (ss.map wS))) :: (ca, .lst (List.map strV (ds.map wS))) :: S)), by walk_at "pk", ?_, rfl⟩
    rw [take_snoc hs, List.map_append, List.map_append]; rfl
  rintro ys S' ⟨rfl, rfl⟩
  rw [List.length_map, List.take_length]
  refine ⟨_, _, .head, ?_⟩
  with_reducible refine VO.ne_strs (ns := ss.map wS) (ms := ss.map wS) hU (wS_ok ss) (wS_ok ss) (.lst (by walk_at "mem")) (.lst (by walk_at "mem")) ?_
  refine ⟨_, rfl, fun _ => ?_, fun hb => absurd hb (by simp)⟩
  with_reducible refine V.t_or_nil ?_
  refine ⟨fun hb => (by cases hb), fun _ => ?_⟩
  walk_at "V"
  with_reducible refine VG.to (lexS a tx p n ([]) ((L, .ns [(Str.ofString "script", .ref C.arg.1), (Str.ofString "drawn", .ref dl), (Str.ofString "message", .ref ml), (Str.ofString "text", strV (textOf W)), (Str.ofString "lexer", .ref a.lx), (Str.ofString "came", .ref ca), (Str.ofString "token", strV dotS)]) :: cells L (some (.ref tl)) (some (.ref cl)) (some (.ref ra)) pv none none none ((cl, .lst (List.map lV (codeF ss))) :: (dl, .lst (List.map natV ds)) :: (ml, .lst (List.map natV ms)) :: (ra, .lst (List.map strV (ss.map wS))) :: (ca, .lst (List.map strV (ds.map wS))) :: S))) (by walk_at "pk") ?_
  exact rest
end

section
open PySem PyProof.Rows PySem.Calls PySem.W PySem.Spec
variable {w : World} {A : Around} {C : Cx} {S S' : St} {env : Env}
theorem pairL_len (ss : List Nat) (n : Nat) : (pairL ss n).length = n := by unfold pairL; rw [List.length_map, List.length_range]
theorem law_f (g : G w C) {A' : Around} {L tl dl ml cl ra ca : Addr} {ds ss ms : List Nat} {a : LA} {tx : Str} {p n : Int} {W : List (Str × List Nat)} {pv : Option Value} (hA' : A'.handled = none) (hd : A'.depth + 3 < recursionLimit) (hU : A'.units + 64 < cLine) (D : Drawn ds ss) {Φ : Flow → St → Prop}
    (rest : VF (model pw w) A' C (lexS a tx p n ([]) ((L, .ns [(Str.ofString "script", .ref C.arg.1), (Str.ofString "message", .ref ml), (Str.ofString "text", strV (textOf W)), (Str.ofString "lexer", .ref a.lx)]) :: cells L (some (.ref tl)) (some (.ref cl)) (some (.ref ra)) pv none none none ((cl, .lst (List.map lV (codeF ss))) :: (ml, .lst (List.map natV ms)) :: (ra, .lst (List.map strV (ss.map wS))) :: S))) (execs ((dBody (st 18)).drop 17) (env175 L)) Φ) :
    VF (model pw w) A' C (lexS a tx p n ([]) ((L, .ns [(Str.ofString "script", .ref C.arg.1), (Str.ofString "drawn", .ref dl), (Str.ofString "message", .ref ml), (Str.ofString "text", strV (textOf W)), (Str.ofString "lexer", .ref a.lx), (Str.ofString "came", .ref ca), (Str.ofString "token", strV dotS)]) :: cells L (some (.ref tl)) (some (.ref cl)) (some (.ref ra)) pv none none none ((cl, .lst (List.map lV (codeF ss))) :: (dl, .lst (List.map natV ds)) :: (ml, .lst (List.map natV ms)) :: (ra, .lst (List.map strV (ss.map wS))) :: (ca, .lst (List.map strV (ds.map wS))) :: S))) (execs ((dBody (st 18)).drop 15) (env175 L)) Φ := by
  have hdl := D.l6
  have hsl := D.sl
  have hrl : (List.map strV (ss.map wS)).length = ss.length := by rw [List.length_map, List.length_map]
  have hrz : (List.map strV (ss.map wS)).length ≤ sizeLine := by rw [hrl, sizeLine_eq]; omega
  have hl2 := D.l2
  obtain ⟨m, hm⟩ : ∃ m, ss.length = m + 1 := ⟨ss.length - 1, by omega⟩
  change VG _ _ _ _ _ (execs (_ :: _) _) _
  with_reducible refine V.execs_cons ?_
  with_reducible refine V.assign_comp (cl := [(Str.ofString "rising", L + 3)]) (by kernel_rfl) ?_
  repeat walk_at "V"
  refine ⟨.builtin, fun v hv => V.len_list hv (.lst (by walk_at "mem")) hrz ?_⟩
  repeat walk_at "V"
  refine ⟨.type, fun u hu => V.range1 hu fun r => ?_⟩
  rw [hrl, hm]
  intro x' hx'
  obtain rfl := nt_ref hx'
  with_reducible refine V.iter_rng (n := m) (by walk_at "mem") (by omega) (fun it => ?_) (by omega) (by omega)
  intro it' hit pa L'
  obtain rfl := nt_ref hit
  with_reducible refine V.compStart ?_ (V.iter_rit (by unfold rc; walk_at "mem") ⟨rfl, rfl⟩)
  with_reducible refine VK.to ((L', .ns []) :: (pa, .lst []) :: (it, rc 0 m 0) :: lexS a tx p n ([]) ((L, .ns [(Str.ofString "script", .ref C.arg.1), (Str.ofString "drawn", .ref dl), (Str.ofString "message", .ref ml), (Str.ofString "text", strV (textOf W)), (Str.ofString "lexer", .ref a.lx), (Str.ofString "came", .ref ca), (Str.ofString "token", strV dotS)]) :: cells L (some (.ref tl)) (some (.ref cl)) (some (.ref ra)) pv none none none ((cl, .lst (List.map lV (codeF ss))) :: (dl, .lst (List.map natV ds)) :: (ml, .lst (List.map natV ms)) :: (ra, .lst (List.map strV (ss.map wS))) :: (ca, .lst (List.map strV (ds.map wS))) :: S))) (by walk_at "pk") ?_
  with_reducible refine V.compI (c := rc 0 m) (item := fun i => .int (0 + (i : Nat)) 0) (n := m) (fun j ys S' => ∃ T, S' = lexS a tx p n ([]) ((L, .ns [(Str.ofString "script", .ref C.arg.1), (Str.ofString "drawn", .ref dl), (Str.ofString "message", .ref ml), (Str.ofString "text", strV (textOf W)), (Str.ofString "lexer", .ref a.lx), (Str.ofString "came", .ref ca), (Str.ofString "token", strV dotS)]) :: cells L (some (.ref tl)) (some (.ref cl)) (some (.ref ra)) pv none none none ((cl, .lst (List.map lV (codeF ss))) :: (dl, .lst (List.map natV ds)) :: (ml, .lst (List.map natV ms)) :: (ra, .lst (List.map strV (ss.map wS))) :: (ca, .lst (List.map strV (ds.map wS))) :: (T ++ S))) ∧ PTups T ys ((pairL ss j).map pairS)) (fun _ _ _ _ => It.rng hA') (by rw [sizeLine_eq]; simp only [List.length_nil]; omega) ⟨[], by with_unfolding_all rfl, PTups.nil⟩ ?_ ?_
  · rintro j ys S' hj ⟨T, rfl, hT⟩ v hv
    have hv0 : nt v = natV j := by rw [hv]; exact congrArg (fun x => Value.int x 0) (Int.zero_add _)
    clear hv
    have g0 : ss[j]? = some (ss.getD j 0) := by rw [List.getD_eq_getElem?_getD, List.getElem?_eq_getElem (by omega)]; rfl
    have g1 : ss[j + 1]? = some (ss.getD (j + 1) 0) := by rw [List.getD_eq_getElem?_getD, List.getElem?_eq_getElem (by omega)]; rfl
    with_reducible refine V.own_name ?_
    with_reducible refine V.assign_Name ?_
    revert v
    walk_at "store"
    with_reducible refine V.tests_nil ?_
    refine ⟨fun _ => ?_, fun hb => by cases hb⟩
    repeat walk_at "V"
    with_reducible refine V.tail_nat (k := j) (.lst (by walk_at "mem")) (by rw [List.getElem?_map, List.getElem?_map, g0, Option.map_some, Option.map_some]) hrz ?_
    repeat walk_at "V"
    rw [show ((j : Int) + 1) = ((j + 1 : Nat) : Int) from rfl]
    with_reducible refine V.tail_nat (k := j + 1) (.lst (by walk_at "mem")) (by rw [List.getElem?_map, List.getElem?_map, g1, Option.map_some, Option.map_some]) hrz ?_
    repeat walk_at "V"
    refine ⟨by walk_at "dec", fun tt => ?_⟩
    refine ⟨lexS a tx p n ([]) ((L, .ns [(Str.ofString "script", .ref C.arg.1), (Str.ofString "drawn", .ref dl), (Str.ofString "message", .ref ml), (Str.ofString "text", strV (textOf W)), (Str.ofString "lexer", .ref a.lx), (Str.ofString "came", .ref ca), (Str.ofString "token", strV dotS)]) :: cells L (some (.ref tl)) (some (.ref cl)) (some (.ref ra)) pv none none none ((cl, .lst (List.map lV (codeF ss))) :: (dl, .lst (List.map natV ds)) :: (ml, .lst (List.map natV ms)) :: (ra, .lst (List.map strV (ss.map wS))) :: (ca, .lst (List.map strV (ds.map wS))) :: ((tt, .tup [.str (wS (ss.getD j 0)) 0, .str (wS (ss.getD (j + 1) 0)) 0]) :: (T ++ S)))), by walk_at "pk", (tt, .tup [.str (wS (ss.getD j 0)) 0, .str (wS (ss.getD (j + 1) 0)) 0]) :: T, by with_unfolding_all rfl, ?_⟩
    rw [pairL_succ, List.map_append]
    exact (hT.mono (List.subset_cons_self _ _)).snoc List.mem_cons_self
  rintro ys₀ S' ⟨T, rfl, hT⟩
  have hpl : ((pairL ss m).map pairS).length = m := by rw [List.length_map, pairL_len]
  have hyl : ys₀.length = m := by rw [hT.1, hpl]
  have hyz : ys₀.length ≤ sizeLine := by rw [hyl, sizeLine_eq]; omega
  with_reducible refine V.st_ref (by walk_at "upd") (by walk_at "set") ?_
  refine ⟨_, _, .head, ?_⟩
  dsimp only
  with_reducible refine V.execs_cons ?_
  with_reducible refine V.if_ ?_
  with_reducible refine V.t_cmp ?_
  with_reducible refine V.listcomp (cl := []) (by kernel_rfl) ?_
  repeat walk_at "V"
  intro x' hx'
  obtain rfl := nt_ref hx'
  with_reducible refine V.iter_list (.lst (by walk_at "mem")) fun it => ?_
  intro it' hit acc L'
  obtain rfl := nt_ref hit
  with_reducible refine V.compStart ?_ (V.iter_lit (by walk_at "mem") ⟨rfl, rfl⟩)
  with_reducible refine VK.to ((L', .ns []) :: (acc, .lst []) :: (it, .lit pa 0) :: lexS a tx p n ([]) ((L, .ns [(Str.ofString "script", .ref C.arg.1), (Str.ofString "drawn", .ref dl), (Str.ofString "message", .ref ml), (Str.ofString "text", strV (textOf W)), (Str.ofString "lexer", .ref a.lx), (Str.ofString "came", .ref ca), (Str.ofString "token", strV dotS), (Str.ofString "pairs", .ref pa)]) :: cells L (some (.ref tl)) (some (.ref cl)) (some (.ref ra)) pv none none none ((cl, .lst (List.map lV (codeF ss))) :: (dl, .lst (List.map natV ds)) :: (ml, .lst (List.map natV ms)) :: (ra, .lst (List.map strV (ss.map wS))) :: (ca, .lst (List.map strV (ds.map wS))) :: ((pa, .lst ys₀) :: (T ++ S))))) (by walk_at "pk") ?_
  with_reducible refine V.compI (c := fun i => .lit pa i) (item := fun i => ys₀.getD i .none) (n := ys₀.length) (fun j ys S' => ys = List.map intV (((pairL ss m).take j).map pairI) ∧ S' = lexS a tx p n ([]) ((L, .ns [(Str.ofString "script", .ref C.arg.1), (Str.ofString "drawn", .ref dl), (Str.ofString "message", .ref ml), (Str.ofString "text", strV (textOf W)), (Str.ofString "lexer", .ref a.lx), (Str.ofString "came", .ref ca), (Str.ofString "token", strV dotS), (Str.ofString "pairs", .ref pa)]) :: cells L (some (.ref tl)) (some (.ref cl)) (some (.ref ra)) pv none none none ((cl, .lst (List.map lV (codeF ss))) :: (dl, .lst (List.map natV ds)) :: (ml, .lst (List.map natV ms)) :: (ra, .lst (List.map strV (ss.map wS))) :: (ca, .lst (List.map strV (ds.map wS))) :: ((pa, .lst ys₀) :: (T ++ S))))) (fun j ys S' hS' => by obtain ⟨_, rfl⟩ := hS'; exact It.list hA' fun c => .lst (by walk_at "mem")) (by rw [List.length_nil, Nat.zero_add]; exact hyz) ⟨by with_unfolding_all rfl, by with_unfolding_all rfl⟩ ?_ ?_
  · rintro j ys S' hj ⟨rfl, rfl⟩ u hu
    rw [hyl] at hj
    obtain ⟨q, hq⟩ : ∃ q, (pairL ss m)[j]? = some q := ⟨_, List.getElem?_eq_getElem (by rw [pairL_len]; exact hj)⟩
    obtain ⟨b, hb1, hb2⟩ := hT.2 j (pairS q) (by rw [List.getElem?_map, hq]; rfl)
    rw [List.getD_eq_getElem?_getD, hb1, Option.getD_some] at hu
    with_reducible refine V.own_lit (by walk_at "mem") ?_
    revert u
    with_reducible refine V.assign_pair hA' (by (repeat (with_reducible apply List.mem_cons_of_mem)); exact List.mem_append_left _ hb2) fun x' hx' y' hy' => ?_
    with_reducible refine V.assign_Name ?_
    revert x'
    walk_at "store"
    with_reducible refine V.assign_Name ?_
    revert y'
    walk_at "store"
    with_reducible refine V.tests_nil ?_
    refine ⟨fun _ => ?_, fun hb => by cases hb⟩
    repeat walk_at "V"
    refine ⟨.fn (at_K g (lk63 _)) rfl, fun v u hv hu => V.call_of (strcoll g (by omega) hv hu ?_)⟩
    refine ⟨lexS a tx p n ([]) ((L, .ns [(Str.ofString "script", .ref C.arg.1), (Str.ofString "drawn", .ref dl), (Str.ofString "message", .ref ml), (Str.ofString "text", strV (textOf W)), (Str.ofString "lexer", .ref a.lx), (Str.ofString "came", .ref ca), (Str.ofString "token", strV dotS), (Str.ofString "pairs", .ref pa)]) :: cells L (some (.ref tl)) (some (.ref cl)) (some (.ref ra)) pv none none none ((cl, .lst (List.map lV (codeF ss))) :: (dl, .lst (List.map natV ds)) :: (ml, .lst (List.map natV ms)) :: (ra, .lst (List.map strV (ss.map wS))) :: (ca, .lst (List.map strV (ds.map wS))) :: ((pa, .lst ys₀) :: (T ++ S)))), by walk_at "pk", ?_, rfl⟩
    rw [take_snoc hq, List.map_append, List.map_append]; rfl
  rintro ys S' ⟨rfl, rfl⟩
  rw [show (pairL ss m).take ys₀.length = pairL ss m by rw [hyl]; exact List.take_of_length_le (by rw [pairL_len]; exact Nat.le_refl _)]
  refine ⟨_, _, .head, ?_⟩
  with_reducible refine V.listcomp (cl := []) (by kernel_rfl) ?_
  repeat walk_at "V"
  intro x' hx'
  obtain rfl := nt_ref hx'
  with_reducible refine V.iter_list (.lst (by walk_at "mem")) fun it2 => ?_
  intro it2' hit2 acc2 L2
  obtain rfl := nt_ref hit2
  with_reducible refine V.compStart ?_ (V.iter_lit (by walk_at "mem") ⟨rfl, rfl⟩)
  with_reducible refine VK.to ((L2, .ns []) :: (acc2, .lst []) :: (it2, .lit pa 0) :: (acc, .lst (List.map intV ((pairL ss m).map pairI))) :: lexS a tx p n ([]) ((L, .ns [(Str.ofString "script", .ref C.arg.1), (Str.ofString "drawn", .ref dl), (Str.ofString "message", .ref ml), (Str.ofString "text", strV (textOf W)), (Str.ofString "lexer", .ref a.lx), (Str.ofString "came", .ref ca), (Str.ofString "token", strV dotS), (Str.ofString "pairs", .ref pa)]) :: cells L (some (.ref tl)) (some (.ref cl)) (some (.ref ra)) pv none none none ((cl, .lst (List.map lV (codeF ss))) :: (dl, .lst (List.map natV ds)) :: (ml, .lst (List.map natV ms)) :: (ra, .lst (List.map strV (ss.map wS))) :: (ca, .lst (List.map strV (ds.map wS))) :: ((pa, .lst ys₀) :: (T ++ S))))) (by walk_at "pk") ?_
  with_reducible refine V.compI (c := fun i => .lit pa i) (item := fun i => ys₀.getD i .none) (n := ys₀.length) (fun j ys S' => ys = List.map intV (((pairL ss m).take j).map pairI) ∧ S' = (acc, .lst (List.map intV ((pairL ss m).map pairI))) :: lexS a tx p n ([]) ((L, .ns [(Str.ofString "script", .ref C.arg.1), (Str.ofString "drawn", .ref dl), (Str.ofString "message", .ref ml), (Str.ofString "text", strV (textOf W)), (Str.ofString "lexer", .ref a.lx), (Str.ofString "came", .ref ca), (Str.ofString "token", strV dotS), (Str.ofString "pairs", .ref pa)]) :: cells L (some (.ref tl)) (some (.ref cl)) (some (.ref ra)) pv none none none ((cl, .lst (List.map lV (codeF ss))) :: (dl, .lst (List.map natV ds)) :: (ml, .lst (List.map natV ms)) :: (ra, .lst (List.map strV (ss.map wS))) :: (ca, .lst (List.map strV (ds.map wS))) :: ((pa, .lst ys₀) :: (T ++ S))))) (fun j ys S' hS' => by obtain ⟨_, rfl⟩ := hS'; exact It.list hA' fun c => .lst (by walk_at "mem")) (by rw [List.length_nil, Nat.zero_add]; exact hyz) ⟨by with_unfolding_all rfl, by with_unfolding_all rfl⟩ ?_ ?_
  · rintro j ys S' hj ⟨rfl, rfl⟩ u hu
    rw [hyl] at hj
    obtain ⟨q, hq⟩ : ∃ q, (pairL ss m)[j]? = some q := ⟨_, List.getElem?_eq_getElem (by rw [pairL_len]; exact hj)⟩
    obtain ⟨b, hb1, hb2⟩ := hT.2 j (pairS q) (by rw [List.getElem?_map, hq]; rfl)
    have hqi := pairI_eq (pair_le D.o (n := m) (by omega) q (List.mem_of_getElem? hq))
    rw [List.getD_eq_getElem?_getD, hb1, Option.getD_some] at hu
    with_reducible refine V.own_lit (by walk_at "mem") ?_
    revert u
    with_reducible refine V.assign_pair hA' (by (repeat (with_reducible apply List.mem_cons_of_mem)); exact List.mem_append_left _ hb2) fun x' hx' y' hy' => ?_
    with_reducible refine V.assign_Name ?_
    revert x'
    walk_at "store"
    with_reducible refine V.assign_Name ?_
    revert y'
    walk_at "store"
    with_reducible refine V.tests_nil ?_
    refine ⟨fun _ => ?_, fun hb => by cases hb⟩
    repeat walk_at "V"
    refine ⟨_, rfl, fun hb => ?_, fun hb => ?_⟩
    · repeat walk_at "V"
      refine ⟨(acc, .lst (List.map intV ((pairL ss m).map pairI))) :: lexS a tx p n ([]) ((L, .ns [(Str.ofString "script", .ref C.arg.1), (Str.ofString "drawn", .ref dl), (Str.ofString "message", .ref ml), (Str.ofString "text", strV (textOf W)), (Str.ofString "lexer", .ref a.lx), (Str.ofString "came", .ref ca), (Str.ofString "token", strV dotS), (Str.ofString "pairs", .ref pa)]) :: cells L (some (.ref tl)) (some (.ref cl)) (some (.ref ra)) pv none none none ((cl, .lst (List.map lV (codeF ss))) :: (dl, .lst (List.map natV ds)) :: (ml, .lst (List.map natV ms)) :: (ra, .lst (List.map strV (ss.map wS))) :: (ca, .lst (List.map strV (ds.map wS))) :: ((pa, .lst ys₀) :: (T ++ S)))), by walk_at "pk", ?_, rfl⟩
      rw [if_pos (show (wS q.1 == wS q.2) = true from hb)] at hqi
      rw [take_snoc hq, List.map_append, List.map_append, show [q].map pairI = [0] by rw [List.map_cons, hqi]; rfl]; rfl
    · with_reducible refine V.neg_const ?_
      refine ⟨(acc, .lst (List.map intV ((pairL ss m).map pairI))) :: lexS a tx p n ([]) ((L, .ns [(Str.ofString "script", .ref C.arg.1), (Str.ofString "drawn", .ref dl), (Str.ofString "message", .ref ml), (Str.ofString "text", strV (textOf W)), (Str.ofString "lexer", .ref a.lx), (Str.ofString "came", .ref ca), (Str.ofString "token", strV dotS), (Str.ofString "pairs", .ref pa)]) :: cells L (some (.ref tl)) (some (.ref cl)) (some (.ref ra)) pv none none none ((cl, .lst (List.map lV (codeF ss))) :: (dl, .lst (List.map natV ds)) :: (ml, .lst (List.map natV ms)) :: (ra, .lst (List.map strV (ss.map wS))) :: (ca, .lst (List.map strV (ds.map wS))) :: ((pa, .lst ys₀) :: (T ++ S)))), by walk_at "pk", ?_, rfl⟩
      rw [if_neg (by rw [show (wS q.1 == wS q.2) = false from hb]; decide)] at hqi
      rw [take_snoc hq, List.map_append, List.map_append, show [q].map pairI = [-1] by rw [List.map_cons, hqi]; rfl]; rfl
  rintro ys S' ⟨rfl, rfl⟩
  rw [show (pairL ss m).take ys₀.length = pairL ss m by rw [hyl]; exact List.take_of_length_le (by rw [pairL_len]; exact Nat.le_refl _)]
  refine ⟨_, _, .head, ?_⟩
  with_reducible refine VO.ne_ints (ns := (pairL ss m).map pairI) (ms := (pairL ss m).map pairI) hU (.lst (by walk_at "mem")) (.lst (by walk_at "mem")) ?_
  refine ⟨_, rfl, fun hb => absurd hb (by simp), fun _ => ?_⟩
  walk_at "V"
  with_reducible refine VG.to (lexS a tx p n ([]) ((L, .ns [(Str.ofString "script", .ref C.arg.1), (Str.ofString "message", .ref ml), (Str.ofString "text", strV (textOf W)), (Str.ofString "lexer", .ref a.lx)]) :: cells L (some (.ref tl)) (some (.ref cl)) (some (.ref ra)) pv none none none ((cl, .lst (List.map lV (codeF ss))) :: (ml, .lst (List.map natV ms)) :: (ra, .lst (List.map strV (ss.map wS))) :: S))) (by walk_at "pk") ?_
  exact rest
end

section
open PySem PyProof.Rows PySem.Calls PySem.W PySem.Spec
variable {w : World} {A : Around} {C : Cx} {S S' : St} {env : Env}
@[reducible] noncomputable def sN (l : List Nat) : Str := ⟨l.toArray⟩
theorem V.tokQ (g : G w C) (hA : A.handled = none) (hd : A.depth + 2 < recursionLimit) {a : LA} {ds ms : List Nat} {cs : List (List Nat)} {W : List (Str × List Nat)} (hT : TX ds ms cs W) (hl : ds.length ≤ 6) {q : List (List Nat)} (hq : q.length ≤ 1000) {pl : Sem Bool} {pos pos' : Pos} {Φ : Value → St → Prop} (R : St) (hS : Wk C (lexS a (textOf W) (posW W (ds.length + 1) : Nat) (nlW W (ds.length + 1)) (q.map sN) R) S)
    (h1 : ∀ t q', q = t :: q' → Φ (.str (sN t) 0) (lexS a (textOf W) (posW W (ds.length + 1) : Nat) (nlW W (ds.length + 1)) (q'.map sN) R))
    (h2 : q = [] → Φ (.str colS 0) (lexS a (textOf W) (posW W (ds.length + 2) : Nat) (nlW W (ds.length + 2)) [] R)) :
    ∀ ov, nt ov = .ref a.lx → VG (model pw w) A C (fun x => x) S (getMethod ov (Str.ofString "get_token") pl) fun fx S₂ => VP (model pw w) A C S₂ (callWith pos fx.1 fx.2 (backTo pos' (starEach [] env)) []) Φ := by
  cases q with
  | nil =>
    obtain ⟨e1, e2, e3⟩ := W_step hT.rest.2.1
    refine V.tokD g hA hd R hS (hT.size hl) (.inr rfl) e1 ?_
    have d2 : nlW W (ds.length + 1) = nlW W (ds.length + 1 + 1) := by rw [← e3]; exact (Int.add_zero _).symm
    have d1 : posW W (ds.length + 1) + 2 = posW W (ds.length + 1 + 1) := e2
    rw [d1, d2]
    exact h2 rfl
  | cons t q => exact V.tokP g hd R hS (by rw [List.length_map, sizeLine_eq]; simp only [List.length_cons] at hq; omega) (h1 t q rfl)
noncomputable def OkQ (q : List (List Nat)) : Prop := ∀ t ∈ q, t.length ≤ 4 ∧ ∀ c ∈ t, c = 102 ∨ c = 105
theorem okq0 : OkQ [[102], [105]] := by
  intro t ht
  simp only [List.mem_cons, List.mem_nil_iff, or_false] at ht
  rcases ht with rfl | rfl <;> exact ⟨by decide, by decide⟩
theorem OkQ.tail {t q} (h : OkQ (t :: q)) : OkQ q := fun x hx => h x (List.mem_cons_of_mem _ hx)
theorem OkQ.grow {t : List Nat} {q : List (List Nat)} (h : OkQ (t :: q)) (ht : t.length < 4) : OkQ (q ++ [t ++ [102], t ++ [105]]) := by
  obtain ⟨_, h2⟩ := h t List.mem_cons_self
  intro x hx
  rcases List.mem_append.mp hx with hx | hx
  · exact h x (List.mem_cons_of_mem _ hx)
  · simp only [List.mem_cons, List.mem_nil_iff, or_false] at hx
    rcases hx with rfl | rfl
    · refine ⟨by rw [List.length_append]; simp only [List.length_cons, List.length_nil]; omega, fun c hc => ?_⟩
      rcases List.mem_append.mp hc with hc | hc
      · exact h2 c hc
      · exact .inl (List.mem_singleton.mp hc)
    · refine ⟨by rw [List.length_append]; simp only [List.length_cons, List.length_nil]; omega, fun c hc => ?_⟩
      rcases List.mem_append.mp hc with hc | hc
      · exact h2 c hc
      · exact .inr (List.mem_singleton.mp hc)
theorem OkQ.colon {t : List Nat} {q} (h : OkQ (t :: q)) : (sN t != Str.ofString ":") = true := by
  rw [bne_iff_ne]
  intro e
  have e2 : t = [58] := by
    have := congrArg (fun s : Str => s.cps.toList) e
    simpa using this.trans (by decide : (Str.ofString ":").cps.toList = [58])
  have := (h t List.mem_cons_self).2 58 (by rw [e2]; exact List.mem_singleton.mpr rfl)
  omega
theorem sN_emp {t : List Nat} (h : t.length ≠ 0) : (sN t == Str.ofString "") = false := by
  rw [beq_eq_false_iff_ne]
  intro e
  have := congrArg Str.length e
  rw [show (sN t).length = t.length from str_len _] at this
  exact h this
theorem sN_snoc (t : List Nat) (c : Nat) : (sN t ++ (⟨#[c]⟩ : Str) : Str) = sN (t ++ [c]) := word_cat t c
theorem treeGo_cons {ss : List Nat} {f : Nat} {t : List Nat} {q found cs : List (List Nat)} (h : treeGo ss f (t :: q) found = some cs) :
    ∃ f', f = f' + 1 ∧ t.length ≠ 0 ∧ t.length ≤ ss.getD (min found.length (ss.length - 1)) 1 ∧ (t.length = ss.getD (min found.length (ss.length - 1)) 1 → treeGo ss f' q (found ++ [t]) = some cs) ∧ (t.length ≠ ss.getD (min found.length (ss.length - 1)) 1 → treeGo ss f' (q ++ [t ++ [102], t ++ [105]]) found = some cs) := by
  cases f with
  | zero => simp [treeGo] at h
  | succ f =>
    rw [treeGo] at h
    by_cases h1 : t.length = 0 ∨ ss.getD (min found.length (ss.length - 1)) 1 < t.length
    · rw [if_pos h1] at h; cases h
    · rw [if_neg h1] at h
      refine ⟨f, rfl, fun e => h1 (.inl e), Nat.le_of_not_lt fun e => h1 (.inr e), fun e => ?_, fun e => ?_⟩
      · rwa [if_pos e] at h
      · rwa [if_neg e] at h
theorem Drawn.tree {ds ss : List Nat} (D : Drawn ds ss) : treeGo ss 64 [[102], [105]] [] = some (codeF ss) := by
  have := D.code
  unfold okCode at this
  simp only [Bool.and_eq_true] at this
  exact beq_iff_eq.mp this.1.1.1.2
theorem law_g (g : G w C) {A' : Around} {L tl dl ml cl ra ca : Addr} {ds ss ms : List Nat} {a : LA} {W : List (Str × List Nat)} {pv : Option Value} (hA' : A'.handled = none) (hd : A'.depth + 3 < recursionLimit) (D : Drawn ds ss) (hT : TX ds ms (codeF ss) W) {Φ : Flow → St → Prop}
    (rest : ∀ fa, VF (model pw w) A' C (lexS a (textOf W) (posW W (ds.length + 2) : Nat) (nlW W (ds.length + 2)) ([]) ((L, .ns [(Str.ofString "script", .ref C.arg.1), (Str.ofString "message", .ref ml), (Str.ofString "text", strV (textOf W)), (Str.ofString "lexer", .ref a.lx)]) :: cells L (some (.ref tl)) (some (.ref cl)) (some (.ref ra)) pv (some (.ref fa)) none none ((cl, .lst (List.map lV (codeF ss))) :: (ml, .lst (List.map natV ms)) :: (ra, .lst (List.map strV (ss.map wS))) :: (fa, .lst (List.map lV (codeF ss))) :: S))) (execs ((dBody (st 18)).drop 22) (env175 L)) Φ) :
    VF (model pw w) A' C (lexS a (textOf W) (posW W (ds.length + 1) : Nat) (nlW W (ds.length + 1)) ([]) ((L, .ns [(Str.ofString "script", .ref C.arg.1), (Str.ofString "message", .ref ml), (Str.ofString "text", strV (textOf W)), (Str.ofString "lexer", .ref a.lx)]) :: cells L (some (.ref tl)) (some (.ref cl)) (some (.ref ra)) pv none none none ((cl, .lst (List.map lV (codeF ss))) :: (ml, .lst (List.map natV ms)) :: (ra, .lst (List.map strV (ss.map wS))) :: S))) (execs ((dBody (st 18)).drop 17) (env175 L)) Φ := by
  have hdl := D.l6
  have hsl := D.sl
  have hl2 := D.l2
  have hrl : (List.map strV (ss.map wS)).length = ss.length := by rw [List.length_map, List.length_map]
  have hrz : (List.map strV (ss.map wS)).length ≤ sizeLine := by rw [hrl, sizeLine_eq]; omega
  change VG _ _ _ _ _ (execs (_ :: _) _) _
  with_reducible refine V.execs_cons ?_
  with_reducible refine V.expr (V.call_meth ?_)
  repeat walk_at "V"
  with_reducible refine V.m_pushW g ((L, .ns [(Str.ofString "script", .ref C.arg.1), (Str.ofString "message", .ref ml), (Str.ofString "text", strV (textOf W)), (Str.ofString "lexer", .ref a.lx)]) :: cells L (some (.ref tl)) (some (.ref cl)) (some (.ref ra)) pv none none none ((cl, .lst (List.map lV (codeF ss))) :: (ml, .lst (List.map natV ms)) :: (ra, .lst (List.map strV (ss.map wS))) :: S)) (by walk_at "pk") ?_
  with_reducible refine V.cw1 ?_
  walk_at "V"
  refine ⟨.fn (at_K g (lk49 _)) rfl, fun v hv => V.pushT g (by omega) ((L, .ns [(Str.ofString "script", .ref C.arg.1), (Str.ofString "message", .ref ml), (Str.ofString "text", strV (textOf W)), (Str.ofString "lexer", .ref a.lx)]) :: cells L (some (.ref tl)) (some (.ref cl)) (some (.ref ra)) pv none none none ((cl, .lst (List.map lV (codeF ss))) :: (ml, .lst (List.map natV ms)) :: (ra, .lst (List.map strV (ss.map wS))) :: S)) (by walk_at "pk") hv (by decide) ?_⟩
  refine ⟨rfl, ?_⟩
  with_reducible refine V.execs_cons ?_
  with_reducible refine V.expr (V.call_meth ?_)
  repeat walk_at "V"
  with_reducible refine V.m_pushW g ((L, .ns [(Str.ofString "script", .ref C.arg.1), (Str.ofString "message", .ref ml), (Str.ofString "text", strV (textOf W)), (Str.ofString "lexer", .ref a.lx)]) :: cells L (some (.ref tl)) (some (.ref cl)) (some (.ref ra)) pv none none none ((cl, .lst (List.map lV (codeF ss))) :: (ml, .lst (List.map natV ms)) :: (ra, .lst (List.map strV (ss.map wS))) :: S)) (by walk_at "pk") ?_
  with_reducible refine V.cw1 ?_
  walk_at "V"
  refine ⟨.fn (at_K g (lk49 _)) rfl, fun v hv => V.pushT g (by omega) ((L, .ns [(Str.ofString "script", .ref C.arg.1), (Str.ofString "message", .ref ml), (Str.ofString "text", strV (textOf W)), (Str.ofString "lexer", .ref a.lx)]) :: cells L (some (.ref tl)) (some (.ref cl)) (some (.ref ra)) pv none none none ((cl, .lst (List.map lV (codeF ss))) :: (ml, .lst (List.map natV ms)) :: (ra, .lst (List.map strV (ss.map wS))) :: S)) (by walk_at "pk") hv (by decide) ?_⟩
  refine ⟨rfl, ?_⟩
  rw [show ([] ++ [Str.ofString "f"] ++ [Str.ofString "i"] : List Str) = [sN [102], sN [105]] by decide]
  with_reducible refine V.execs_cons ?_
  with_reducible refine V.assign_name ?_
  walk_at "V"
  repeat walk_at "V"
  refine ⟨by walk_at "dec", fun fa => ?_⟩
  walk_at "store"
  dsimp only
  with_reducible refine V.execs_cons ?_
  with_reducible refine V.assign_name ?_
  with_reducible refine V.call_meth ?_
  repeat walk_at "V"
  with_reducible refine V.tokP g (by omega) (tok := sN [102]) (ps := [sN [105]]) ((L, .ns [(Str.ofString "script", .ref C.arg.1), (Str.ofString "message", .ref ml), (Str.ofString "text", strV (textOf W)), (Str.ofString "lexer", .ref a.lx)]) :: cells L (some (.ref tl)) (some (.ref cl)) (some (.ref ra)) pv (some (.ref fa)) none none ((cl, .lst (List.map lV (codeF ss))) :: (ml, .lst (List.map natV ms)) :: (ra, .lst (List.map strV (ss.map wS))) :: (fa, .lst ([])) :: S)) (by walk_at "pk") (by decide) ?_
  walk_at "store"
  dsimp only
  walk_at "V"
  with_reducible refine V.whileI (fun f S' => (∃ t q found, treeGo ss f (t :: q) found = some (codeF ss) ∧ OkQ (t :: q) ∧ q.length + 2 * f + found.length ≤ 200 ∧ S' = lexS a (textOf W) (posW W (ds.length + 1) : Nat) (nlW W (ds.length + 1)) (q.map sN) ((L, .ns [(Str.ofString "script", .ref C.arg.1), (Str.ofString "message", .ref ml), (Str.ofString "text", strV (textOf W)), (Str.ofString "lexer", .ref a.lx), (Str.ofString "token", strV (sN t))]) :: cells L (some (.ref tl)) (some (.ref cl)) (some (.ref ra)) pv (some (.ref fa)) none none ((cl, .lst (List.map lV (codeF ss))) :: (ml, .lst (List.map natV ms)) :: (ra, .lst (List.map strV (ss.map wS))) :: (fa, .lst (List.map lV (found))) :: S))) ∨ S' = lexS a (textOf W) (posW W (ds.length + 2) : Nat) (nlW W (ds.length + 2)) ([]) ((L, .ns [(Str.ofString "script", .ref C.arg.1), (Str.ofString "message", .ref ml), (Str.ofString "text", strV (textOf W)), (Str.ofString "lexer", .ref a.lx), (Str.ofString "token", strV (colS))]) :: cells L (some (.ref tl)) (some (.ref cl)) (some (.ref ra)) pv (some (.ref fa)) none none ((cl, .lst (List.map lV (codeF ss))) :: (ml, .lst (List.map natV ms)) :: (ra, .lst (List.map strV (ss.map wS))) :: (fa, .lst (List.map lV (codeF ss))) :: S))) 64 (.inl ⟨[102], [[105]], [], D.tree, okq0, by decide, by with_unfolding_all rfl⟩) ?_
  rintro n S' (⟨t, q, found, hgo, hok, hbd, rfl⟩ | rfl)
  · have hcol := hok.colon
    obtain ⟨f, rfl, ht0, htz, hgo1, hgo2⟩ := treeGo_cons hgo
    have ht4 := (hok t List.mem_cons_self).1
    have htl : (sN t).length = t.length := str_len _
    have htZ : (sN t).length ≤ sizeLine := by rw [htl, sizeLine_eq]; omega
    have hfz : (List.map lV found).length ≤ sizeLine := by rw [List.length_map, sizeLine_eq]; omega
    repeat walk_at "V"
    refine ⟨_, rfl, fun _ => ?_, fun hb => absurd (hb.symm.trans hcol) (by decide)⟩
    repeat walk_at "V"
    refine ⟨.builtin, fun v hv => V.len_list hv (.lst (by walk_at "mem")) hfz ?_⟩
    repeat walk_at "V"
    refine ⟨.builtin, fun v hv => V.len_list hv (.lst (by walk_at "mem")) hrz ?_⟩
    repeat walk_at "V"
    refine ⟨.builtin, fun u1 u2 h1 h2 => V.min2 h1 h2 hA' ?_⟩
    have ei : (if ((List.map strV (ss.map wS)).length : Int) - 1 < ((List.map lV found).length : Int) then ((List.map strV (ss.map wS)).length : Int) - 1 else ((List.map lV found).length : Int)) = ((min found.length (ss.length - 1) : Nat) : Int) := by
      rw [hrl, List.length_map]; split <;> omega
    rw [ei]
    have hix : min found.length (ss.length - 1) < ss.length := by omega
    have hsg : ss[min found.length (ss.length - 1)]? = some (ss.getD (min found.length (ss.length - 1)) 1) := by
      rw [List.getD_eq_getElem?_getD, List.getElem?_eq_getElem hix]; rfl
    obtain ⟨hs1, hs4⟩ := D.sr _ (List.mem_of_getElem? hsg)
    generalize ss.getD (min found.length (ss.length - 1)) 1 = sz at hsg hs1 hs4 hgo1 hgo2 htz
    with_reducible refine V.tail_nat (.lst (by walk_at "mem")) (by rw [List.getElem?_map, List.getElem?_map, hsg, Option.map_some, Option.map_some]) hrz ?_
    have hwl : (wS sz).length = sz := by rw [show (wS sz).length = (repF sz).length from str_len _]; unfold repF; rw [List.length_replicate]
    refine ⟨.builtin, fun v hv => V.len_str hv (by rw [hwl, sizeLine_eq]; omega) ?_⟩
    rw [hwl]
    walk_at "store"
    dsimp only
    with_reducible refine V.execs_cons ?_
    with_reducible refine V.if_ ?_
    with_reducible refine V.t_or ?_
    repeat walk_at "V"
    refine ⟨_, rfl, fun _ => ?_, fun hb => absurd (hb.symm.trans (sN_emp ht0)) (by decide)⟩
    with_reducible refine V.t_or ?_
    repeat walk_at "V"
    refine ⟨.builtin, fun v hv => V.len_str hv htZ ?_⟩
    rw [htl]
    repeat walk_at "V"
    refine ⟨_, rfl, fun _ => ?_, fun hb => absurd (of_decide_eq_true hb) (by omega)⟩
    with_reducible refine V.t_or_nil ?_
    refine ⟨fun hb => (by cases hb), fun _ => ?_⟩
    walk_at "V"
    dsimp only
    with_reducible refine V.execs_cons ?_
    with_reducible refine V.if_ ?_
    repeat walk_at "V"
    refine ⟨.builtin, fun v hv => V.len_str hv htZ ?_⟩
    rw [htl]
    repeat walk_at "V"
    refine ⟨_, rfl, fun hb => ?_, fun hb => ?_⟩
    · have hgo := hgo1 (by have := beq_iff_eq.mp hb; omega)
      with_reducible refine V.execs_cons ?_
      with_reducible refine V.expr (V.call_meth ?_)
      repeat walk_at "V"
      intro o ho; obtain rfl := nt_ref ho
      with_reducible refine V.meth_list (by walk_at "mem") slot_list_append F.type_list_append ?_
      with_reducible refine V.cw1 ?_
      walk_at "V"
      refine ⟨.builtin, ?_⟩
      refine V.ap (by walk_at "upd") hfz ?_
      refine ⟨rfl, ?_⟩
      rw [show List.map lV found ++ [Value.str (sN t) 0] = List.map lV (found ++ [t]) by rw [List.map_append]; rfl]
      walk_at "V"
      dsimp only
      with_reducible refine V.execs_cons ?_
      with_reducible refine V.assign_name ?_
      with_reducible refine V.call_meth ?_
      repeat walk_at "V"
      with_reducible refine V.tokQ g hA' (by omega) hT hdl (q := q) (by omega) ((L, .ns [(Str.ofString "script", .ref C.arg.1), (Str.ofString "message", .ref ml), (Str.ofString "text", strV (textOf W)), (Str.ofString "lexer", .ref a.lx), (Str.ofString "token", strV (sN t))]) :: cells L (some (.ref tl)) (some (.ref cl)) (some (.ref ra)) pv (some (.ref fa)) none none ((cl, .lst (List.map lV (codeF ss))) :: (ml, .lst (List.map natV ms)) :: (ra, .lst (List.map strV (ss.map wS))) :: (fa, .lst (List.map lV (found ++ [t]))) :: S)) (by walk_at "pk") (fun t2 q2 e2 => ?_) (fun e2 => ?_)
      · walk_at "store"
        dsimp only
        walk_at "V"
        refine ⟨f, lexS a (textOf W) (posW W (ds.length + 1) : Nat) (nlW W (ds.length + 1)) (q2.map sN) ((L, .ns [(Str.ofString "script", .ref C.arg.1), (Str.ofString "message", .ref ml), (Str.ofString "text", strV (textOf W)), (Str.ofString "lexer", .ref a.lx), (Str.ofString "token", strV (sN t2))]) :: cells L (some (.ref tl)) (some (.ref cl)) (some (.ref ra)) pv (some (.ref fa)) none none ((cl, .lst (List.map lV (codeF ss))) :: (ml, .lst (List.map natV ms)) :: (ra, .lst (List.map strV (ss.map wS))) :: (fa, .lst (List.map lV (found ++ [t]))) :: S)), Nat.lt_succ_self _, by walk_at "pk", .inl ⟨t2, q2, found ++ [t], ?_, ?_, ?_, rfl⟩⟩
        · rw [← e2]; exact hgo
        · rw [← e2]; exact hok.tail
        · have hle := congrArg List.length e2
          simp only [List.length_append, List.length_cons, List.length_nil] at hle
          try simp only [List.length_append, List.length_cons, List.length_nil]
          omega
      · rw [e2] at hgo
        obtain ⟨f', rfl⟩ : ∃ f', f = f' + 1 := by
          cases f with
          | zero => simp [treeGo] at hgo
          | succ f' => exact ⟨f', rfl⟩
        have hfo : found ++ [t] = codeF ss := by simpa [treeGo] using hgo
        walk_at "store"
        dsimp only
        walk_at "V"
        exact ⟨f' + 1, lexS a (textOf W) (posW W (ds.length + 2) : Nat) (nlW W (ds.length + 2)) ([]) ((L, .ns [(Str.ofString "script", .ref C.arg.1), (Str.ofString "message", .ref ml), (Str.ofString "text", strV (textOf W)), (Str.ofString "lexer", .ref a.lx), (Str.ofString "token", strV (colS))]) :: cells L (some (.ref tl)) (some (.ref cl)) (some (.ref ra)) pv (some (.ref fa)) none none ((cl, .lst (List.map lV (codeF ss))) :: (ml, .lst (List.map natV ms)) :: (ra, .lst (List.map strV (ss.map wS))) :: (fa, .lst (List.map lV (codeF ss))) :: S)), Nat.lt_succ_self _, by rw [← hfo]; walk_at "pk", .inr rfl⟩
    · have hne : t.length ≠ sz := by intro e; rw [e] at hb; simp at hb
      have hgo := hgo2 hne
      have hsx : (sN t).length + (Str.ofString "f").length ≤ sizeLine := by rw [htl, show (Str.ofString "f").length = 1 by decide, sizeLine_eq]; omega
      have hsy : (sN t).length + (Str.ofString "i").length ≤ sizeLine := by rw [htl, show (Str.ofString "i").length = 1 by decide, sizeLine_eq]; omega
      with_reducible refine V.execs_cons ?_
      with_reducible refine V.expr (V.call_meth ?_)
      repeat walk_at "V"
      with_reducible refine V.m_pushW g ((L, .ns [(Str.ofString "script", .ref C.arg.1), (Str.ofString "message", .ref ml), (Str.ofString "text", strV (textOf W)), (Str.ofString "lexer", .ref a.lx), (Str.ofString "token", strV (sN t))]) :: cells L (some (.ref tl)) (some (.ref cl)) (some (.ref ra)) pv (some (.ref fa)) none none ((cl, .lst (List.map lV (codeF ss))) :: (ml, .lst (List.map natV ms)) :: (ra, .lst (List.map strV (ss.map wS))) :: (fa, .lst (List.map lV (found))) :: S)) (by walk_at "pk") ?_
      with_reducible refine V.cw1 ?_
      repeat walk_at "V"
      with_reducible refine VO.add_str ?_ hsx
      rw [show Str.ofString "f" = (⟨#[102]⟩ : Str) by decide, sN_snoc]
      refine ⟨.fn (at_K g (lk49 _)) rfl, fun v hv => V.pushT g (by omega) ((L, .ns [(Str.ofString "script", .ref C.arg.1), (Str.ofString "message", .ref ml), (Str.ofString "text", strV (textOf W)), (Str.ofString "lexer", .ref a.lx), (Str.ofString "token", strV (sN t))]) :: cells L (some (.ref tl)) (some (.ref cl)) (some (.ref ra)) pv (some (.ref fa)) none none ((cl, .lst (List.map lV (codeF ss))) :: (ml, .lst (List.map natV ms)) :: (ra, .lst (List.map strV (ss.map wS))) :: (fa, .lst (List.map lV (found))) :: S)) (by walk_at "pk") hv (by rw [List.length_map, sizeLine_eq]; omega) ?_⟩
      refine ⟨rfl, ?_⟩
      with_reducible refine V.execs_cons ?_
      with_reducible refine V.expr (V.call_meth ?_)
      repeat walk_at "V"
      with_reducible refine V.m_pushW g ((L, .ns [(Str.ofString "script", .ref C.arg.1), (Str.ofString "message", .ref ml), (Str.ofString "text", strV (textOf W)), (Str.ofString "lexer", .ref a.lx), (Str.ofString "token", strV (sN t))]) :: cells L (some (.ref tl)) (some (.ref cl)) (some (.ref ra)) pv (some (.ref fa)) none none ((cl, .lst (List.map lV (codeF ss))) :: (ml, .lst (List.map natV ms)) :: (ra, .lst (List.map strV (ss.map wS))) :: (fa, .lst (List.map lV (found))) :: S)) (by walk_at "pk") ?_
      with_reducible refine V.cw1 ?_
      repeat walk_at "V"
      with_reducible refine VO.add_str ?_ hsy
      rw [show Str.ofString "i" = (⟨#[105]⟩ : Str) by decide, sN_snoc]
      refine ⟨.fn (at_K g (lk49 _)) rfl, fun v hv => V.pushT g (by omega) ((L, .ns [(Str.ofString "script", .ref C.arg.1), (Str.ofString "message", .ref ml), (Str.ofString "text", strV (textOf W)), (Str.ofString "lexer", .ref a.lx), (Str.ofString "token", strV (sN t))]) :: cells L (some (.ref tl)) (some (.ref cl)) (some (.ref ra)) pv (some (.ref fa)) none none ((cl, .lst (List.map lV (codeF ss))) :: (ml, .lst (List.map natV ms)) :: (ra, .lst (List.map strV (ss.map wS))) :: (fa, .lst (List.map lV (found))) :: S)) (by walk_at "pk") hv (by rw [List.length_append, List.length_map, List.length_cons, List.length_nil, sizeLine_eq]; omega) ?_⟩
      refine ⟨rfl, ?_⟩
      rw [show q.map sN ++ [sN (t ++ [102])] ++ [sN (t ++ [105])] = (q ++ [t ++ [102], t ++ [105]]).map sN by rw [List.map_append, List.append_assoc]; rfl]
      walk_at "V"
      dsimp only
      with_reducible refine V.execs_cons ?_
      with_reducible refine V.assign_name ?_
      with_reducible refine V.call_meth ?_
      repeat walk_at "V"
      with_reducible refine V.tokQ g hA' (by omega) hT hdl (q := q ++ [t ++ [102], t ++ [105]]) (by rw [List.length_append]; simp only [List.length_cons, List.length_nil]; omega) ((L, .ns [(Str.ofString "script", .ref C.arg.1), (Str.ofString "message", .ref ml), (Str.ofString "text", strV (textOf W)), (Str.ofString "lexer", .ref a.lx), (Str.ofString "token", strV (sN t))]) :: cells L (some (.ref tl)) (some (.ref cl)) (some (.ref ra)) pv (some (.ref fa)) none none ((cl, .lst (List.map lV (codeF ss))) :: (ml, .lst (List.map natV ms)) :: (ra, .lst (List.map strV (ss.map wS))) :: (fa, .lst (List.map lV (found))) :: S)) (by walk_at "pk") (fun t2 q2 e2 => ?_) (fun e2 => ?_)
      · walk_at "store"
        dsimp only
        walk_at "V"
        refine ⟨f, lexS a (textOf W) (posW W (ds.length + 1) : Nat) (nlW W (ds.length + 1)) (q2.map sN) ((L, .ns [(Str.ofString "script", .ref C.arg.1), (Str.ofString "message", .ref ml), (Str.ofString "text", strV (textOf W)), (Str.ofString "lexer", .ref a.lx), (Str.ofString "token", strV (sN t2))]) :: cells L (some (.ref tl)) (some (.ref cl)) (some (.ref ra)) pv (some (.ref fa)) none none ((cl, .lst (List.map lV (codeF ss))) :: (ml, .lst (List.map natV ms)) :: (ra, .lst (List.map strV (ss.map wS))) :: (fa, .lst (List.map lV (found))) :: S)), Nat.lt_succ_self _, by walk_at "pk", .inl ⟨t2, q2, found, ?_, ?_, ?_, rfl⟩⟩
        · rw [← e2]; exact hgo
        · rw [← e2]; exact hok.grow (by omega)
        · have hle := congrArg List.length e2
          simp only [List.length_append, List.length_cons, List.length_nil] at hle
          try simp only [List.length_append, List.length_cons, List.length_nil]
          omega
      · rw [e2] at hgo
        obtain ⟨f', rfl⟩ : ∃ f', f = f' + 1 := by
          cases f with
          | zero => simp [treeGo] at hgo
          | succ f' => exact ⟨f', rfl⟩
        have hfo : found = codeF ss := by simpa [treeGo] using hgo
        walk_at "store"
        dsimp only
        walk_at "V"
        exact ⟨f' + 1, lexS a (textOf W) (posW W (ds.length + 2) : Nat) (nlW W (ds.length + 2)) ([]) ((L, .ns [(Str.ofString "script", .ref C.arg.1), (Str.ofString "message", .ref ml), (Str.ofString "text", strV (textOf W)), (Str.ofString "lexer", .ref a.lx), (Str.ofString "token", strV (colS))]) :: cells L (some (.ref tl)) (some (.ref cl)) (some (.ref ra)) pv (some (.ref fa)) none none ((cl, .lst (List.map lV (codeF ss))) :: (ml, .lst (List.map natV ms)) :: (ra, .lst (List.map strV (ss.map wS))) :: (fa, .lst (List.map lV (codeF ss))) :: S)), Nat.lt_succ_self _, by rw [← hfo]; walk_at "pk", .inr rfl⟩
  · repeat walk_at "V"
    refine ⟨_, rfl, fun hb => absurd hb (by decide), fun _ => ?_⟩
    walk_at "V"
    dsimp only
    with_reducible refine VG.to (lexS a (textOf W) (posW W (ds.length + 2) : Nat) (nlW W (ds.length + 2)) ([]) ((L, .ns [(Str.ofString "script", .ref C.arg.1), (Str.ofString "message", .ref ml), (Str.ofString "text", strV (textOf W)), (Str.ofString "lexer", .ref a.lx)]) :: cells L (some (.ref tl)) (some (.ref cl)) (some (.ref ra)) pv (some (.ref fa)) none none ((cl, .lst (List.map lV (codeF ss))) :: (ml, .lst (List.map natV ms)) :: (ra, .lst (List.map strV (ss.map wS))) :: (fa, .lst (List.map lV (codeF ss))) :: S))) (by walk_at "pk") ?_
    exact rest fa
end

section
open PySem PyProof.Rows PySem.Calls PySem.W PySem.Spec
variable {w : World} {A : Around} {C : Cx} {S S' : St} {env : Env}
theorem slV_init (l : List Nat) : slV (List.map natV l) none (some (-1)) = List.map natV (l.take (l.length - 1)) := by
  have h := slV_map (vs := (List.map natV l).toArray) (xs := List.map natV l) (by rw [List.toList_toArray, List.map_map]; rfl) none (some (-((1 : Nat) : Int)))
  rw [slicePick_butLast _ 1 (by decide)] at h
  rw [show (-1 : Int) = -((1 : Nat) : Int) from rfl, ← h]
  simp only [List.toList_toArray, List.size_toArray, List.length_map, ← List.map_take, List.map_map]
  rfl
theorem last_at' {l : List Nat} (h : l ≠ []) : (List.map natV l)[pyAt (List.map natV l).length (-1)]? = some (natV (l.getD (l.length - 1) 0)) := by
  have hl := List.length_pos_iff.mpr h
  have e : pyAt (List.map natV l).length (-1) = l.length - 1 := by
    unfold pyAt
    rw [if_pos (by decide), List.length_map]; omega
  rw [e, List.getElem?_map, List.getD_eq_getElem?_getD, List.getElem?_eq_getElem (by omega)]; rfl
theorem lVs (l : List (List Nat)) : List.map lV l = List.map (fun i => Value.str i 0) (l.map sN) := by rw [List.map_map]; rfl
theorem slice_to (l : List Nat) (k : Nat) : Txt.slice ⟨l.toArray⟩ none (some (k : Int)) = ⟨(l.take k).toArray⟩ := by
  have h := slice_nat ⟨l.toArray⟩ (Nat.zero_le k)
  unfold Txt.slice at h ⊢
  rw [StrLaws.sliceIdx_none_lo]
  rw [show ((0 : Nat) : Int) = 0 from rfl] at h
  rw [h]; simp
theorem Drawn.okc {ds ss : List Nat} (D : Drawn ds ss) : (((codeF ss).map sN).all fun x => PyData.strOk x) = true := by
  rw [List.all_eq_true]
  intro x hx
  obtain ⟨c, hc, rfl⟩ := List.mem_map.mp hx
  unfold PyData.strOk sN
  rw [← Array.all_toList, List.toList_toArray, List.all_eq_true]
  intro y hy
  rcases (D.cfact hc).2.2 y hy with rfl | rfl <;> decide
theorem Drawn.marks {ds ss : List Nat} (D : Drawn ds ss) : marksL (powS ss) 16 = (mN ss).map (fun (n : Nat) => (n : Int)) ∧ 2 ≤ (mN ss).length ∧ (mN ss).length ≤ 17 ∧ (mN ss).getD ((mN ss).length - 1) 0 = 16 ∧ (figsF ss).length = (codeF ss).length ∧ codeF ss = (List.range (codeF ss).length).map fun k => ((figsF ss).getD k []).take ((codeF ss).getD k []).length := by
  have := D.ok
  unfold okS at this
  rw [Bool.and_eq_true, Bool.and_eq_true] at this
  have h := this.1.2
  unfold okMarks at h
  simp only [Bool.and_eq_true, decide_eq_true_eq] at h
  exact ⟨beq_iff_eq.mp h.1.1.1.1.1, h.1.1.1.1.2, h.1.1.1.2, beq_iff_eq.mp h.1.1.2, beq_iff_eq.mp h.1.2, beq_iff_eq.mp h.2⟩
theorem powS_ok {ds ss : List Nat} (D : Drawn ds ss) : powS ss ≠ [] ∧ ∀ a ∈ powS ss, a ≠ 127 ∧ 0 < a := by
  have hl := D.l2
  have hs := D.sl
  refine ⟨fun e => ?_, fun a ha => ?_⟩
  · have := congrArg List.length e
    unfold powS at this
    rw [List.length_map] at this
    simp only [List.length_nil] at this; omega
  · obtain ⟨s, hs, rfl⟩ := List.mem_map.mp ha
    have := D.sr s hs
    have : s = 1 ∨ s = 2 ∨ s = 3 ∨ s = 4 := by omega
    rcases this with rfl | rfl | rfl | rfl <;> decide
theorem figs_len (ss : List Nat) : (figsF ss).length = (mN ss).length - 1 := by
  unfold figsF; rw [List.length_map, List.length_take]; omega
theorem wordN_succ (i m : Nat) : (wordN i m).map (fun c => Value.str ⟨#[c]⟩ 0) ++ [Value.str ⟨#[if m / 2 ^ (3 - i) % 2 = 0 then 102 else 105]⟩ 0] = (wordN (i + 1) m).map fun c => Value.str ⟨#[c]⟩ 0 := by
  unfold wordN
  rw [List.range_succ, List.map_append, List.map_append]; rfl
theorem ones_val (l : List Nat) : (l.map fun c => (⟨#[c]⟩ : Str)).map (fun i => Value.str i 0) = l.map fun c => Value.str ⟨#[c]⟩ 0 := by rw [List.map_map]; rfl
theorem law_h (g : G w C) (hgp : C.gp = AllBare) {A' : Around} {L tl ml cl ra fa : Addr} {ds ss ms : List Nat} {a : LA} {tx : Str} {p n : Int} {W : List (Str × List Nat)} {pv : Option Value} (hA' : A'.handled = none) (hd : A'.depth + 3 < recursionLimit) (D : Drawn ds ss) {Φ : Flow → St → Prop}
    (rest : ∀ ma fi, VF (model pw w) A' C (lexS a tx p n ([]) ((L, .ns [(Str.ofString "script", .ref C.arg.1), (Str.ofString "message", .ref ml), (Str.ofString "text", strV (textOf W)), (Str.ofString "lexer", .ref a.lx), (Str.ofString "marks", .ref ma)]) :: cells L (some (.ref tl)) (some (.ref cl)) (some (.ref ra)) pv (some (.ref fa)) (some (.ref fi)) none ((cl, .lst (List.map lV (codeF ss))) :: (ml, .lst (List.map natV ms)) :: (ra, .lst (List.map strV (ss.map wS))) :: (fa, .lst (List.map lV (codeF ss))) :: (ma, .lst (List.map natV (mN ss))) :: (fi, .lst (List.map lV (figsF ss))) :: S))) (execs ((dBody (st 18)).drop 24) (env175 L)) Φ) :
    VF (model pw w) A' C (lexS a tx p n ([]) ((L, .ns [(Str.ofString "script", .ref C.arg.1), (Str.ofString "message", .ref ml), (Str.ofString "text", strV (textOf W)), (Str.ofString "lexer", .ref a.lx)]) :: cells L (some (.ref tl)) (some (.ref cl)) (some (.ref ra)) pv (some (.ref fa)) none none ((cl, .lst (List.map lV (codeF ss))) :: (ml, .lst (List.map natV ms)) :: (ra, .lst (List.map strV (ss.map wS))) :: (fa, .lst (List.map lV (codeF ss))) :: S))) (execs ((dBody (st 18)).drop 22) (env175 L)) Φ := by
  have hdl := D.l6
  have hsl := D.sl
  have hrl : (List.map strV (ss.map wS)).length = ss.length := by rw [List.length_map, List.length_map]
  have hrz : (List.map strV (ss.map wS)).length ≤ sizeLine := by rw [hrl, sizeLine_eq]; omega
  obtain ⟨hp1, hp2⟩ := powS_ok D
  obtain ⟨hm1, hm2, hm3, hm4, hm5, hm6⟩ := D.marks
  have hpl : (powS ss).length = ss.length := List.length_map _
  change VG _ _ _ _ _ (execs (_ :: _) _) _
  repeat walk_at "V"
  with_reducible refine V.listcomp (cl := []) (by kernel_rfl) ?_
  repeat walk_at "V"
  intro x' hx'
  obtain rfl := nt_ref hx'
  with_reducible refine V.iter_list (.lst (by walk_at "mem")) fun it => ?_
  intro it' hit acc L'
  obtain rfl := nt_ref hit
  with_reducible refine V.compStart ?_ (V.iter_lit (by walk_at "mem") ⟨rfl, rfl⟩)
  with_reducible refine VK.to ((L', .ns []) :: (acc, .lst []) :: (it, .lit ra 0) :: lexS a tx p n ([]) ((L, .ns [(Str.ofString "script", .ref C.arg.1), (Str.ofString "message", .ref ml), (Str.ofString "text", strV (textOf W)), (Str.ofString "lexer", .ref a.lx)]) :: cells L (some (.ref tl)) (some (.ref cl)) (some (.ref ra)) pv (some (.ref fa)) none none ((cl, .lst (List.map lV (codeF ss))) :: (ml, .lst (List.map natV ms)) :: (ra, .lst (List.map strV (ss.map wS))) :: (fa, .lst (List.map lV (codeF ss))) :: S))) (by walk_at "pk") ?_
  with_reducible refine V.compI (c := fun j => .lit ra j) (item := fun j => (List.map strV (ss.map wS)).getD j .none) (n := (List.map strV (ss.map wS)).length) (fun j ys S' => ys = List.map intV (powS (ss.take j)) ∧ S' = lexS a tx p n ([]) ((L, .ns [(Str.ofString "script", .ref C.arg.1), (Str.ofString "message", .ref ml), (Str.ofString "text", strV (textOf W)), (Str.ofString "lexer", .ref a.lx)]) :: cells L (some (.ref tl)) (some (.ref cl)) (some (.ref ra)) pv (some (.ref fa)) none none ((cl, .lst (List.map lV (codeF ss))) :: (ml, .lst (List.map natV ms)) :: (ra, .lst (List.map strV (ss.map wS))) :: (fa, .lst (List.map lV (codeF ss))) :: S))) (fun j ys S' hS' => by obtain ⟨_, rfl⟩ := hS'; exact It.list hA' fun c => .lst (by walk_at "mem")) (by rw [List.length_nil, Nat.zero_add]; exact hrz) ⟨by with_unfolding_all rfl, by with_unfolding_all rfl⟩ ?_ ?_
  · rintro j ys S' hj ⟨rfl, rfl⟩ v hv
    rw [hrl] at hj
    obtain ⟨s, hs⟩ : ∃ c, ss[j]? = some c := ⟨_, List.getElem?_eq_getElem hj⟩
    rw [List.getD_eq_getElem?_getD, List.getElem?_map, List.getElem?_map, hs, Option.map_some, Option.map_some, Option.getD_some] at hv
    obtain ⟨hs1, hs4⟩ := D.sr s (List.mem_of_getElem? hs)
    have hwl : (wS s).length = s := by rw [show (wS s).length = (repF s).length from str_len _]; unfold repF; rw [List.length_replicate]
    with_reducible refine V.own_name ?_
    with_reducible refine V.assign_Name ?_
    revert v
    walk_at "store"
    with_reducible refine V.tests_nil ?_
    refine ⟨fun _ => ?_, fun hb => by cases hb⟩
    repeat walk_at "V"
    refine ⟨.builtin, fun v hv => V.len_str hv (by rw [hwl, sizeLine_eq]; omega) ?_⟩
    rw [hwl]
    repeat walk_at "V"
    with_reducible refine VO.pow_int ?_ (by omega) (by omega) (by decide)
    have ep : (2 : Int) ^ (4 - (s : Int)).toNat = ((2 ^ (4 - s) : Nat) : Int) := by
      rw [show (4 - (s : Int)).toNat = 4 - s by omega, Int.natCast_pow]; rfl
    rw [ep]
    refine ⟨lexS a tx p n ([]) ((L, .ns [(Str.ofString "script", .ref C.arg.1), (Str.ofString "message", .ref ml), (Str.ofString "text", strV (textOf W)), (Str.ofString "lexer", .ref a.lx)]) :: cells L (some (.ref tl)) (some (.ref cl)) (some (.ref ra)) pv (some (.ref fa)) none none ((cl, .lst (List.map lV (codeF ss))) :: (ml, .lst (List.map natV ms)) :: (ra, .lst (List.map strV (ss.map wS))) :: (fa, .lst (List.map lV (codeF ss))) :: S)), by walk_at "pk", ?_, rfl⟩
    rw [take_snoc hs]; unfold powS; rw [List.map_append, List.map_append]; rfl
  rintro ys S' ⟨rfl, rfl⟩
  rw [show ss.take (List.map strV (ss.map wS)).length = ss by rw [hrl, List.take_length]]
  refine ⟨_, _, .head, ?_⟩
  repeat walk_at "V"
  refine ⟨by walk_at "dec", fun za => ?_⟩
  with_reducible refine V.list_add (xs := List.map intV (powS ss)) (ys := [intV 0]) (.lst (by walk_at "mem")) (.lst (by walk_at "mem")) (by rw [List.length_map, hpl, sizeLine_eq]; simp only [List.length_cons, List.length_nil]; omega) fun rl => ?_
  rw [show List.map intV (powS ss) ++ [intV 0] = List.map intV (powS ss ++ [0]) by rw [List.map_append]; rfl]
  repeat walk_at "V"
  refine ⟨.fn (at_K g (lk170 _)) rfl, fun v u hv hu => V.call_of (VC.wkl (S' := (rl, .lst (List.map intV (powS ss ++ [0]))) :: lexS a tx p n ([]) ((L, .ns [(Str.ofString "script", .ref C.arg.1), (Str.ofString "message", .ref ml), (Str.ofString "text", strV (textOf W)), (Str.ofString "lexer", .ref a.lx)]) :: cells L (some (.ref tl)) (some (.ref cl)) (some (.ref ra)) pv (some (.ref fa)) none none ((cl, .lst (List.map lV (codeF ss))) :: (ml, .lst (List.map natV ms)) :: (ra, .lst (List.map strV (ss.map wS))) :: (fa, .lst (List.map lV (codeF ss))) :: S))) (by walk_at "pk") (marks g hgp hA' (by omega) (P := 16) hp1 hp2 (by omega) (by decide) (by decide) hv hu fun ma => ?_))⟩
  rw [hm1, ← natVs]
  walk_at "store"
  dsimp only
  with_reducible refine V.execs_cons ?_
  with_reducible refine V.assign_name ?_
  with_reducible refine V.listcomp1 (cl := []) (x0 := Str.ofString "mark") (by kernel_rfl) (fun _ => by with_unfolding_all rfl) (fun _ => by with_unfolding_all rfl) ?_
  repeat walk_at "V"
  with_reducible refine V.neg_const ?_
  refine ⟨none, some (-1), rfl, rfl, fun sl => ?_⟩
  have hmz : (List.map natV (mN ss)).length ≤ sizeLine := by rw [List.length_map, sizeLine_eq]; omega
  with_reducible refine V.tail_list_slice (.lst (by walk_at "mem")) (by walk_at "mem") hmz fun mb => ?_
  rw [slV_init]
  intro x' hx'
  obtain rfl := nt_ref hx'
  with_reducible refine V.iter_list (.lst (by walk_at "mem")) fun it => ?_
  intro it' hit fi L'
  obtain rfl := nt_ref hit
  have hik : ((mN ss).take ((mN ss).length - 1)).length = (mN ss).length - 1 := by rw [List.length_take]; omega
  with_reducible refine V.compStart ?_ (V.iter_lit (by walk_at "mem") ⟨rfl, rfl⟩)
  generalize hmk : (mN ss).take ((mN ss).length - 1) = mk at hik
  with_reducible refine VK.to ((L', .ns []) :: (fi, .lst []) :: (it, .lit mb 0) :: (L' + 1, .cell none) :: (mb, .lst (List.map natV mk)) :: lexS a tx p n ([]) ((L, .ns [(Str.ofString "script", .ref C.arg.1), (Str.ofString "message", .ref ml), (Str.ofString "text", strV (textOf W)), (Str.ofString "lexer", .ref a.lx), (Str.ofString "marks", .ref ma)]) :: cells L (some (.ref tl)) (some (.ref cl)) (some (.ref ra)) pv (some (.ref fa)) none none ((cl, .lst (List.map lV (codeF ss))) :: (ml, .lst (List.map natV ms)) :: (ra, .lst (List.map strV (ss.map wS))) :: (fa, .lst (List.map lV (codeF ss))) :: (ma, .lst (List.map natV (mN ss))) :: S))) (by walk_at "pk") ?_
  with_reducible refine V.compI (c := fun j => .lit mb j) (item := fun j => (List.map natV mk).getD j .none) (n := (List.map natV mk).length) (fun j ys S' => ∃ mv, ys = List.map lV ((mk.take j).map (wordN 4)) ∧ S' = (L' + 1, .cell mv) :: (mb, .lst (List.map natV mk)) :: lexS a tx p n ([]) ((L, .ns [(Str.ofString "script", .ref C.arg.1), (Str.ofString "message", .ref ml), (Str.ofString "text", strV (textOf W)), (Str.ofString "lexer", .ref a.lx), (Str.ofString "marks", .ref ma)]) :: cells L (some (.ref tl)) (some (.ref cl)) (some (.ref ra)) pv (some (.ref fa)) none none ((cl, .lst (List.map lV (codeF ss))) :: (ml, .lst (List.map natV ms)) :: (ra, .lst (List.map strV (ss.map wS))) :: (fa, .lst (List.map lV (codeF ss))) :: (ma, .lst (List.map natV (mN ss))) :: S))) (fun j ys S' hS' => by obtain ⟨_, _, rfl⟩ := hS'; exact It.list hA' fun c => .lst (by walk_at "mem")) (by rw [List.length_nil, Nat.zero_add, List.length_map, sizeLine_eq]; omega) ⟨none, by with_unfolding_all rfl, by with_unfolding_all rfl⟩ ?_ ?_
  · rintro j ys S' hj ⟨mv, rfl, rfl⟩ v hv
    rw [List.length_map] at hj
    obtain ⟨m, hm⟩ : ∃ c, mk[j]? = some c := ⟨_, List.getElem?_eq_getElem hj⟩
    rw [List.getD_eq_getElem?_getD, List.getElem?_map, hm, Option.map_some, Option.getD_some] at hv
    with_reducible refine V.own_name ?_
    with_reducible refine V.assign_Name ?_
    revert v
    walk_at "store"
    with_reducible refine V.tests_nil ?_
    refine ⟨fun _ => ?_, fun hb => by cases hb⟩
    with_reducible refine V.call_meth ?_
    repeat walk_at "V"
    intro ov hov
    with_reducible refine V.meth_str hov PySem.F.slot_str_join PySem.F.type_str_join ?_
    with_reducible refine V.cw1 ?_
    with_reducible refine V.listcomp (cl := [(Str.ofString "mark", L' + 1)]) (by kernel_rfl) ?_
    repeat walk_at "V"
    refine ⟨.type, fun u hu => V.range1 hu fun r => ?_⟩
    intro x' hx'
    obtain rfl := nt_ref hx'
    with_reducible refine V.iter_rng (n := 4) (by walk_at "mem") (by decide) (fun it2 => ?_) (by decide) (by decide)
    intro it2' hit2 acc2 L2
    obtain rfl := nt_ref hit2
    with_reducible refine V.compStart ?_ (V.iter_rit (by unfold rc; walk_at "mem") ⟨rfl, rfl⟩)
    with_reducible refine VK.to ((L2, .ns []) :: (acc2, .lst []) :: (it2, rc 0 4 0) :: (L', .ns []) :: (fi, .lst (List.map lV ((mk.take j).map (wordN 4)))) :: (it, .lit mb (j + 1)) :: (L' + 1, .cell (some (natV m))) :: (mb, .lst (List.map natV mk)) :: lexS a tx p n ([]) ((L, .ns [(Str.ofString "script", .ref C.arg.1), (Str.ofString "message", .ref ml), (Str.ofString "text", strV (textOf W)), (Str.ofString "lexer", .ref a.lx), (Str.ofString "marks", .ref ma)]) :: cells L (some (.ref tl)) (some (.ref cl)) (some (.ref ra)) pv (some (.ref fa)) none none ((cl, .lst (List.map lV (codeF ss))) :: (ml, .lst (List.map natV ms)) :: (ra, .lst (List.map strV (ss.map wS))) :: (fa, .lst (List.map lV (codeF ss))) :: (ma, .lst (List.map natV (mN ss))) :: S))) (by walk_at "pk") ?_
    with_reducible refine V.compI (c := rc 0 4) (item := fun i => .int (0 + (i : Nat)) 0) (n := 4) (fun i ys S' => ys = List.map (fun c => Value.str ⟨#[c]⟩ 0) (wordN i m) ∧ S' = (L', .ns []) :: (fi, .lst (List.map lV ((mk.take j).map (wordN 4)))) :: (it, .lit mb (j + 1)) :: (L' + 1, .cell (some (natV m))) :: (mb, .lst (List.map natV mk)) :: lexS a tx p n ([]) ((L, .ns [(Str.ofString "script", .ref C.arg.1), (Str.ofString "message", .ref ml), (Str.ofString "text", strV (textOf W)), (Str.ofString "lexer", .ref a.lx), (Str.ofString "marks", .ref ma)]) :: cells L (some (.ref tl)) (some (.ref cl)) (some (.ref ra)) pv (some (.ref fa)) none none ((cl, .lst (List.map lV (codeF ss))) :: (ml, .lst (List.map natV ms)) :: (ra, .lst (List.map strV (ss.map wS))) :: (fa, .lst (List.map lV (codeF ss))) :: (ma, .lst (List.map natV (mN ss))) :: S))) (fun _ _ _ _ => It.rng hA') (by decide) ⟨by with_unfolding_all rfl, by with_unfolding_all rfl⟩ ?_ ?_
    · rintro i ys S' hi ⟨rfl, rfl⟩ v hv
      have hi3 : i ≤ 3 := by omega
      have hv0 : nt v = natV i := by rw [hv]; exact congrArg (fun x => Value.int x 0) (Int.zero_add _)
      clear hv
      with_reducible refine V.own_name ?_
      with_reducible refine V.assign_Name ?_
      revert v
      walk_at "store"
      with_reducible refine V.tests_nil ?_
      refine ⟨fun _ => ?_, fun hb => by cases hb⟩
      repeat walk_at "V"
      with_reducible refine VO.pow_int ?_ (by omega) (by omega) (by decide)
      obtain ⟨hq1, hq2⟩ := pow2_facts hi3
      with_reducible refine VO.fdiv_int ?_ hq1 hq2
      repeat walk_at "V"
      with_reducible refine VO.mod_int ?_ (by decide)
      rw [fig_idx m i hi3]
      with_reducible refine V.tail_strN (fi_at (Nat.mod_lt _ (by decide))) (by decide) ?_
      exact ⟨(L', .ns []) :: (fi, .lst (List.map lV ((mk.take j).map (wordN 4)))) :: (it, .lit mb (j + 1)) :: (L' + 1, .cell (some (natV m))) :: (mb, .lst (List.map natV mk)) :: lexS a tx p n ([]) ((L, .ns [(Str.ofString "script", .ref C.arg.1), (Str.ofString "message", .ref ml), (Str.ofString "text", strV (textOf W)), (Str.ofString "lexer", .ref a.lx), (Str.ofString "marks", .ref ma)]) :: cells L (some (.ref tl)) (some (.ref cl)) (some (.ref ra)) pv (some (.ref fa)) none none ((cl, .lst (List.map lV (codeF ss))) :: (ml, .lst (List.map natV ms)) :: (ra, .lst (List.map strV (ss.map wS))) :: (fa, .lst (List.map lV (codeF ss))) :: (ma, .lst (List.map natV (mN ss))) :: S)), by walk_at "pk", wordN_succ i m, rfl⟩
    rintro ys S' ⟨rfl, rfl⟩
    refine ⟨_, _, .head, ?_⟩
    refine ⟨.builtin, fun v hv => ?_⟩
    obtain rfl := nt_ref hv
    have hwl : (wordN 4 m).length = 4 := by unfold wordN; rw [List.length_map, List.length_range]
    refine V.join (ys := (wordN 4 m).map fun c => (⟨#[c]⟩ : Str)) hov (by rw [ones_val]; exact .lst (by walk_at "mem")) (joinOk_emp (by rw [ones_sum, hwl]; decide)) ?_
    rw [join_ones]
    refine ⟨(L' + 1, .cell (some (natV m))) :: (mb, .lst (List.map natV mk)) :: lexS a tx p n ([]) ((L, .ns [(Str.ofString "script", .ref C.arg.1), (Str.ofString "message", .ref ml), (Str.ofString "text", strV (textOf W)), (Str.ofString "lexer", .ref a.lx), (Str.ofString "marks", .ref ma)]) :: cells L (some (.ref tl)) (some (.ref cl)) (some (.ref ra)) pv (some (.ref fa)) none none ((cl, .lst (List.map lV (codeF ss))) :: (ml, .lst (List.map natV ms)) :: (ra, .lst (List.map strV (ss.map wS))) :: (fa, .lst (List.map lV (codeF ss))) :: (ma, .lst (List.map natV (mN ss))) :: S)), by walk_at "pk", some (natV m), ?_, rfl⟩
    rw [take_snoc hm, List.map_append, List.map_append]; rfl
  rintro ys S' ⟨mv, rfl, rfl⟩
  rw [show (mk.take (List.map natV mk).length).map (wordN 4) = figsF ss by rw [List.length_map, List.take_length, ← hmk]; rfl]
  refine ⟨_, _, .head, ?_⟩
  walk_at "store"
  dsimp only
  refine VG.wk ?_ (rest ma fi)
  walk_at "pk"
end

section
open PySem PyProof.Rows PySem.Calls PySem.W PySem.Spec
variable {w : World} {A : Around} {C : Cx} {S S' : St} {env : Env}
theorem getD_some {α : Type} {l : List α} {k : Nat} {d : α} (h : k < l.length) : l[k]? = some (l.getD k d) := by
  rw [List.getD_eq_getElem?_getD, List.getElem?_eq_getElem h]; rfl
theorem Drawn.sc {ds ss : List Nat} (D : Drawn ds ss) : ((codeF ss).map fun c => scF c ((codeF ss).getD 0 [])) = 0 :: List.replicate ((codeF ss).length - 1) 1 ∧ scF ((codeF ss).getD 0 []) ((codeF ss).getD 1 []) = -1 := by
  have := D.code
  unfold okCode at this
  simp only [Bool.and_eq_true] at this
  exact ⟨beq_iff_eq.mp this.1.2, beq_iff_eq.mp this.2⟩
theorem law_i (g : G w C) {A' : Around} {L tl ml cl ra fa ma fi : Addr} {ds ss ms : List Nat} {a : LA} {tx : Str} {p n : Int} {W : List (Str × List Nat)} {pv : Option Value} (hA' : A'.handled = none) (hd : A'.depth + 3 < recursionLimit) (hU : A'.units + 64 < cLine) (D : Drawn ds ss) {Φ : Flow → St → Prop}
    (rest : VF (model pw w) A' C (lexS a tx p n ([]) ((L, .ns [(Str.ofString "script", .ref C.arg.1), (Str.ofString "message", .ref ml), (Str.ofString "text", strV (textOf W)), (Str.ofString "lexer", .ref a.lx)]) :: cells L (some (.ref tl)) (some (.ref cl)) (some (.ref ra)) pv (some (.ref fa)) (some (.ref fi)) none ((ml, .lst (List.map natV ms)) :: (fa, .lst (List.map lV (codeF ss))) :: S))) (execs ((dBody (st 18)).drop 27) (env175 L)) Φ) :
    VF (model pw w) A' C (lexS a tx p n ([]) ((L, .ns [(Str.ofString "script", .ref C.arg.1), (Str.ofString "message", .ref ml), (Str.ofString "text", strV (textOf W)), (Str.ofString "lexer", .ref a.lx), (Str.ofString "marks", .ref ma)]) :: cells L (some (.ref tl)) (some (.ref cl)) (some (.ref ra)) pv (some (.ref fa)) (some (.ref fi)) none ((cl, .lst (List.map lV (codeF ss))) :: (ml, .lst (List.map natV ms)) :: (ra, .lst (List.map strV (ss.map wS))) :: (fa, .lst (List.map lV (codeF ss))) :: (ma, .lst (List.map natV (mN ss))) :: (fi, .lst (List.map lV (figsF ss))) :: S))) (execs ((dBody (st 18)).drop 24) (env175 L)) Φ := by
  have hdl := D.l6
  obtain ⟨hm1, hm2, hm3, hm4, hm5, hm6⟩ := D.marks
  obtain ⟨hc2, hc16⟩ := D.clen
  obtain ⟨hs1, hs2⟩ := D.sc
  have hok := D.okc
  have hcl : (List.map lV (codeF ss)).length = (codeF ss).length := List.length_map _
  have hfl : (List.map lV (figsF ss)).length = (codeF ss).length := by rw [List.length_map, hm5]
  have hcz : (List.map lV (codeF ss)).length ≤ sizeLine := by rw [hcl, sizeLine_eq]; omega
  have hfz : (List.map lV (figsF ss)).length ≤ sizeLine := by rw [hfl, sizeLine_eq]; omega
  have hmz : (List.map natV (mN ss)).length ≤ sizeLine := by rw [List.length_map, sizeLine_eq]; omega
  have hmn : mN ss ≠ [] := by intro e; rw [e] at hm2; simp at hm2
  change VG _ _ _ _ _ (execs (_ :: _) _) _
  with_reducible refine V.execs_cons ?_
  with_reducible refine V.if_ ?_
  with_reducible refine V.t_or ?_
  repeat walk_at "V"
  with_reducible refine V.neg_const ?_
  with_reducible refine V.tail_list (.lst (by walk_at "mem")) (by rw [List.length_map]; omega) (by rw [List.length_map]; omega) hmz (last_at' hmn) ?_
  rw [hm4]
  repeat walk_at "V"
  refine ⟨_, rfl, fun _ => ?_, fun hb => absurd hb (by decide)⟩
  with_reducible refine V.t_or ?_
  repeat walk_at "V"
  refine ⟨.builtin, fun v hv => V.len_list hv (.lst (by walk_at "mem")) hfz ?_⟩
  repeat walk_at "V"
  refine ⟨.builtin, fun v hv => V.len_list hv (.lst (by walk_at "mem")) hcz ?_⟩
  rw [hfl, hcl]
  repeat walk_at "V"
  refine ⟨_, rfl, fun _ => ?_, fun hb => absurd hb (by simp)⟩
  with_reducible refine V.t_or ?_
  repeat walk_at "V"
  with_reducible refine VO.ne_strs (ns := (codeF ss).map sN) (ms := (codeF ss).map sN) hU hok hok (by rw [← lVs]; exact .lst (by walk_at "mem")) (by rw [← lVs]; exact .lst (by walk_at "mem")) ?_
  refine ⟨_, rfl, fun _ => ?_, fun hb => absurd hb (by simp)⟩
  with_reducible refine V.t_or_nil ?_
  refine ⟨fun hb => (by cases hb), fun _ => ?_⟩
  walk_at "V"
  dsimp only
  with_reducible refine V.execs_cons ?_
  with_reducible refine V.if_ ?_
  with_reducible refine V.t_cmp ?_
  repeat walk_at "V"
  with_reducible refine V.listcomp (cl := [(Str.ofString "figures", L + 6), (Str.ofString "code", L + 2)]) (by kernel_rfl) ?_
  repeat walk_at "V"
  refine ⟨.builtin, fun v hv => V.len_list hv (.lst (by walk_at "mem")) hcz ?_⟩
  rw [hcl]
  refine ⟨.type, fun u hu => V.range1 hu fun r => ?_⟩
  intro x' hx'
  obtain rfl := nt_ref hx'
  with_reducible refine V.iter_rng (n := (codeF ss).length) (by walk_at "mem") (by omega) (fun it => ?_) (by omega) (by omega)
  intro it' hit acc L'
  obtain rfl := nt_ref hit
  with_reducible refine V.compStart ?_ (V.iter_rit (by unfold rc; walk_at "mem") ⟨rfl, rfl⟩)
  with_reducible refine VK.to ((L', .ns []) :: (acc, .lst []) :: (it, rc 0 (codeF ss).length 0) :: lexS a tx p n ([]) ((L, .ns [(Str.ofString "script", .ref C.arg.1), (Str.ofString "message", .ref ml), (Str.ofString "text", strV (textOf W)), (Str.ofString "lexer", .ref a.lx), (Str.ofString "marks", .ref ma)]) :: cells L (some (.ref tl)) (some (.ref cl)) (some (.ref ra)) pv (some (.ref fa)) (some (.ref fi)) none ((cl, .lst (List.map lV (codeF ss))) :: (ml, .lst (List.map natV ms)) :: (ra, .lst (List.map strV (ss.map wS))) :: (fa, .lst (List.map lV (codeF ss))) :: (ma, .lst (List.map natV (mN ss))) :: (fi, .lst (List.map lV (figsF ss))) :: S))) (by walk_at "pk") ?_
  with_reducible refine V.compI (c := rc 0 (codeF ss).length) (item := fun i => .int (0 + (i : Nat)) 0) (n := (codeF ss).length) (fun j ys S' => ys = List.map lV ((List.range j).map fun k => ((figsF ss).getD k []).take ((codeF ss).getD k []).length) ∧ S' = lexS a tx p n ([]) ((L, .ns [(Str.ofString "script", .ref C.arg.1), (Str.ofString "message", .ref ml), (Str.ofString "text", strV (textOf W)), (Str.ofString "lexer", .ref a.lx), (Str.ofString "marks", .ref ma)]) :: cells L (some (.ref tl)) (some (.ref cl)) (some (.ref ra)) pv (some (.ref fa)) (some (.ref fi)) none ((cl, .lst (List.map lV (codeF ss))) :: (ml, .lst (List.map natV ms)) :: (ra, .lst (List.map strV (ss.map wS))) :: (fa, .lst (List.map lV (codeF ss))) :: (ma, .lst (List.map natV (mN ss))) :: (fi, .lst (List.map lV (figsF ss))) :: S))) (fun _ _ _ _ => It.rng hA') (by rw [sizeLine_eq]; simp only [List.length_nil]; omega) ⟨by with_unfolding_all rfl, by with_unfolding_all rfl⟩ ?_ ?_
  · rintro j ys S' hj ⟨rfl, rfl⟩ v hv
    have hv0 : nt v = natV j := by rw [hv]; exact congrArg (fun x => Value.int x 0) (Int.zero_add _)
    clear hv
    have gf := getD_some (l := figsF ss) (d := []) (k := j) (by omega)
    have gc := getD_some (l := codeF ss) (d := []) (k := j) hj
    have hc4 := (D.cfact (getD_mem hj)).2.1
    have hf4 : ((figsF ss).getD j []).length ≤ 4 := by
      have : (figsF ss).getD j [] ∈ figsF ss := getD_mem (by omega)
      unfold figsF at this
      obtain ⟨m, _, e⟩ := List.mem_map.mp this
      rw [show (List.map (wordN 4) ((mN ss).take ((mN ss).length - 1))) = figsF ss from rfl] at e
      rw [← e]; unfold wordN; rw [List.length_map, List.length_range]; exact Nat.le_refl _
    with_reducible refine V.own_name ?_
    with_reducible refine V.assign_Name ?_
    revert v
    walk_at "store"
    with_reducible refine V.tests_nil ?_
    refine ⟨fun _ => ?_, fun hb => by cases hb⟩
    repeat walk_at "V"
    with_reducible refine V.tail_nat (k := j) (.lst (by walk_at "mem")) (by rw [List.getElem?_map, gf, Option.map_some]) hfz ?_
    repeat walk_at "V"
    with_reducible refine V.tail_nat (k := j) (.lst (by walk_at "mem")) (by rw [List.getElem?_map, gc, Option.map_some]) hcz ?_
    refine ⟨.builtin, fun v hv => V.len_str hv (by show ((codeF ss).getD j []).toArray.size ≤ _; rw [List.size_toArray, sizeLine_eq]; omega) ?_⟩
    rw [str_len]
    refine ⟨none, some (((codeF ss).getD j []).length : Nat), rfl, rfl, fun sl => ?_⟩
    refine V.tail_str_slice (by walk_at "mem") (by show ((figsF ss).getD j []).toArray.size ≤ _; rw [List.size_toArray, sizeLine_eq]; omega) ?_
    rw [slice_to]
    refine ⟨lexS a tx p n ([]) ((L, .ns [(Str.ofString "script", .ref C.arg.1), (Str.ofString "message", .ref ml), (Str.ofString "text", strV (textOf W)), (Str.ofString "lexer", .ref a.lx), (Str.ofString "marks", .ref ma)]) :: cells L (some (.ref tl)) (some (.ref cl)) (some (.ref ra)) pv (some (.ref fa)) (some (.ref fi)) none ((cl, .lst (List.map lV (codeF ss))) :: (ml, .lst (List.map natV ms)) :: (ra, .lst (List.map strV (ss.map wS))) :: (fa, .lst (List.map lV (codeF ss))) :: (ma, .lst (List.map natV (mN ss))) :: (fi, .lst (List.map lV (figsF ss))) :: S)), by walk_at "pk", ?_, rfl⟩
    rw [List.range_succ, List.map_append, List.map_append]; rfl
  rintro ys S' ⟨rfl, rfl⟩
  rw [← hm6]
  refine ⟨_, _, .head, ?_⟩
  with_reducible refine VO.ne_strs (ns := (codeF ss).map sN) (ms := (codeF ss).map sN) hU hok hok (by rw [← lVs]; exact .lst (by walk_at "mem")) (by rw [← lVs]; exact .lst (by walk_at "mem")) ?_
  refine ⟨_, rfl, fun hb => absurd hb (by simp), fun _ => ?_⟩
  walk_at "V"
  dsimp only
  with_reducible refine VG.to (lexS a tx p n ([]) ((L, .ns [(Str.ofString "script", .ref C.arg.1), (Str.ofString "message", .ref ml), (Str.ofString "text", strV (textOf W)), (Str.ofString "lexer", .ref a.lx), (Str.ofString "marks", .ref ma)]) :: cells L (some (.ref tl)) (some (.ref cl)) (some (.ref ra)) pv (some (.ref fa)) (some (.ref fi)) none ((cl, .lst (List.map lV (codeF ss))) :: (ml, .lst (List.map natV ms)) :: (ra, .lst (List.map strV (ss.map wS))) :: (fa, .lst (List.map lV (codeF ss))) :: (ma, .lst (List.map natV (mN ss))) :: (fi, .lst (List.map lV (figsF ss))) :: S))) (by walk_at "pk") ?_
  have g0 := getD_some (l := codeF ss) (d := []) (k := 0) (by omega)
  have g1 := getD_some (l := codeF ss) (d := []) (k := 1) (by omega)
  with_reducible refine V.execs_cons ?_
  with_reducible refine V.if_ ?_
  with_reducible refine V.t_or ?_
  with_reducible refine V.t_cmp ?_
  with_reducible refine V.listcomp (cl := [(Str.ofString "found", L + 5)]) (by kernel_rfl) ?_
  repeat walk_at "V"
  intro x' hx'
  obtain rfl := nt_ref hx'
  with_reducible refine V.iter_list (.lst (by walk_at "mem")) fun it => ?_
  intro it' hit acc L'
  obtain rfl := nt_ref hit
  with_reducible refine V.compStart ?_ (V.iter_lit (by walk_at "mem") ⟨rfl, rfl⟩)
  with_reducible refine VK.to ((L', .ns []) :: (acc, .lst []) :: (it, .lit fa 0) :: lexS a tx p n ([]) ((L, .ns [(Str.ofString "script", .ref C.arg.1), (Str.ofString "message", .ref ml), (Str.ofString "text", strV (textOf W)), (Str.ofString "lexer", .ref a.lx), (Str.ofString "marks", .ref ma)]) :: cells L (some (.ref tl)) (some (.ref cl)) (some (.ref ra)) pv (some (.ref fa)) (some (.ref fi)) none ((cl, .lst (List.map lV (codeF ss))) :: (ml, .lst (List.map natV ms)) :: (ra, .lst (List.map strV (ss.map wS))) :: (fa, .lst (List.map lV (codeF ss))) :: (ma, .lst (List.map natV (mN ss))) :: (fi, .lst (List.map lV (figsF ss))) :: S))) (by walk_at "pk") ?_
  with_reducible refine V.compI (c := fun j => .lit fa j) (item := fun j => (List.map lV (codeF ss)).getD j .none) (n := (List.map lV (codeF ss)).length) (fun j ys S' => ys = List.map intV (((codeF ss).take j).map fun c => scF c ((codeF ss).getD 0 [])) ∧ S' = lexS a tx p n ([]) ((L, .ns [(Str.ofString "script", .ref C.arg.1), (Str.ofString "message", .ref ml), (Str.ofString "text", strV (textOf W)), (Str.ofString "lexer", .ref a.lx), (Str.ofString "marks", .ref ma)]) :: cells L (some (.ref tl)) (some (.ref cl)) (some (.ref ra)) pv (some (.ref fa)) (some (.ref fi)) none ((cl, .lst (List.map lV (codeF ss))) :: (ml, .lst (List.map natV ms)) :: (ra, .lst (List.map strV (ss.map wS))) :: (fa, .lst (List.map lV (codeF ss))) :: (ma, .lst (List.map natV (mN ss))) :: (fi, .lst (List.map lV (figsF ss))) :: S))) (fun j ys S' hS' => by obtain ⟨_, rfl⟩ := hS'; exact It.list hA' fun c => .lst (by walk_at "mem")) (by rw [List.length_nil, Nat.zero_add]; exact hcz) ⟨by with_unfolding_all rfl, by with_unfolding_all rfl⟩ ?_ ?_
  · rintro j ys S' hj ⟨rfl, rfl⟩ v hv
    rw [hcl] at hj
    have gc := getD_some (l := codeF ss) (d := []) (k := j) hj
    rw [List.getD_eq_getElem?_getD, List.getElem?_map, gc, Option.map_some, Option.getD_some] at hv
    with_reducible refine V.own_name ?_
    with_reducible refine V.assign_Name ?_
    revert v
    walk_at "store"
    with_reducible refine V.tests_nil ?_
    refine ⟨fun _ => ?_, fun hb => by cases hb⟩
    repeat walk_at "V"
    refine V.tail_nat (k := 0) (.lst (by walk_at "mem")) (by rw [List.getElem?_map, g0, Option.map_some]) hcz ?_
    refine ⟨.fn (at_K g (lk63 _)) rfl, fun v u hv hu => V.call_of (strcoll g (by omega) hv hu ?_)⟩
    refine ⟨lexS a tx p n ([]) ((L, .ns [(Str.ofString "script", .ref C.arg.1), (Str.ofString "message", .ref ml), (Str.ofString "text", strV (textOf W)), (Str.ofString "lexer", .ref a.lx), (Str.ofString "marks", .ref ma)]) :: cells L (some (.ref tl)) (some (.ref cl)) (some (.ref ra)) pv (some (.ref fa)) (some (.ref fi)) none ((cl, .lst (List.map lV (codeF ss))) :: (ml, .lst (List.map natV ms)) :: (ra, .lst (List.map strV (ss.map wS))) :: (fa, .lst (List.map lV (codeF ss))) :: (ma, .lst (List.map natV (mN ss))) :: (fi, .lst (List.map lV (figsF ss))) :: S)), by walk_at "pk", ?_, rfl⟩
    rw [take_snoc gc, List.map_append, List.map_append]; rfl
  rintro ys S' ⟨rfl, rfl⟩
  rw [show (codeF ss).take (List.map lV (codeF ss)).length = codeF ss by rw [hcl, List.take_length], hs1]
  refine ⟨_, _, .head, ?_⟩
  repeat walk_at "V"
  refine ⟨by walk_at "dec", fun za => ?_⟩
  repeat walk_at "V"
  refine ⟨by walk_at "dec", fun zb => ?_⟩
  repeat walk_at "V"
  refine ⟨.builtin, fun v hv => V.len_list hv (.lst (by walk_at "mem")) hcz ?_⟩
  rw [hcl]
  repeat walk_at "V"
  rw [show (((codeF ss).length : Nat) : Int) - 1 = (((codeF ss).length - 1 : Nat) : Int) by omega]
  with_reducible refine VO.mul_list (x := intV 1) (.lst (by walk_at "mem")) (by omega) fun zc => ?_
  with_reducible refine V.list_add (xs := [intV 0]) (ys := List.replicate ((codeF ss).length - 1) (intV 1)) (.lst (by walk_at "mem")) (.lst (by walk_at "mem")) (by rw [List.length_replicate, sizeLine_eq]; simp only [List.length_cons, List.length_nil]; omega) fun zd => ?_
  rw [show [intV 0] ++ List.replicate ((codeF ss).length - 1) (intV 1) = List.map intV (0 :: List.replicate ((codeF ss).length - 1) 1) by rw [List.map_cons, List.map_replicate]; rfl]
  with_reducible refine VO.ne_ints (ns := 0 :: List.replicate ((codeF ss).length - 1) 1) (ms := 0 :: List.replicate ((codeF ss).length - 1) 1) hU (.lst (by walk_at "mem")) (.lst (by walk_at "mem")) ?_
  refine ⟨_, rfl, fun _ => ?_, fun hb => absurd hb (by simp)⟩
  with_reducible refine VG.to (lexS a tx p n ([]) ((L, .ns [(Str.ofString "script", .ref C.arg.1), (Str.ofString "message", .ref ml), (Str.ofString "text", strV (textOf W)), (Str.ofString "lexer", .ref a.lx), (Str.ofString "marks", .ref ma)]) :: cells L (some (.ref tl)) (some (.ref cl)) (some (.ref ra)) pv (some (.ref fa)) (some (.ref fi)) none ((cl, .lst (List.map lV (codeF ss))) :: (ml, .lst (List.map natV ms)) :: (ra, .lst (List.map strV (ss.map wS))) :: (fa, .lst (List.map lV (codeF ss))) :: (ma, .lst (List.map natV (mN ss))) :: (fi, .lst (List.map lV (figsF ss))) :: S))) (by walk_at "pk") ?_
  with_reducible refine V.t_or ?_
  repeat walk_at "V"
  refine V.tail_nat (k := 0) (.lst (by walk_at "mem")) (by rw [List.getElem?_map, g0, Option.map_some]) hcz ?_
  repeat walk_at "V"
  refine V.tail_nat (k := 1) (.lst (by walk_at "mem")) (by rw [List.getElem?_map, g1, Option.map_some]) hcz ?_
  refine ⟨.fn (at_K g (lk63 _)) rfl, fun v u hv hu => V.call_of (strcoll g (by omega) hv hu ?_)⟩
  rw [show (b2i (decide (((⟨((codeF ss).getD 1 []).toArray⟩ : Str)).cps.toList < (⟨((codeF ss).getD 0 []).toArray⟩ : Str).cps.toList)) - b2i (decide ((⟨((codeF ss).getD 0 []).toArray⟩ : Str).cps.toList < (⟨((codeF ss).getD 1 []).toArray⟩ : Str).cps.toList))) = -1 from hs2]
  with_reducible refine V.neg_const ?_
  repeat walk_at "V"
  refine ⟨_, rfl, fun _ => ?_, fun hb => absurd hb (by decide)⟩
  with_reducible refine V.t_or_nil ?_
  refine ⟨fun hb => (by cases hb), fun _ => ?_⟩
  walk_at "V"
  with_reducible refine VG.to (lexS a tx p n ([]) ((L, .ns [(Str.ofString "script", .ref C.arg.1), (Str.ofString "message", .ref ml), (Str.ofString "text", strV (textOf W)), (Str.ofString "lexer", .ref a.lx)]) :: cells L (some (.ref tl)) (some (.ref cl)) (some (.ref ra)) pv (some (.ref fa)) (some (.ref fi)) none ((ml, .lst (List.map natV ms)) :: (fa, .lst (List.map lV (codeF ss))) :: S))) (by walk_at "pk") ?_
  exact rest
end

section
open PySem PyProof.Rows PySem.Calls PySem.W PySem.Spec
variable {w : World} {A : Around} {C : Cx} {S S' : St} {env : Env}
theorem cnt_count (c : Nat) : ∀ l : List Nat, cnt c l = ((l.count c : Nat) : Int)
  | [] => rfl
  | n :: r => by
    rw [cnt_cons, cnt_count c r, List.count_cons]
    by_cases e : n = c
    · subst e; simp; omega
    · simp [e]
theorem V.m_lineno (g : G w C) {a : LA} {text : Str} {p n : Int} {ps : List Str} {expr : Bool} {Φ : Value → St → Prop} (R : St) (hS : Wk C (lexS a text p n ps R) S) (h : Φ (.int n 0) (lexS a text p n ps R)) :
    ∀ ov, nt ov = .ref a.lx → VP (model pw w) A C S (getAttr ov (Str.ofString "lineno") expr) Φ := by
  intro ov ho
  obtain rfl := nt_ref ho
  exact VG.wk hS (V.attr (cls52 g) (by walk_at "mem") (by walk_at "mem") (by rfl) (by kernel_rfl) on_lineno rfl h)
theorem slice_from (l : List Nat) {k : Nat} (hk : k ≤ l.length) : Txt.slice ⟨l.toArray⟩ (some (k : Int)) none = ⟨(l.drop k).toArray⟩ := by
  have hl : (⟨l.toArray⟩ : Str).length = l.length := str_len l
  have h := slice_nat ⟨l.toArray⟩ (a := k) (b := l.length) hk
  unfold Txt.slice at h ⊢
  rw [StrLaws.sliceIdx_none_hi, hl]
  rw [hl] at h
  rw [h]
  congr 1
  rw [List.toList_toArray, List.take_of_length_le (by rw [List.length_drop]; exact Nat.le_refl _)]
theorem ltAt_lt : ∀ (a b r : List Nat), ltAt a b = true → a ++ r < b
  | x :: a, y :: b, r, h => by
    rw [ltAt, Bool.or_eq_true, Bool.and_eq_true, decide_eq_true_eq, beq_iff_eq] at h
    show x :: (a ++ r) < y :: b
    rw [List.cons_lt_cons_iff]
    rcases h with h | ⟨h1, h2⟩
    · exact .inl h
    · exact .inr ⟨h1, ltAt_lt a b r h2⟩
theorem ltAt_ge : ∀ (a b r : List Nat), ltAt a b = true → ¬ b ++ r < a
  | x :: a, y :: b, r, h => by
    rw [ltAt, Bool.or_eq_true, Bool.and_eq_true, decide_eq_true_eq, beq_iff_eq] at h
    show ¬ y :: (b ++ r) < x :: a
    rw [List.cons_lt_cons_iff]
    rintro (e | ⟨e1, e2⟩)
    · rcases h with h | ⟨h1, _⟩ <;> omega
    · rcases h with h | ⟨_, h2⟩
      · omega
      · exact ltAt_ge a b r h2 e2
theorem pre_ge : ∀ (a r : List Nat), ¬ a ++ r < a
  | [], r => List.not_lt_nil _
  | x :: a, r => by
    show ¬ x :: (a ++ r) < x :: a
    rw [List.cons_lt_cons_iff]
    rintro (e | ⟨_, e⟩)
    · exact Nat.lt_irrefl _ e
    · exact pre_ge a r e
theorem pairB_get : ∀ {cs : List (List Nat)}, pairB cs = true → ∀ i k, i < k → k < cs.length → ltAt (cs.getD i []) (cs.getD k []) = true
  | c :: r, h, i, k, hik, hk => by
    rw [pairB, Bool.and_eq_true] at h
    obtain ⟨k, rfl⟩ : ∃ k', k = k' + 1 := ⟨k - 1, by omega⟩
    cases i with
    | zero =>
      have : r.getD k [] ∈ r := getD_mem (by simp only [List.length_cons] at hk; omega)
      exact List.all_eq_true.mp h.1 _ this
    | succ i => exact pairB_get h.2 i k (by omega) (by simp only [List.length_cons] at hk; omega)
theorem Drawn.pair {ds ss : List Nat} (D : Drawn ds ss) : pairB (codeF ss) = true := by
  have := D.code
  unfold okCode at this
  simp only [Bool.and_eq_true] at this
  exact this.1.1.2
theorem sc_in {cs : List (List Nat)} (hp : pairB cs = true) {m k : Nat} (hm : m < cs.length) (hk : k < cs.length) (r : List Nat) : (([-1, 0] : List Int).any (· == scF (cs.getD k []) (cs.getD m [] ++ r))) = decide (k ≤ m) := by
  have key : scF (cs.getD k []) (cs.getD m [] ++ r) = if k ≤ m then 0 - b2i (decide (cs.getD k [] < cs.getD m [] ++ r)) else 1 := by
    unfold scF
    split
    · rename_i h
      rw [decide_eq_false]
      · rfl
      · rcases Nat.lt_or_eq_of_le h with h | rfl
        · exact ltAt_ge _ _ r (pairB_get hp k m h hm)
        · exact pre_ge _ r
    · rename_i h
      have h1 := ltAt_lt _ _ r (pairB_get hp m k (by omega) hk)
      have h2 : ¬ cs.getD k [] < cs.getD m [] ++ r := fun h => absurd (List.lt_asymm h1 h) (fun x => x)
      rw [decide_eq_true h1, decide_eq_false h2]; rfl
  rw [key]
  by_cases h : k ≤ m
  · rw [if_pos h, decide_eq_true h]
    cases decide (cs.getD k [] < cs.getD m [] ++ r) <;> decide
  · rw [if_neg h, decide_eq_false h]; decide
theorem range_filter (m : Nat) : ∀ n, m < n → (List.range n).filter (fun k => decide (k ≤ m)) = List.range (m + 1)
  | 0, h => absurd h (Nat.not_lt_zero _)
  | n + 1, h => by
    rw [List.range_succ, List.filter_append]
    rcases Nat.lt_or_ge m n with h1 | h1
    · rw [range_filter m n h1, List.filter_cons_of_neg (by simp; omega), List.filter_nil, List.append_nil]
    · obtain rfl : m = n := by omega
      rw [List.filter_eq_self.mpr (fun k hk => by have := List.mem_range.mp hk; simp; omega), List.filter_cons_of_pos (by simp), List.filter_nil, List.range_succ]
theorem range_last (m : Nat) : (List.range (m + 1)).getD ((List.range (m + 1)).length - 1) 0 = m := by
  rw [List.length_range, Nat.add_sub_cancel, List.getD_eq_getElem?_getD, List.getElem?_range (Nat.lt_succ_self _)]; rfl
theorem law_j (g : G w C) {A' : Around} {L tl ml cl ra fa fi : Addr} {ds ss ms : List Nat} {a : LA} {W : List (Str × List Nat)} {pv : Option Value} (hA' : A'.handled = none) (hd : A'.depth + 3 < recursionLimit) (hU : A'.units + 64 < cLine) (D : Drawn ds ss) (hT : TX ds ms (codeF ss) W) (hm4 : ms.length = 4) (hms : ∀ m ∈ ms, m < (codeF ss).length) {Φ : Flow → St → Prop}
    (rest : ∀ to rv, VF (model pw w) A' C (lexS a (textOf W) (posW W (ds.length + 3) : Nat) (nlW W (ds.length + 3)) [] ((L, .ns [(Str.ofString "script", .ref C.arg.1), (Str.ofString "message", .ref ml), (Str.ofString "text", strV (textOf W)), (Str.ofString "lexer", .ref a.lx), (Str.ofString "told", .ref to)]) :: cells L (some (.ref tl)) (some (.ref cl)) (some (.ref ra)) pv (some (.ref fa)) (some (.ref fi)) rv ((ml, .lst (List.map natV ms)) :: (fa, .lst (List.map lV (codeF ss))) :: (to, .lst (List.map natV ms)) :: S))) (execs ((dBody (st 18)).drop 30) (env175 L)) Φ) :
    VF (model pw w) A' C (lexS a (textOf W) (posW W (ds.length + 2) : Nat) (nlW W (ds.length + 2)) ([]) ((L, .ns [(Str.ofString "script", .ref C.arg.1), (Str.ofString "message", .ref ml), (Str.ofString "text", strV (textOf W)), (Str.ofString "lexer", .ref a.lx)]) :: cells L (some (.ref tl)) (some (.ref cl)) (some (.ref ra)) pv (some (.ref fa)) (some (.ref fi)) none ((ml, .lst (List.map natV ms)) :: (fa, .lst (List.map lV (codeF ss))) :: S))) (execs ((dBody (st 18)).drop 27) (env175 L)) Φ := by
  have hdl := D.l6
  obtain ⟨hc2, hc16⟩ := D.clen
  have hpB := D.pair
  have htx := hT.size hdl
  obtain ⟨_, _, tm, hWm, hwm⟩ := hT.rest
  obtain ⟨e1, e2, e3⟩ := W_step hWm
  have hcl : (List.map lV (codeF ss)).length = (codeF ss).length := List.length_map _
  have hcz : (List.map lV (codeF ss)).length ≤ sizeLine := by rw [hcl, sizeLine_eq]; omega
  have hml : ∀ j, (msgN (codeF ss) (ms.drop j)).length ≤ 16 := fun j => by
    have := (D.msg (ms := ms.drop j) fun m hm => hms m (List.mem_of_mem_drop hm)).2.2
    rw [List.length_drop] at this; omega
  change VG _ _ _ _ _ (execs (_ :: _) _) _
  repeat walk_at "V"
  with_reducible refine V.call_meth ?_
  repeat walk_at "V"
  with_reducible refine V.tokW g hA' (by omega) ((L, .ns [(Str.ofString "script", .ref C.arg.1), (Str.ofString "message", .ref ml), (Str.ofString "text", strV (textOf W)), (Str.ofString "lexer", .ref a.lx)]) :: cells L (some (.ref tl)) (some (.ref cl)) (some (.ref ra)) pv (some (.ref fa)) (some (.ref fi)) none ((ml, .lst (List.map natV ms)) :: (fa, .lst (List.map lV (codeF ss))) :: S)) (by walk_at "pk") htx hwm e1 fun tok htok => ?_
  rw [e2, e3]
  refine ⟨.fn (at_K g (lk163 _)) rfl, fun v hv => V.call_of (prep_tok g hA' (by omega) htok (by have := (D.msgFI hm4 hms).2.2; omega) hv ?_)⟩
  walk_at "store"
  dsimp only
  repeat walk_at "V"
  refine ⟨by walk_at "dec", fun to => ?_⟩
  walk_at "store"
  dsimp only
  with_reducible refine VG.to (lexS a (textOf W) (posW W (ds.length + 3) : Nat) (nlW W (ds.length + 3)) [] ((L, .ns [(Str.ofString "script", .ref C.arg.1), (Str.ofString "message", .ref ml), (Str.ofString "text", strV (textOf W)), (Str.ofString "lexer", .ref a.lx), (Str.ofString "told", .ref to)]) :: cells L (some (.ref tl)) (some (.ref cl)) (some (.ref ra)) pv (some (.ref fa)) (some (.ref fi)) (some (lV (msgN (codeF ss) ms))) ((ml, .lst (List.map natV ms)) :: (fa, .lst (List.map lV (codeF ss))) :: (to, .lst []) :: S))) (by walk_at "pk") ?_
  walk_at "V"
  with_reducible refine V.whileI (fun n S' => ∃ j, n = ms.length - j ∧ j ≤ ms.length ∧ S' = lexS a (textOf W) (posW W (ds.length + 3) : Nat) (nlW W (ds.length + 3)) [] ((L, .ns [(Str.ofString "script", .ref C.arg.1), (Str.ofString "message", .ref ml), (Str.ofString "text", strV (textOf W)), (Str.ofString "lexer", .ref a.lx), (Str.ofString "told", .ref to)]) :: cells L (some (.ref tl)) (some (.ref cl)) (some (.ref ra)) pv (some (.ref fa)) (some (.ref fi)) (some (lV (msgN (codeF ss) (ms.drop (j))))) ((ml, .lst (List.map natV ms)) :: (fa, .lst (List.map lV (codeF ss))) :: (to, .lst (List.map natV (ms.take (j)))) :: S))) ms.length ⟨0, rfl, Nat.zero_le _, by with_unfolding_all rfl⟩ ?_
  rintro n S' ⟨j, rfl, hj, rfl⟩
  rcases Nat.lt_or_ge j ms.length with hlt | hge
  · have gm := getD_some (l := ms) (d := 0) hlt
    generalize ms.getD j 0 = m at gm
    have hmc := hms m (List.mem_of_getElem? gm)
    have gc := getD_some (l := codeF ss) (d := []) hmc
    obtain ⟨hcc1, hcc4, _⟩ := D.cfact (getD_mem hmc)
    have hsp : msgN (codeF ss) (ms.drop j) = (codeF ss).getD m [] ++ msgN (codeF ss) (ms.drop (j + 1)) := by
      obtain ⟨h1, h2⟩ := List.getElem?_eq_some_iff.mp gm
      rw [List.drop_eq_getElem_cons h1, h2]; rfl
    have hl16 := hml j
    generalize hr : msgN (codeF ss) (ms.drop (j + 1)) = r at hsp
    generalize hR : msgN (codeF ss) (ms.drop j) = RR at hsp hl16
    have hRl : RR.length = ((codeF ss).getD m []).length + r.length := by rw [hsp, List.length_append]
    have hRz : (sN RR).length ≤ sizeLine := by rw [show (sN RR).length = RR.length from str_len _, sizeLine_eq]; omega
    have hne : (sN RR != Str.ofString "") = true := by
      rw [bne_iff_ne]
      intro e
      have := congrArg Str.length e
      rw [show (sN RR).length = RR.length from str_len _, show (Str.ofString "").length = 0 by decide] at this
      omega
    repeat walk_at "V"
    refine ⟨_, rfl, fun _ => ?_, fun hb => absurd (hb.symm.trans hne) (by decide)⟩
    with_reducible refine V.execs_cons ?_
    with_reducible refine V.assign_comp (cl := [(Str.ofString "rest", L + 7), (Str.ofString "found", L + 5)]) (by kernel_rfl) ?_
    repeat walk_at "V"
    refine ⟨.builtin, fun v hv => V.len_list hv (.lst (by walk_at "mem")) hcz ?_⟩
    rw [hcl]
    refine ⟨.type, fun u hu => V.range1 hu fun rg => ?_⟩
    intro x' hx'
    obtain rfl := nt_ref hx'
    with_reducible refine V.iter_rng (n := (codeF ss).length) (by walk_at "mem") (by omega) (fun it => ?_) (by omega) (by omega)
    intro it' hit ba L'
    obtain rfl := nt_ref hit
    with_reducible refine V.compStart ?_ (V.iter_rit (by unfold rc; walk_at "mem") ⟨rfl, rfl⟩)
    with_reducible refine VK.to ((L', .ns []) :: (ba, .lst []) :: (it, rc 0 (codeF ss).length 0) :: lexS a (textOf W) (posW W (ds.length + 3) : Nat) (nlW W (ds.length + 3)) [] ((L, .ns [(Str.ofString "script", .ref C.arg.1), (Str.ofString "message", .ref ml), (Str.ofString "text", strV (textOf W)), (Str.ofString "lexer", .ref a.lx), (Str.ofString "told", .ref to)]) :: cells L (some (.ref tl)) (some (.ref cl)) (some (.ref ra)) pv (some (.ref fa)) (some (.ref fi)) (some (lV RR)) ((ml, .lst (List.map natV ms)) :: (fa, .lst (List.map lV (codeF ss))) :: (to, .lst (List.map natV (ms.take (j)))) :: S))) (by walk_at "pk") ?_
    with_reducible refine V.compI (c := rc 0 (codeF ss).length) (item := fun i => .int (0 + (i : Nat)) 0) (n := (codeF ss).length) (fun i ys S' => ys = List.map natV ((List.range i).filter fun k => decide (k ≤ m)) ∧ S' = lexS a (textOf W) (posW W (ds.length + 3) : Nat) (nlW W (ds.length + 3)) [] ((L, .ns [(Str.ofString "script", .ref C.arg.1), (Str.ofString "message", .ref ml), (Str.ofString "text", strV (textOf W)), (Str.ofString "lexer", .ref a.lx), (Str.ofString "told", .ref to)]) :: cells L (some (.ref tl)) (some (.ref cl)) (some (.ref ra)) pv (some (.ref fa)) (some (.ref fi)) (some (lV RR)) ((ml, .lst (List.map natV ms)) :: (fa, .lst (List.map lV (codeF ss))) :: (to, .lst (List.map natV (ms.take (j)))) :: S))) (fun _ _ _ _ => It.rng hA') (by rw [sizeLine_eq]; simp only [List.length_nil]; omega) ⟨by with_unfolding_all rfl, by with_unfolding_all rfl⟩ ?_ ?_
    · rintro i ys S' hi ⟨rfl, rfl⟩ v hv
      have hv0 : nt v = natV i := by rw [hv]; exact congrArg (fun x => Value.int x 0) (Int.zero_add _)
      clear hv
      have gi := getD_some (l := codeF ss) (d := []) hi
      with_reducible refine V.own_name ?_
      with_reducible refine V.assign_Name ?_
      revert v
      walk_at "store"
      with_reducible refine V.tests_one ?_
      repeat walk_at "V"
      with_reducible refine V.tail_nat (k := i) (.lst (by walk_at "mem")) (by rw [List.getElem?_map, gi, Option.map_some]) hcz ?_
      repeat walk_at "V"
      refine ⟨.fn (at_K g (lk63 _)) rfl, fun v u hv hu => V.call_of (strcoll g (by omega) hv hu ?_)⟩
      repeat walk_at "V"
      with_reducible refine V.neg_const ?_
      repeat walk_at "V"
      refine ⟨by walk_at "dec", fun tt => ?_⟩
      refine VO.in_tup (ns := [-1, 0]) List.mem_cons_self ?_
      rw [show (([-1, 0] : List Int).any (· == (b2i (decide ((⟨RR.toArray⟩ : Str).cps.toList < (⟨((codeF ss).getD i []).toArray⟩ : Str).cps.toList)) - b2i (decide ((⟨((codeF ss).getD i []).toArray⟩ : Str).cps.toList < (⟨RR.toArray⟩ : Str).cps.toList))))) = decide (i ≤ m) by rw [hsp]; exact sc_in hpB hmc hi r]
      refine ⟨_, rfl, fun hb => ?_, fun hb => ?_⟩
      · repeat walk_at "V"
        refine ⟨lexS a (textOf W) (posW W (ds.length + 3) : Nat) (nlW W (ds.length + 3)) [] ((L, .ns [(Str.ofString "script", .ref C.arg.1), (Str.ofString "message", .ref ml), (Str.ofString "text", strV (textOf W)), (Str.ofString "lexer", .ref a.lx), (Str.ofString "told", .ref to)]) :: cells L (some (.ref tl)) (some (.ref cl)) (some (.ref ra)) pv (some (.ref fa)) (some (.ref fi)) (some (lV RR)) ((ml, .lst (List.map natV ms)) :: (fa, .lst (List.map lV (codeF ss))) :: (to, .lst (List.map natV (ms.take (j)))) :: S)), by walk_at "pk", ?_, rfl⟩
        rw [List.range_succ, List.filter_append, show [i].filter (fun k => decide (k ≤ m)) = [i] by simp only [List.filter_cons, hb, if_true, List.filter_nil], List.map_append]; rfl
      · refine ⟨lexS a (textOf W) (posW W (ds.length + 3) : Nat) (nlW W (ds.length + 3)) [] ((L, .ns [(Str.ofString "script", .ref C.arg.1), (Str.ofString "message", .ref ml), (Str.ofString "text", strV (textOf W)), (Str.ofString "lexer", .ref a.lx), (Str.ofString "told", .ref to)]) :: cells L (some (.ref tl)) (some (.ref cl)) (some (.ref ra)) pv (some (.ref fa)) (some (.ref fi)) (some (lV RR)) ((ml, .lst (List.map natV ms)) :: (fa, .lst (List.map lV (codeF ss))) :: (to, .lst (List.map natV (ms.take (j)))) :: S)), by walk_at "pk", ?_, rfl⟩
        rw [List.range_succ, List.filter_append, show [i].filter (fun k => decide (k ≤ m)) = [] by simp only [List.filter_cons, hb, Bool.false_eq_true, if_false, List.filter_nil], List.append_nil]
    rintro ys S' ⟨rfl, rfl⟩
    rw [range_filter m _ hmc]
    with_reducible refine V.st_ref (by walk_at "upd") (by walk_at "set") ?_
    refine ⟨_, _, .head, ?_⟩
    dsimp only
    have hbz : (List.map natV (List.range (m + 1))).length ≤ sizeLine := by rw [List.length_map, List.length_range, sizeLine_eq]; omega
    have hbl := last_at' (l := List.range (m + 1)) (by rw [List.range_succ]; simp)
    rw [range_last] at hbl
    have hb1 : -((List.map natV (List.range (m + 1))).length : Int) ≤ -1 := by rw [List.length_map, List.length_range]; omega
    have hb2 : (-1 : Int) < (List.map natV (List.range (m + 1))).length := by omega
    with_reducible refine V.execs_cons ?_
    with_reducible refine V.if_ ?_
    with_reducible refine V.t_or ?_
    repeat walk_at "V"
    refine ⟨by walk_at "dec", fun za => ?_⟩
    refine VO.eq_ints (ns := (List.range (m + 1)).map fun (n : Nat) => (n : Int)) (ms := []) hU (by rw [← natVs]; exact .lst (by walk_at "mem")) (.lst List.mem_cons_self) ?_
    refine ⟨_, rfl, fun _ => ?_, fun hb => absurd hb (by rw [List.range_succ]; simp)⟩
    with_reducible refine V.t_or ?_
    repeat walk_at "V"
    with_reducible refine V.neg_const ?_
    with_reducible refine V.tail_list (.lst (by walk_at "mem")) hb1 hb2 hbz hbl ?_
    with_reducible refine V.tail_nat (k := m) (.lst (by walk_at "mem")) (by rw [List.getElem?_map, gc, Option.map_some]) hcz ?_
    refine ⟨.builtin, fun v hv => V.len_str hv (by show ((codeF ss).getD m []).toArray.size ≤ _; rw [List.size_toArray, sizeLine_eq]; omega) ?_⟩
    rw [str_len]
    refine ⟨none, some (((codeF ss).getD m []).length : Nat), rfl, rfl, fun sl => ?_⟩
    refine V.tail_str_slice (by walk_at "mem") hRz ?_
    rw [slice_to, show RR.take ((codeF ss).getD m []).length = (codeF ss).getD m [] by rw [hsp, List.take_left]]
    repeat walk_at "V"
    with_reducible refine V.neg_const ?_
    with_reducible refine V.tail_list (.lst (by walk_at "mem")) hb1 hb2 hbz hbl ?_
    with_reducible refine V.tail_nat (k := m) (.lst (by walk_at "mem")) (by rw [List.getElem?_map, gc, Option.map_some]) hcz ?_
    repeat walk_at "V"
    refine ⟨_, rfl, fun _ => ?_, fun hb => absurd hb (by simp)⟩
    with_reducible refine V.t_or_nil ?_
    refine ⟨fun hb => (by cases hb), fun _ => ?_⟩
    walk_at "V"
    dsimp only
    with_reducible refine VG.to (lexS a (textOf W) (posW W (ds.length + 3) : Nat) (nlW W (ds.length + 3)) [] ((L, .ns [(Str.ofString "script", .ref C.arg.1), (Str.ofString "message", .ref ml), (Str.ofString "text", strV (textOf W)), (Str.ofString "lexer", .ref a.lx), (Str.ofString "told", .ref to), (Str.ofString "behind", .ref ba)]) :: cells L (some (.ref tl)) (some (.ref cl)) (some (.ref ra)) pv (some (.ref fa)) (some (.ref fi)) (some (lV RR)) ((ml, .lst (List.map natV ms)) :: (fa, .lst (List.map lV (codeF ss))) :: (to, .lst (List.map natV (ms.take (j)))) :: (ba, .lst (List.map natV (List.range (m + 1)))) :: S))) (by walk_at "pk") ?_
    with_reducible refine V.execs_cons ?_
    with_reducible refine V.expr (V.call_meth ?_)
    repeat walk_at "V"
    intro o ho; obtain rfl := nt_ref ho
    with_reducible refine V.meth_list (by walk_at "mem") slot_list_append F.type_list_append ?_
    with_reducible refine V.cw1 ?_
    repeat walk_at "V"
    with_reducible refine V.neg_const ?_
    with_reducible refine V.tail_list (.lst (by walk_at "mem")) hb1 hb2 hbz hbl ?_
    refine ⟨.builtin, ?_⟩
    refine V.ap (by walk_at "upd") (by rw [List.length_map, List.length_take, sizeLine_eq]; omega) ?_
    refine ⟨rfl, ?_⟩
    rw [show List.map natV (ms.take j) ++ [Value.int (m : Int) 0] = List.map natV (ms.take (j + 1)) by rw [take_snoc gm, List.map_append]; rfl]
    repeat walk_at "V"
    with_reducible refine V.neg_const ?_
    with_reducible refine V.tail_list (.lst (by walk_at "mem")) hb1 hb2 hbz hbl ?_
    with_reducible refine V.tail_nat (k := m) (.lst (by walk_at "mem")) (by rw [List.getElem?_map, gc, Option.map_some]) hcz ?_
    refine ⟨.builtin, fun v hv => V.len_str hv (by show ((codeF ss).getD m []).toArray.size ≤ _; rw [List.size_toArray, sizeLine_eq]; omega) ?_⟩
    rw [str_len]
    repeat walk_at "V"
    refine ⟨some (((codeF ss).getD m []).length : Nat), none, rfl, rfl, fun sl2 => ?_⟩
    refine V.tail_str_slice (by walk_at "mem") hRz ?_
    rw [slice_from RR (by omega), show RR.drop ((codeF ss).getD m []).length = r by rw [hsp, List.drop_left]]
    walk_at "store"
    dsimp only
    walk_at "V"
    exact ⟨ms.length - (j + 1), lexS a (textOf W) (posW W (ds.length + 3) : Nat) (nlW W (ds.length + 3)) [] ((L, .ns [(Str.ofString "script", .ref C.arg.1), (Str.ofString "message", .ref ml), (Str.ofString "text", strV (textOf W)), (Str.ofString "lexer", .ref a.lx), (Str.ofString "told", .ref to)]) :: cells L (some (.ref tl)) (some (.ref cl)) (some (.ref ra)) pv (some (.ref fa)) (some (.ref fi)) (some (lV (msgN (codeF ss) (ms.drop (j + 1))))) ((ml, .lst (List.map natV ms)) :: (fa, .lst (List.map lV (codeF ss))) :: (to, .lst (List.map natV (ms.take (j + 1)))) :: S)), by omega, by rw [hr]; walk_at "pk", j + 1, rfl, hlt, rfl⟩
  · obtain rfl : j = ms.length := by omega
    rw [List.drop_length, List.take_length]
    repeat walk_at "V"
    refine ⟨_, rfl, fun hb => absurd (show (Str.ofString "" != Str.ofString "") = true from hb) (by decide), fun _ => ?_⟩
    walk_at "V"
    dsimp only
    exact rest to (some (lV (msgN (codeF ss) [])))
end

section
open PySem PyProof.Rows PySem.Calls PySem.W PySem.Spec
variable {w : World} {A : Around} {C : Cx} {S S' : St} {env : Env}
theorem law_k (g : G w C) {A' : Around} {L tl ml cl ra fa fi to : Addr} {ds ss ms : List Nat} {a : LA} {W : List (Str × List Nat)} {pv rv : Option Value} (hA' : A'.handled = none) (hd : A'.depth + 3 < recursionLimit) (hU : A'.units + 64 < cLine) (D : Drawn ds ss) (hT : TX ds ms (codeF ss) W) (hm4 : ms.length = 4) {Φ : Flow → St → Prop}
    (hret : ∀ S', Φ (.ret (.bool true)) S') :
    VF (model pw w) A' C (lexS a (textOf W) (posW W (ds.length + 3) : Nat) (nlW W (ds.length + 3)) [] ((L, .ns [(Str.ofString "script", .ref C.arg.1), (Str.ofString "message", .ref ml), (Str.ofString "text", strV (textOf W)), (Str.ofString "lexer", .ref a.lx), (Str.ofString "told", .ref to)]) :: cells L (some (.ref tl)) (some (.ref cl)) (some (.ref ra)) pv (some (.ref fa)) (some (.ref fi)) rv ((ml, .lst (List.map natV ms)) :: (fa, .lst (List.map lV (codeF ss))) :: (to, .lst (List.map natV ms)) :: S))) (execs ((dBody (st 18)).drop 30) (env175 L)) Φ := by
  have hdl := D.l6
  have htx := hT.size hdl
  have hWl := hT.len
  have htl : (textOf W).length = (W.flatMap (·.2)).length := str_len _
  have hP : posW W (ds.length + 3) = (textOf W).length := by
    unfold posW; rw [List.take_of_length_le (by omega), htl]
  have hN : nlW W (ds.length + 3) = 1 + Txt.count (textOf W) (Str.ofString "\n") := by
    unfold nlW
    rw [List.take_of_length_le (by omega), show Str.ofString "\n" = ⟨#[10]⟩ from rfl, count_is]
    show _ = 1 + cnt 10 (textOf W).cps.toList
    rw [cnt_count]
    show _ = 1 + (((W.flatMap (·.2)).toArray.toList.count 10 : Nat) : Int)
    rw [List.toList_toArray]
  rw [hP, hN]
  change VG _ _ _ _ _ (execs (_ :: _) _) _
  with_reducible refine V.execs_cons ?_
  with_reducible refine V.ret ?_
  with_reducible refine V.and_cons ?_
  repeat walk_at "V"
  with_reducible refine VO.eq_ints (ns := ms.map fun (n : Nat) => (n : Int)) (ms := ms.map fun (n : Nat) => (n : Int)) hU (by rw [← natVs]; exact .lst (by walk_at "mem")) (by rw [← natVs]; exact .lst (by walk_at "mem")) ?_
  refine ⟨_, rfl, fun hb => absurd hb (by simp), fun _ => ?_⟩
  with_reducible refine V.and_cons ?_
  walk_at "V"
  with_reducible refine V.call_meth ?_
  repeat walk_at "V"
  with_reducible refine V.tokE g hA' (by omega) ((L, .ns [(Str.ofString "script", .ref C.arg.1), (Str.ofString "message", .ref ml), (Str.ofString "text", strV (textOf W)), (Str.ofString "lexer", .ref a.lx), (Str.ofString "told", .ref to)]) :: cells L (some (.ref tl)) (some (.ref cl)) (some (.ref ra)) pv (some (.ref fa)) (some (.ref fi)) rv ((ml, .lst (List.map natV ms)) :: (fa, .lst (List.map lV (codeF ss))) :: (to, .lst (List.map natV ms)) :: S)) (by walk_at "pk") htx (Nat.le_refl _) ?_
  repeat walk_at "V"
  refine ⟨_, rfl, fun hb => absurd hb (by decide), fun _ => ?_⟩
  with_reducible refine V.and_one ?_
  walk_at "V"
  with_reducible refine V.attribute ?_
  repeat walk_at "V"
  with_reducible refine V.m_lineno g ((L, .ns [(Str.ofString "script", .ref C.arg.1), (Str.ofString "message", .ref ml), (Str.ofString "text", strV (textOf W)), (Str.ofString "lexer", .ref a.lx), (Str.ofString "told", .ref to)]) :: cells L (some (.ref tl)) (some (.ref cl)) (some (.ref ra)) pv (some (.ref fa)) (some (.ref fi)) rv ((ml, .lst (List.map natV ms)) :: (fa, .lst (List.map lV (codeF ss))) :: (to, .lst (List.map natV ms)) :: S)) (by walk_at "pk") ?_
  repeat walk_at "V"
  with_reducible refine V.call_meth ?_
  repeat walk_at "V"
  intro ov hov
  with_reducible refine V.meth_str hov PySem.F.slot_str_count PySem.F.type_str_count ?_
  with_reducible refine V.cw1 ?_
  repeat walk_at "V"
  refine ⟨.builtin, fun v hv => V.str_count hov hv ?_⟩
  repeat walk_at "V"
  rw [beq_self_eq_true]
  exact hret _
theorem law175 (g : G w C) (DA : DefAt C 157 153 4 (boot_o_4 w.params)) (hgp : C.gp = AllBare) (hA : A.handled = none) (hd : A.depth + 4 < recursionLimit) (hU : A.units + 67 < cLine) {xs : List Int} (hl : ∀ S, IsL C S C.arg.1 (xs.map intV)) (hz : xs.length ≤ 63) {v : Value} (hv : nt v = .ref C.arg.1) {Φ : Value → St → Prop}
    (h : Φ (.bool true) []) : VC (model pw w) A C ((153, .tab) :: S) (.call (.ref 175) ⟨[v], []⟩) Φ := by
  refine law_a g hA hd hU hl hz hv fun L A' tl dl ml cl ds ss ms sd hA' hd' hU' D hm4 hms h0 => ?_
  refine law_b g hA' hd' D hm4 hms h0 fun W hT => ?_
  refine law_c g DA hA' hd' D hT fun a ra ca => ?_
  refine law_d g hA' hd' D fun pv => ?_
  refine law_e g hA' hd' hU' D ?_
  refine law_f g hA' hd' hU' D ?_
  refine law_g g (ca := ca) (dl := dl) hA' hd' D hT fun fa => ?_
  refine law_h g hgp hA' hd' D fun ma fi => ?_
  refine law_i g hA' hd' hU' D ?_
  refine law_j g hA' hd' hU' D hT hm4 hms fun to rv => ?_
  exact law_k g hA' hd' hU' D hT hm4 fun S' => ⟨[], fun s I => I.drop (List.nil_sublist _), h⟩
end

end Mine.Head

open PySem PySem.W PyProof.Rows
set_option Elab.async false
set_option maxRecDepth 100000
set_option maxHeartbeats 0
set_option linter.unusedVariables false
namespace Mine.Head
noncomputable section
noncomputable def K2 (P : Params) : Frag := (153, o153x18 P) :: K P
noncomputable def Kas2 : List Addr := 153 :: Kas
noncomputable def H2 : Hook := kHook K2 Kas2 (fun _ => by kernel_rfl)
theorem hY2 (w : World) (os : OsState) : Hook.obs H2 (S18 w os).abs = Hook.val H2 w := by
  show Kas2.map (S18 w os).abs.heap.get? = (K2 w.params).map fun p => some p.2
  have h : (fun os : OsState => Kas2.map (S18 w os).abs.heap.get?) = fun _ => (K2 w.params).map fun p => some p.2 := by kernel_rfl
  exact congrFun h os
end
theorem no153 (P : Params) : (K P).lookup 153 = none := by kernel_rfl
theorem K2_K {P : Params} {h : Heap} (X : (K2 P).In h) : (K P).In h := fun b o e => X b o (by
  unfold K2
  rw [List.lookup_cons]
  by_cases eb : b = 153
  · subst eb; rw [no153] at e; cases e
  · rw [show (b == 153) = false by simpa using eb]; exact e)
theorem K2_153 {P : Params} {h : Heap} (X : (K2 P).In h) : h.get? 153 = some { cls := .none, data := .fields #[] } := X 153 _ rfl
noncomputable def esMain (P : Params) : Array DictEntry := match (o3x18 P).data with
  | .dict es _ => es
  | _ => #[]
theorem dMain (P : Params) : ∃ n, (o3x18 P).data = .dict (esMain P) n := ⟨_, rfl⟩
theorem lk3 (P : Params) : (K P).lookup 3 = some (o3x18 P) := by kernel_rfl
theorem mg_main {P : Params} {h : Heap} (X : (K P).In h) {mg : Str → Option Value} (hg : h.Ns mainGlobals mg) (x : Str) : mg x = nsFind (esMain P) x := by
  obtain ⟨o, es, ep, ho, hd, hk, hf⟩ := hg
  have e := X 3 _ (lk3 P)
  obtain ⟨n, hn⟩ := dMain P
  have : o = o3x18 P := Option.some.inj (ho.symm.trans e)
  subst this
  rw [hn] at hd
  cases hd
  exact (hf x).symm
theorem mg_law (P : Params) : nsFind (esMain P) (Str.ofString "law") = some (.ref 175) := by kernel_rfl
theorem mg_bm (P : Params) : nsFind (esMain P) (Str.ofString "__builtins__") = some (.ref 4) := by kernel_rfl
theorem gl_all (P : Params) : ∀ x v, (x, v) ∈ gl → ∃ v', nsFind (esMain P) x = some v' ∧ nt v' = v := by
  intro x v hm
  simp only [gl, List.mem_cons, List.mem_nil_iff, or_false, Prod.mk.injEq] at hm
  rcases hm with ⟨rfl, rfl⟩ | ⟨rfl, rfl⟩ | ⟨rfl, rfl⟩ | ⟨rfl, rfl⟩ | ⟨rfl, rfl⟩ | ⟨rfl, rfl⟩ | ⟨rfl, rfl⟩ | ⟨rfl, rfl⟩ | ⟨rfl, rfl⟩ | ⟨rfl, rfl⟩ | ⟨rfl, rfl⟩ | ⟨rfl, rfl⟩ | ⟨rfl, rfl⟩ | ⟨rfl, rfl⟩ <;> exact Option.map_eq_some_iff.mp (by kernel_rfl)
theorem bl_all (P : Params) : ∀ x v, (x, v) ∈ bl → nsFind (esMain P) x = none ∧ x ≠ "__name__" ∧ ∃ v', bootBuiltins x = some v' ∧ nt v' = v := by
  intro x v hm
  simp only [bl, List.mem_cons, List.mem_nil_iff, or_false, Prod.mk.injEq] at hm
  rcases hm with ⟨rfl, rfl⟩ | ⟨rfl, rfl⟩ | ⟨rfl, rfl⟩ | ⟨rfl, rfl⟩ | ⟨rfl, rfl⟩ | ⟨rfl, rfl⟩ | ⟨rfl, rfl⟩ | ⟨rfl, rfl⟩ | ⟨rfl, rfl⟩ <;> exact ⟨by kernel_rfl, by decide, Option.map_eq_some_iff.mp (by kernel_rfl)⟩
theorem ints_nt : ∀ {vs : List Value} {xs : List Int}, IntsAre vs xs → vs.map nt = xs.map intV
  | _, _, .nil => rfl
  | _, _, .cons n t r => by rw [List.map_cons, List.map_cons, ints_nt r]; rfl
theorem defAt {C : Cx} {w : World} (hK : C.K = K w.params) (hB : C.B.get? 157 = some (o157x18 w.params)) (h153 : C.B.get? 153 = some { cls := .none, data := .fields #[] }) (hm : C.mg "__builtins__" = some (.ref 4)) (hl : (153 : Addr) ≠ C.arg.1) : DefAt C 157 153 4 (boot_o_4 w.params) where
  code := fun h X e => by
    have h157 : h.get? 157 = some (o157x18 w.params) := X 157 _ (by rw [hK]; kernel_rfl)
    exact ⟨⟨_, _, _, _, _, _, _, _, _, _, h157, rfl, rfl, rfl, rfl, rfl, rfl, e, rfl, trivial, by decide⟩, ⟨_, _, h157, rfl, rfl, rfl⟩, e⟩
  base := ⟨⟨_, _, hB, rfl, rfl, rfl⟩, h153⟩
  out := by rw [hK]; exact no153 _
  n1 := by decide
  n2 := by decide
  n3 := by decide
  n4 := hl
  mod := hm
  bm0 := by decide
  bmo := by rw [hK]; kernel_rfl
  bcls := rfl
  bdict := rfl
  bdata := rfl
end Mine.Head
open Mine.Head Mine
theorem Mine.Head.ent_walk {q' : Program} {own : List Str} {d : DefRec} (hdn : d.name = Str.ofString "law") {kwd : List (Str × Expr)} : WalkO q' own (fun _ _ => True) H2.says PySem.Challenge.rw_sw0063_02.row.toRowW d kwd fun f vs => PySem.call f vs := by
  intro w s₀ s₁ mg mb G Y a o pm cd doc dV kV ho hd hcd hD hmg hgens args vals as hpre hlay hrd hwl hlo
  have KX2 : (Mine.Head.K2 w.params).In s₁.heap := kIn_of Y
  have KX := Mine.Head.K2_K KX2
  have T := G.T
  wrow_args hpre hlay hrd hwl hlo
  rename_i xs _ _ _ _ _ _ _ l vs _ hL _ _ _ hI _ hcond _
  obtain ⟨ol, hol, hcl, ep, hdl⟩ := hL
  have hmain := Mine.Head.mg_main KX T.g
  rw [hdn, hmain, Mine.Head.mg_law] at hmg
  obtain rfl : (175 : Addr) = a := by injection hmg with e; injection e
  have h157 : s₁.heap.get? 157 = some (o157x18 w.params) := KX 157 _ (by kernel_rfl)
  have h153 := Mine.Head.K2_153 KX2
  have h2 : s₁.heap.get? cStatics = some (boot_o_2 w.params) := KX 2 _ (by kernel_rfl)
  have hl153 : (153 : Addr) ≠ l := by
    intro e
    rw [← e, h153] at hol
    cases hol
    cases hcl
  let C : Cx := { B := s₁.heap, os := s₁.os, K := Mine.Head.K w.params, arg := (l, ol), mg := mg, mb := mb }
  have g : Mine.Head.G w C := ⟨rfl, ⟨fun x v hm => by
    obtain ⟨v', h1, h2⟩ := gl_all w.params x v hm
    exact ⟨v', by show mg x = _; rw [hmain]; exact h1, h2⟩, fun x v hm => by
    obtain ⟨h1, h2, v', h3, h4⟩ := bl_all w.params x v hm
    exact ⟨by show mg x = _; rw [hmain]; exact h1, v', by show mb x = _; rw [T.builtins x h2]; exact h3, h4⟩⟩, KX⟩
  have D : DefAt C 157 153 4 (boot_o_4 w.params) := defAt rfl h157 h153 (by show mg _ = _; rw [hmain]; exact mg_bm _) hl153
  have hb : ∃ o, s₁.heap.get? builtinsNs = some o := let ⟨o, _, _, ho, _⟩ := T.b; ⟨o, ho⟩
  have hmn : ∃ o, s₁.heap.get? mainGlobals = some o := let ⟨o, _, _, ho, _⟩ := T.g; ⟨o, ho⟩
  have I : Inv C [(153, .tab)] s₁ := {
    old := .of_keep fun b o e => e
    is := fun p hp => by
      cases List.mem_singleton.mp hp
      exact ⟨_, h153, rfl⟩
    nod := by simp
    above := fun p hp ht => by
      cases List.mem_singleton.mp hp
      exact absurd rfl ht
    known := KX
    small := fun b o e => ⟨o, KX b o e⟩
    arg := hol
    argB := ⟨_, hol⟩
    g := T.g
    b := T.b
    nss := ⟨hb, hmn, _, h2⟩
    nolimit := T.nolimit
    os := rfl
    gens := AllBare.of_eq hgens }
  have hvx : vs.map nt = xs.map intV := ints_nt hI
  have hlist : ∀ S, IsL C S C.arg.1 (xs.map intV) := fun S => IsL.arg hcl hdl (by rw [List.toList_toArray]; exact hvx)
  have hz : xs.length ≤ 63 := by omega
  refine (V.call_of (law175 g D rfl (A := callerA) rfl (by decide) (by decide) hlist hz rfl (S := []) (Φ := fun v _ => v = .bool true) rfl)) s₁ _ _ I fun v s' S' I' hv => ?_
  obtain rfl := nt_bool hv
  refine ⟨.inl ⟨.bool true, .bool true, [], rfl, fun _ => rfl, ?_, ?_, fun _ => ⟨List.nodup_nil, fun a ha => by cases ha⟩⟩, I'.old, I'.os, I'.gens⟩
  · exact .bool true
  · first | exact postW_of (X := true) (by rfl) (by rfl) rfl | exact postW_of (X := true) (by decide +kernel) (by kernel_rfl) rfl | kernel_rfl | w_fin

namespace Mine
open PySem PySem.W PyProof.Rows
theorem lk {a b : Bool} (x : a = true) (y : b = true) : (a && b) = true := by rw [x, y]; rfl
theorem said_a : looksOpen PySem.Challenge.pw_sw0063_02 = true := by
  unfold looksOpen
  exact (lk (lk (lk (lk (lk (by decide +kernel) (by decide +kernel)) (by decide +kernel)) (by decide +kernel)) (by decide +kernel)) (by decide +kernel))
theorem said_b : PySem.Challenge.rw_sw0063_02.row.partSaid = true := by
  unfold OpenRow.partSaid
  exact (lk (lk (lk (lk (lk (lk (lk (lk (lk (lk (lk (lk (lk said_a (by decide +kernel)) (by decide +kernel)) (by decide +kernel)) (by decide +kernel)) (by decide +kernel)) (by decide +kernel)) (by decide +kernel)) (by decide +kernel)) (by decide +kernel)) (by decide +kernel)) (by decide +kernel)) (by decide +kernel)) (by decide +kernel))
theorem said_c : PySem.Challenge.rw_sw0063_02.row.wellSaid = true := by
  unfold OpenRow.wellSaid
  exact (lk (lk said_b (by decide +kernel)) (by decide +kernel))
theorem said : PySem.Challenge.rw_sw0063_02.wellSaid = true := by
  unfold OpenLaw.wellSaid
  exact (lk (lk (lk (lk (lk (lk (lk (lk (lk (lk (lk (lk (lk (lk (lk (lk (lk (lk said_c (by decide +kernel)) (by decide +kernel)) (by decide +kernel)) (by decide +kernel)) (by decide +kernel)) (by decide +kernel)) (by decide +kernel)) (by decide +kernel)) (by decide +kernel)) (by decide +kernel)) (by decide +kernel)) (by decide +kernel)) (by decide +kernel)) (by decide +kernel)) (by decide +kernel)) (by decide +kernel)) (by decide +kernel)) (by decide +kernel))
end Mine

open PySem PySem.W PyProof.Rows
open Mine.Head
theorem PySem.Challenge.cw_sw0063_02_holds : PySem.Challenge.rw_sw0063_02.Holds := by
  w_on
  refine holds_law Mine.said fun said => ?_
  refine holds_open (q := q) (loose := own) (Xt := fun _ => true) (XP := fun _ _ => True) (Yf := Hook.obs H2) (Ya := Hook.val H2) (YP := Hook.says H2) (N := 100000) (left _ _ hY2) (Hook.of H2) (Hook.keeps H2) (fun _ _ => trivial) (fun _ _ _ _ _ => trivial) (by rfl) (by rfl) (by rfl) (fun s _ => recFacts_nil rfl) (by rfl) (by first | assumption | decide +kernel) (by decide +kernel) ⟨rfl, rfl, rfl, rfl, rfl, by decide +kernel⟩ ?_ ?_
  · w_witness2
  · apply ent_walk
    rfl
