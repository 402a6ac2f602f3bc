import PyProof.Rows.All
import Wide.All
import OpenK.AllK
import PyProof.GenComp
import PyProof.GenCompT
import PyProof.GenQ
import PyProof.ForAny
import Lean
import PySem.Challenge.RW_uc0065_01
set_option rowWalk.seconds 0
-- Ev
section
open PySem PySem.W PySem.Calls PyProof.Rows
set_option Elab.async false
set_option maxRecDepth 100000
set_option linter.unusedVariables false
namespace Mine


noncomputable def lay (h0 : Heap) (l : List Obj) : Heap := ⟨h0.objs ++ l.toArray, h0.life⟩
section
variable (p : Program) (n₀ : Nat) (ann : Option Value) (h0 : World → Heap)
noncomputable abbrev stL (w : World) (os : OsState) (l : List Obj) (tk : Nat) : Shared := ⟨lay (h0 w) l, #[], {}, tk, os⟩
/-- a tree ends in `a`, whatever stands behind it, and after as many steps in every world -/
noncomputable def Ev {α : Type} (x : Sem α) (c : Code) (p0 : Pos) (l : List Obj) (tk : Nat) (a : α) (p1 : Pos) (l1 : List Obj) (tk1 : Nat) : Prop :=
  ∃ n, ∀ (w : World) (os : OsState) (K : α → Sem Fin) (H : Value → Sem Fin) (gd : Bool → Bool) (lv : List Value → List Value) (F : Frame) (B : List Frame) (N : Nat) (r : Shared),
    topRun treeTable p w n₀ ann N (stL h0 w os l1 tk1) ⟨K a, c, p1, F :: B⟩ = some r → topRun treeTable p w n₀ ann (N + n) (stL h0 w os l tk) ⟨x.wrap K H gd lv, c, p0, F :: B⟩ = some r
end
section
variable {p : Program} {n₀ : Nat} {ann : Option Value} {h0 : World → Heap} {α β : Type} {c : Code} {p0 p1 p2 : Pos} {l l1 l2 : List Obj} {tk tk1 tk2 : Nat}

theorem ev_pure {a : α} : Ev p n₀ ann h0 (pure a : Sem α) c p0 l tk a p0 l tk := ⟨0, fun w os K H gd lv F B N r h => h⟩
theorem ev_bind {x : Sem α} {f : α → Sem β} {a : α} {b : β} (h1 : Ev p n₀ ann h0 x c p0 l tk a p1 l1 tk1) (h2 : Ev p n₀ ann h0 (f a) c p1 l1 tk1 b p2 l2 tk2) :
    Ev p n₀ ann h0 (x >>= f) c p0 l tk b p2 l2 tk2 := by
  obtain ⟨n, h1⟩ := h1
  obtain ⟨m, h2⟩ := h2
  refine ⟨m + n, fun w os K H gd lv F B N r h => ?_⟩
  rw [Sem.bind_eq_wrap', Sem.wrap_wrap, ← Nat.add_assoc]
  exact h1 w os _ _ _ _ F B _ r (h2 w os K H gd lv F B N r h)
theorem ev_keep {vs : List Value} {x : Sem α} {a : α} (h : Ev p n₀ ann h0 x c p0 l tk a p1 l1 tk1) : Ev p n₀ ann h0 (x.keep vs) c p0 l tk a p1 l1 tk1 := by
  obtain ⟨n, h⟩ := h
  refine ⟨n, fun w os K H gd lv F B N r h' => ?_⟩
  rw [Sem.keep_eq_wrap, Sem.wrap_wrap]
  exact h w os _ _ _ _ F B N r h'
theorem ev_holding {vs : List Value} {x : Sem α} {a : α} (h : Ev p n₀ ann h0 x c p0 l tk a p1 l1 tk1) : Ev p n₀ ann h0 (holding vs x) c p0 l tk a p1 l1 tk1 := by
  unfold holding
  split
  · exact h
  · exact ev_keep h
theorem ev_onRaise {x : Sem α} {k : Value → Sem Unit} {a : α} (h : Ev p n₀ ann h0 x c p0 l tk a p1 l1 tk1) : Ev p n₀ ann h0 (x.onRaise k) c p0 l tk a p1 l1 tk1 := by
  obtain ⟨n, h⟩ := h
  refine ⟨n, fun w os K H gd lv F B N r h' => ?_⟩
  rw [Sem.onRaise_eq_wrap, Sem.wrap_wrap]
  exact h w os _ _ _ _ F B N r h'
theorem ev_at {q : Pos} : Ev p n₀ ann h0 (standAt q) c p0 l tk () q l tk := ⟨1, fun w os K H gd lv F B N r h => h⟩
theorem ev_rule {t : String} : Ev p n₀ ann h0 (rule t) c p0 l tk () p0 l tk := ⟨1, fun w os K H gd lv F B N r h => h⟩
theorem ev_fresh : Ev p n₀ ann h0 fresh c p0 l tk tk p0 l (tk + 1) := ⟨1, fun w os K H gd lv F B N r h => h⟩
theorem ev_mkInt {i : Int} : Ev p n₀ ann h0 (mkInt i) c p0 l tk (.int i tk) p0 l (tk + 1) := ev_bind ev_fresh ev_pure
theorem ev_mkText {x : Str} : Ev p n₀ ann h0 (mkText x) c p0 l tk (.str x tk) p0 l (tk + 1) := ev_bind ev_fresh ev_pure
theorem lay_push (h0 : Heap) (l : List Obj) (o : Obj) : (lay h0 l).push o = lay h0 (l ++ [o]) := by
  show Heap.mk _ _ = Heap.mk _ _
  congr 1
  simp
theorem lay_size (h0 : Heap) (l : List Obj) : (lay h0 l).objs.size = h0.objs.size + l.length := by
  show (h0.objs ++ l.toArray).size = _
  simp
theorem ev_alloc {sz : Nat} (hsz : ∀ w, (h0 w).objs.size = sz) {o : Obj} : Ev p n₀ ann h0 (alloc o) c p0 l tk (sz + l.length) p0 (l ++ [o]) tk := ⟨1, fun w os K H gd lv F B N r h => by
  unfold stL at h
  rw [← lay_push] at h
  show topRun treeTable p w n₀ ann N ⟨(lay (h0 w) l).push o, #[], {}, tk, os⟩ ⟨K (lay (h0 w) l).objs.size, c, p0, F :: B⟩ = some r
  rw [lay_size, hsz]; exact h⟩
theorem ev_loadPart {a : Addr} {q : Option Value} {o : Obj} (h : ∀ w, (lay (h0 w) l).get? a = some o) : Ev p n₀ ann h0 (loadPart a q) c p0 l tk o p0 l tk := ⟨1, fun w os K H gd lv F B N r h' => by
  show topRun treeTable p w n₀ ann (N + 1) (stL h0 w os l tk) ⟨.load a q fun x => K x, c, p0, F :: B⟩ = some r
  unfold topRun
  show (match step (denote treeTable) p w (stL h0 w os l tk) ⟨.load a q fun x => K x, c, p0, F :: B⟩ with | .go s' t' => topRun treeTable p w n₀ ann N s' t' | .halt _ _ => none) = some r
  have e : step (denote treeTable) p w (stL h0 w os l tk) ⟨.load a q fun x => K x, c, p0, F :: B⟩ = .go (stL h0 w os l tk) ⟨K o, c, p0, F :: B⟩ := by
    simp only [step, h w]
  rw [e]; exact h'⟩
theorem ev_updatePart {a : Addr} {q : Option Value} {f : Obj → Obj} {o : Obj} (h : ∀ w, (lay (h0 w) l).get? a = some o) (hn : Nat.ble n₀ a = true) (hu : ∀ w, (lay (h0 w) l).update a f = lay (h0 w) l1) :
    Ev p n₀ ann h0 (updatePart a q f) c p0 l tk () p0 l1 tk := ⟨1, fun w os K H gd lv F B N r h' => by
  show topRun treeTable p w n₀ ann (N + 1) (stL h0 w os l tk) ⟨.update a q f fun x => K x, c, p0, F :: B⟩ = some r
  unfold topRun
  have k : stepOk n₀ ann ⟨.update a q f fun x => K x, c, p0, F :: B⟩ = true := by
    show (true && (Nat.ble n₀ a || a == mainNs || a == cStatics || ann == some (.ref a))) = true
    rw [hn]; rfl
  have e : step (denote treeTable) p w (stL h0 w os l tk) ⟨.update a q f fun x => K x, c, p0, F :: B⟩ = .go (stL h0 w os l1 tk) ⟨K (), c, p0, F :: B⟩ := by
    simp only [step, h w, Option.isSome_some, if_true, hu w]
  rw [k, e]; exact h'⟩

/-- the hash of a small int -/
noncomputable def hv (i : Int) : Int := if (if i < 0 then -((i.natAbs % (2 ^ 61 - 1 : Nat) : Nat) : Int) else ((i.natAbs % (2 ^ 61 - 1 : Nat) : Nat) : Int)) == -1 then -2 else (if i < 0 then -((i.natAbs % (2 ^ 61 - 1 : Nat) : Nat) : Int) else ((i.natAbs % (2 ^ 61 - 1 : Nat) : Nat) : Int))
theorem hash_go (b : Bool) (p : Program) (w : World) (n₀ : Nat) (ann : Option Value) (i : Int) (tk : Tok) (c : Code) (p0 : Pos) (hp : Heap) (g : Array GenState) (d : Drawn) (t : Nat) (os : OsState)
    (K : Int → Sem Fin) (H : Value → Sem Fin) (gd : Bool → Bool) (lv : List Value → List Value) (F : Frame) (B : List Frame) (N : Nat) :
    topRun treeTable p (w.withFollow "special-get-raises" b) n₀ ann (N + 5) ⟨hp, g, d, t, os⟩ ⟨(pyHash (.int i tk)).wrap K H gd lv, c, p0, F :: B⟩ =
    topRun treeTable p (w.withFollow "special-get-raises" b) n₀ ann N ⟨hp, g, d, t + 1, os⟩ ⟨(pyHashByItsType.reduced (hv i)).wrap K H gd lv, c, p0, F :: B⟩ := by
  cases b <;> kernel_rfl
theorem hv_small {i : Int} (h0 : 0 ≤ i) (h1 : i < 2000000) : hv i = i := by
  have e : ((i.natAbs % (2 ^ 61 - 1 : Nat) : Nat) : Int) = i := by
    have : i.natAbs < 2 ^ 61 - 1 := by lia
    rw [Nat.mod_eq_of_lt this]; lia
  unfold hv
  have h2 : ¬ i < 0 := by lia
  simp only [e, if_neg h2]
  exact if_neg (by simp; lia)
theorem reduced_small {i : Int} (h0 : 0 ≤ i) (h1 : i < 2000000) : pyHashByItsType.reduced i = pure i := by
  unfold pyHashByItsType.reduced
  rw [if_pos (by simp; lia), if_neg (by simp; lia)]
theorem ev_hash {i : Int} {t : Tok} (h00 : 0 ≤ i) (h1 : i < 2000000) :
    Ev p n₀ ann h0 (pyHash (.int i t)) c p0 l tk i p0 l (tk + 1) := by
  refine ⟨5, fun w os K H gd lv F B N r h => ?_⟩
  have e := hash_go (w.params.followText "special-get-raises") p w n₀ ann i t c p0 (lay (h0 w) l) #[] {} tk os K H gd lv F B N
  rw [World.withFollow_self, hv_small h00 h1, reduced_small h00 h1] at e
  rw [e]; exact h

/-! a dict of ints, exactly -/
noncomputable def dob (es : Array DictEntry) (ep : Nat) : Obj := ⟨.type "dict", none, .dict es ep, #[]⟩
theorem ev_dictEntries {a : Addr} {q : Option Value} {es : Array DictEntry} {ep : Nat} (h : ∀ w, (lay (h0 w) l).get? a = some (dob es ep)) :
    Ev p n₀ ann h0 (dictEntries a q) c p0 l tk es p0 l tk := ev_bind (ev_loadPart h) ev_pure
theorem ev_dictEpoch {a : Addr} {q : Option Value} {es : Array DictEntry} {ep : Nat} (h : ∀ w, (lay (h0 w) l).get? a = some (dob es ep)) :
    Ev p n₀ ann h0 (dictEpoch a q) c p0 l tk ep p0 l tk := ev_bind (ev_loadPart h) ev_pure
theorem places_none {es : Array DictEntry} {h : Int} (hn : ∀ e ∈ es, e.hash ≠ h) : placesWithHash es.size (fun i => es[i]?.map (·.hash)) h = [] := by
  unfold placesWithHash
  rw [List.filter_eq_nil_iff]
  intro i hi
  rw [List.mem_range] at hi
  dsimp only
  rw [Array.getElem?_eq_getElem hi]
  simp only [Option.map_some, beq_iff_eq, Option.some.injEq]
  exact hn _ (Array.getElem_mem hi)
theorem ev_dictFind_none {a : Addr} {es : Array DictEntry} {ep : Nat} {i h : Int} {t : Tok} (hd : ∀ w, (lay (h0 w) l).get? a = some (dob es ep))
    (hn : ∀ e ∈ es, e.hash ≠ h) : Ev p n₀ ann h0 (dictFind a (.int i t) h) c p0 l tk none p0 l tk := by
  unfold dictFind
  refine ev_holding (ev_bind (ev_dictEntries hd) ?_)
  show Ev p n₀ ann h0 (if _ then _ else _) c p0 l tk none p0 l tk
  rw [places_none hn]
  show Ev p n₀ ann h0 (dictWalkPlain a (.int i t) h es []) c p0 l tk none p0 l tk
  exact ev_pure
/-- a push lays the dict anew -/
noncomputable abbrev Pushes (h0 : World → Heap) (a : Addr) (l l1 : List Obj) (e : DictEntry) : Prop := ∀ w, (lay (h0 w) l).update a (Obj.mapDictKeys (·.push e)) = lay (h0 w) l1
theorem ev_updateDictKeys {a : Addr} {q : Option Value} {es : Array DictEntry} {ep : Nat} {e : DictEntry} (hd : ∀ w, (lay (h0 w) l).get? a = some (dob es ep))
    (hs : es.size < 100000) (ha : Nat.ble n₀ a = true) (hu : Pushes h0 a l l1 e) : Ev p n₀ ann h0 (updateDictKeys a (·.push e) q) c p0 l tk () p0 l1 tk := by
  unfold updateDictKeys
  refine ev_bind (ev_loadPart hd) ?_
  refine ev_bind (ev_updatePart hd ha hu) ?_
  unfold lookBehind
  refine ev_bind (ev_loadPart (o := dob (es.push e) (ep + 1)) fun w => by
    rw [← hu w]
    exact Heap.get?_update_self _ (hd w) rfl) ?_
  have : (dob (es.push e) (ep + 1)).data.pastItsLine = none := by
    show (Data.dict (es.push e) (ep + 1)).pastItsLine = none
    exact pastItsLine_dict (by rw [Array.size_push, sizeLine_eq]; lia)
  rw [this]
  exact ev_pure
theorem ev_dictSet {a : Addr} {es : Array DictEntry} {ep : Nat} {i : Int} {t : Tok} {v : Value} (hd : ∀ w, (lay (h0 w) l).get? a = some (dob es ep))
    (h00 : 0 ≤ i) (h1 : i < 2000000) (hn : ∀ e ∈ es, e.hash ≠ i) (hs : es.size < 100000) (ha : Nat.ble n₀ a = true) (hu : Pushes h0 a l l1 ⟨i, .int i t, v⟩) :
    Ev p n₀ ann h0 (dictSet a (.int i t) v) c p0 l tk () p0 l1 (tk + 1) := by
  unfold dictSet
  refine ev_holding (ev_bind (ev_hash h00 h1) ?_)
  unfold dictSetHashed
  refine ev_holding (ev_bind (ev_dictFind_none hd hn) ?_)
  exact ev_bind ev_rule (ev_updateDictKeys hd hs ha hu)
theorem ev_dictPut {a : Addr} {es : Array DictEntry} {ep : Nat} {i : Int} {t : Tok} {v : Value} (hd : ∀ w, (lay (h0 w) l).get? a = some (dob es ep))
    (hn : ∀ e ∈ es, e.hash ≠ i) (hs : es.size < 100000) (ha : Nat.ble n₀ a = true) (hu : Pushes h0 a l l1 ⟨i, .int i t, v⟩) :
    Ev p n₀ ann h0 (dictPut a i (.int i t) v) c p0 l tk () p0 l1 tk := by
  unfold dictPut
  exact ev_bind (ev_dictFind_none hd hn) (ev_updateDictKeys hd hs ha hu)
end
end Mine

end
-- EvD
section
open PySem PySem.W PySem.Calls PyProof.Rows
set_option Elab.async false
set_option maxRecDepth 100000
set_option linter.unusedVariables false
namespace Mine
section
variable {p : Program} {n₀ : Nat} {ann : Option Value} {h0 : World → Heap} {c : Code} {pos p0 : Pos} {sz : Nat}
theorem lay_get (h0 : Heap) (l r : List Obj) (es : Array DictEntry) (ep : Nat) : (lay h0 (l ++ dob es ep :: r)).get? (h0.objs.size + l.length) = some (dob es ep) := by
  unfold Heap.get? lay
  have : (h0.objs ++ (l ++ dob es ep :: r).toArray)[h0.objs.size + l.length]? = some (dob es ep) := by
    rw [Array.getElem?_append_right (by lia)]
    simp
  rw [this]; rfl
theorem lay_upd (h0 : Heap) (l r : List Obj) (o : Obj) (f : Obj → Obj) : (lay h0 (l ++ o :: r)).update (h0.objs.size + l.length) f = lay h0 (l ++ f o :: r) := by
  show Heap.mk _ _ = Heap.mk _ _
  congr 1
  apply Array.ext_getElem?
  intro i
  rw [Array.getElem?_modify]
  by_cases hi : i < h0.objs.size
  · rw [if_neg (by lia), Array.getElem?_append_left hi, Array.getElem?_append_left hi]
  · rw [Array.getElem?_append_right (by lia), Array.getElem?_append_right (by lia)]
    simp only [List.getElem?_toArray]
    by_cases e : h0.objs.size + l.length = i
    · subst e
      simp
    · rw [if_neg e]
      by_cases q : i - h0.objs.size < l.length
      · rw [List.getElem?_append_left q, List.getElem?_append_left q]
      · rw [List.getElem?_append_right (by lia), List.getElem?_append_right (by lia)]
        have : i - h0.objs.size - l.length ≠ 0 := by lia
        obtain ⟨k, hk⟩ := Nat.exists_eq_succ_of_ne_zero this
        rw [hk]; rfl

noncomputable abbrev KS := Int × Str
noncomputable def ent (tk : Nat) (e : KS) : DictEntry := ⟨e.1, .int e.1 tk, .str e.2 (tk + 1)⟩
noncomputable def entsL : Nat → List KS → List DictEntry
  | _, [] => []
  | tk, e :: r => ent tk e :: entsL (tk + 3) r
noncomputable def entsS : Nat → List KS → List DictEntry
  | _, [] => []
  | tk, e :: r => ent tk e :: entsS (tk + 2) r
theorem entsL_length : ∀ (tk : Nat) (l : List KS), (entsL tk l).length = l.length
  | _, [] => rfl
  | tk, _ :: r => by simp [entsL, entsL_length (tk + 3) r]
theorem entsS_length : ∀ (tk : Nat) (l : List KS), (entsS tk l).length = l.length
  | _, [] => rfl
  | tk, _ :: r => by simp [entsS, entsS_length (tk + 2) r]
/-- the keys rise, from above lo, and are small -/
noncomputable def up : Int → List KS → Bool
  | _, [] => true
  | lo, e :: r => decide (lo < e.1) && decide (e.1 < 2000000) && up e.1 r
/-- the hashes that stand are at most lo -/
noncomputable def Below (lo : Int) (es : List DictEntry) : Prop := ∀ e ∈ es, e.hash ≤ lo
noncomputable def lastKey : Int → List KS → Int
  | lo, [] => lo
  | _, e :: r => lastKey e.1 r


theorem got (hsz : ∀ w, (h0 w).objs.size = sz) (l r : List Obj) (es : Array DictEntry) (ep : Nat) : ∀ w, (lay (h0 w) (l ++ dob es ep :: r)).get? (sz + l.length) = some (dob es ep) := fun w => by
  rw [← hsz w]; exact lay_get (h0 w) l r es ep
theorem pushes (hsz : ∀ w, (h0 w).objs.size = sz) (l r : List Obj) (es : List DictEntry) (e : DictEntry) : Pushes h0 (sz + l.length) (l ++ dob es.toArray es.length :: r) (l ++ dob (es ++ [e]).toArray (es ++ [e]).length :: r) e := fun w => by
  rw [← hsz w, lay_upd]
  congr 3
  show dob (es.toArray.push e) (es.length + 1) = _
  simp
noncomputable abbrev mkp (pos : Pos) (e : KS) : Sem Value × Sem Value := (mkInt e.1, do let x ← mkText e.2; standAt pos; pure x)
theorem ev_setLoop (hsz : ∀ w, (h0 w).objs.size = sz) (l : List Obj) (hl : n₀ ≤ sz + l.length) : ∀ (es : List KS) (acc : List DictEntry) (lo : Int) (tk : Nat), 0 ≤ lo → Below lo acc → up lo es = true → acc.length + es.length < 100000 →
    Ev p n₀ ann h0 (forIn (es.map (mkp pos)) PUnit.unit fun (x : Sem Value × Sem Value) (_ : PUnit) => (do
        let kv ← x.1
        let vv ← holding [kv] x.2
        holding [kv, vv] (dictSet (sz + l.length) kv vv)
        pure (ForInStep.yield PUnit.unit) : Sem (ForInStep PUnit))) c pos (l ++ [dob acc.toArray acc.length]) tk PUnit.unit pos
      (l ++ [dob (acc ++ entsL tk es).toArray (acc.length + es.length)]) (tk + 3 * es.length)
  | [], acc, lo, tk, _, _, _, _ => by
    simp only [List.map_nil, List.forIn_nil, entsL, List.append_nil, List.length_nil, Nat.add_zero, Nat.mul_zero]
    exact ev_pure
  | e :: r, acc, lo, tk, h00, hb, hu, hs => by
    simp only [up, Bool.and_eq_true, decide_eq_true_eq] at hu
    obtain ⟨⟨h1, h2⟩, h3⟩ := hu
    rw [List.map_cons, List.forIn_cons]
    have key := ev_dictSet (p := p) (n₀ := n₀) (ann := ann) (c := c) (p0 := pos) (t := tk) (tk := tk + 1 + 1) (v := .str e.2 (tk + 1)) (got hsz l [] acc.toArray acc.length) (by lia) h2 (fun x hx => by
      have := hb x (by simpa using hx); lia) (by simp; simp at hs; lia) (Nat.ble_eq_true_of_le hl) (pushes hsz l [] acc (ent tk e))
    have step : Ev p n₀ ann h0 (do
        let kv ← (mkp pos e).1
        let vv ← holding [kv] (mkp pos e).2
        holding [kv, vv] (dictSet (sz + l.length) kv vv)
        pure (ForInStep.yield PUnit.unit) : Sem (ForInStep PUnit)) c pos (l ++ [dob acc.toArray acc.length]) tk (ForInStep.yield PUnit.unit) pos
        (l ++ [dob (acc ++ [ent tk e]).toArray (acc ++ [ent tk e]).length]) (tk + 3) := by
      refine ev_bind ev_mkInt ?_
      refine ev_bind (ev_holding (ev_bind ev_mkText (ev_bind ev_at ev_pure))) ?_
      exact ev_bind (ev_holding key) ev_pure
    refine ev_bind step ?_
    have ih := ev_setLoop hsz l hl r (acc ++ [ent tk e]) e.1 (tk + 3) (by lia) (fun x hx => by
      rcases List.mem_append.mp hx with q | q
      · have := hb x q; lia
      · simp only [List.mem_singleton] at q; subst q; exact Int.le_refl _) h3 (by simp at hs ⊢; lia)
    have e2 : acc ++ [ent tk e] ++ entsL (tk + 3) r = acc ++ entsL tk (e :: r) := by simp [entsL]
    have e3 : (acc ++ [ent tk e]).length + r.length = acc.length + (e :: r).length := by simp; lia
    have e4 : tk + 3 + 3 * r.length = tk + 3 * (e :: r).length := by simp; lia
    rw [e2, e3, e4] at ih
    exact ih
/-- a run of 16 or more -/
theorem ev_subLong (hsz : ∀ w, (h0 w).objs.size = sz) (l : List Obj) (hl : n₀ ≤ sz + l.length) (es : List KS) (tk : Nat) (h15 : 15 < es.length) (hu : up 0 es = true) (hs : es.length < 100000) :
    Ev p n₀ ann h0 (subDict (es.map (mkp pos))) c pos l tk (sz + l.length) pos (l ++ [dob (entsL tk es).toArray es.length]) (tk + 3 * es.length) := by
  unfold subDict
  refine ev_bind (ev_alloc hsz) ?_
  refine ev_bind (a := ()) (ev_holding ?_) ev_pure
  rw [if_neg (by rw [List.length_map]; lia)]
  refine ev_bind ev_rule ?_
  have := ev_setLoop (p := p) (ann := ann) (c := c) (pos := pos) hsz l hl es [] 0 tk (Int.le_refl _) (fun e he => by cases he) hu (by simpa using hs)
  rw [List.nil_append, List.length_nil, Nat.zero_add] at this
  exact ev_bind this ev_pure
theorem ev_evalPairs {l : List Obj} : ∀ (es : List KS) (tk : Nat),
    Ev p n₀ ann h0 (evalPairs (es.map (mkp pos))) c pos l tk ((entsS tk es).map fun e => (e.key, e.val)) pos l (tk + 2 * es.length)
  | [], tk => ev_pure
  | e :: r, tk => by
    rw [List.map_cons, evalPairs]
    refine ev_bind ev_mkInt ?_
    refine ev_bind (ev_holding (ev_bind ev_mkText (ev_bind ev_at ev_pure))) ?_
    have ih := ev_evalPairs (l := l) r (tk + 2)
    have e4 : tk + 2 + 2 * r.length = tk + 2 * (e :: r).length := by simp; lia
    rw [e4] at ih
    refine ev_bind (ev_holding ih) ?_
    exact ev_pure
theorem ev_setLoopS (hsz : ∀ w, (h0 w).objs.size = sz) (l : List Obj) (hl : n₀ ≤ sz + l.length) : ∀ (es : List KS) (acc : List DictEntry) (lo : Int) (tk tk' : Nat), 0 ≤ lo → Below lo acc → up lo es = true → acc.length + es.length < 100000 →
    Ev p n₀ ann h0 (forIn ((entsS tk es).map fun e => (e.key, e.val)) PUnit.unit fun (x : Value × Value) (_ : PUnit) => (do
        dictSet (sz + l.length) x.1 x.2
        pure (ForInStep.yield PUnit.unit) : Sem (ForInStep PUnit))) c pos (l ++ [dob acc.toArray acc.length]) tk' PUnit.unit pos
      (l ++ [dob (acc ++ entsS tk es).toArray (acc.length + es.length)]) (tk' + es.length)
  | [], acc, lo, tk, tk', _, _, _, _ => by
    simp only [entsS, List.map_nil, List.forIn_nil, List.append_nil, List.length_nil, Nat.add_zero]
    exact ev_pure
  | e :: r, acc, lo, tk, tk', h00, hb, hu, hs => by
    simp only [up, Bool.and_eq_true, decide_eq_true_eq] at hu
    obtain ⟨⟨h1, h2⟩, h3⟩ := hu
    rw [entsS, List.map_cons, List.forIn_cons]
    have key := ev_dictSet (p := p) (n₀ := n₀) (ann := ann) (c := c) (p0 := pos) (t := tk) (tk := tk') (v := .str e.2 (tk + 1)) (got hsz l [] acc.toArray acc.length) (by lia) h2 (fun x hx => by
      have := hb x (by simpa using hx); lia) (by simp; simp at hs; lia) (Nat.ble_eq_true_of_le hl) (pushes hsz l [] acc (ent tk e))
    refine ev_bind (ev_bind key ev_pure) ?_
    have ih := ev_setLoopS hsz l hl r (acc ++ [ent tk e]) e.1 (tk + 2) (tk' + 1) (by lia) (fun x hx => by
      rcases List.mem_append.mp hx with q | q
      · have := hb x q; lia
      · simp only [List.mem_singleton] at q; subst q; exact Int.le_refl _) h3 (by simp at hs ⊢; lia)
    have e2 : acc ++ [ent tk e] ++ entsS (tk + 2) r = acc ++ ent tk e :: entsS (tk + 2) r := by simp
    have e3 : (acc ++ [ent tk e]).length + r.length = acc.length + (e :: r).length := by simp; lia
    have e4 : tk' + 1 + r.length = tk' + (e :: r).length := by simp; lia
    rw [e2, e3, e4] at ih
    exact ih
/-- a run of 15 or fewer -/
theorem ev_subShort (hsz : ∀ w, (h0 w).objs.size = sz) (l : List Obj) (hl : n₀ ≤ sz + l.length) (es : List KS) (tk : Nat) (h15 : es.length ≤ 15) (hu : up 0 es = true) :
    Ev p n₀ ann h0 (subDict (es.map (mkp pos))) c pos l tk (sz + l.length) pos (l ++ [dob (entsS tk es).toArray es.length]) (tk + 3 * es.length) := by
  unfold subDict
  refine ev_bind (ev_alloc hsz) ?_
  refine ev_bind (a := ()) (ev_holding ?_) ev_pure
  rw [if_pos (by rw [List.length_map]; lia)]
  refine ev_bind (ev_evalPairs es tk) ?_
  refine ev_holding ?_
  have := ev_setLoopS (p := p) (ann := ann) (c := c) (pos := pos) hsz l hl es [] 0 tk (tk + 2 * es.length) (Int.le_refl _) (fun e he => by cases he) hu (by simp; lia)
  rw [List.nil_append, List.length_nil, Nat.zero_add, show tk + 2 * es.length + es.length = tk + 3 * es.length by lia] at this
  exact ev_bind this ev_pure
/-! the merge of a run's dict into the main one -/
noncomputable def IntE (es : List DictEntry) : Prop := ∀ e ∈ es, ∃ t, e.key = .int e.hash t
theorem intE_L : ∀ (tk : Nat) (es : List KS), IntE (entsL tk es)
  | _, [] => fun e he => by cases he
  | tk, e :: r => fun x hx => by
    rcases List.mem_cons.mp hx with q | q
    · subst q; exact ⟨tk, rfl⟩
    · exact intE_L (tk + 3) r x q
theorem intE_S : ∀ (tk : Nat) (es : List KS), IntE (entsS tk es)
  | _, [] => fun e he => by cases he
  | tk, e :: r => fun x hx => by
    rcases List.mem_cons.mp hx with q | q
    · subst q; exact ⟨tk, rfl⟩
    · exact intE_S (tk + 2) r x q
noncomputable def upE : Int → List DictEntry → Prop
  | _, [] => True
  | lo, e :: r => lo < e.hash ∧ upE e.hash r
theorem upE_L : ∀ (lo : Int) (tk : Nat) (es : List KS), up lo es = true → upE lo (entsL tk es)
  | _, _, [], _ => trivial
  | lo, tk, e :: r, h => by
    simp only [up, Bool.and_eq_true, decide_eq_true_eq] at h
    exact ⟨h.1.1, upE_L e.1 (tk + 3) r h.2⟩
theorem upE_S : ∀ (lo : Int) (tk : Nat) (es : List KS), up lo es = true → upE lo (entsS tk es)
  | _, _, [], _ => trivial
  | lo, tk, e :: r, h => by
    simp only [up, Bool.and_eq_true, decide_eq_true_eq] at h
    exact ⟨h.1.1, upE_S e.1 (tk + 2) r h.2⟩


theorem got2 (hsz : ∀ w, (h0 w).objs.size = sz) (o : Obj) (l r : List Obj) (es : Array DictEntry) (ep : Nat) : ∀ w, (lay (h0 w) (o :: l ++ dob es ep :: r)).get? (sz + (l.length + 1)) = some (dob es ep) := fun w => by
  have := got hsz (o :: l) r es ep w
  rwa [List.length_cons] at this
theorem ev_mergeLoop (hsz : ∀ w, (h0 w).objs.size = sz) (subs : List Obj) (hl : n₀ ≤ sz) (tk : Nat) (sub : List DictEntry) : ∀ (rest done main : List DictEntry) (lo : Int), sub = done ++ rest → IntE rest → Below lo main → upE lo rest → main.length + rest.length < 100000 →
    Ev p n₀ ann h0 (forIn (List.range' done.length rest.length) PUnit.unit fun (i : Nat) (_ : PUnit) => (do
        let es ← dictEntries (sz + (subs.length + 1))
        match es[i]? with
        | some e => do
          holding [e.key, e.val] (do dictPut sz e.hash e.key e.val)
          let ep ← dictEpoch (sz + (subs.length + 1))
          if (ep != sub.length) = true then do
            let _ ← (unsupported "dict.changed-during-merge" : Sem PUnit)
            pure (ForInStep.yield PUnit.unit)
          else do
            pure (ForInStep.yield PUnit.unit)
        | _ => do
          let _ ← (unsupported "dict.changed-during-merge" : Sem PUnit)
          pure (ForInStep.yield PUnit.unit) : Sem (ForInStep PUnit))) c pos (dob main.toArray main.length :: subs ++ [dob sub.toArray sub.length]) tk PUnit.unit pos
      (dob (main ++ rest).toArray (main.length + rest.length) :: subs ++ [dob sub.toArray sub.length]) tk
  | [], done, main, lo, _, _, _, _, _ => by
    simp only [List.length_nil, List.range'_zero, List.forIn_nil, List.append_nil, Nat.add_zero]
    exact ev_pure
  | e :: r, done, main, lo, hsub, hi, hb, hu, hs => by
    obtain ⟨t, ht⟩ := hi e (List.mem_cons_self ..)
    have hlt : lo < e.hash := hu.1
    rw [List.length_cons, List.range'_succ, List.forIn_cons]
    have hmain : ∀ w, (lay (h0 w) (dob main.toArray main.length :: subs ++ [dob sub.toArray sub.length])).get? sz = some (dob main.toArray main.length) := got hsz [] _ _ _
    have hsubg : ∀ (m : List DictEntry), ∀ w, (lay (h0 w) (dob m.toArray m.length :: subs ++ [dob sub.toArray sub.length])).get? (sz + (subs.length + 1)) = some (dob sub.toArray sub.length) := fun m => got2 hsz _ subs [] _ _
    have hix : sub.toArray[done.length]? = some e := by
      rw [hsub]; simp
    have hp : Pushes h0 sz (dob main.toArray main.length :: subs ++ [dob sub.toArray sub.length]) (dob (main ++ [e]).toArray (main ++ [e]).length :: subs ++ [dob sub.toArray sub.length]) ⟨e.hash, .int e.hash t, e.val⟩ := by
      rw [← ht]; exact pushes hsz [] (subs ++ [dob sub.toArray sub.length]) main e
    have key := ev_dictPut (p := p) (n₀ := n₀) (ann := ann) (c := c) (p0 := pos) (t := t) (i := e.hash) (v := e.val) (tk := tk) hmain (fun y hy => by
        have := hb y (by simpa using hy)
        lia) (by simp; simp at hs; lia) (Nat.ble_eq_true_of_le hl) hp
    rw [← ht] at key
    have step : Ev p n₀ ann h0 (do
        let es ← dictEntries (sz + (subs.length + 1))
        match es[done.length]? with
        | some e => do
          holding [e.key, e.val] (do dictPut sz e.hash e.key e.val)
          let ep ← dictEpoch (sz + (subs.length + 1))
          if (ep != sub.length) = true then do
            let _ ← (unsupported "dict.changed-during-merge" : Sem PUnit)
            pure (ForInStep.yield PUnit.unit)
          else do
            pure (ForInStep.yield PUnit.unit)
        | _ => do
          let _ ← (unsupported "dict.changed-during-merge" : Sem PUnit)
          pure (ForInStep.yield PUnit.unit) : Sem (ForInStep PUnit)) c pos (dob main.toArray main.length :: subs ++ [dob sub.toArray sub.length]) tk (ForInStep.yield PUnit.unit) pos
        (dob (main ++ [e]).toArray (main ++ [e]).length :: subs ++ [dob sub.toArray sub.length]) tk := by
      refine ev_bind (ev_dictEntries (hsubg main)) ?_
      rw [hix]
      refine ev_bind (ev_holding key) ?_
      refine ev_bind (ev_dictEpoch (hsubg _)) ?_
      rw [if_neg (by simp)]
      exact ev_pure
    refine ev_bind step ?_
    have ih := ev_mergeLoop hsz subs hl tk sub r (done ++ [e]) (main ++ [e]) e.hash (by rw [hsub]; simp) (fun y hy => hi y (List.mem_cons_of_mem _ hy)) (fun y hy => by
        rcases List.mem_append.mp hy with q | q
        · have := hb y q
          lia
        · simp only [List.mem_singleton] at q; subst q; exact Int.le_refl _) hu.2 (by simp at hs ⊢; lia)
    have e2 : main ++ [e] ++ r = main ++ e :: r := by simp
    have e3 : (main ++ [e]).length + r.length = main.length + (r.length + 1) := by simp; lia
    have e4 : (done ++ [e]).length = done.length + 1 := by simp
    rw [e2, e3, e4] at ih
    exact ih
end
end Mine

end
-- EvM
section
open PySem PySem.W PySem.Calls PyProof.Rows
set_option Elab.async false
set_option maxRecDepth 100000
set_option linter.unusedVariables false
namespace Mine
section
variable {p : Program} {n₀ : Nat} {ann : Option Value} {h0 : World → Heap} {c : Code} {pos p0 : Pos} {sz : Nat} {l : List Obj} {tk : Nat}
theorem sub_dict : isSubtype (.type "dict") (.type "dict") = pure true := by rw [isSubtype_type]; kernel_rfl
theorem iter_dict : typeLookup (.type "dict") (Str.ofString "__iter__") = pure (some (.builtin "dict.__iter__")) := by rw [typeLookup_type, builtinLookup_eq_fast]; kernel_rfl
theorem ev_typeOf_dict {a : Addr} {es : Array DictEntry} {ep : Nat} (h : ∀ w, (lay (h0 w) l).get? a = some (dob es ep)) : Ev p n₀ ann h0 (typeOf (.ref a)) c p0 l tk (.type "dict") p0 l tk :=
  ev_bind (ev_loadPart h) ev_pure
theorem ev_isDict {a : Addr} {es : Array DictEntry} {ep : Nat} (h : ∀ w, (lay (h0 w) l).get? a = some (dob es ep)) : Ev p n₀ ann h0 (isInstance (.ref a) (.type "dict")) c p0 l tk true p0 l tk := by
  unfold isInstance
  refine ev_bind (ev_typeOf_dict h) ?_
  rw [sub_dict]
  exact ev_pure
theorem ev_iterOf {a : Addr} {es : Array DictEntry} {ep : Nat} (h : ∀ w, (lay (h0 w) l).get? a = some (dob es ep)) : Ev p n₀ ann h0 (specialOf (.ref a) (Str.ofString "__iter__")) c p0 l tk (some (.builtin "dict.__iter__")) p0 l tk := by
  unfold specialOf
  refine ev_bind (ev_typeOf_dict h) ?_
  rw [iter_dict]
  exact ev_pure
theorem ev_merge (hsz : ∀ w, (h0 w).objs.size = sz) (subs : List Obj) (hl : n₀ ≤ sz) (hsm : 100 < sz) (tk : Nat) (sub main : List DictEntry) (lo : Int) (hm : main ≠ []) (hi : IntE sub) (hb : Below lo main) (hu : upE lo sub) (hs : main.length + sub.length < 100000) :
    Ev p n₀ ann h0 (mergeMapping sz (.ref (sz + (subs.length + 1))) false) c pos (dob main.toArray main.length :: subs ++ [dob sub.toArray sub.length]) tk () pos
      (dob (main ++ sub).toArray (main.length + sub.length) :: subs ++ [dob sub.toArray sub.length]) tk := by
  have hmain : ∀ w, (lay (h0 w) (dob main.toArray main.length :: subs ++ [dob sub.toArray sub.length])).get? sz = some (dob main.toArray main.length) := got hsz [] _ _ _
  have hsubg : ∀ (m : List DictEntry), ∀ w, (lay (h0 w) (dob m.toArray m.length :: subs ++ [dob sub.toArray sub.length])).get? (sz + (subs.length + 1)) = some (dob sub.toArray sub.length) := fun m => got2 hsz _ subs [] _ _
  unfold mergeMapping
  refine ev_bind (ev_isDict (hsubg main)) ?_
  rw [if_pos rfl]
  refine ev_bind (ev_iterOf (hsubg main)) ?_
  refine ev_bind ev_pure ?_
  show Ev p n₀ ann h0 (if (sz + (subs.length + 1) == sysModules) = true then _ else _) c pos _ _ _ _ _ _
  have h1 : ¬ ((sz + (subs.length + 1) == sysModules) = true) := by
    rw [beq_iff_eq]
    intro e
    have : sysModules = 1 := rfl
    rw [this] at e; lia
  rw [if_neg h1]
  refine ev_bind (ev_dictEntries hmain) ?_
  have h2 : ¬ (main.toArray.isEmpty = true) := by simpa using hm
  rw [if_neg h2]
  refine ev_bind (ev_dictEntries (hsubg main)) ?_
  refine ev_bind (ev_dictEpoch (hsubg main)) ?_
  have key := ev_mergeLoop (p := p) (ann := ann) (c := c) (pos := pos) hsz subs hl tk sub sub [] main lo rfl hi hb hu hs
  have e : List.range sub.toArray.size = List.range' ([] : List DictEntry).length sub.length := by
    rw [List.range_eq_range']; simp
  rw [e]
  exact ev_bind key ev_pure
end
end Mine

end
-- EvX
section
open PySem PySem.W PySem.Calls PyProof.Rows
set_option Elab.async false
set_option maxRecDepth 100000
set_option linter.unusedVariables false
namespace Mine
section
variable {p : Program} {n₀ : Nat} {ann : Option Value} {h0 : World → Heap} {c : Code} {pos p0 : Pos} {sz : Nat}
noncomputable abbrev St := Option Addr × List (Sem Value × Sem Value)
noncomputable abbrev itm (pos : Pos) (e : KS) : Option (Sem Value) × Sem Value := (some (mkp pos e).1, (mkp pos e).2)
theorem forIn_gath (f : (Option (Sem Value) × Sem Value) → St → Sem (ForInStep St))
    (hf : ∀ (e : KS) (m : Option Addr) (run : List (Sem Value × Sem Value)), run.length + 1 < 17 → f (itm pos e) (m, run) = pure (.yield (m, run ++ [mkp pos e]))) :
    ∀ (es : List KS) (m : Option Addr) (run : List (Sem Value × Sem Value)) (rest : List (Option (Sem Value) × Sem Value)), run.length + es.length < 17 →
      forIn (es.map (itm pos) ++ rest) (m, run) f = forIn rest (m, run ++ es.map (mkp pos)) f
  | [], m, run, rest, _ => by simp
  | e :: r, m, run, rest, h => by
    rw [List.map_cons, List.cons_append, List.forIn_cons, hf e m run (by simp at h; lia), pure_bind]
    have := forIn_gath f hf r m (run ++ [mkp pos e]) rest (by simp at h ⊢; lia)
    simpa using this

noncomputable def flushD (run : List (Sem Value × Sem Value)) (main : Option Addr) : Sem (Option Addr) :=
  if run.isEmpty = true then pure main
  else match main with
    | none => do
      let d ← subDict run
      pure (some d)
    | some d => do
      let sub ← holding [Value.ref d] (subDict run)
      (holding [Value.ref d, Value.ref sub] (mergeMapping d (Value.ref sub) false)).onRaise fun x => do
        let _ ← holding [Value.ref d, x] (runValue (Code.builtin "proto.let_go" { }))
        pure ()
      pure (some d)
theorem disp_eq (items : List (Option (Sem Value) × Sem Value)) : ∃ f : (Option (Sem Value) × Sem Value) → St → Sem (ForInStep St),
    (∀ (pos : Pos) (e : KS) (m : Option Addr) (run : List (Sem Value × Sem Value)), run.length + 1 < 17 → f (itm pos e) (m, run) = pure (.yield (m, run ++ [mkp pos e]))) ∧
    (∀ (pos : Pos) (e : KS) (m : Option Addr) (run : List (Sem Value × Sem Value)), run.length + 1 = 17 → f (itm pos e) (m, run) = (flushD (run ++ [mkp pos e]) m >>= fun m' => pure (.yield (m', [])))) ∧
    dictDisplay items = (forIn items ((none : Option Addr), ([] : List (Sem Value × Sem Value))) f >>= fun st => flushD st.2 st.1 >>= fun r => match r with | some d => pure (Value.ref d) | none => newDict) := by
  refine ⟨_, ?_, ?_, rfl⟩
  · intro pos e m run h
    have hne : ¬ (((run ++ [mkp pos e]).length == 17) = true) := by simp; lia
    dsimp only
    exact if_neg hne
  · intro pos e m run h
    have hne : ((run ++ [mkp pos e]).length == 17) = true := by simp; lia
    dsimp only
    exact if_pos hne

/-- what stands behind the runs -/
noncomputable def runE (tk : Nat) (ch : List KS) : List DictEntry := if ch.length ≤ 15 then entsS tk ch else entsL tk ch
theorem runE_length (tk : Nat) (ch : List KS) : (runE tk ch).length = ch.length := by unfold runE; split <;> simp [entsS_length, entsL_length]
theorem runE_int (tk : Nat) (ch : List KS) : IntE (runE tk ch) := by unfold runE; split; exact intE_S tk ch; exact intE_L tk ch
theorem runE_up {lo : Int} (tk : Nat) {ch : List KS} (h : up lo ch = true) : upE lo (runE tk ch) := by unfold runE; split; exact upE_S lo tk ch h; exact upE_L lo tk ch h
theorem up_weak {lo lo' : Int} (hl : lo' ≤ lo) : ∀ {es : List KS}, up lo es = true → up lo' es = true
  | [], _ => rfl
  | e :: r, h => by
    simp only [up, Bool.and_eq_true, decide_eq_true_eq] at h ⊢
    exact ⟨⟨by lia, h.1.2⟩, h.2⟩
theorem ev_sub (hsz : ∀ w, (h0 w).objs.size = sz) (l : List Obj) (hl : n₀ ≤ sz + l.length) (es : List KS) (tk : Nat) (hu : up 0 es = true) (hs : es.length < 100000) :
    Ev p n₀ ann h0 (subDict (es.map (mkp pos))) c pos l tk (sz + l.length) pos (l ++ [dob (runE tk es).toArray es.length]) (tk + 3 * es.length) := by
  unfold runE
  split
  · exact ev_subShort hsz l hl es tk (by assumption) hu
  · exact ev_subLong hsz l hl es tk (by lia) hu hs
theorem below_append {lo : Int} {a b : List DictEntry} (h1 : Below lo a) (h2 : Below lo b) : Below lo (a ++ b) := fun e he => by
  rcases List.mem_append.mp he with q | q
  · exact h1 e q
  · exact h2 e q
theorem below_run : ∀ {lo : Int} (E : List DictEntry), upE lo E → ∀ hi, (∀ e ∈ E, e.hash ≤ hi) → Below hi E := fun E _ hi h => h

/-- the first run -/
theorem ev_flush0 (hsz : ∀ w, (h0 w).objs.size = sz) (hl : n₀ ≤ sz) (es : List KS) (tk : Nat) (he : es ≠ []) (hu : up 0 es = true) (hs : es.length < 100000) :
    Ev p n₀ ann h0 (flushD (es.map (mkp pos)) none) c pos [] tk (some sz) pos [dob (runE tk es).toArray (runE tk es).length] (tk + 3 * es.length) := by
  unfold flushD
  have h1 : ¬ ((es.map (mkp pos)).isEmpty = true) := by simpa using he
  rw [if_neg h1]
  rw [runE_length]
  exact ev_bind (ev_sub hsz [] hl es tk hu hs) ev_pure
/-- a further run -/
theorem ev_flush1 (hsz : ∀ w, (h0 w).objs.size = sz) (subs : List Obj) (hl : n₀ ≤ sz) (hsm : 100 < sz) (tk : Nat) (main : List DictEntry) (lo : Int) (es : List KS) (he : es ≠ []) (hm : main ≠ []) (h0l : 0 ≤ lo) (hb : Below lo main) (hu : up lo es = true) (hs : main.length + es.length < 100000) :
    Ev p n₀ ann h0 (flushD (es.map (mkp pos)) (some sz)) c pos (dob main.toArray main.length :: subs) tk (some sz) pos
      (dob (main ++ runE tk es).toArray (main ++ runE tk es).length :: (subs ++ [dob (runE tk es).toArray (runE tk es).length])) (tk + 3 * es.length) := by
  unfold flushD
  have h1 : ¬ ((es.map (mkp pos)).isEmpty = true) := by simpa using he
  rw [if_neg h1]
  have a := ev_sub (p := p) (n₀ := n₀) (ann := ann) (c := c) (pos := pos) hsz (dob main.toArray main.length :: subs) (by lia) es tk (up_weak h0l hu) (by lia)
  have b := ev_merge (p := p) (n₀ := n₀) (ann := ann) (c := c) (pos := pos) hsz subs hl hsm (tk + 3 * es.length) (runE tk es) main lo hm (runE_int tk es) hb (runE_up tk hu) (by rw [runE_length]; lia)
  refine ev_bind (ev_holding a) ?_
  rw [runE_length] at b
  have b' := ev_onRaise (k := fun x => do
        let _ ← holding [Value.ref sz, x] (runValue (Code.builtin "proto.let_go" { }))
        pure ()) (ev_holding (vs := [Value.ref sz, Value.ref (sz + (subs.length + 1))]) b)
  rw [List.length_append, runE_length]
  exact ev_bind b' ev_pure
end
end Mine

end
-- EvY
section
open PySem PySem.W PySem.Calls PyProof.Rows
set_option Elab.async false
set_option maxRecDepth 100000
set_option linter.unusedVariables false
namespace Mine
section
variable {p : Program} {n₀ : Nat} {ann : Option Value} {h0 : World → Heap} {c : Code} {pos p0 : Pos} {sz : Nat}
theorem up_append : ∀ {lo : Int} {a b : List KS}, up lo (a ++ b) = true → up lo a = true ∧ up (lastKey lo a) b = true ∧ lo ≤ lastKey lo a
  | lo, [], b, h => ⟨rfl, h, Int.le_refl _⟩
  | lo, e :: r, b, h => by
    simp only [List.cons_append, up, Bool.and_eq_true, decide_eq_true_eq] at h
    obtain ⟨x, y, z⟩ := up_append h.2
    refine ⟨?_, y, ?_⟩
    · simp only [up, Bool.and_eq_true, decide_eq_true_eq]; exact ⟨h.1, x⟩
    · show lo ≤ lastKey e.1 r
      lia
theorem runs_below : ∀ {lo : Int} {es : List KS}, up lo es = true → ∀ k ∈ es, k.1 ≤ lastKey lo es
  | lo, e :: r, h, k, hk => by
    simp only [up, Bool.and_eq_true, decide_eq_true_eq] at h
    have l := (up_append (a := r) (b := []) (lo := e.1) (by simpa using h.2)).2.2
    rcases List.mem_cons.mp hk with q | q
    · subst q; exact l
    · exact runs_below h.2 k q
theorem entsL_hash (tk : Nat) (es : List KS) : ∀ e ∈ entsL tk es, ∃ k ∈ es, e.hash = k.1 := by
  induction es generalizing tk with
  | nil => intro e he; cases he
  | cons k r ih =>
    intro e he
    rcases List.mem_cons.mp he with q | q
    · subst q; exact ⟨k, List.mem_cons_self .., rfl⟩
    · obtain ⟨k', h1, h2⟩ := ih (tk + 3) e q
      exact ⟨k', List.mem_cons_of_mem _ h1, h2⟩
theorem entsS_hash (tk : Nat) (es : List KS) : ∀ e ∈ entsS tk es, ∃ k ∈ es, e.hash = k.1 := by
  induction es generalizing tk with
  | nil => intro e he; cases he
  | cons k r ih =>
    intro e he
    rcases List.mem_cons.mp he with q | q
    · subst q; exact ⟨k, List.mem_cons_self .., rfl⟩
    · obtain ⟨k', h1, h2⟩ := ih (tk + 2) e q
      exact ⟨k', List.mem_cons_of_mem _ h1, h2⟩
theorem runE_hash (tk : Nat) (es : List KS) : ∀ e ∈ runE tk es, ∃ k ∈ es, e.hash = k.1 := by unfold runE; split; exact entsS_hash tk es; exact entsL_hash tk es
theorem runE_below {lo : Int} (tk : Nat) {es : List KS} (h : up lo es = true) : Below (lastKey lo es) (runE tk es) := fun e he => by
  obtain ⟨k, hk, e'⟩ := runE_hash tk es e he
  rw [e']; exact runs_below h k hk
theorem Below.weak {lo hi : Int} (h : lo ≤ hi) {es : List DictEntry} (b : Below lo es) : Below hi es := fun e he => by have := b e he; lia

theorem lastKey_append : ∀ (lo : Int) (a b : List KS), lastKey lo (a ++ b) = lastKey (lastKey lo a) b
  | _, [], _ => rfl
  | _, e :: r, b => lastKey_append e.1 r b
noncomputable def mainOf : Nat → List (List KS) → List DictEntry
  | _, [] => []
  | tk, ch :: r => runE tk ch ++ mainOf (tk + 3 * ch.length) r
noncomputable def subsOf : Nat → List (List KS) → List Obj
  | _, [] => []
  | tk, ch :: r => dob (runE tk ch).toArray (runE tk ch).length :: subsOf (tk + 3 * ch.length) r
noncomputable def toksOf : Nat → List (List KS) → Nat
  | tk, [] => tk
  | tk, ch :: r => toksOf (tk + 3 * ch.length) r

theorem mainOf_append : ∀ (tk : Nat) (a b : List (List KS)), mainOf tk (a ++ b) = mainOf tk a ++ mainOf (toksOf tk a) b
  | _, [], _ => rfl
  | tk, ch :: r, b => by rw [List.cons_append, mainOf, mainOf_append (tk + 3 * ch.length) r b, mainOf, toksOf, List.append_assoc]
theorem subsOf_append : ∀ (tk : Nat) (a b : List (List KS)), subsOf tk (a ++ b) = subsOf tk a ++ subsOf (toksOf tk a) b
  | _, [], _ => rfl
  | tk, ch :: r, b => by rw [List.cons_append, subsOf, subsOf_append (tk + 3 * ch.length) r b, subsOf, toksOf, List.cons_append]
theorem toksOf_append : ∀ (tk : Nat) (a b : List (List KS)), toksOf tk (a ++ b) = toksOf (toksOf tk a) b
  | _, [], _ => rfl
  | tk, ch :: r, b => by rw [List.cons_append, toksOf, toksOf_append (tk + 3 * ch.length) r b, toksOf]
theorem mainOf_length : ∀ (tk : Nat) (a : List (List KS)), (mainOf tk a).length = a.flatten.length
  | _, [] => rfl
  | tk, ch :: r => by rw [mainOf, List.length_append, runE_length, mainOf_length (tk + 3 * ch.length) r, List.flatten_cons, List.length_append]
theorem mainOf_below : ∀ (tk : Nat) (a : List (List KS)) {lo : Int}, up lo a.flatten = true → Below (lastKey lo a.flatten) (mainOf tk a)
  | _, [], _, _ => fun e he => by cases he
  | tk, ch :: r, lo, h => by
    rw [List.flatten_cons] at h ⊢
    obtain ⟨u1, u2, u3⟩ := up_append h
    have hk : lastKey lo (ch ++ r.flatten) = lastKey (lastKey lo ch) r.flatten := lastKey_append lo ch r.flatten
    have l := (up_append (a := r.flatten) (b := []) (by simpa using u2)).2.2
    rw [hk, mainOf]
    exact below_append ((runE_below tk u1).weak l) (mainOf_below _ r u2)
theorem forIn_run (f : (Option (Sem Value) × Sem Value) → St → Sem (ForInStep St))
    (h1 : ∀ (e : KS) (m : Option Addr) (run : List (Sem Value × Sem Value)), run.length + 1 < 17 → f (itm pos e) (m, run) = pure (.yield (m, run ++ [mkp pos e])))
    (h2 : ∀ (e : KS) (m : Option Addr) (run : List (Sem Value × Sem Value)), run.length + 1 = 17 → f (itm pos e) (m, run) = (flushD (run ++ [mkp pos e]) m >>= fun m' => pure (.yield (m', []))))
    (ch : List KS) (hc : ch.length = 17) (m : Option Addr) (rest : List (Option (Sem Value) × Sem Value)) :
    forIn (ch.map (itm pos) ++ rest) (m, ([] : List (Sem Value × Sem Value))) f = (flushD (ch.map (mkp pos)) m >>= fun m' => forIn rest (m', ([] : List (Sem Value × Sem Value))) f) := by
  have hne : ch ≠ [] := by intro e; rw [e] at hc; cases hc
  have hsplit := List.dropLast_concat_getLast hne
  have hl : ch.dropLast.length = 16 := by rw [List.length_dropLast, hc]
  rw [← hsplit, List.map_append, List.append_assoc, forIn_gath f h1 ch.dropLast m [] _ (by simp [hl])]
  rw [List.nil_append, List.map_cons, List.map_nil, List.cons_append, List.nil_append, List.forIn_cons, h2 _ _ _ (by rw [List.length_map, hl]), bind_assoc]
  rw [List.map_append]
  simp only [List.map_cons, List.map_nil, pure_bind]

theorem ev_chunks (hsz : ∀ w, (h0 w).objs.size = sz) (hl : n₀ ≤ sz) (hsm : 100 < sz) (f : (Option (Sem Value) × Sem Value) → St → Sem (ForInStep St))
    (h1 : ∀ (e : KS) (m : Option Addr) (run : List (Sem Value × Sem Value)), run.length + 1 < 17 → f (itm pos e) (m, run) = pure (.yield (m, run ++ [mkp pos e])))
    (h2 : ∀ (e : KS) (m : Option Addr) (run : List (Sem Value × Sem Value)), run.length + 1 = 17 → f (itm pos e) (m, run) = (flushD (run ++ [mkp pos e]) m >>= fun m' => pure (.yield (m', []))))
    (last : List KS) (hlast : last.length < 17) : ∀ (chs : List (List KS)) (main : List DictEntry) (subs : List Obj) (lo : Int) (tk : Nat), (∀ ch ∈ chs, ch.length = 17) → main ≠ [] → 0 ≤ lo → Below lo main → up lo (chs.flatten ++ last) = true → main.length + chs.flatten.length < 90000 →
    Ev p n₀ ann h0 (forIn ((chs.flatten ++ last).map (itm pos)) (some sz, ([] : List (Sem Value × Sem Value))) f) c pos (dob main.toArray main.length :: subs) tk (some sz, last.map (mkp pos)) pos
      (dob (main ++ mainOf tk chs).toArray (main ++ mainOf tk chs).length :: (subs ++ subsOf tk chs)) (toksOf tk chs)
  | [], main, subs, lo, tk, _, _, _, _, _, _ => by
    have e : forIn ((([] : List (List KS)).flatten ++ last).map (itm pos)) (some sz, ([] : List (Sem Value × Sem Value))) f = pure (some sz, last.map (mkp pos)) := by
      have := forIn_gath f h1 last (some sz) [] [] (by simpa using hlast)
      simpa using this
    rw [e]
    simp only [mainOf, subsOf, toksOf, List.append_nil]
    exact ev_pure
  | ch :: r, main, subs, lo, tk, hch, hm, h00, hb, hu, hs => by
    have e : ((ch :: r).flatten ++ last).map (itm pos) = ch.map (itm pos) ++ (r.flatten ++ last).map (itm pos) := by simp
    have hc := hch ch (List.mem_cons_self ..)
    rw [e, forIn_run f h1 h2 ch hc]
    have hu' : up lo (ch ++ (r.flatten ++ last)) = true := by simpa using hu
    obtain ⟨u1, u2, u3⟩ := up_append hu'
    have hs' : main.length + (ch.length + r.flatten.length) < 90000 := by simpa using hs
    refine ev_bind (ev_flush1 hsz subs hl hsm tk main lo ch (by intro e; rw [e] at hc; cases hc) hm h00 hb u1 (by lia)) ?_
    have ih := ev_chunks hsz hl hsm f h1 h2 last hlast r (main ++ runE tk ch) (subs ++ [dob (runE tk ch).toArray (runE tk ch).length]) (lastKey lo ch) (tk + 3 * ch.length)
      (fun x hx => hch x (List.mem_cons_of_mem _ hx)) (by simp [hm]) (by lia) (below_append (hb.weak u3) (runE_below tk u1)) u2 (by rw [List.length_append, runE_length]; lia)
    simp only [mainOf, subsOf, toksOf]
    simpa [List.append_assoc] using ih
/-- the whole display -/
theorem ev_display (hsz : ∀ w, (h0 w).objs.size = sz) (hl : n₀ ≤ sz) (hsm : 100 < sz) (tk : Nat) (ch : List KS) (chs : List (List KS)) (last : List KS) (hc : ch.length = 17) (hch : ∀ x ∈ chs, x.length = 17) (hlast : last.length < 17) (hne : last ≠ [])
    (hu : up 0 (ch ++ (chs.flatten ++ last)) = true) (hs : ch.length + chs.flatten.length < 80000) :
    Ev p n₀ ann h0 (dictDisplay ((ch ++ (chs.flatten ++ last)).map (itm pos))) c pos [] tk (.ref sz) pos
      (dob (mainOf tk (ch :: chs ++ [last])).toArray (mainOf tk (ch :: chs ++ [last])).length :: subsOf (tk + 51) (chs ++ [last])) (toksOf tk (ch :: chs ++ [last])) := by
  obtain ⟨f, h1, h2, e⟩ := disp_eq ((ch ++ (chs.flatten ++ last)).map (itm pos))
  rw [e, List.map_append, forIn_run f (h1 pos) (h2 pos) ch hc]
  obtain ⟨u1, u2, u3⟩ := up_append hu
  have hchne : ch ≠ [] := by intro e; rw [e] at hc; cases hc
  refine ev_bind (ev_bind (ev_flush0 hsz hl ch tk hchne u1 (by lia)) (ev_chunks hsz hl hsm f (h1 pos) (h2 pos) last hlast chs (runE tk ch) [] (lastKey 0 ch) (tk + 3 * ch.length) hch (by
    intro q; have := runE_length tk ch; rw [q, hc] at this; cases this) (by lia) (runE_below tk u1) u2 (by rw [runE_length]; lia))) ?_
  obtain ⟨v1, v2, v3⟩ := up_append u2
  have hb : Below (lastKey (lastKey 0 ch) chs.flatten) (runE tk ch ++ mainOf (tk + 3 * ch.length) chs) :=
    below_append ((runE_below tk u1).weak v3) (mainOf_below _ chs v1)
  have key := ev_flush1 (p := p) (n₀ := n₀) (ann := ann) (c := c) (pos := pos) hsz ([] ++ subsOf (tk + 3 * ch.length) chs) hl hsm (toksOf (tk + 3 * ch.length) chs) (runE tk ch ++ mainOf (tk + 3 * ch.length) chs) (lastKey (lastKey 0 ch) chs.flatten) last hne
    (by intro q; have := congrArg List.length q; rw [List.length_append, runE_length, hc] at this; simp at this) (by lia) hb v2 (by rw [List.length_append, runE_length, mainOf_length]; lia)
  refine ev_bind key ?_
  have e1 : mainOf tk (ch :: chs ++ [last]) = runE tk ch ++ mainOf (tk + 3 * ch.length) chs ++ runE (toksOf (tk + 3 * ch.length) chs) last := by
    rw [List.cons_append, mainOf, mainOf_append, List.append_assoc]
    simp only [mainOf, List.append_nil]
  have e2 : subsOf (tk + 51) (chs ++ [last]) = ([] ++ subsOf (tk + 3 * ch.length) chs) ++ [dob (runE (toksOf (tk + 3 * ch.length) chs) last).toArray (runE (toksOf (tk + 3 * ch.length) chs) last).length] := by
    rw [hc, subsOf_append]; rfl
  have e3 : toksOf tk (ch :: chs ++ [last]) = toksOf (tk + 3 * ch.length) chs + 3 * last.length := by
    rw [List.cons_append, toksOf, toksOf_append]; rfl
  rw [e1, e2, e3]
  exact ev_pure
end
end Mine

end
-- Head0
section
open PySem PySem.W PySem.Calls PyProof.Rows
set_option Elab.async false
set_option maxRecDepth 100000
set_option linter.unusedVariables false
namespace Mine
noncomputable section
noncomputable abbrev pw : Program := PySem.Challenge.pw_uc0065_01
noncomputable abbrev z (s : String) : Str := Str.ofString s
noncomputable abbrev bodyOf {p : Program} {i : Nat} {n : Str} {a : Arguments} {b : List Stmt} {d : List Expr} {r : Option Expr} {tp : List TypeParam} {sc : Scope} {ts : Option Scope} {bd : Str} {po : Pos} (_h : p.main.body[i]? = some (.FunctionDef n a b d r tp sc ts bd po)) : List Stmt := b
noncomputable abbrev paramsOf {p : Program} {i : Nat} {n : Str} {a : Arguments} {b : List Stmt} {d : List Expr} {r : Option Expr} {tp : List TypeParam} {sc : Scope} {ts : Option Scope} {bd : Str} {po : Pos} (_h : p.main.body[i]? = some (.FunctionDef n a b d r tp sc ts bd po)) : Arguments := a
noncomputable abbrev scopeOf {p : Program} {i : Nat} {n : Str} {a : Arguments} {b : List Stmt} {d : List Expr} {r : Option Expr} {tp : List TypeParam} {sc : Scope} {ts : Option Scope} {bd : Str} {po : Pos} (_h : p.main.body[i]? = some (.FunctionDef n a b d r tp sc ts bd po)) : Scope := sc
noncomputable abbrev mbodyOf {p : Program} {i j : Nat} {cn : Str} {bs : List Expr} {ks : List Keyword} {cb : List Stmt} {ds : List Expr} {tps : List TypeParam} {csc : Scope} {cts : Option Scope} {cbd : Str} {csa : List Str} {cpo : Pos} {n : Str} {a : Arguments} {b : List Stmt} {d : List Expr} {r : Option Expr} {tp : List TypeParam} {sc : Scope} {ts : Option Scope} {bd : Str} {po : Pos} (_hc : p.main.body[i]? = some (.ClassDef cn bs ks cb ds tps csc cts cbd csa cpo)) (_h : cb[j]? = some (.FunctionDef n a b d r tp sc ts bd po)) : List Stmt := b
noncomputable abbrev mparamsOf {p : Program} {i j : Nat} {cn : Str} {bs : List Expr} {ks : List Keyword} {cb : List Stmt} {ds : List Expr} {tps : List TypeParam} {csc : Scope} {cts : Option Scope} {cbd : Str} {csa : List Str} {cpo : Pos} {n : Str} {a : Arguments} {b : List Stmt} {d : List Expr} {r : Option Expr} {tp : List TypeParam} {sc : Scope} {ts : Option Scope} {bd : Str} {po : Pos} (_hc : p.main.body[i]? = some (.ClassDef cn bs ks cb ds tps csc cts cbd csa cpo)) (_h : cb[j]? = some (.FunctionDef n a b d r tp sc ts bd po)) : Arguments := a
noncomputable abbrev mscopeOf {p : Program} {i j : Nat} {cn : Str} {bs : List Expr} {ks : List Keyword} {cb : List Stmt} {ds : List Expr} {tps : List TypeParam} {csc : Scope} {cts : Option Scope} {cbd : Str} {csa : List Str} {cpo : Pos} {n : Str} {a : Arguments} {b : List Stmt} {d : List Expr} {r : Option Expr} {tp : List TypeParam} {sc : Scope} {ts : Option Scope} {bd : Str} {po : Pos} (_hc : p.main.body[i]? = some (.ClassDef cn bs ks cb ds tps csc cts cbd csa cpo)) (_h : cb[j]? = some (.FunctionDef n a b d r tp sc ts bd po)) : Scope := sc
/-! the table b3, decoded -/
noncomputable def conE : Expr → Option Const
  | .Constant c _ _ => some c
  | _ => none
noncomputable def dec1 (k : Option Expr) (v : Expr) : Option KS := k.bind fun e => (conE e).bind fun c => (conE v).bind fun d => match c with
  | .int i => (match d with
    | .str x => some (i, x)
    | _ => none)
  | _ => none
noncomputable def decK (ks : List (Option Expr)) (vs : List Expr) : List KS := (ks.zip vs).filterMap fun p => dec1 p.1 p.2
noncomputable def okK (ks : List (Option Expr)) (vs : List Expr) : Bool := ks.length == vs.length && (ks.zip vs).all fun p => (dec1 p.1 p.2).isSome
noncomputable def asgAt3 (l : List Stmt) (i : Nat) : List Expr × Expr × Pos := match l[i]? with
  | some (.Assign ts e ap) => (ts, e, ap)
  | _ => ([], .Constant .none 0 ⟨0, 0, 0, 0⟩, ⟨0, 0, 0, 0⟩)
noncomputable def dicOf3 : Expr → List (Option Expr) × List Expr × Pos
  | .Dict ks vs dp => (ks, vs, dp)
  | _ => ([], [], ⟨0, 0, 0, 0⟩)
noncomputable def b3a : List Expr × Expr × Pos := asgAt3 pw.main.body 16
noncomputable def b3d : List (Option Expr) × List Expr × Pos := dicOf3 b3a.2.1
noncomputable def b3ks : List (Option Expr) := b3d.1
noncomputable def b3vs : List Expr := b3d.2.1
noncomputable def b3dp : Pos := b3d.2.2
noncomputable def b3ap : Pos := b3a.2.2
noncomputable def b3tg : List Expr := b3a.1
noncomputable def b3 : List KS := decK b3ks b3vs
noncomputable def chunk (i : Nat) : List KS := (b3.drop (17 * i)).take 17
noncomputable def chunks : List (List KS) := (List.range 39).map chunk
noncomputable def b3main : Obj := dob (mainOf 379 chunks).toArray (mainOf 379 chunks).length
noncomputable def b3sub (i : Nat) : Obj := dob (runE (379 + 51 * i) (chunk i)).toArray (runE (379 + 51 * i) (chunk i)).length
-- FUNCTIONS
noncomputable abbrev fp0 : Arguments := paramsOf (p := pw) (i := 0) rfl
noncomputable abbrev fb0 : List Stmt := bodyOf (p := pw) (i := 0) rfl
noncomputable abbrev fs0 : Scope := scopeOf (p := pw) (i := 0) rfl
noncomputable abbrev fp1 : Arguments := paramsOf (p := pw) (i := 2) rfl
noncomputable abbrev fb1 : List Stmt := bodyOf (p := pw) (i := 2) rfl
noncomputable abbrev fs1 : Scope := scopeOf (p := pw) (i := 2) rfl
noncomputable abbrev fp2 : Arguments := paramsOf (p := pw) (i := 3) rfl
noncomputable abbrev fb2 : List Stmt := bodyOf (p := pw) (i := 3) rfl
noncomputable abbrev fs2 : Scope := scopeOf (p := pw) (i := 3) rfl
noncomputable abbrev fp3 : Arguments := paramsOf (p := pw) (i := 4) rfl
noncomputable abbrev fb3 : List Stmt := bodyOf (p := pw) (i := 4) rfl
noncomputable abbrev fs3 : Scope := scopeOf (p := pw) (i := 4) rfl
noncomputable abbrev fp4 : Arguments := paramsOf (p := pw) (i := 7) rfl
noncomputable abbrev fb4 : List Stmt := bodyOf (p := pw) (i := 7) rfl
noncomputable abbrev fs4 : Scope := scopeOf (p := pw) (i := 7) rfl
noncomputable abbrev fp5 : Arguments := paramsOf (p := pw) (i := 8) rfl
noncomputable abbrev fb5 : List Stmt := bodyOf (p := pw) (i := 8) rfl
noncomputable abbrev fs5 : Scope := scopeOf (p := pw) (i := 8) rfl
noncomputable abbrev fp6 : Arguments := paramsOf (p := pw) (i := 9) rfl
noncomputable abbrev fb6 : List Stmt := bodyOf (p := pw) (i := 9) rfl
noncomputable abbrev fs6 : Scope := scopeOf (p := pw) (i := 9) rfl
noncomputable abbrev fp7 : Arguments := paramsOf (p := pw) (i := 10) rfl
noncomputable abbrev fb7 : List Stmt := bodyOf (p := pw) (i := 10) rfl
noncomputable abbrev fs7 : Scope := scopeOf (p := pw) (i := 10) rfl
noncomputable abbrev fp8 : Arguments := paramsOf (p := pw) (i := 11) rfl
noncomputable abbrev fb8 : List Stmt := bodyOf (p := pw) (i := 11) rfl
noncomputable abbrev fs8 : Scope := scopeOf (p := pw) (i := 11) rfl
noncomputable abbrev fp9 : Arguments := paramsOf (p := pw) (i := 12) rfl
noncomputable abbrev fb9 : List Stmt := bodyOf (p := pw) (i := 12) rfl
noncomputable abbrev fs9 : Scope := scopeOf (p := pw) (i := 12) rfl
noncomputable abbrev fp10 : Arguments := paramsOf (p := pw) (i := 15) rfl
noncomputable abbrev fb10 : List Stmt := bodyOf (p := pw) (i := 15) rfl
noncomputable abbrev fs10 : Scope := scopeOf (p := pw) (i := 15) rfl
noncomputable abbrev fp11 : Arguments := paramsOf (p := pw) (i := 17) rfl
noncomputable abbrev fb11 : List Stmt := bodyOf (p := pw) (i := 17) rfl
noncomputable abbrev fs11 : Scope := scopeOf (p := pw) (i := 17) rfl
noncomputable abbrev fp12 : Arguments := mparamsOf (p := pw) (i := 19) (j := 1) rfl rfl
noncomputable abbrev fb12 : List Stmt := mbodyOf (p := pw) (i := 19) (j := 1) rfl rfl
noncomputable abbrev fs12 : Scope := mscopeOf (p := pw) (i := 19) (j := 1) rfl rfl
noncomputable abbrev fp13 : Arguments := mparamsOf (p := pw) (i := 19) (j := 2) rfl rfl
noncomputable abbrev fb13 : List Stmt := mbodyOf (p := pw) (i := 19) (j := 2) rfl rfl
noncomputable abbrev fs13 : Scope := mscopeOf (p := pw) (i := 19) (j := 2) rfl rfl
noncomputable abbrev fp14 : Arguments := mparamsOf (p := pw) (i := 19) (j := 3) rfl rfl
noncomputable abbrev fb14 : List Stmt := mbodyOf (p := pw) (i := 19) (j := 3) rfl rfl
noncomputable abbrev fs14 : Scope := mscopeOf (p := pw) (i := 19) (j := 3) rfl rfl
noncomputable abbrev fp15 : Arguments := mparamsOf (p := pw) (i := 19) (j := 4) rfl rfl
noncomputable abbrev fb15 : List Stmt := mbodyOf (p := pw) (i := 19) (j := 4) rfl rfl
noncomputable abbrev fs15 : Scope := mscopeOf (p := pw) (i := 19) (j := 4) rfl rfl
noncomputable abbrev fp16 : Arguments := mparamsOf (p := pw) (i := 19) (j := 5) rfl rfl
noncomputable abbrev fb16 : List Stmt := mbodyOf (p := pw) (i := 19) (j := 5) rfl rfl
noncomputable abbrev fs16 : Scope := mscopeOf (p := pw) (i := 19) (j := 5) rfl rfl
noncomputable abbrev fp17 : Arguments := mparamsOf (p := pw) (i := 19) (j := 6) rfl rfl
noncomputable abbrev fb17 : List Stmt := mbodyOf (p := pw) (i := 19) (j := 6) rfl rfl
noncomputable abbrev fs17 : Scope := mscopeOf (p := pw) (i := 19) (j := 6) rfl rfl
noncomputable abbrev fp18 : Arguments := mparamsOf (p := pw) (i := 19) (j := 7) rfl rfl
noncomputable abbrev fb18 : List Stmt := mbodyOf (p := pw) (i := 19) (j := 7) rfl rfl
noncomputable abbrev fs18 : Scope := mscopeOf (p := pw) (i := 19) (j := 7) rfl rfl
noncomputable abbrev fp19 : Arguments := paramsOf (p := pw) (i := 21) rfl
noncomputable abbrev fb19 : List Stmt := bodyOf (p := pw) (i := 21) rfl
noncomputable abbrev fs19 : Scope := scopeOf (p := pw) (i := 21) rfl
noncomputable abbrev fp20 : Arguments := paramsOf (p := pw) (i := 22) rfl
noncomputable abbrev fb20 : List Stmt := bodyOf (p := pw) (i := 22) rfl
noncomputable abbrev fs20 : Scope := scopeOf (p := pw) (i := 22) rfl
noncomputable abbrev fp21 : Arguments := paramsOf (p := pw) (i := 23) rfl
noncomputable abbrev fb21 : List Stmt := bodyOf (p := pw) (i := 23) rfl
noncomputable abbrev fs21 : Scope := scopeOf (p := pw) (i := 23) rfl
noncomputable abbrev fp22 : Arguments := paramsOf (p := pw) (i := 24) rfl
noncomputable abbrev fb22 : List Stmt := bodyOf (p := pw) (i := 24) rfl
noncomputable abbrev fs22 : Scope := scopeOf (p := pw) (i := 24) rfl
noncomputable abbrev fp23 : Arguments := paramsOf (p := pw) (i := 25) rfl
noncomputable abbrev fb23 : List Stmt := bodyOf (p := pw) (i := 25) rfl
noncomputable abbrev fs23 : Scope := scopeOf (p := pw) (i := 25) rfl
noncomputable abbrev fp24 : Arguments := paramsOf (p := pw) (i := 26) rfl
noncomputable abbrev fb24 : List Stmt := bodyOf (p := pw) (i := 26) rfl
noncomputable abbrev fs24 : Scope := scopeOf (p := pw) (i := 26) rfl
noncomputable abbrev fp25 : Arguments := paramsOf (p := pw) (i := 27) rfl
noncomputable abbrev fb25 : List Stmt := bodyOf (p := pw) (i := 27) rfl
noncomputable abbrev fs25 : Scope := scopeOf (p := pw) (i := 27) rfl
-- STATE b
noncomputable def o11 (P : Params) : Obj := ⟨(.type "tuple"), .none, (.seq #[] 0), #[]⟩
noncomputable def o12 (P : Params) : Obj := ⟨.none, .none, (.fields #[]), #[]⟩
noncomputable def o13 (P : Params) : Obj := ⟨(.type "code"), .none, (.fields #[(.str (z "<module>") 182), (.str (z "<module>") 183), (.str (z "/claim/cut.py") 184), (.int 1 0), (.int 0 0), (.int 0 0), (.int 0 0), (.int 0 0), (.ref 11), (.bool false), (.int 181 0), (.ref 12), .none, .none, .none, .none, (.int 185 0), (.int 1 0), (.str (z "/claim/cut.py") 186)]), #[]⟩
noncomputable def o14 (P : Params) : Obj := ⟨(.type "frame"), .none, .plain, #[(.some (.ref 13)), (.some (.ref 3)), (.some (.ref 3)), .none, (.some (.str (z "__main__") 164)), .none, (.some (.ref 0))]⟩
noncomputable def tree_b (P : Params) : BT := (.node (PySem.W.boot_o_0 P) (.node (PySem.W.boot_o_1 P) (.node (PySem.W.boot_o_3 P) (.node (PySem.W.boot_o_7 P) .nil .nil) (.node (o11 P) .nil .nil)) (.node (PySem.W.boot_o_5 P) (.node (PySem.W.boot_o_9 P) .nil .nil) (.node (o13 P) .nil .nil))) (.node (PySem.W.boot_o_2 P) (.node (PySem.W.boot_o_4 P) (.node (PySem.W.boot_o_8 P) .nil .nil) (.node (o12 P) .nil .nil)) (.node (PySem.W.boot_o_6 P) (.node (PySem.W.boot_o_10 P) .nil .nil) (.node (o14 P) .nil .nil))))
-- n 15 toks 187
-- STATE 13
noncomputable def o3_13 (P : Params) : Obj := ⟨(.type "dict"), .none, (.dict #[⟨PyData.keyHash P (z "__name__"), (.str (z "__name__") 165), (.str (z "cpy313.stringprep") 310)⟩, ⟨PyData.keyHash P (z "__doc__"), (.str (z "__doc__") 166), .none⟩, ⟨PyData.keyHash P (z "__package__"), (.str (z "__package__") 167), .none⟩, ⟨PyData.keyHash P (z "__loader__"), (.str (z "__loader__") 168), (.builtin "__main__.__loader__#opaque")⟩, ⟨PyData.keyHash P (z "__spec__"), (.str (z "__spec__") 169), .none⟩, ⟨PyData.keyHash P (z "__annotations__"), (.str (z "__annotations__") 170), (.ref 6)⟩, ⟨PyData.keyHash P (z "__builtins__"), (.str (z "__builtins__") 171), (.ref 4)⟩, ⟨PyData.keyHash P (z "__file__"), (.str (z "__file__") 173), (.str (z "/claim/cut.py") 172)⟩, ⟨PyData.keyHash P (z "__cached__"), (.str (z "__cached__") 174), .none⟩, ⟨PyData.keyHash P (z "_wall"), (.str (z "_wall") 193), (.ref 21)⟩, ⟨PyData.keyHash P (z "_iter_escaped_chars"), (.str (z "_iter_escaped_chars") 205), (.ref 28)⟩, ⟨PyData.keyHash P (z "_strip_quoted_realnames"), (.str (z "_strip_quoted_realnames") 217), (.ref 35)⟩, ⟨PyData.keyHash P (z "_check_parenthesis"), (.str (z "_check_parenthesis") 227), (.ref 42)⟩, ⟨PyData.keyHash P (z "_DIV_LIMIT"), (.str (z "_DIV_LIMIT") 231), (.int 4000 230)⟩, ⟨PyData.keyHash P (z "_div2n1n"), (.str (z "_div2n1n") 248), (.ref 49)⟩, ⟨PyData.keyHash P (z "_div3n2n"), (.str (z "_div3n2n") 262), (.ref 56)⟩, ⟨PyData.keyHash P (z "_int2digits"), (.str (z "_int2digits") 273), (.ref 63)⟩, ⟨PyData.keyHash P (z "_digits2int"), (.str (z "_digits2int") 284), (.ref 70)⟩, ⟨PyData.keyHash P (z "_divmod_pos"), (.str (z "_divmod_pos") 299), (.ref 77)⟩, ⟨PyData.keyHash P (z "int_divmod"), (.str (z "int_divmod") 309), (.ref 84)⟩] 20), #[]⟩
noncomputable def o12_13 (P : Params) : Obj := ⟨.none, .none, (.fields #[(.int 1 0), (.int 0 0), (.ref 20), (.int 5 0), (.int 0 0), (.ref 27), (.int 18 0), (.int 0 0), (.ref 34), (.int 36 0), (.int 0 0), (.ref 41), (.int 49 0), (.int 0 0), (.ref 48), (.int 65 0), (.int 0 0), (.ref 55), (.int 75 0), (.int 0 0), (.ref 62), (.int 91 0), (.int 0 0), (.ref 69), (.int 100 0), (.int 0 0), (.ref 76), (.int 111 0), (.int 0 0), (.ref 83)]), #[]⟩
noncomputable def o15 (P : Params) : Obj := ⟨(.type "tuple"), .none, (.seq #[] 0), #[]⟩
noncomputable def o16 (P : Params) : Obj := ⟨.none, .none, (.fields #[]), #[]⟩
noncomputable def o17 (P : Params) : Obj := ⟨(.type "tuple"), .none, (.seq #[(.str (z "k") 190)] 0), #[]⟩
noncomputable def o18 (P : Params) : Obj := ⟨(.type "tuple"), .none, (.seq #[] 0), #[]⟩
noncomputable def o19 (P : Params) : Obj := ⟨.none, .none, (.func { name := (z "_wall"), qualname := (z "_wall"), params := fp0, body := .stmts fb0, scope := fs0, globals := 0, closure := [], defaults := .none, kwdefaults := .none, doc := .none, pyModule := .none, annotations := .none, code := .none, closureTuple := .none, builtins := 0 }), #[]⟩
noncomputable def o20 (P : Params) : Obj := ⟨(.type "code"), .none, (.fields #[(.str (z "_wall") 187), (.str (z "_wall") 188), (.str (z "/claim/cut.py") 189), (.int 1 0), (.int 1 0), (.int 0 0), (.int 0 0), (.int 3 0), (.ref 15), (.bool true), (.int 181 0), (.ref 16), .none, (.ref 17), (.ref 18), (.ref 19), (.int 191 0), (.int 1 0), (.str (z "/claim/cut.py") 192)]), #[]⟩
noncomputable def o21 (P : Params) : Obj := ⟨(.type "function"), .none, (.func { name := (z "_wall"), qualname := (z "_wall"), params := fp0, body := .stmts fb0, scope := fs0, globals := 3, closure := [], defaults := .none, kwdefaults := .none, doc := .none, pyModule := (.str (z "__main__") 164), annotations := .none, code := (.ref 20), closureTuple := .none, builtins := 0 }), #[]⟩
noncomputable def o22 (P : Params) : Obj := ⟨(.type "tuple"), .none, (.seq #[] 0), #[]⟩
noncomputable def o23 (P : Params) : Obj := ⟨.none, .none, (.fields #[]), #[]⟩
noncomputable def o24 (P : Params) : Obj := ⟨(.type "tuple"), .none, (.seq #[(.str (z "addr") 199), (.str (z "pos") 200), (.str (z "escape") 201), (.str (z "ch") 202)] 0), #[]⟩
noncomputable def o25 (P : Params) : Obj := ⟨(.type "tuple"), .none, (.seq #[] 0), #[]⟩
noncomputable def o26 (P : Params) : Obj := ⟨.none, .none, (.func { name := (z "_iter_escaped_chars"), qualname := (z "_iter_escaped_chars"), params := fp1, body := .stmts fb1, scope := fs1, globals := 0, closure := [], defaults := .none, kwdefaults := .none, doc := .none, pyModule := .none, annotations := .none, code := .none, closureTuple := .none, builtins := 0 }), #[]⟩
noncomputable def o27 (P : Params) : Obj := ⟨(.type "code"), .none, (.fields #[(.str (z "_iter_escaped_chars") 196), (.str (z "_iter_escaped_chars") 197), (.str (z "/claim/cut.py") 198), (.int 5 0), (.int 1 0), (.int 0 0), (.int 0 0), (.int 35 0), (.ref 22), (.bool true), (.int 181 0), (.ref 23), .none, (.ref 24), (.ref 25), (.ref 26), (.int 203 0), (.int 5 0), (.str (z "/claim/cut.py") 204)]), #[]⟩
noncomputable def o28 (P : Params) : Obj := ⟨(.type "function"), .none, (.func { name := (z "_iter_escaped_chars"), qualname := (z "_iter_escaped_chars"), params := fp1, body := .stmts fb1, scope := fs1, globals := 3, closure := [], defaults := .none, kwdefaults := .none, doc := .none, pyModule := (.str (z "cpy313.email.utils") 194), annotations := .none, code := (.ref 27), closureTuple := .none, builtins := 0 }), #[]⟩
noncomputable def o29 (P : Params) : Obj := ⟨(.type "tuple"), .none, (.seq #[] 0), #[]⟩
noncomputable def o30 (P : Params) : Obj := ⟨.none, .none, (.fields #[]), #[]⟩
noncomputable def o31 (P : Params) : Obj := ⟨(.type "tuple"), .none, (.seq #[(.str (z "addr") 209), (.str (z "start") 210), (.str (z "open_pos") 211), (.str (z "result") 212), (.str (z "pos") 213), (.str (z "ch") 214)] 0), #[]⟩
noncomputable def o32 (P : Params) : Obj := ⟨(.type "tuple"), .none, (.seq #[] 0), #[]⟩
noncomputable def o33 (P : Params) : Obj := ⟨.none, .none, (.func { name := (z "_strip_quoted_realnames"), qualname := (z "_strip_quoted_realnames"), params := fp2, body := .stmts fb2, scope := fs2, globals := 0, closure := [], defaults := .none, kwdefaults := .none, doc := .none, pyModule := .none, annotations := .none, code := .none, closureTuple := .none, builtins := 0 }), #[]⟩
noncomputable def o34 (P : Params) : Obj := ⟨(.type "code"), .none, (.fields #[(.str (z "_strip_quoted_realnames") 206), (.str (z "_strip_quoted_realnames") 207), (.str (z "/claim/cut.py") 208), (.int 18 0), (.int 1 0), (.int 0 0), (.int 0 0), (.int 3 0), (.ref 29), (.bool true), (.int 181 0), (.ref 30), .none, (.ref 31), (.ref 32), (.ref 33), (.int 215 0), (.int 18 0), (.str (z "/claim/cut.py") 216)]), #[]⟩
noncomputable def o35 (P : Params) : Obj := ⟨(.type "function"), .none, (.func { name := (z "_strip_quoted_realnames"), qualname := (z "_strip_quoted_realnames"), params := fp2, body := .stmts fb2, scope := fs2, globals := 3, closure := [], defaults := .none, kwdefaults := .none, doc := .none, pyModule := (.str (z "cpy313.email.utils") 194), annotations := .none, code := (.ref 34), closureTuple := .none, builtins := 0 }), #[]⟩
noncomputable def o36 (P : Params) : Obj := ⟨(.type "tuple"), .none, (.seq #[] 0), #[]⟩
noncomputable def o37 (P : Params) : Obj := ⟨.none, .none, (.fields #[]), #[]⟩
noncomputable def o38 (P : Params) : Obj := ⟨(.type "tuple"), .none, (.seq #[(.str (z "addr") 221), (.str (z "opens") 222), (.str (z "pos") 223), (.str (z "ch") 224)] 0), #[]⟩
noncomputable def o39 (P : Params) : Obj := ⟨(.type "tuple"), .none, (.seq #[] 0), #[]⟩
noncomputable def o40 (P : Params) : Obj := ⟨.none, .none, (.func { name := (z "_check_parenthesis"), qualname := (z "_check_parenthesis"), params := fp3, body := .stmts fb3, scope := fs3, globals := 0, closure := [], defaults := .none, kwdefaults := .none, doc := .none, pyModule := .none, annotations := .none, code := .none, closureTuple := .none, builtins := 0 }), #[]⟩
noncomputable def o41 (P : Params) : Obj := ⟨(.type "code"), .none, (.fields #[(.str (z "_check_parenthesis") 218), (.str (z "_check_parenthesis") 219), (.str (z "/claim/cut.py") 220), (.int 36 0), (.int 1 0), (.int 0 0), (.int 0 0), (.int 3 0), (.ref 36), (.bool true), (.int 181 0), (.ref 37), .none, (.ref 38), (.ref 39), (.ref 40), (.int 225 0), (.int 36 0), (.str (z "/claim/cut.py") 226)]), #[]⟩
noncomputable def o42 (P : Params) : Obj := ⟨(.type "function"), .none, (.func { name := (z "_check_parenthesis"), qualname := (z "_check_parenthesis"), params := fp3, body := .stmts fb3, scope := fs3, globals := 3, closure := [], defaults := .none, kwdefaults := .none, doc := .none, pyModule := (.str (z "cpy313.email.utils") 194), annotations := .none, code := (.ref 41), closureTuple := .none, builtins := 0 }), #[]⟩
noncomputable def o43 (P : Params) : Obj := ⟨(.type "tuple"), .none, (.seq #[] 0), #[]⟩
noncomputable def o44 (P : Params) : Obj := ⟨.none, .none, (.fields #[]), #[]⟩
noncomputable def o45 (P : Params) : Obj := ⟨(.type "tuple"), .none, (.seq #[(.str (z "a") 235), (.str (z "b") 236), (.str (z "n") 237), (.str (z "pad") 238), (.str (z "half_n") 239), (.str (z "mask") 240), (.str (z "b1") 241), (.str (z "b2") 242), (.str (z "q1") 243), (.str (z "r") 244), (.str (z "q2") 245)] 0), #[]⟩
noncomputable def o46 (P : Params) : Obj := ⟨(.type "tuple"), .none, (.seq #[] 0), #[]⟩
noncomputable def o47 (P : Params) : Obj := ⟨.none, .none, (.func { name := (z "_div2n1n"), qualname := (z "_div2n1n"), params := fp4, body := .stmts fb4, scope := fs4, globals := 0, closure := [], defaults := .none, kwdefaults := .none, doc := .none, pyModule := .none, annotations := .none, code := .none, closureTuple := .none, builtins := 0 }), #[]⟩
noncomputable def o48 (P : Params) : Obj := ⟨(.type "code"), .none, (.fields #[(.str (z "_div2n1n") 232), (.str (z "_div2n1n") 233), (.str (z "/claim/cut.py") 234), (.int 49 0), (.int 3 0), (.int 0 0), (.int 0 0), (.int 3 0), (.ref 43), (.bool true), (.int 181 0), (.ref 44), .none, (.ref 45), (.ref 46), (.ref 47), (.int 246 0), (.int 49 0), (.str (z "/claim/cut.py") 247)]), #[]⟩
noncomputable def o49 (P : Params) : Obj := ⟨(.type "function"), .none, (.func { name := (z "_div2n1n"), qualname := (z "_div2n1n"), params := fp4, body := .stmts fb4, scope := fs4, globals := 3, closure := [], defaults := .none, kwdefaults := .none, doc := .none, pyModule := (.str (z "cpy313._pylong") 228), annotations := .none, code := (.ref 48), closureTuple := .none, builtins := 0 }), #[]⟩
noncomputable def o50 (P : Params) : Obj := ⟨(.type "tuple"), .none, (.seq #[] 0), #[]⟩
noncomputable def o51 (P : Params) : Obj := ⟨.none, .none, (.fields #[]), #[]⟩
noncomputable def o52 (P : Params) : Obj := ⟨(.type "tuple"), .none, (.seq #[(.str (z "a12") 252), (.str (z "a3") 253), (.str (z "b") 254), (.str (z "b1") 255), (.str (z "b2") 256), (.str (z "n") 257), (.str (z "q") 258), (.str (z "r") 259)] 0), #[]⟩
noncomputable def o53 (P : Params) : Obj := ⟨(.type "tuple"), .none, (.seq #[] 0), #[]⟩
noncomputable def o54 (P : Params) : Obj := ⟨.none, .none, (.func { name := (z "_div3n2n"), qualname := (z "_div3n2n"), params := fp5, body := .stmts fb5, scope := fs5, globals := 0, closure := [], defaults := .none, kwdefaults := .none, doc := .none, pyModule := .none, annotations := .none, code := .none, closureTuple := .none, builtins := 0 }), #[]⟩
noncomputable def o55 (P : Params) : Obj := ⟨(.type "code"), .none, (.fields #[(.str (z "_div3n2n") 249), (.str (z "_div3n2n") 250), (.str (z "/claim/cut.py") 251), (.int 65 0), (.int 6 0), (.int 0 0), (.int 0 0), (.int 3 0), (.ref 50), (.bool true), (.int 181 0), (.ref 51), .none, (.ref 52), (.ref 53), (.ref 54), (.int 260 0), (.int 65 0), (.str (z "/claim/cut.py") 261)]), #[]⟩
noncomputable def o56 (P : Params) : Obj := ⟨(.type "function"), .none, (.func { name := (z "_div3n2n"), qualname := (z "_div3n2n"), params := fp5, body := .stmts fb5, scope := fs5, globals := 3, closure := [], defaults := .none, kwdefaults := .none, doc := .none, pyModule := (.str (z "cpy313._pylong") 228), annotations := .none, code := (.ref 55), closureTuple := .none, builtins := 0 }), #[]⟩
noncomputable def o57 (P : Params) : Obj := ⟨(.type "tuple"), .none, (.seq #[] 0), #[]⟩
noncomputable def o58 (P : Params) : Obj := ⟨.none, .none, (.fields #[]), #[]⟩
noncomputable def o59 (P : Params) : Obj := ⟨(.type "tuple"), .none, (.seq #[(.str (z "a") 266), (.str (z "n") 267)] 0), #[]⟩
noncomputable def o60 (P : Params) : Obj := ⟨(.type "tuple"), .none, (.seq #[(.str (z "n") 268), (.str (z "a_digits") 269), (.str (z "inner") 270)] 0), #[]⟩
noncomputable def o61 (P : Params) : Obj := ⟨.none, .none, (.func { name := (z "_int2digits"), qualname := (z "_int2digits"), params := fp6, body := .stmts fb6, scope := fs6, globals := 0, closure := [], defaults := .none, kwdefaults := .none, doc := .none, pyModule := .none, annotations := .none, code := .none, closureTuple := .none, builtins := 0 }), #[]⟩
noncomputable def o62 (P : Params) : Obj := ⟨(.type "code"), .none, (.fields #[(.str (z "_int2digits") 263), (.str (z "_int2digits") 264), (.str (z "/claim/cut.py") 265), (.int 75 0), (.int 2 0), (.int 0 0), (.int 0 0), (.int 3 0), (.ref 57), (.bool true), (.int 181 0), (.ref 58), .none, (.ref 59), (.ref 60), (.ref 61), (.int 271 0), (.int 75 0), (.str (z "/claim/cut.py") 272)]), #[]⟩
noncomputable def o63 (P : Params) : Obj := ⟨(.type "function"), .none, (.func { name := (z "_int2digits"), qualname := (z "_int2digits"), params := fp6, body := .stmts fb6, scope := fs6, globals := 3, closure := [], defaults := .none, kwdefaults := .none, doc := .none, pyModule := (.str (z "cpy313._pylong") 228), annotations := .none, code := (.ref 62), closureTuple := .none, builtins := 0 }), #[]⟩
noncomputable def o64 (P : Params) : Obj := ⟨(.type "tuple"), .none, (.seq #[] 0), #[]⟩
noncomputable def o65 (P : Params) : Obj := ⟨.none, .none, (.fields #[]), #[]⟩
noncomputable def o66 (P : Params) : Obj := ⟨(.type "tuple"), .none, (.seq #[(.str (z "digits") 277), (.str (z "n") 278)] 0), #[]⟩
noncomputable def o67 (P : Params) : Obj := ⟨(.type "tuple"), .none, (.seq #[(.str (z "digits") 279), (.str (z "n") 280), (.str (z "inner") 281)] 0), #[]⟩
noncomputable def o68 (P : Params) : Obj := ⟨.none, .none, (.func { name := (z "_digits2int"), qualname := (z "_digits2int"), params := fp7, body := .stmts fb7, scope := fs7, globals := 0, closure := [], defaults := .none, kwdefaults := .none, doc := .none, pyModule := .none, annotations := .none, code := .none, closureTuple := .none, builtins := 0 }), #[]⟩
noncomputable def o69 (P : Params) : Obj := ⟨(.type "code"), .none, (.fields #[(.str (z "_digits2int") 274), (.str (z "_digits2int") 275), (.str (z "/claim/cut.py") 276), (.int 91 0), (.int 2 0), (.int 0 0), (.int 0 0), (.int 3 0), (.ref 64), (.bool true), (.int 181 0), (.ref 65), .none, (.ref 66), (.ref 67), (.ref 68), (.int 282 0), (.int 91 0), (.str (z "/claim/cut.py") 283)]), #[]⟩
noncomputable def o70 (P : Params) : Obj := ⟨(.type "function"), .none, (.func { name := (z "_digits2int"), qualname := (z "_digits2int"), params := fp7, body := .stmts fb7, scope := fs7, globals := 3, closure := [], defaults := .none, kwdefaults := .none, doc := .none, pyModule := (.str (z "cpy313._pylong") 228), annotations := .none, code := (.ref 69), closureTuple := .none, builtins := 0 }), #[]⟩
noncomputable def o71 (P : Params) : Obj := ⟨(.type "tuple"), .none, (.seq #[] 0), #[]⟩
noncomputable def o72 (P : Params) : Obj := ⟨.none, .none, (.fields #[]), #[]⟩
noncomputable def o73 (P : Params) : Obj := ⟨(.type "tuple"), .none, (.seq #[(.str (z "a") 288), (.str (z "b") 289), (.str (z "n") 290), (.str (z "a_digits") 291), (.str (z "r") 292), (.str (z "q_digits") 293), (.str (z "a_digit") 294), (.str (z "q_digit") 295), (.str (z "q") 296)] 0), #[]⟩
noncomputable def o74 (P : Params) : Obj := ⟨(.type "tuple"), .none, (.seq #[] 0), #[]⟩
noncomputable def o75 (P : Params) : Obj := ⟨.none, .none, (.func { name := (z "_divmod_pos"), qualname := (z "_divmod_pos"), params := fp8, body := .stmts fb8, scope := fs8, globals := 0, closure := [], defaults := .none, kwdefaults := .none, doc := .none, pyModule := .none, annotations := .none, code := .none, closureTuple := .none, builtins := 0 }), #[]⟩
noncomputable def o76 (P : Params) : Obj := ⟨(.type "code"), .none, (.fields #[(.str (z "_divmod_pos") 285), (.str (z "_divmod_pos") 286), (.str (z "/claim/cut.py") 287), (.int 100 0), (.int 2 0), (.int 0 0), (.int 0 0), (.int 3 0), (.ref 71), (.bool true), (.int 181 0), (.ref 72), .none, (.ref 73), (.ref 74), (.ref 75), (.int 297 0), (.int 100 0), (.str (z "/claim/cut.py") 298)]), #[]⟩
noncomputable def o77 (P : Params) : Obj := ⟨(.type "function"), .none, (.func { name := (z "_divmod_pos"), qualname := (z "_divmod_pos"), params := fp8, body := .stmts fb8, scope := fs8, globals := 3, closure := [], defaults := .none, kwdefaults := .none, doc := .none, pyModule := (.str (z "cpy313._pylong") 228), annotations := .none, code := (.ref 76), closureTuple := .none, builtins := 0 }), #[]⟩
noncomputable def o78 (P : Params) : Obj := ⟨(.type "tuple"), .none, (.seq #[] 0), #[]⟩
noncomputable def o79 (P : Params) : Obj := ⟨.none, .none, (.fields #[]), #[]⟩
noncomputable def o80 (P : Params) : Obj := ⟨(.type "tuple"), .none, (.seq #[(.str (z "a") 303), (.str (z "b") 304), (.str (z "q") 305), (.str (z "r") 306)] 0), #[]⟩
noncomputable def o81 (P : Params) : Obj := ⟨(.type "tuple"), .none, (.seq #[] 0), #[]⟩
noncomputable def o82 (P : Params) : Obj := ⟨.none, .none, (.func { name := (z "int_divmod"), qualname := (z "int_divmod"), params := fp9, body := .stmts fb9, scope := fs9, globals := 0, closure := [], defaults := .none, kwdefaults := .none, doc := .none, pyModule := .none, annotations := .none, code := .none, closureTuple := .none, builtins := 0 }), #[]⟩
noncomputable def o83 (P : Params) : Obj := ⟨(.type "code"), .none, (.fields #[(.str (z "int_divmod") 300), (.str (z "int_divmod") 301), (.str (z "/claim/cut.py") 302), (.int 111 0), (.int 2 0), (.int 0 0), (.int 0 0), (.int 3 0), (.ref 78), (.bool true), (.int 181 0), (.ref 79), .none, (.ref 80), (.ref 81), (.ref 82), (.int 307 0), (.int 111 0), (.str (z "/claim/cut.py") 308)]), #[]⟩
noncomputable def o84 (P : Params) : Obj := ⟨(.type "function"), .none, (.func { name := (z "int_divmod"), qualname := (z "int_divmod"), params := fp9, body := .stmts fb9, scope := fs9, globals := 3, closure := [], defaults := .none, kwdefaults := .none, doc := .none, pyModule := (.str (z "cpy313._pylong") 228), annotations := .none, code := (.ref 83), closureTuple := .none, builtins := 0 }), #[]⟩
noncomputable def tree_13 (P : Params) : BT := (.node (PySem.W.boot_o_0 P) (.node (PySem.W.boot_o_1 P) (.node (o3_13 P) (.node (PySem.W.boot_o_7 P) (.node (o15 P) (.node (o31 P) (.node (o63 P) .nil .nil) .nil) (.node (o47 P) (.node (o79 P) .nil .nil) .nil)) (.node (o23 P) (.node (o39 P) (.node (o71 P) .nil .nil) .nil) (.node (o55 P) .nil .nil))) (.node (o11 P) (.node (o19 P) (.node (o35 P) (.node (o67 P) .nil .nil) .nil) (.node (o51 P) (.node (o83 P) .nil .nil) .nil)) (.node (o27 P) (.node (o43 P) (.node (o75 P) .nil .nil) .nil) (.node (o59 P) .nil .nil)))) (.node (PySem.W.boot_o_5 P) (.node (PySem.W.boot_o_9 P) (.node (o17 P) (.node (o33 P) (.node (o65 P) .nil .nil) .nil) (.node (o49 P) (.node (o81 P) .nil .nil) .nil)) (.node (o25 P) (.node (o41 P) (.node (o73 P) .nil .nil) .nil) (.node (o57 P) .nil .nil))) (.node (o13 P) (.node (o21 P) (.node (o37 P) (.node (o69 P) .nil .nil) .nil) (.node (o53 P) .nil .nil)) (.node (o29 P) (.node (o45 P) (.node (o77 P) .nil .nil) .nil) (.node (o61 P) .nil .nil))))) (.node (PySem.W.boot_o_2 P) (.node (PySem.W.boot_o_4 P) (.node (PySem.W.boot_o_8 P) (.node (o16 P) (.node (o32 P) (.node (o64 P) .nil .nil) .nil) (.node (o48 P) (.node (o80 P) .nil .nil) .nil)) (.node (o24 P) (.node (o40 P) (.node (o72 P) .nil .nil) .nil) (.node (o56 P) .nil .nil))) (.node (o12_13 P) (.node (o20 P) (.node (o36 P) (.node (o68 P) .nil .nil) .nil) (.node (o52 P) (.node (o84 P) .nil .nil) .nil)) (.node (o28 P) (.node (o44 P) (.node (o76 P) .nil .nil) .nil) (.node (o60 P) .nil .nil)))) (.node (PySem.W.boot_o_6 P) (.node (PySem.W.boot_o_10 P) (.node (o18 P) (.node (o34 P) (.node (o66 P) .nil .nil) .nil) (.node (o50 P) (.node (o82 P) .nil .nil) .nil)) (.node (o26 P) (.node (o42 P) (.node (o74 P) .nil .nil) .nil) (.node (o58 P) .nil .nil))) (.node (o14 P) (.node (o22 P) (.node (o38 P) (.node (o70 P) .nil .nil) .nil) (.node (o54 P) .nil .nil)) (.node (o30 P) (.node (o46 P) (.node (o78 P) .nil .nil) .nil) (.node (o62 P) .nil .nil))))))
-- n 85 toks 312
-- STATE 14
noncomputable def o3_14 (P : Params) : Obj := ⟨(.type "dict"), .none, (.dict #[⟨PyData.keyHash P (z "__name__"), (.str (z "__name__") 165), (.str (z "cpy313.stringprep") 310)⟩, ⟨PyData.keyHash P (z "__doc__"), (.str (z "__doc__") 166), .none⟩, ⟨PyData.keyHash P (z "__package__"), (.str (z "__package__") 167), .none⟩, ⟨PyData.keyHash P (z "__loader__"), (.str (z "__loader__") 168), (.builtin "__main__.__loader__#opaque")⟩, ⟨PyData.keyHash P (z "__spec__"), (.str (z "__spec__") 169), .none⟩, ⟨PyData.keyHash P (z "__annotations__"), (.str (z "__annotations__") 170), (.ref 6)⟩, ⟨PyData.keyHash P (z "__builtins__"), (.str (z "__builtins__") 171), (.ref 4)⟩, ⟨PyData.keyHash P (z "__file__"), (.str (z "__file__") 173), (.str (z "/claim/cut.py") 172)⟩, ⟨PyData.keyHash P (z "__cached__"), (.str (z "__cached__") 174), .none⟩, ⟨PyData.keyHash P (z "_wall"), (.str (z "_wall") 193), (.ref 21)⟩, ⟨PyData.keyHash P (z "_iter_escaped_chars"), (.str (z "_iter_escaped_chars") 205), (.ref 28)⟩, ⟨PyData.keyHash P (z "_strip_quoted_realnames"), (.str (z "_strip_quoted_realnames") 217), (.ref 35)⟩, ⟨PyData.keyHash P (z "_check_parenthesis"), (.str (z "_check_parenthesis") 227), (.ref 42)⟩, ⟨PyData.keyHash P (z "_DIV_LIMIT"), (.str (z "_DIV_LIMIT") 231), (.int 4000 230)⟩, ⟨PyData.keyHash P (z "_div2n1n"), (.str (z "_div2n1n") 248), (.ref 49)⟩, ⟨PyData.keyHash P (z "_div3n2n"), (.str (z "_div3n2n") 262), (.ref 56)⟩, ⟨PyData.keyHash P (z "_int2digits"), (.str (z "_int2digits") 273), (.ref 63)⟩, ⟨PyData.keyHash P (z "_digits2int"), (.str (z "_digits2int") 284), (.ref 70)⟩, ⟨PyData.keyHash P (z "_divmod_pos"), (.str (z "_divmod_pos") 299), (.ref 77)⟩, ⟨PyData.keyHash P (z "int_divmod"), (.str (z "int_divmod") 309), (.ref 84)⟩, ⟨PyData.keyHash P (z "b1_set"), (.str (z "b1_set") 371), (.ref 92)⟩] 21), #[]⟩
noncomputable def o85 (P : Params) : Obj := ⟨(.type "list"), .none, (.seq #[(.int 173 312), (.int 847 313), (.int 6150 314), (.int 6155 315), (.int 6156 316), (.int 6157 317), (.int 8203 318), (.int 8204 319), (.int 8205 320), (.int 8288 321), (.int 65279 322)] 0), #[]⟩
noncomputable def o86 (P : Params) : Obj := ⟨(.type "range"), .none, (.fields #[(.int 65024 323), (.int 65040 324), (.int 1 325)]), #[]⟩
noncomputable def o87 (P : Params) : Obj := ⟨(.type "list"), .none, (.seq #[(.int 65024 328), (.int 65025 329), (.int 65026 330), (.int 65027 331), (.int 65028 332), (.int 65029 333), (.int 65030 334), (.int 65031 335), (.int 65032 336), (.int 65033 337), (.int 65034 338), (.int 65035 339), (.int 65036 340), (.int 65037 341), (.int 65038 342), (.int 65039 343)] 18), #[]⟩
noncomputable def o88 (P : Params) : Obj := ⟨(.type "range_iterator"), .none, (.fields #[(.int 65040 0), (.int 0 0), (.int 1 0)]), #[]⟩
noncomputable def o89 (P : Params) : Obj := ⟨(.type "tuple"), .none, (.seq #[] 0), #[]⟩
noncomputable def o90 (P : Params) : Obj := ⟨(.type "StopIteration"), .none, (.fields #[(.ref 89), .none, .none, .none, (.bool false), .none]), #[]⟩
noncomputable def o91 (P : Params) : Obj := ⟨(.type "list"), .none, (.seq #[(.int 173 312), (.int 847 313), (.int 6150 314), (.int 6155 315), (.int 6156 316), (.int 6157 317), (.int 8203 318), (.int 8204 319), (.int 8205 320), (.int 8288 321), (.int 65279 322), (.int 65024 328), (.int 65025 329), (.int 65026 330), (.int 65027 331), (.int 65028 332), (.int 65029 333), (.int 65030 334), (.int 65031 335), (.int 65032 336), (.int 65033 337), (.int 65034 338), (.int 65035 339), (.int 65036 340), (.int 65037 341), (.int 65038 342), (.int 65039 343)] 0), #[]⟩
noncomputable def o92 (P : Params) : Obj := ⟨(.type "set"), .none, (.set #[(65024, (.int 65024 328)), (65025, (.int 65025 329)), (65026, (.int 65026 330)), (65027, (.int 65027 331)), (65028, (.int 65028 332)), (65029, (.int 65029 333)), (6150, (.int 6150 314)), (65030, (.int 65030 334)), (65031, (.int 65031 335)), (65032, (.int 65032 336)), (65033, (.int 65033 337)), (6155, (.int 6155 315)), (6156, (.int 6156 316)), (6157, (.int 6157 317)), (8203, (.int 8203 318)), (8204, (.int 8204 319)), (8205, (.int 8205 320)), (65034, (.int 65034 338)), (65035, (.int 65035 339)), (65036, (.int 65036 340)), (65037, (.int 65037 341)), (65038, (.int 65038 342)), (65039, (.int 65039 343)), (173, (.int 173 312)), (847, (.int 847 313)), (8288, (.int 8288 321)), (65279, (.int 65279 322))] 29 { mask := 127, place := #[0, 1, 2, 3, 4, 5, 6, 7, 8, 9, 10, 11, 12, 13, 14, 15, 16, 17, 18, 19, 20, 21, 22, 45, 79, 96, 127], dummies := #[], finger := 0, led := !P.followText "set-order", moves := 2, plain := true }), #[]⟩
noncomputable def o93 (P : Params) : Obj := ⟨(.type "list_iterator"), .none, (.fields #[.none, (.int 27 0)]), #[]⟩
noncomputable def o94 (P : Params) : Obj := ⟨(.type "tuple"), .none, (.seq #[] 0), #[]⟩
noncomputable def o95 (P : Params) : Obj := ⟨(.type "StopIteration"), .none, (.fields #[(.ref 94), .none, .none, .none, (.bool false), .none]), #[]⟩
noncomputable def tree_14 (P : Params) : BT := (.node (PySem.W.boot_o_0 P) (.node (PySem.W.boot_o_1 P) (.node (o3_14 P) (.node (PySem.W.boot_o_7 P) (.node (o15 P) (.node (o31 P) (.node (o63 P) .nil .nil) (.node (o95 P) .nil .nil)) (.node (o47 P) (.node (o79 P) .nil .nil) .nil)) (.node (o23 P) (.node (o39 P) (.node (o71 P) .nil .nil) .nil) (.node (o55 P) (.node (o87 P) .nil .nil) .nil))) (.node (o11 P) (.node (o19 P) (.node (o35 P) (.node (o67 P) .nil .nil) .nil) (.node (o51 P) (.node (o83 P) .nil .nil) .nil)) (.node (o27 P) (.node (o43 P) (.node (o75 P) .nil .nil) .nil) (.node (o59 P) (.node (o91 P) .nil .nil) .nil)))) (.node (PySem.W.boot_o_5 P) (.node (PySem.W.boot_o_9 P) (.node (o17 P) (.node (o33 P) (.node (o65 P) .nil .nil) .nil) (.node (o49 P) (.node (o81 P) .nil .nil) .nil)) (.node (o25 P) (.node (o41 P) (.node (o73 P) .nil .nil) .nil) (.node (o57 P) (.node (o89 P) .nil .nil) .nil))) (.node (o13 P) (.node (o21 P) (.node (o37 P) (.node (o69 P) .nil .nil) .nil) (.node (o53 P) (.node (o85 P) .nil .nil) .nil)) (.node (o29 P) (.node (o45 P) (.node (o77 P) .nil .nil) .nil) (.node (o61 P) (.node (o93 P) .nil .nil) .nil))))) (.node (PySem.W.boot_o_2 P) (.node (PySem.W.boot_o_4 P) (.node (PySem.W.boot_o_8 P) (.node (o16 P) (.node (o32 P) (.node (o64 P) .nil .nil) .nil) (.node (o48 P) (.node (o80 P) .nil .nil) .nil)) (.node (o24 P) (.node (o40 P) (.node (o72 P) .nil .nil) .nil) (.node (o56 P) (.node (o88 P) .nil .nil) .nil))) (.node (o12_13 P) (.node (o20 P) (.node (o36 P) (.node (o68 P) .nil .nil) .nil) (.node (o52 P) (.node (o84 P) .nil .nil) .nil)) (.node (o28 P) (.node (o44 P) (.node (o76 P) .nil .nil) .nil) (.node (o60 P) (.node (o92 P) .nil .nil) .nil)))) (.node (PySem.W.boot_o_6 P) (.node (PySem.W.boot_o_10 P) (.node (o18 P) (.node (o34 P) (.node (o66 P) .nil .nil) .nil) (.node (o50 P) (.node (o82 P) .nil .nil) .nil)) (.node (o26 P) (.node (o42 P) (.node (o74 P) .nil .nil) .nil) (.node (o58 P) (.node (o90 P) .nil .nil) .nil))) (.node (o14 P) (.node (o22 P) (.node (o38 P) (.node (o70 P) .nil .nil) .nil) (.node (o54 P) (.node (o86 P) .nil .nil) .nil)) (.node (o30 P) (.node (o46 P) (.node (o78 P) .nil .nil) .nil) (.node (o62 P) (.node (o94 P) .nil .nil) .nil))))))
-- n 96 toks 372
-- STATE 15
noncomputable def o3_15 (P : Params) : Obj := ⟨(.type "dict"), .none, (.dict #[⟨PyData.keyHash P (z "__name__"), (.str (z "__name__") 165), (.str (z "cpy313.stringprep") 310)⟩, ⟨PyData.keyHash P (z "__doc__"), (.str (z "__doc__") 166), .none⟩, ⟨PyData.keyHash P (z "__package__"), (.str (z "__package__") 167), .none⟩, ⟨PyData.keyHash P (z "__loader__"), (.str (z "__loader__") 168), (.builtin "__main__.__loader__#opaque")⟩, ⟨PyData.keyHash P (z "__spec__"), (.str (z "__spec__") 169), .none⟩, ⟨PyData.keyHash P (z "__annotations__"), (.str (z "__annotations__") 170), (.ref 6)⟩, ⟨PyData.keyHash P (z "__builtins__"), (.str (z "__builtins__") 171), (.ref 4)⟩, ⟨PyData.keyHash P (z "__file__"), (.str (z "__file__") 173), (.str (z "/claim/cut.py") 172)⟩, ⟨PyData.keyHash P (z "__cached__"), (.str (z "__cached__") 174), .none⟩, ⟨PyData.keyHash P (z "_wall"), (.str (z "_wall") 193), (.ref 21)⟩, ⟨PyData.keyHash P (z "_iter_escaped_chars"), (.str (z "_iter_escaped_chars") 205), (.ref 28)⟩, ⟨PyData.keyHash P (z "_strip_quoted_realnames"), (.str (z "_strip_quoted_realnames") 217), (.ref 35)⟩, ⟨PyData.keyHash P (z "_check_parenthesis"), (.str (z "_check_parenthesis") 227), (.ref 42)⟩, ⟨PyData.keyHash P (z "_DIV_LIMIT"), (.str (z "_DIV_LIMIT") 231), (.int 4000 230)⟩, ⟨PyData.keyHash P (z "_div2n1n"), (.str (z "_div2n1n") 248), (.ref 49)⟩, ⟨PyData.keyHash P (z "_div3n2n"), (.str (z "_div3n2n") 262), (.ref 56)⟩, ⟨PyData.keyHash P (z "_int2digits"), (.str (z "_int2digits") 273), (.ref 63)⟩, ⟨PyData.keyHash P (z "_digits2int"), (.str (z "_digits2int") 284), (.ref 70)⟩, ⟨PyData.keyHash P (z "_divmod_pos"), (.str (z "_divmod_pos") 299), (.ref 77)⟩, ⟨PyData.keyHash P (z "int_divmod"), (.str (z "int_divmod") 309), (.ref 84)⟩, ⟨PyData.keyHash P (z "b1_set"), (.str (z "b1_set") 371), (.ref 92)⟩, ⟨PyData.keyHash P (z "in_table_b1"), (.str (z "in_table_b1") 378), (.ref 102)⟩] 22), #[]⟩
noncomputable def o12_15 (P : Params) : Obj := ⟨.none, .none, (.fields #[(.int 1 0), (.int 0 0), (.ref 20), (.int 5 0), (.int 0 0), (.ref 27), (.int 18 0), (.int 0 0), (.ref 34), (.int 36 0), (.int 0 0), (.ref 41), (.int 49 0), (.int 0 0), (.ref 48), (.int 65 0), (.int 0 0), (.ref 55), (.int 75 0), (.int 0 0), (.ref 62), (.int 91 0), (.int 0 0), (.ref 69), (.int 100 0), (.int 0 0), (.ref 76), (.int 111 0), (.int 0 0), (.ref 83), (.int 124 0), (.int 0 0), (.ref 101)]), #[]⟩
noncomputable def o96 (P : Params) : Obj := ⟨(.type "tuple"), .none, (.seq #[] 0), #[]⟩
noncomputable def o97 (P : Params) : Obj := ⟨.none, .none, (.fields #[]), #[]⟩
noncomputable def o98 (P : Params) : Obj := ⟨(.type "tuple"), .none, (.seq #[(.str (z "code") 375)] 0), #[]⟩
noncomputable def o99 (P : Params) : Obj := ⟨(.type "tuple"), .none, (.seq #[] 0), #[]⟩
noncomputable def o100 (P : Params) : Obj := ⟨.none, .none, (.func { name := (z "in_table_b1"), qualname := (z "in_table_b1"), params := fp10, body := .stmts fb10, scope := fs10, globals := 0, closure := [], defaults := .none, kwdefaults := .none, doc := .none, pyModule := .none, annotations := .none, code := .none, closureTuple := .none, builtins := 0 }), #[]⟩
noncomputable def o101 (P : Params) : Obj := ⟨(.type "code"), .none, (.fields #[(.str (z "in_table_b1") 372), (.str (z "in_table_b1") 373), (.str (z "/claim/cut.py") 374), (.int 124 0), (.int 1 0), (.int 0 0), (.int 0 0), (.int 3 0), (.ref 96), (.bool true), (.int 181 0), (.ref 97), .none, (.ref 98), (.ref 99), (.ref 100), (.int 376 0), (.int 124 0), (.str (z "/claim/cut.py") 377)]), #[]⟩
noncomputable def o102 (P : Params) : Obj := ⟨(.type "function"), .none, (.func { name := (z "in_table_b1"), qualname := (z "in_table_b1"), params := fp10, body := .stmts fb10, scope := fs10, globals := 3, closure := [], defaults := .none, kwdefaults := .none, doc := .none, pyModule := (.str (z "cpy313.stringprep") 310), annotations := .none, code := (.ref 101), closureTuple := .none, builtins := 0 }), #[]⟩
noncomputable def tree_15 (P : Params) : BT := (.node (PySem.W.boot_o_0 P) (.node (PySem.W.boot_o_1 P) (.node (o3_15 P) (.node (PySem.W.boot_o_7 P) (.node (o15 P) (.node (o31 P) (.node (o63 P) .nil .nil) (.node (o95 P) .nil .nil)) (.node (o47 P) (.node (o79 P) .nil .nil) .nil)) (.node (o23 P) (.node (o39 P) (.node (o71 P) .nil .nil) .nil) (.node (o55 P) (.node (o87 P) .nil .nil) .nil))) (.node (o11 P) (.node (o19 P) (.node (o35 P) (.node (o67 P) .nil .nil) (.node (o99 P) .nil .nil)) (.node (o51 P) (.node (o83 P) .nil .nil) .nil)) (.node (o27 P) (.node (o43 P) (.node (o75 P) .nil .nil) .nil) (.node (o59 P) (.node (o91 P) .nil .nil) .nil)))) (.node (PySem.W.boot_o_5 P) (.node (PySem.W.boot_o_9 P) (.node (o17 P) (.node (o33 P) (.node (o65 P) .nil .nil) (.node (o97 P) .nil .nil)) (.node (o49 P) (.node (o81 P) .nil .nil) .nil)) (.node (o25 P) (.node (o41 P) (.node (o73 P) .nil .nil) .nil) (.node (o57 P) (.node (o89 P) .nil .nil) .nil))) (.node (o13 P) (.node (o21 P) (.node (o37 P) (.node (o69 P) .nil .nil) (.node (o101 P) .nil .nil)) (.node (o53 P) (.node (o85 P) .nil .nil) .nil)) (.node (o29 P) (.node (o45 P) (.node (o77 P) .nil .nil) .nil) (.node (o61 P) (.node (o93 P) .nil .nil) .nil))))) (.node (PySem.W.boot_o_2 P) (.node (PySem.W.boot_o_4 P) (.node (PySem.W.boot_o_8 P) (.node (o16 P) (.node (o32 P) (.node (o64 P) .nil .nil) (.node (o96 P) .nil .nil)) (.node (o48 P) (.node (o80 P) .nil .nil) .nil)) (.node (o24 P) (.node (o40 P) (.node (o72 P) .nil .nil) .nil) (.node (o56 P) (.node (o88 P) .nil .nil) .nil))) (.node (o12_15 P) (.node (o20 P) (.node (o36 P) (.node (o68 P) .nil .nil) (.node (o100 P) .nil .nil)) (.node (o52 P) (.node (o84 P) .nil .nil) .nil)) (.node (o28 P) (.node (o44 P) (.node (o76 P) .nil .nil) .nil) (.node (o60 P) (.node (o92 P) .nil .nil) .nil)))) (.node (PySem.W.boot_o_6 P) (.node (PySem.W.boot_o_10 P) (.node (o18 P) (.node (o34 P) (.node (o66 P) .nil .nil) (.node (o98 P) .nil .nil)) (.node (o50 P) (.node (o82 P) .nil .nil) .nil)) (.node (o26 P) (.node (o42 P) (.node (o74 P) .nil .nil) .nil) (.node (o58 P) (.node (o90 P) .nil .nil) .nil))) (.node (o14 P) (.node (o22 P) (.node (o38 P) (.node (o70 P) .nil .nil) (.node (o102 P) .nil .nil)) (.node (o54 P) (.node (o86 P) .nil .nil) .nil)) (.node (o30 P) (.node (o46 P) (.node (o78 P) .nil .nil) .nil) (.node (o62 P) (.node (o94 P) .nil .nil) .nil))))))
-- n 103 toks 379
-- STATE 16
noncomputable def o103 (_P : Params) : Obj := b3main
noncomputable def o104 (_P : Params) : Obj := b3sub 1
noncomputable def o105 (_P : Params) : Obj := b3sub 2
noncomputable def o106 (_P : Params) : Obj := b3sub 3
noncomputable def o107 (_P : Params) : Obj := b3sub 4
noncomputable def o108 (_P : Params) : Obj := b3sub 5
noncomputable def o109 (_P : Params) : Obj := b3sub 6
noncomputable def o110 (_P : Params) : Obj := b3sub 7
noncomputable def o111 (_P : Params) : Obj := b3sub 8
noncomputable def o112 (_P : Params) : Obj := b3sub 9
noncomputable def o113 (_P : Params) : Obj := b3sub 10
noncomputable def o114 (_P : Params) : Obj := b3sub 11
noncomputable def o115 (_P : Params) : Obj := b3sub 12
noncomputable def o116 (_P : Params) : Obj := b3sub 13
noncomputable def o117 (_P : Params) : Obj := b3sub 14
noncomputable def o118 (_P : Params) : Obj := b3sub 15
noncomputable def o119 (_P : Params) : Obj := b3sub 16
noncomputable def o120 (_P : Params) : Obj := b3sub 17
noncomputable def o121 (_P : Params) : Obj := b3sub 18
noncomputable def o122 (_P : Params) : Obj := b3sub 19
noncomputable def o123 (_P : Params) : Obj := b3sub 20
noncomputable def o124 (_P : Params) : Obj := b3sub 21
noncomputable def o125 (_P : Params) : Obj := b3sub 22
noncomputable def o126 (_P : Params) : Obj := b3sub 23
noncomputable def o127 (_P : Params) : Obj := b3sub 24
noncomputable def o128 (_P : Params) : Obj := b3sub 25
noncomputable def o129 (_P : Params) : Obj := b3sub 26
noncomputable def o130 (_P : Params) : Obj := b3sub 27
noncomputable def o131 (_P : Params) : Obj := b3sub 28
noncomputable def o132 (_P : Params) : Obj := b3sub 29
noncomputable def o133 (_P : Params) : Obj := b3sub 30
noncomputable def o134 (_P : Params) : Obj := b3sub 31
noncomputable def o135 (_P : Params) : Obj := b3sub 32
noncomputable def o136 (_P : Params) : Obj := b3sub 33
noncomputable def o137 (_P : Params) : Obj := b3sub 34
noncomputable def o138 (_P : Params) : Obj := b3sub 35
noncomputable def o139 (_P : Params) : Obj := b3sub 36
noncomputable def o140 (_P : Params) : Obj := b3sub 37
noncomputable def o141 (_P : Params) : Obj := b3sub 38
noncomputable def o3_16 (P : Params) : Obj := ⟨(.type "dict"), .none, (.dict #[⟨PyData.keyHash P (z "__name__"), (.str (z "__name__") 165), (.str (z "cpy313.stringprep") 310)⟩, ⟨PyData.keyHash P (z "__doc__"), (.str (z "__doc__") 166), .none⟩, ⟨PyData.keyHash P (z "__package__"), (.str (z "__package__") 167), .none⟩, ⟨PyData.keyHash P (z "__loader__"), (.str (z "__loader__") 168), (.builtin "__main__.__loader__#opaque")⟩, ⟨PyData.keyHash P (z "__spec__"), (.str (z "__spec__") 169), .none⟩, ⟨PyData.keyHash P (z "__annotations__"), (.str (z "__annotations__") 170), (.ref 6)⟩, ⟨PyData.keyHash P (z "__builtins__"), (.str (z "__builtins__") 171), (.ref 4)⟩, ⟨PyData.keyHash P (z "__file__"), (.str (z "__file__") 173), (.str (z "/claim/cut.py") 172)⟩, ⟨PyData.keyHash P (z "__cached__"), (.str (z "__cached__") 174), .none⟩, ⟨PyData.keyHash P (z "_wall"), (.str (z "_wall") 193), (.ref 21)⟩, ⟨PyData.keyHash P (z "_iter_escaped_chars"), (.str (z "_iter_escaped_chars") 205), (.ref 28)⟩, ⟨PyData.keyHash P (z "_strip_quoted_realnames"), (.str (z "_strip_quoted_realnames") 217), (.ref 35)⟩, ⟨PyData.keyHash P (z "_check_parenthesis"), (.str (z "_check_parenthesis") 227), (.ref 42)⟩, ⟨PyData.keyHash P (z "_DIV_LIMIT"), (.str (z "_DIV_LIMIT") 231), (.int 4000 230)⟩, ⟨PyData.keyHash P (z "_div2n1n"), (.str (z "_div2n1n") 248), (.ref 49)⟩, ⟨PyData.keyHash P (z "_div3n2n"), (.str (z "_div3n2n") 262), (.ref 56)⟩, ⟨PyData.keyHash P (z "_int2digits"), (.str (z "_int2digits") 273), (.ref 63)⟩, ⟨PyData.keyHash P (z "_digits2int"), (.str (z "_digits2int") 284), (.ref 70)⟩, ⟨PyData.keyHash P (z "_divmod_pos"), (.str (z "_divmod_pos") 299), (.ref 77)⟩, ⟨PyData.keyHash P (z "int_divmod"), (.str (z "int_divmod") 309), (.ref 84)⟩, ⟨PyData.keyHash P (z "b1_set"), (.str (z "b1_set") 371), (.ref 92)⟩, ⟨PyData.keyHash P (z "in_table_b1"), (.str (z "in_table_b1") 378), (.ref 102)⟩, ⟨PyData.keyHash P (z "b3_exceptions"), (.str (z "b3_exceptions") 2329), (.ref 103)⟩] 23), #[]⟩
noncomputable def tree_16 (P : Params) : BT := (.node (PySem.W.boot_o_0 P) (.node (PySem.W.boot_o_1 P) (.node (o3_16 P) (.node (PySem.W.boot_o_7 P) (.node (o15 P) (.node (o31 P) (.node (o63 P) (.node (o127 P) .nil .nil) .nil) (.node (o95 P) .nil .nil)) (.node (o47 P) (.node (o79 P) .nil .nil) (.node (o111 P) .nil .nil))) (.node (o23 P) (.node (o39 P) (.node (o71 P) (.node (o135 P) .nil .nil) .nil) (.node (o103 P) .nil .nil)) (.node (o55 P) (.node (o87 P) .nil .nil) (.node (o119 P) .nil .nil)))) (.node (o11 P) (.node (o19 P) (.node (o35 P) (.node (o67 P) (.node (o131 P) .nil .nil) .nil) (.node (o99 P) .nil .nil)) (.node (o51 P) (.node (o83 P) .nil .nil) (.node (o115 P) .nil .nil))) (.node (o27 P) (.node (o43 P) (.node (o75 P) (.node (o139 P) .nil .nil) .nil) (.node (o107 P) .nil .nil)) (.node (o59 P) (.node (o91 P) .nil .nil) (.node (o123 P) .nil .nil))))) (.node (PySem.W.boot_o_5 P) (.node (PySem.W.boot_o_9 P) (.node (o17 P) (.node (o33 P) (.node (o65 P) (.node (o129 P) .nil .nil) .nil) (.node (o97 P) .nil .nil)) (.node (o49 P) (.node (o81 P) .nil .nil) (.node (o113 P) .nil .nil))) (.node (o25 P) (.node (o41 P) (.node (o73 P) (.node (o137 P) .nil .nil) .nil) (.node (o105 P) .nil .nil)) (.node (o57 P) (.node (o89 P) .nil .nil) (.node (o121 P) .nil .nil)))) (.node (o13 P) (.node (o21 P) (.node (o37 P) (.node (o69 P) (.node (o133 P) .nil .nil) .nil) (.node (o101 P) .nil .nil)) (.node (o53 P) (.node (o85 P) .nil .nil) (.node (o117 P) .nil .nil))) (.node (o29 P) (.node (o45 P) (.node (o77 P) (.node (o141 P) .nil .nil) .nil) (.node (o109 P) .nil .nil)) (.node (o61 P) (.node (o93 P) .nil .nil) (.node (o125 P) .nil .nil)))))) (.node (PySem.W.boot_o_2 P) (.node (PySem.W.boot_o_4 P) (.node (PySem.W.boot_o_8 P) (.node (o16 P) (.node (o32 P) (.node (o64 P) (.node (o128 P) .nil .nil) .nil) (.node (o96 P) .nil .nil)) (.node (o48 P) (.node (o80 P) .nil .nil) (.node (o112 P) .nil .nil))) (.node (o24 P) (.node (o40 P) (.node (o72 P) (.node (o136 P) .nil .nil) .nil) (.node (o104 P) .nil .nil)) (.node (o56 P) (.node (o88 P) .nil .nil) (.node (o120 P) .nil .nil)))) (.node (o12_15 P) (.node (o20 P) (.node (o36 P) (.node (o68 P) (.node (o132 P) .nil .nil) .nil) (.node (o100 P) .nil .nil)) (.node (o52 P) (.node (o84 P) .nil .nil) (.node (o116 P) .nil .nil))) (.node (o28 P) (.node (o44 P) (.node (o76 P) (.node (o140 P) .nil .nil) .nil) (.node (o108 P) .nil .nil)) (.node (o60 P) (.node (o92 P) .nil .nil) (.node (o124 P) .nil .nil))))) (.node (PySem.W.boot_o_6 P) (.node (PySem.W.boot_o_10 P) (.node (o18 P) (.node (o34 P) (.node (o66 P) (.node (o130 P) .nil .nil) .nil) (.node (o98 P) .nil .nil)) (.node (o50 P) (.node (o82 P) .nil .nil) (.node (o114 P) .nil .nil))) (.node (o26 P) (.node (o42 P) (.node (o74 P) (.node (o138 P) .nil .nil) .nil) (.node (o106 P) .nil .nil)) (.node (o58 P) (.node (o90 P) .nil .nil) (.node (o122 P) .nil .nil)))) (.node (o14 P) (.node (o22 P) (.node (o38 P) (.node (o70 P) (.node (o134 P) .nil .nil) .nil) (.node (o102 P) .nil .nil)) (.node (o54 P) (.node (o86 P) .nil .nil) (.node (o118 P) .nil .nil))) (.node (o30 P) (.node (o46 P) (.node (o78 P) .nil .nil) (.node (o110 P) .nil .nil)) (.node (o62 P) (.node (o94 P) .nil .nil) (.node (o126 P) .nil .nil)))))))
-- n 142 toks 2330
-- STATE 18
noncomputable def o3_18 (P : Params) : Obj := ⟨(.type "dict"), .none, (.dict #[⟨PyData.keyHash P (z "__name__"), (.str (z "__name__") 165), (.str (z "cpy313.tabnanny") 2338)⟩, ⟨PyData.keyHash P (z "__doc__"), (.str (z "__doc__") 166), .none⟩, ⟨PyData.keyHash P (z "__package__"), (.str (z "__package__") 167), .none⟩, ⟨PyData.keyHash P (z "__loader__"), (.str (z "__loader__") 168), (.builtin "__main__.__loader__#opaque")⟩, ⟨PyData.keyHash P (z "__spec__"), (.str (z "__spec__") 169), .none⟩, ⟨PyData.keyHash P (z "__annotations__"), (.str (z "__annotations__") 170), (.ref 6)⟩, ⟨PyData.keyHash P (z "__builtins__"), (.str (z "__builtins__") 171), (.ref 4)⟩, ⟨PyData.keyHash P (z "__file__"), (.str (z "__file__") 173), (.str (z "/claim/cut.py") 172)⟩, ⟨PyData.keyHash P (z "__cached__"), (.str (z "__cached__") 174), .none⟩, ⟨PyData.keyHash P (z "_wall"), (.str (z "_wall") 193), (.ref 21)⟩, ⟨PyData.keyHash P (z "_iter_escaped_chars"), (.str (z "_iter_escaped_chars") 205), (.ref 28)⟩, ⟨PyData.keyHash P (z "_strip_quoted_realnames"), (.str (z "_strip_quoted_realnames") 217), (.ref 35)⟩, ⟨PyData.keyHash P (z "_check_parenthesis"), (.str (z "_check_parenthesis") 227), (.ref 42)⟩, ⟨PyData.keyHash P (z "_DIV_LIMIT"), (.str (z "_DIV_LIMIT") 231), (.int 4000 230)⟩, ⟨PyData.keyHash P (z "_div2n1n"), (.str (z "_div2n1n") 248), (.ref 49)⟩, ⟨PyData.keyHash P (z "_div3n2n"), (.str (z "_div3n2n") 262), (.ref 56)⟩, ⟨PyData.keyHash P (z "_int2digits"), (.str (z "_int2digits") 273), (.ref 63)⟩, ⟨PyData.keyHash P (z "_digits2int"), (.str (z "_digits2int") 284), (.ref 70)⟩, ⟨PyData.keyHash P (z "_divmod_pos"), (.str (z "_divmod_pos") 299), (.ref 77)⟩, ⟨PyData.keyHash P (z "int_divmod"), (.str (z "int_divmod") 309), (.ref 84)⟩, ⟨PyData.keyHash P (z "b1_set"), (.str (z "b1_set") 371), (.ref 92)⟩, ⟨PyData.keyHash P (z "in_table_b1"), (.str (z "in_table_b1") 378), (.ref 102)⟩, ⟨PyData.keyHash P (z "b3_exceptions"), (.str (z "b3_exceptions") 2329), (.ref 103)⟩, ⟨PyData.keyHash P (z "map_table_b3"), (.str (z "map_table_b3") 2337), (.ref 148)⟩] 24), #[]⟩
noncomputable def o12_18 (P : Params) : Obj := ⟨.none, .none, (.fields #[(.int 1 0), (.int 0 0), (.ref 20), (.int 5 0), (.int 0 0), (.ref 27), (.int 18 0), (.int 0 0), (.ref 34), (.int 36 0), (.int 0 0), (.ref 41), (.int 49 0), (.int 0 0), (.ref 48), (.int 65 0), (.int 0 0), (.ref 55), (.int 75 0), (.int 0 0), (.ref 62), (.int 91 0), (.int 0 0), (.ref 69), (.int 100 0), (.int 0 0), (.ref 76), (.int 111 0), (.int 0 0), (.ref 83), (.int 124 0), (.int 0 0), (.ref 101), (.int 127 0), (.int 0 0), (.ref 147)]), #[]⟩
noncomputable def o142 (P : Params) : Obj := ⟨(.type "tuple"), .none, (.seq #[] 0), #[]⟩
noncomputable def o143 (P : Params) : Obj := ⟨.none, .none, (.fields #[]), #[]⟩
noncomputable def o144 (P : Params) : Obj := ⟨(.type "tuple"), .none, (.seq #[(.str (z "code") 2333), (.str (z "r") 2334)] 0), #[]⟩
noncomputable def o145 (P : Params) : Obj := ⟨(.type "tuple"), .none, (.seq #[] 0), #[]⟩
noncomputable def o146 (P : Params) : Obj := ⟨.none, .none, (.func { name := (z "map_table_b3"), qualname := (z "map_table_b3"), params := fp11, body := .stmts fb11, scope := fs11, globals := 0, closure := [], defaults := .none, kwdefaults := .none, doc := .none, pyModule := .none, annotations := .none, code := .none, closureTuple := .none, builtins := 0 }), #[]⟩
noncomputable def o147 (P : Params) : Obj := ⟨(.type "code"), .none, (.fields #[(.str (z "map_table_b3") 2330), (.str (z "map_table_b3") 2331), (.str (z "/claim/cut.py") 2332), (.int 127 0), (.int 1 0), (.int 0 0), (.int 0 0), (.int 3 0), (.ref 142), (.bool true), (.int 181 0), (.ref 143), .none, (.ref 144), (.ref 145), (.ref 146), (.int 2335 0), (.int 127 0), (.str (z "/claim/cut.py") 2336)]), #[]⟩
noncomputable def o148 (P : Params) : Obj := ⟨(.type "function"), .none, (.func { name := (z "map_table_b3"), qualname := (z "map_table_b3"), params := fp11, body := .stmts fb11, scope := fs11, globals := 3, closure := [], defaults := .none, kwdefaults := .none, doc := .none, pyModule := (.str (z "cpy313.stringprep") 310), annotations := .none, code := (.ref 147), closureTuple := .none, builtins := 0 }), #[]⟩
noncomputable def tree_18 (P : Params) : BT := (.node (PySem.W.boot_o_0 P) (.node (PySem.W.boot_o_1 P) (.node (o3_18 P) (.node (PySem.W.boot_o_7 P) (.node (o15 P) (.node (o31 P) (.node (o63 P) (.node (o127 P) .nil .nil) .nil) (.node (o95 P) .nil .nil)) (.node (o47 P) (.node (o79 P) (.node (o143 P) .nil .nil) .nil) (.node (o111 P) .nil .nil))) (.node (o23 P) (.node (o39 P) (.node (o71 P) (.node (o135 P) .nil .nil) .nil) (.node (o103 P) .nil .nil)) (.node (o55 P) (.node (o87 P) .nil .nil) (.node (o119 P) .nil .nil)))) (.node (o11 P) (.node (o19 P) (.node (o35 P) (.node (o67 P) (.node (o131 P) .nil .nil) .nil) (.node (o99 P) .nil .nil)) (.node (o51 P) (.node (o83 P) (.node (o147 P) .nil .nil) .nil) (.node (o115 P) .nil .nil))) (.node (o27 P) (.node (o43 P) (.node (o75 P) (.node (o139 P) .nil .nil) .nil) (.node (o107 P) .nil .nil)) (.node (o59 P) (.node (o91 P) .nil .nil) (.node (o123 P) .nil .nil))))) (.node (PySem.W.boot_o_5 P) (.node (PySem.W.boot_o_9 P) (.node (o17 P) (.node (o33 P) (.node (o65 P) (.node (o129 P) .nil .nil) .nil) (.node (o97 P) .nil .nil)) (.node (o49 P) (.node (o81 P) (.node (o145 P) .nil .nil) .nil) (.node (o113 P) .nil .nil))) (.node (o25 P) (.node (o41 P) (.node (o73 P) (.node (o137 P) .nil .nil) .nil) (.node (o105 P) .nil .nil)) (.node (o57 P) (.node (o89 P) .nil .nil) (.node (o121 P) .nil .nil)))) (.node (o13 P) (.node (o21 P) (.node (o37 P) (.node (o69 P) (.node (o133 P) .nil .nil) .nil) (.node (o101 P) .nil .nil)) (.node (o53 P) (.node (o85 P) .nil .nil) (.node (o117 P) .nil .nil))) (.node (o29 P) (.node (o45 P) (.node (o77 P) (.node (o141 P) .nil .nil) .nil) (.node (o109 P) .nil .nil)) (.node (o61 P) (.node (o93 P) .nil .nil) (.node (o125 P) .nil .nil)))))) (.node (PySem.W.boot_o_2 P) (.node (PySem.W.boot_o_4 P) (.node (PySem.W.boot_o_8 P) (.node (o16 P) (.node (o32 P) (.node (o64 P) (.node (o128 P) .nil .nil) .nil) (.node (o96 P) .nil .nil)) (.node (o48 P) (.node (o80 P) (.node (o144 P) .nil .nil) .nil) (.node (o112 P) .nil .nil))) (.node (o24 P) (.node (o40 P) (.node (o72 P) (.node (o136 P) .nil .nil) .nil) (.node (o104 P) .nil .nil)) (.node (o56 P) (.node (o88 P) .nil .nil) (.node (o120 P) .nil .nil)))) (.node (o12_18 P) (.node (o20 P) (.node (o36 P) (.node (o68 P) (.node (o132 P) .nil .nil) .nil) (.node (o100 P) .nil .nil)) (.node (o52 P) (.node (o84 P) (.node (o148 P) .nil .nil) .nil) (.node (o116 P) .nil .nil))) (.node (o28 P) (.node (o44 P) (.node (o76 P) (.node (o140 P) .nil .nil) .nil) (.node (o108 P) .nil .nil)) (.node (o60 P) (.node (o92 P) .nil .nil) (.node (o124 P) .nil .nil))))) (.node (PySem.W.boot_o_6 P) (.node (PySem.W.boot_o_10 P) (.node (o18 P) (.node (o34 P) (.node (o66 P) (.node (o130 P) .nil .nil) .nil) (.node (o98 P) .nil .nil)) (.node (o50 P) (.node (o82 P) (.node (o146 P) .nil .nil) .nil) (.node (o114 P) .nil .nil))) (.node (o26 P) (.node (o42 P) (.node (o74 P) (.node (o138 P) .nil .nil) .nil) (.node (o106 P) .nil .nil)) (.node (o58 P) (.node (o90 P) .nil .nil) (.node (o122 P) .nil .nil)))) (.node (o14 P) (.node (o22 P) (.node (o38 P) (.node (o70 P) (.node (o134 P) .nil .nil) .nil) (.node (o102 P) .nil .nil)) (.node (o54 P) (.node (o86 P) .nil .nil) (.node (o118 P) .nil .nil))) (.node (o30 P) (.node (o46 P) (.node (o78 P) (.node (o142 P) .nil .nil) .nil) (.node (o110 P) .nil .nil)) (.node (o62 P) (.node (o94 P) .nil .nil) (.node (o126 P) .nil .nil)))))))
-- n 149 toks 2340
-- STATE 19
noncomputable def o3_19 (P : Params) : Obj := ⟨(.type "dict"), .none, (.dict #[⟨PyData.keyHash P (z "__name__"), (.str (z "__name__") 165), (.str (z "cpy313.tabnanny") 2338)⟩, ⟨PyData.keyHash P (z "__doc__"), (.str (z "__doc__") 166), .none⟩, ⟨PyData.keyHash P (z "__package__"), (.str (z "__package__") 167), .none⟩, ⟨PyData.keyHash P (z "__loader__"), (.str (z "__loader__") 168), (.builtin "__main__.__loader__#opaque")⟩, ⟨PyData.keyHash P (z "__spec__"), (.str (z "__spec__") 169), .none⟩, ⟨PyData.keyHash P (z "__annotations__"), (.str (z "__annotations__") 170), (.ref 6)⟩, ⟨PyData.keyHash P (z "__builtins__"), (.str (z "__builtins__") 171), (.ref 4)⟩, ⟨PyData.keyHash P (z "__file__"), (.str (z "__file__") 173), (.str (z "/claim/cut.py") 172)⟩, ⟨PyData.keyHash P (z "__cached__"), (.str (z "__cached__") 174), .none⟩, ⟨PyData.keyHash P (z "_wall"), (.str (z "_wall") 193), (.ref 21)⟩, ⟨PyData.keyHash P (z "_iter_escaped_chars"), (.str (z "_iter_escaped_chars") 205), (.ref 28)⟩, ⟨PyData.keyHash P (z "_strip_quoted_realnames"), (.str (z "_strip_quoted_realnames") 217), (.ref 35)⟩, ⟨PyData.keyHash P (z "_check_parenthesis"), (.str (z "_check_parenthesis") 227), (.ref 42)⟩, ⟨PyData.keyHash P (z "_DIV_LIMIT"), (.str (z "_DIV_LIMIT") 231), (.int 4000 230)⟩, ⟨PyData.keyHash P (z "_div2n1n"), (.str (z "_div2n1n") 248), (.ref 49)⟩, ⟨PyData.keyHash P (z "_div3n2n"), (.str (z "_div3n2n") 262), (.ref 56)⟩, ⟨PyData.keyHash P (z "_int2digits"), (.str (z "_int2digits") 273), (.ref 63)⟩, ⟨PyData.keyHash P (z "_digits2int"), (.str (z "_digits2int") 284), (.ref 70)⟩, ⟨PyData.keyHash P (z "_divmod_pos"), (.str (z "_divmod_pos") 299), (.ref 77)⟩, ⟨PyData.keyHash P (z "int_divmod"), (.str (z "int_divmod") 309), (.ref 84)⟩, ⟨PyData.keyHash P (z "b1_set"), (.str (z "b1_set") 371), (.ref 92)⟩, ⟨PyData.keyHash P (z "in_table_b1"), (.str (z "in_table_b1") 378), (.ref 102)⟩, ⟨PyData.keyHash P (z "b3_exceptions"), (.str (z "b3_exceptions") 2329), (.ref 103)⟩, ⟨PyData.keyHash P (z "map_table_b3"), (.str (z "map_table_b3") 2337), (.ref 148)⟩, ⟨PyData.keyHash P (z "Whitespace"), (.str (z "Whitespace") 2439), (.ref 210)⟩] 25), #[]⟩
noncomputable def o12_19 (P : Params) : Obj := ⟨.none, .none, (.fields #[(.int 1 0), (.int 0 0), (.ref 20), (.int 5 0), (.int 0 0), (.ref 27), (.int 18 0), (.int 0 0), (.ref 34), (.int 36 0), (.int 0 0), (.ref 41), (.int 49 0), (.int 0 0), (.ref 48), (.int 65 0), (.int 0 0), (.ref 55), (.int 75 0), (.int 0 0), (.ref 62), (.int 91 0), (.int 0 0), (.ref 69), (.int 100 0), (.int 0 0), (.ref 76), (.int 111 0), (.int 0 0), (.ref 83), (.int 124 0), (.int 0 0), (.ref 101), (.int 127 0), (.int 0 0), (.ref 147), (.int 133 0), (.int 0 0), (.ref 154)]), #[]⟩
noncomputable def o149 (P : Params) : Obj := ⟨(.type "tuple"), .none, (.seq #[] 0), #[]⟩
noncomputable def o150 (P : Params) : Obj := ⟨(.type "builtin_function_or_method"), .none, (.fields #[(.builtin "type.__prepare__"), (.type "type")]), #[]⟩
noncomputable def o151 (P : Params) : Obj := ⟨(.type "dict"), .none, (.dict #[⟨PyData.keyHash P (z "__module__"), (.str (z "__module__") 2347), (.str (z "cpy313.tabnanny") 2338)⟩, ⟨PyData.keyHash P (z "__qualname__"), (.str (z "__qualname__") 2349), (.str (z "Whitespace") 2348)⟩, ⟨PyData.keyHash P (z "__firstlineno__"), (.str (z "__firstlineno__") 2351), (.int 133 2350)⟩, ⟨PyData.keyHash P (z "S"), (.str (z "S") 2355), (.str (z " ") 2353)⟩, ⟨PyData.keyHash P (z "T"), (.str (z "T") 2356), (.str (Str.mk #[9]) 2354)⟩, ⟨PyData.keyHash P (z "__init__"), (.str (z "__init__") 2371), (.ref 165)⟩, ⟨PyData.keyHash P (z "longest_run_of_spaces"), (.str (z "longest_run_of_spaces") 2380), (.ref 172)⟩, ⟨PyData.keyHash P (z "indent_level"), (.str (z "indent_level") 2392), (.ref 179)⟩, ⟨PyData.keyHash P (z "equal"), (.str (z "equal") 2400), (.ref 186)⟩, ⟨PyData.keyHash P (z "not_equal_witness"), (.str (z "not_equal_witness") 2408), (.ref 193)⟩, ⟨PyData.keyHash P (z "less"), (.str (z "less") 2418), (.ref 200)⟩, ⟨PyData.keyHash P (z "not_less_witness"), (.str (z "not_less_witness") 2426), (.ref 207)⟩, ⟨PyData.keyHash P (z "__static_attributes__"), (.str (z "__static_attributes__") 2432), (.ref 208)⟩] 13), #[]⟩
noncomputable def o152 (P : Params) : Obj := ⟨(.type "tuple"), .none, (.seq #[] 0), #[]⟩
noncomputable def o153 (P : Params) : Obj := ⟨.none, .none, (.fields #[(.int 136 0), (.int 4 0), (.ref 164), (.int 159 0), (.int 4 0), (.ref 171), (.int 163 0), (.int 4 0), (.ref 178), (.int 170 0), (.int 4 0), (.ref 185), (.int 173 0), (.int 4 0), (.ref 192), (.int 176 0), (.int 4 0), (.ref 199), (.int 187 0), (.int 4 0), (.ref 206)]), #[]⟩
noncomputable def o154 (P : Params) : Obj := ⟨(.type "code"), .none, (.fields #[(.str (z "Whitespace") 2342), (.str (z "Whitespace") 2343), (.str (z "/claim/cut.py") 2344), (.int 133 0), (.int 0 0), (.int 0 0), (.int 0 0), (.int 0 0), (.ref 152), (.bool false), (.int 181 0), (.ref 153), .none, .none, .none, .none, (.int 2345 0), (.int 133 0), (.str (z "/claim/cut.py") 2346)]), #[]⟩
noncomputable def o155 (P : Params) : Obj := ⟨(.type "frame"), .none, .plain, #[(.some (.ref 154)), (.some (.ref 3)), (.some (.ref 151)), .none, (.some (.str (z "cpy313.tabnanny") 2338)), .none, (.some (.ref 0))]⟩
noncomputable def o156 (P : Params) : Obj := ⟨(.type "str_ascii_iterator"), .none, (.fields #[.none, (.int 2 0)]), #[]⟩
noncomputable def o157 (P : Params) : Obj := ⟨(.type "tuple"), .none, (.seq #[] 0), #[]⟩
noncomputable def o158 (P : Params) : Obj := ⟨(.type "StopIteration"), .none, (.fields #[(.ref 157), .none, .none, .none, (.bool false), .none]), #[]⟩
noncomputable def o159 (P : Params) : Obj := ⟨(.type "tuple"), .none, (.seq #[] 0), #[]⟩
noncomputable def o160 (P : Params) : Obj := ⟨.none, .none, (.fields #[]), #[]⟩
noncomputable def o161 (P : Params) : Obj := ⟨(.type "tuple"), .none, (.seq #[(.str (z "self") 2360), (.str (z "ws") 2361), (.str (z "S") 2362), (.str (z "T") 2363), (.str (z "count") 2364), (.str (z "b") 2365), (.str (z "n") 2366), (.str (z "nt") 2367), (.str (z "ch") 2368)] 0), #[]⟩
noncomputable def o162 (P : Params) : Obj := ⟨(.type "tuple"), .none, (.seq #[] 0), #[]⟩
noncomputable def o163 (P : Params) : Obj := ⟨.none, .none, (.func { name := (z "__init__"), qualname := (z "Whitespace.__init__"), params := fp12, body := .stmts fb12, scope := fs12, globals := 0, closure := [], defaults := .none, kwdefaults := .none, doc := .none, pyModule := .none, annotations := .none, code := .none, closureTuple := .none, builtins := 0 }), #[]⟩
noncomputable def o164 (P : Params) : Obj := ⟨(.type "code"), .none, (.fields #[(.str (z "__init__") 2357), (.str (z "Whitespace.__init__") 2358), (.str (z "/claim/cut.py") 2359), (.int 136 0), (.int 2 0), (.int 0 0), (.int 0 0), (.int 3 0), (.ref 159), (.bool true), (.int 181 0), (.ref 160), .none, (.ref 161), (.ref 162), (.ref 163), (.int 2369 0), (.int 136 0), (.str (z "/claim/cut.py") 2370)]), #[]⟩
noncomputable def o165 (P : Params) : Obj := ⟨(.type "function"), .none, (.func { name := (z "__init__"), qualname := (z "Whitespace.__init__"), params := fp12, body := .stmts fb12, scope := fs12, globals := 3, closure := [], defaults := .none, kwdefaults := .none, doc := .none, pyModule := (.str (z "cpy313.tabnanny") 2338), annotations := .none, code := (.ref 164), closureTuple := .none, builtins := 0 }), #[]⟩
noncomputable def o166 (P : Params) : Obj := ⟨(.type "tuple"), .none, (.seq #[] 0), #[]⟩
noncomputable def o167 (P : Params) : Obj := ⟨.none, .none, (.fields #[]), #[]⟩
noncomputable def o168 (P : Params) : Obj := ⟨(.type "tuple"), .none, (.seq #[(.str (z "self") 2375), (.str (z "count") 2376), (.str (z "trailing") 2377)] 0), #[]⟩
noncomputable def o169 (P : Params) : Obj := ⟨(.type "tuple"), .none, (.seq #[] 0), #[]⟩
noncomputable def o170 (P : Params) : Obj := ⟨.none, .none, (.func { name := (z "longest_run_of_spaces"), qualname := (z "Whitespace.longest_run_of_spaces"), params := fp13, body := .stmts fb13, scope := fs13, globals := 0, closure := [], defaults := .none, kwdefaults := .none, doc := .none, pyModule := .none, annotations := .none, code := .none, closureTuple := .none, builtins := 0 }), #[]⟩
noncomputable def o171 (P : Params) : Obj := ⟨(.type "code"), .none, (.fields #[(.str (z "longest_run_of_spaces") 2372), (.str (z "Whitespace.longest_run_of_spaces") 2373), (.str (z "/claim/cut.py") 2374), (.int 159 0), (.int 1 0), (.int 0 0), (.int 0 0), (.int 3 0), (.ref 166), (.bool true), (.int 181 0), (.ref 167), .none, (.ref 168), (.ref 169), (.ref 170), (.int 2378 0), (.int 159 0), (.str (z "/claim/cut.py") 2379)]), #[]⟩
noncomputable def o172 (P : Params) : Obj := ⟨(.type "function"), .none, (.func { name := (z "longest_run_of_spaces"), qualname := (z "Whitespace.longest_run_of_spaces"), params := fp13, body := .stmts fb13, scope := fs13, globals := 3, closure := [], defaults := .none, kwdefaults := .none, doc := .none, pyModule := (.str (z "cpy313.tabnanny") 2338), annotations := .none, code := (.ref 171), closureTuple := .none, builtins := 0 }), #[]⟩
noncomputable def o173 (P : Params) : Obj := ⟨(.type "tuple"), .none, (.seq #[] 0), #[]⟩
noncomputable def o174 (P : Params) : Obj := ⟨.none, .none, (.fields #[]), #[]⟩
noncomputable def o175 (P : Params) : Obj := ⟨(.type "tuple"), .none, (.seq #[(.str (z "self") 2384), (.str (z "tabsize") 2385), (.str (z "count") 2386), (.str (z "trailing") 2387), (.str (z "il") 2388), (.str (z "i") 2389)] 0), #[]⟩
noncomputable def o176 (P : Params) : Obj := ⟨(.type "tuple"), .none, (.seq #[] 0), #[]⟩
noncomputable def o177 (P : Params) : Obj := ⟨.none, .none, (.func { name := (z "indent_level"), qualname := (z "Whitespace.indent_level"), params := fp14, body := .stmts fb14, scope := fs14, globals := 0, closure := [], defaults := .none, kwdefaults := .none, doc := .none, pyModule := .none, annotations := .none, code := .none, closureTuple := .none, builtins := 0 }), #[]⟩
noncomputable def o178 (P : Params) : Obj := ⟨(.type "code"), .none, (.fields #[(.str (z "indent_level") 2381), (.str (z "Whitespace.indent_level") 2382), (.str (z "/claim/cut.py") 2383), (.int 163 0), (.int 2 0), (.int 0 0), (.int 0 0), (.int 3 0), (.ref 173), (.bool true), (.int 181 0), (.ref 174), .none, (.ref 175), (.ref 176), (.ref 177), (.int 2390 0), (.int 163 0), (.str (z "/claim/cut.py") 2391)]), #[]⟩
noncomputable def o179 (P : Params) : Obj := ⟨(.type "function"), .none, (.func { name := (z "indent_level"), qualname := (z "Whitespace.indent_level"), params := fp14, body := .stmts fb14, scope := fs14, globals := 3, closure := [], defaults := .none, kwdefaults := .none, doc := .none, pyModule := (.str (z "cpy313.tabnanny") 2338), annotations := .none, code := (.ref 178), closureTuple := .none, builtins := 0 }), #[]⟩
noncomputable def o180 (P : Params) : Obj := ⟨(.type "tuple"), .none, (.seq #[] 0), #[]⟩
noncomputable def o181 (P : Params) : Obj := ⟨.none, .none, (.fields #[]), #[]⟩
noncomputable def o182 (P : Params) : Obj := ⟨(.type "tuple"), .none, (.seq #[(.str (z "self") 2396), (.str (z "other") 2397)] 0), #[]⟩
noncomputable def o183 (P : Params) : Obj := ⟨(.type "tuple"), .none, (.seq #[] 0), #[]⟩
noncomputable def o184 (P : Params) : Obj := ⟨.none, .none, (.func { name := (z "equal"), qualname := (z "Whitespace.equal"), params := fp15, body := .stmts fb15, scope := fs15, globals := 0, closure := [], defaults := .none, kwdefaults := .none, doc := .none, pyModule := .none, annotations := .none, code := .none, closureTuple := .none, builtins := 0 }), #[]⟩
noncomputable def o185 (P : Params) : Obj := ⟨(.type "code"), .none, (.fields #[(.str (z "equal") 2393), (.str (z "Whitespace.equal") 2394), (.str (z "/claim/cut.py") 2395), (.int 170 0), (.int 2 0), (.int 0 0), (.int 0 0), (.int 3 0), (.ref 180), (.bool true), (.int 181 0), (.ref 181), .none, (.ref 182), (.ref 183), (.ref 184), (.int 2398 0), (.int 170 0), (.str (z "/claim/cut.py") 2399)]), #[]⟩
noncomputable def o186 (P : Params) : Obj := ⟨(.type "function"), .none, (.func { name := (z "equal"), qualname := (z "Whitespace.equal"), params := fp15, body := .stmts fb15, scope := fs15, globals := 3, closure := [], defaults := .none, kwdefaults := .none, doc := .none, pyModule := (.str (z "cpy313.tabnanny") 2338), annotations := .none, code := (.ref 185), closureTuple := .none, builtins := 0 }), #[]⟩
noncomputable def o187 (P : Params) : Obj := ⟨(.type "tuple"), .none, (.seq #[] 0), #[]⟩
noncomputable def o188 (P : Params) : Obj := ⟨.none, .none, (.fields #[]), #[]⟩
noncomputable def o189 (P : Params) : Obj := ⟨(.type "tuple"), .none, (.seq #[(.str (z "self") 2404), (.str (z "other") 2405)] 0), #[]⟩
noncomputable def o190 (P : Params) : Obj := ⟨(.type "tuple"), .none, (.seq #[] 0), #[]⟩
noncomputable def o191 (P : Params) : Obj := ⟨.none, .none, (.func { name := (z "not_equal_witness"), qualname := (z "Whitespace.not_equal_witness"), params := fp16, body := .stmts fb16, scope := fs16, globals := 0, closure := [], defaults := .none, kwdefaults := .none, doc := .none, pyModule := .none, annotations := .none, code := .none, closureTuple := .none, builtins := 0 }), #[]⟩
noncomputable def o192 (P : Params) : Obj := ⟨(.type "code"), .none, (.fields #[(.str (z "not_equal_witness") 2401), (.str (z "Whitespace.not_equal_witness") 2402), (.str (z "/claim/cut.py") 2403), (.int 173 0), (.int 2 0), (.int 0 0), (.int 0 0), (.int 3 0), (.ref 187), (.bool true), (.int 181 0), (.ref 188), .none, (.ref 189), (.ref 190), (.ref 191), (.int 2406 0), (.int 173 0), (.str (z "/claim/cut.py") 2407)]), #[]⟩
noncomputable def o193 (P : Params) : Obj := ⟨(.type "function"), .none, (.func { name := (z "not_equal_witness"), qualname := (z "Whitespace.not_equal_witness"), params := fp16, body := .stmts fb16, scope := fs16, globals := 3, closure := [], defaults := .none, kwdefaults := .none, doc := .none, pyModule := (.str (z "cpy313.tabnanny") 2338), annotations := .none, code := (.ref 192), closureTuple := .none, builtins := 0 }), #[]⟩
noncomputable def o194 (P : Params) : Obj := ⟨(.type "tuple"), .none, (.seq #[] 0), #[]⟩
noncomputable def o195 (P : Params) : Obj := ⟨.none, .none, (.fields #[]), #[]⟩
noncomputable def o196 (P : Params) : Obj := ⟨(.type "tuple"), .none, (.seq #[(.str (z "self") 2412), (.str (z "other") 2413), (.str (z "n") 2414), (.str (z "ts") 2415)] 0), #[]⟩
noncomputable def o197 (P : Params) : Obj := ⟨(.type "tuple"), .none, (.seq #[] 0), #[]⟩
noncomputable def o198 (P : Params) : Obj := ⟨.none, .none, (.func { name := (z "less"), qualname := (z "Whitespace.less"), params := fp17, body := .stmts fb17, scope := fs17, globals := 0, closure := [], defaults := .none, kwdefaults := .none, doc := .none, pyModule := .none, annotations := .none, code := .none, closureTuple := .none, builtins := 0 }), #[]⟩
noncomputable def o199 (P : Params) : Obj := ⟨(.type "code"), .none, (.fields #[(.str (z "less") 2409), (.str (z "Whitespace.less") 2410), (.str (z "/claim/cut.py") 2411), (.int 176 0), (.int 2 0), (.int 0 0), (.int 0 0), (.int 3 0), (.ref 194), (.bool true), (.int 181 0), (.ref 195), .none, (.ref 196), (.ref 197), (.ref 198), (.int 2416 0), (.int 176 0), (.str (z "/claim/cut.py") 2417)]), #[]⟩
noncomputable def o200 (P : Params) : Obj := ⟨(.type "function"), .none, (.func { name := (z "less"), qualname := (z "Whitespace.less"), params := fp17, body := .stmts fb17, scope := fs17, globals := 3, closure := [], defaults := .none, kwdefaults := .none, doc := .none, pyModule := (.str (z "cpy313.tabnanny") 2338), annotations := .none, code := (.ref 199), closureTuple := .none, builtins := 0 }), #[]⟩
noncomputable def o201 (P : Params) : Obj := ⟨(.type "tuple"), .none, (.seq #[] 0), #[]⟩
noncomputable def o202 (P : Params) : Obj := ⟨.none, .none, (.fields #[]), #[]⟩
noncomputable def o203 (P : Params) : Obj := ⟨(.type "tuple"), .none, (.seq #[(.str (z "self") 2422), (.str (z "other") 2423)] 0), #[]⟩
noncomputable def o204 (P : Params) : Obj := ⟨(.type "tuple"), .none, (.seq #[] 0), #[]⟩
noncomputable def o205 (P : Params) : Obj := ⟨.none, .none, (.func { name := (z "not_less_witness"), qualname := (z "Whitespace.not_less_witness"), params := fp18, body := .stmts fb18, scope := fs18, globals := 0, closure := [], defaults := .none, kwdefaults := .none, doc := .none, pyModule := .none, annotations := .none, code := .none, closureTuple := .none, builtins := 0 }), #[]⟩
noncomputable def o206 (P : Params) : Obj := ⟨(.type "code"), .none, (.fields #[(.str (z "not_less_witness") 2419), (.str (z "Whitespace.not_less_witness") 2420), (.str (z "/claim/cut.py") 2421), (.int 187 0), (.int 2 0), (.int 0 0), (.int 0 0), (.int 3 0), (.ref 201), (.bool true), (.int 181 0), (.ref 202), .none, (.ref 203), (.ref 204), (.ref 205), (.int 2424 0), (.int 187 0), (.str (z "/claim/cut.py") 2425)]), #[]⟩
noncomputable def o207 (P : Params) : Obj := ⟨(.type "function"), .none, (.func { name := (z "not_less_witness"), qualname := (z "Whitespace.not_less_witness"), params := fp18, body := .stmts fb18, scope := fs18, globals := 3, closure := [], defaults := .none, kwdefaults := .none, doc := .none, pyModule := (.str (z "cpy313.tabnanny") 2338), annotations := .none, code := (.ref 206), closureTuple := .none, builtins := 0 }), #[]⟩
noncomputable def o208 (P : Params) : Obj := ⟨(.type "tuple"), .none, (.seq #[(.str (z "is_simple") 2427), (.str (z "n") 2428), (.str (z "norm") 2429), (.str (z "nt") 2430), (.str (z "raw") 2431)] 0), #[]⟩
noncomputable def o209 (P : Params) : Obj := ⟨(.type "dict"), .none, (.dict #[⟨PyData.keyHash P (z "__module__"), (.str (z "__module__") 2347), (.str (z "cpy313.tabnanny") 2338)⟩, ⟨PyData.keyHash P (z "__firstlineno__"), (.str (z "__firstlineno__") 2351), (.int 133 2350)⟩, ⟨PyData.keyHash P (z "S"), (.str (z "S") 2355), (.str (z " ") 2353)⟩, ⟨PyData.keyHash P (z "T"), (.str (z "T") 2356), (.str (Str.mk #[9]) 2354)⟩, ⟨PyData.keyHash P (z "__init__"), (.str (z "__init__") 2371), (.ref 165)⟩, ⟨PyData.keyHash P (z "longest_run_of_spaces"), (.str (z "longest_run_of_spaces") 2380), (.ref 172)⟩, ⟨PyData.keyHash P (z "indent_level"), (.str (z "indent_level") 2392), (.ref 179)⟩, ⟨PyData.keyHash P (z "equal"), (.str (z "equal") 2400), (.ref 186)⟩, ⟨PyData.keyHash P (z "not_equal_witness"), (.str (z "not_equal_witness") 2408), (.ref 193)⟩, ⟨PyData.keyHash P (z "less"), (.str (z "less") 2418), (.ref 200)⟩, ⟨PyData.keyHash P (z "not_less_witness"), (.str (z "not_less_witness") 2426), (.ref 207)⟩, ⟨PyData.keyHash P (z "__static_attributes__"), (.str (z "__static_attributes__") 2432), (.ref 208)⟩, ⟨PyData.keyHash P (z "__dict__"), (.str (z "__dict__") 2434), (.ref 211)⟩, ⟨PyData.keyHash P (z "__weakref__"), (.str (z "__weakref__") 2436), (.ref 212)⟩, ⟨PyData.keyHash P (z "__doc__"), (.str (z "__doc__") 2437), .none⟩] 4), #[]⟩
noncomputable def o210 (P : Params) : Obj := ⟨(.type "type"), .none, (.cls { name := (z "Whitespace"), bases := [(.type "object")], mro := [(.ref 210), (.type "object")], ns := 209, qualname := (z "Whitespace"), hasDict := true, slotNames := [], subclasses := [], abstract := false, collection := .none, hasDel := false }), #[.none, .none, (.some (.str (z "Whitespace") 2340)), (.some (.str (z "Whitespace") 2348)), (.some (.builtin "object.__new__")), (.some (.bool true))]⟩
noncomputable def o211 (P : Params) : Obj := ⟨(.type "getset_descriptor"), .none, (.fields #[(.str (z "__dict__") 2433), (.ref 210), (.builtin "function.__dict__"), (.builtin "function.__dict__#set")]), #[]⟩
noncomputable def o212 (P : Params) : Obj := ⟨(.type "getset_descriptor"), .none, (.fields #[(.str (z "__weakref__") 2435), (.ref 210), (.builtin "ExceptionGroup.__weakref__"), .none]), #[]⟩
noncomputable def o213 (P : Params) : Obj := ⟨(.type "super"), .none, (.fields #[(.ref 210), (.ref 210), (.ref 210)]), #[]⟩
noncomputable def o214 (P : Params) : Obj := ⟨(.type "builtin_function_or_method"), .none, (.fields #[(.builtin "object.__init_subclass__"), (.ref 210)]), #[]⟩
noncomputable def tree_19 (P : Params) : BT := (.node (PySem.W.boot_o_0 P) (.node (PySem.W.boot_o_1 P) (.node (o3_19 P) (.node (PySem.W.boot_o_7 P) (.node (o15 P) (.node (o31 P) (.node (o63 P) (.node (o127 P) .nil .nil) (.node (o191 P) .nil .nil)) (.node (o95 P) (.node (o159 P) .nil .nil) .nil)) (.node (o47 P) (.node (o79 P) (.node (o143 P) .nil .nil) (.node (o207 P) .nil .nil)) (.node (o111 P) (.node (o175 P) .nil .nil) .nil))) (.node (o23 P) (.node (o39 P) (.node (o71 P) (.node (o135 P) .nil .nil) (.node (o199 P) .nil .nil)) (.node (o103 P) (.node (o167 P) .nil .nil) .nil)) (.node (o55 P) (.node (o87 P) (.node (o151 P) .nil .nil) .nil) (.node (o119 P) (.node (o183 P) .nil .nil) .nil)))) (.node (o11 P) (.node (o19 P) (.node (o35 P) (.node (o67 P) (.node (o131 P) .nil .nil) (.node (o195 P) .nil .nil)) (.node (o99 P) (.node (o163 P) .nil .nil) .nil)) (.node (o51 P) (.node (o83 P) (.node (o147 P) .nil .nil) (.node (o211 P) .nil .nil)) (.node (o115 P) (.node (o179 P) .nil .nil) .nil))) (.node (o27 P) (.node (o43 P) (.node (o75 P) (.node (o139 P) .nil .nil) (.node (o203 P) .nil .nil)) (.node (o107 P) (.node (o171 P) .nil .nil) .nil)) (.node (o59 P) (.node (o91 P) (.node (o155 P) .nil .nil) .nil) (.node (o123 P) (.node (o187 P) .nil .nil) .nil))))) (.node (PySem.W.boot_o_5 P) (.node (PySem.W.boot_o_9 P) (.node (o17 P) (.node (o33 P) (.node (o65 P) (.node (o129 P) .nil .nil) (.node (o193 P) .nil .nil)) (.node (o97 P) (.node (o161 P) .nil .nil) .nil)) (.node (o49 P) (.node (o81 P) (.node (o145 P) .nil .nil) (.node (o209 P) .nil .nil)) (.node (o113 P) (.node (o177 P) .nil .nil) .nil))) (.node (o25 P) (.node (o41 P) (.node (o73 P) (.node (o137 P) .nil .nil) (.node (o201 P) .nil .nil)) (.node (o105 P) (.node (o169 P) .nil .nil) .nil)) (.node (o57 P) (.node (o89 P) (.node (o153 P) .nil .nil) .nil) (.node (o121 P) (.node (o185 P) .nil .nil) .nil)))) (.node (o13 P) (.node (o21 P) (.node (o37 P) (.node (o69 P) (.node (o133 P) .nil .nil) (.node (o197 P) .nil .nil)) (.node (o101 P) (.node (o165 P) .nil .nil) .nil)) (.node (o53 P) (.node (o85 P) (.node (o149 P) .nil .nil) (.node (o213 P) .nil .nil)) (.node (o117 P) (.node (o181 P) .nil .nil) .nil))) (.node (o29 P) (.node (o45 P) (.node (o77 P) (.node (o141 P) .nil .nil) (.node (o205 P) .nil .nil)) (.node (o109 P) (.node (o173 P) .nil .nil) .nil)) (.node (o61 P) (.node (o93 P) (.node (o157 P) .nil .nil) .nil) (.node (o125 P) (.node (o189 P) .nil .nil) .nil)))))) (.node (PySem.W.boot_o_2 P) (.node (PySem.W.boot_o_4 P) (.node (PySem.W.boot_o_8 P) (.node (o16 P) (.node (o32 P) (.node (o64 P) (.node (o128 P) .nil .nil) (.node (o192 P) .nil .nil)) (.node (o96 P) (.node (o160 P) .nil .nil) .nil)) (.node (o48 P) (.node (o80 P) (.node (o144 P) .nil .nil) (.node (o208 P) .nil .nil)) (.node (o112 P) (.node (o176 P) .nil .nil) .nil))) (.node (o24 P) (.node (o40 P) (.node (o72 P) (.node (o136 P) .nil .nil) (.node (o200 P) .nil .nil)) (.node (o104 P) (.node (o168 P) .nil .nil) .nil)) (.node (o56 P) (.node (o88 P) (.node (o152 P) .nil .nil) .nil) (.node (o120 P) (.node (o184 P) .nil .nil) .nil)))) (.node (o12_19 P) (.node (o20 P) (.node (o36 P) (.node (o68 P) (.node (o132 P) .nil .nil) (.node (o196 P) .nil .nil)) (.node (o100 P) (.node (o164 P) .nil .nil) .nil)) (.node (o52 P) (.node (o84 P) (.node (o148 P) .nil .nil) (.node (o212 P) .nil .nil)) (.node (o116 P) (.node (o180 P) .nil .nil) .nil))) (.node (o28 P) (.node (o44 P) (.node (o76 P) (.node (o140 P) .nil .nil) (.node (o204 P) .nil .nil)) (.node (o108 P) (.node (o172 P) .nil .nil) .nil)) (.node (o60 P) (.node (o92 P) (.node (o156 P) .nil .nil) .nil) (.node (o124 P) (.node (o188 P) .nil .nil) .nil))))) (.node (PySem.W.boot_o_6 P) (.node (PySem.W.boot_o_10 P) (.node (o18 P) (.node (o34 P) (.node (o66 P) (.node (o130 P) .nil .nil) (.node (o194 P) .nil .nil)) (.node (o98 P) (.node (o162 P) .nil .nil) .nil)) (.node (o50 P) (.node (o82 P) (.node (o146 P) .nil .nil) (.node (o210 P) .nil .nil)) (.node (o114 P) (.node (o178 P) .nil .nil) .nil))) (.node (o26 P) (.node (o42 P) (.node (o74 P) (.node (o138 P) .nil .nil) (.node (o202 P) .nil .nil)) (.node (o106 P) (.node (o170 P) .nil .nil) .nil)) (.node (o58 P) (.node (o90 P) (.node (o154 P) .nil .nil) .nil) (.node (o122 P) (.node (o186 P) .nil .nil) .nil)))) (.node (o14 P) (.node (o22 P) (.node (o38 P) (.node (o70 P) (.node (o134 P) .nil .nil) (.node (o198 P) .nil .nil)) (.node (o102 P) (.node (o166 P) .nil .nil) .nil)) (.node (o54 P) (.node (o86 P) (.node (o150 P) .nil .nil) (.node (o214 P) .nil .nil)) (.node (o118 P) (.node (o182 P) .nil .nil) .nil))) (.node (o30 P) (.node (o46 P) (.node (o78 P) (.node (o142 P) .nil .nil) (.node (o206 P) .nil .nil)) (.node (o110 P) (.node (o174 P) .nil .nil) .nil)) (.node (o62 P) (.node (o94 P) (.node (o158 P) .nil .nil) .nil) (.node (o126 P) (.node (o190 P) .nil .nil) .nil)))))))
-- n 215 toks 2440
-- STATE 27
noncomputable def o3_27 (P : Params) : Obj := ⟨(.type "dict"), .none, (.dict #[⟨PyData.keyHash P (z "__name__"), (.str (z "__name__") 165), (.str (z "law_uc0065_01") 2440)⟩, ⟨PyData.keyHash P (z "__doc__"), (.str (z "__doc__") 166), .none⟩, ⟨PyData.keyHash P (z "__package__"), (.str (z "__package__") 167), .none⟩, ⟨PyData.keyHash P (z "__loader__"), (.str (z "__loader__") 168), (.builtin "__main__.__loader__#opaque")⟩, ⟨PyData.keyHash P (z "__spec__"), (.str (z "__spec__") 169), .none⟩, ⟨PyData.keyHash P (z "__annotations__"), (.str (z "__annotations__") 170), (.ref 6)⟩, ⟨PyData.keyHash P (z "__builtins__"), (.str (z "__builtins__") 171), (.ref 4)⟩, ⟨PyData.keyHash P (z "__file__"), (.str (z "__file__") 173), (.str (z "/claim/cut.py") 172)⟩, ⟨PyData.keyHash P (z "__cached__"), (.str (z "__cached__") 174), .none⟩, ⟨PyData.keyHash P (z "_wall"), (.str (z "_wall") 193), (.ref 21)⟩, ⟨PyData.keyHash P (z "_iter_escaped_chars"), (.str (z "_iter_escaped_chars") 205), (.ref 28)⟩, ⟨PyData.keyHash P (z "_strip_quoted_realnames"), (.str (z "_strip_quoted_realnames") 217), (.ref 35)⟩, ⟨PyData.keyHash P (z "_check_parenthesis"), (.str (z "_check_parenthesis") 227), (.ref 42)⟩, ⟨PyData.keyHash P (z "_DIV_LIMIT"), (.str (z "_DIV_LIMIT") 231), (.int 4000 230)⟩, ⟨PyData.keyHash P (z "_div2n1n"), (.str (z "_div2n1n") 248), (.ref 49)⟩, ⟨PyData.keyHash P (z "_div3n2n"), (.str (z "_div3n2n") 262), (.ref 56)⟩, ⟨PyData.keyHash P (z "_int2digits"), (.str (z "_int2digits") 273), (.ref 63)⟩, ⟨PyData.keyHash P (z "_digits2int"), (.str (z "_digits2int") 284), (.ref 70)⟩, ⟨PyData.keyHash P (z "_divmod_pos"), (.str (z "_divmod_pos") 299), (.ref 77)⟩, ⟨PyData.keyHash P (z "int_divmod"), (.str (z "int_divmod") 309), (.ref 84)⟩, ⟨PyData.keyHash P (z "b1_set"), (.str (z "b1_set") 371), (.ref 92)⟩, ⟨PyData.keyHash P (z "in_table_b1"), (.str (z "in_table_b1") 378), (.ref 102)⟩, ⟨PyData.keyHash P (z "b3_exceptions"), (.str (z "b3_exceptions") 2329), (.ref 103)⟩, ⟨PyData.keyHash P (z "map_table_b3"), (.str (z "map_table_b3") 2337), (.ref 148)⟩, ⟨PyData.keyHash P (z "Whitespace"), (.str (z "Whitespace") 2439), (.ref 210)⟩, ⟨PyData.keyHash P (z "_law_hidden"), (.str (z "_law_hidden") 2448), (.ref 221)⟩, ⟨PyData.keyHash P (z "_law_one"), (.str (z "_law_one") 2459), (.ref 228)⟩, ⟨PyData.keyHash P (z "_law_typed"), (.str (z "_law_typed") 2473), (.ref 235)⟩, ⟨PyData.keyHash P (z "_law_prepared"), (.str (z "_law_prepared") 2483), (.ref 242)⟩, ⟨PyData.keyHash P (z "_law_dress"), (.str (z "_law_dress") 2490), (.ref 249)⟩, ⟨PyData.keyHash P (z "_law_weight"), (.str (z "_law_weight") 2504), (.ref 256)⟩, ⟨PyData.keyHash P (z "law"), (.str (z "law") 2510), (.ref 261)⟩] 32), #[]⟩
noncomputable def o12_27 (P : Params) : Obj := ⟨.none, .none, (.fields #[(.int 1 0), (.int 0 0), (.ref 20), (.int 5 0), (.int 0 0), (.ref 27), (.int 18 0), (.int 0 0), (.ref 34), (.int 36 0), (.int 0 0), (.ref 41), (.int 49 0), (.int 0 0), (.ref 48), (.int 65 0), (.int 0 0), (.ref 55), (.int 75 0), (.int 0 0), (.ref 62), (.int 91 0), (.int 0 0), (.ref 69), (.int 100 0), (.int 0 0), (.ref 76), (.int 111 0), (.int 0 0), (.ref 83), (.int 124 0), (.int 0 0), (.ref 101), (.int 127 0), (.int 0 0), (.ref 147), (.int 133 0), (.int 0 0), (.ref 154), (.int 190 0), (.int 0 0), (.ref 220), (.int 194 0), (.int 0 0), (.ref 227), (.int 203 0), (.int 0 0), (.ref 234), (.int 214 0), (.int 0 0), (.ref 241), (.int 223 0), (.int 0 0), (.ref 248), (.int 225 0), (.int 0 0), (.ref 255), (.int 232 0), (.int 0 0), (.ref 260)]), #[]⟩
noncomputable def o215 (P : Params) : Obj := ⟨(.type "tuple"), .none, (.seq #[] 0), #[]⟩
noncomputable def o216 (P : Params) : Obj := ⟨.none, .none, (.fields #[]), #[]⟩
noncomputable def o217 (P : Params) : Obj := ⟨(.type "tuple"), .none, (.seq #[(.str (z "v") 2445)] 0), #[]⟩
noncomputable def o218 (P : Params) : Obj := ⟨(.type "tuple"), .none, (.seq #[] 0), #[]⟩
noncomputable def o219 (P : Params) : Obj := ⟨.none, .none, (.func { name := (z "_law_hidden"), qualname := (z "_law_hidden"), params := fp19, body := .stmts fb19, scope := fs19, globals := 0, closure := [], defaults := .none, kwdefaults := .none, doc := .none, pyModule := .none, annotations := .none, code := .none, closureTuple := .none, builtins := 0 }), #[]⟩
noncomputable def o220 (P : Params) : Obj := ⟨(.type "code"), .none, (.fields #[(.str (z "_law_hidden") 2442), (.str (z "_law_hidden") 2443), (.str (z "/claim/cut.py") 2444), (.int 190 0), (.int 1 0), (.int 0 0), (.int 0 0), (.int 3 0), (.ref 215), (.bool true), (.int 181 0), (.ref 216), .none, (.ref 217), (.ref 218), (.ref 219), (.int 2446 0), (.int 190 0), (.str (z "/claim/cut.py") 2447)]), #[]⟩
noncomputable def o221 (P : Params) : Obj := ⟨(.type "function"), .none, (.func { name := (z "_law_hidden"), qualname := (z "_law_hidden"), params := fp19, body := .stmts fb19, scope := fs19, globals := 3, closure := [], defaults := .none, kwdefaults := .none, doc := .none, pyModule := (.str (z "law_uc0065_01") 2440), annotations := .none, code := (.ref 220), closureTuple := .none, builtins := 0 }), #[]⟩
noncomputable def o222 (P : Params) : Obj := ⟨(.type "tuple"), .none, (.seq #[] 0), #[]⟩
noncomputable def o223 (P : Params) : Obj := ⟨.none, .none, (.fields #[]), #[]⟩
noncomputable def o224 (P : Params) : Obj := ⟨(.type "tuple"), .none, (.seq #[(.str (z "v") 2452), (.str (z "code") 2453), (.str (z "j") 2454), (.str (z "way") 2455), (.str (z "first") 2456)] 0), #[]⟩
noncomputable def o225 (P : Params) : Obj := ⟨(.type "tuple"), .none, (.seq #[] 0), #[]⟩
noncomputable def o226 (P : Params) : Obj := ⟨.none, .none, (.func { name := (z "_law_one"), qualname := (z "_law_one"), params := fp20, body := .stmts fb20, scope := fs20, globals := 0, closure := [], defaults := .none, kwdefaults := .none, doc := .none, pyModule := .none, annotations := .none, code := .none, closureTuple := .none, builtins := 0 }), #[]⟩
noncomputable def o227 (P : Params) : Obj := ⟨(.type "code"), .none, (.fields #[(.str (z "_law_one") 2449), (.str (z "_law_one") 2450), (.str (z "/claim/cut.py") 2451), (.int 194 0), (.int 1 0), (.int 0 0), (.int 0 0), (.int 3 0), (.ref 222), (.bool true), (.int 181 0), (.ref 223), .none, (.ref 224), (.ref 225), (.ref 226), (.int 2457 0), (.int 194 0), (.str (z "/claim/cut.py") 2458)]), #[]⟩
noncomputable def o228 (P : Params) : Obj := ⟨(.type "function"), .none, (.func { name := (z "_law_one"), qualname := (z "_law_one"), params := fp20, body := .stmts fb20, scope := fs20, globals := 3, closure := [], defaults := .none, kwdefaults := .none, doc := .none, pyModule := (.str (z "law_uc0065_01") 2440), annotations := .none, code := (.ref 227), closureTuple := .none, builtins := 0 }), #[]⟩
noncomputable def o229 (P : Params) : Obj := ⟨(.type "tuple"), .none, (.seq #[] 0), #[]⟩
noncomputable def o230 (P : Params) : Obj := ⟨.none, .none, (.fields #[]), #[]⟩
noncomputable def o231 (P : Params) : Obj := ⟨(.type "tuple"), .none, (.seq #[(.str (z "size") 2463), (.str (z "v") 2464), (.str (z "typed") 2465), (.str (z "meant") 2466), (.str (z "most") 2467), (.str (z "k") 2468), (.str (z "words") 2469), (.str (z "word") 2470)] 0), #[]⟩
noncomputable def o232 (P : Params) : Obj := ⟨(.type "tuple"), .none, (.seq #[] 0), #[]⟩
noncomputable def o233 (P : Params) : Obj := ⟨.none, .none, (.func { name := (z "_law_typed"), qualname := (z "_law_typed"), params := fp21, body := .stmts fb21, scope := fs21, globals := 0, closure := [], defaults := .none, kwdefaults := .none, doc := .none, pyModule := .none, annotations := .none, code := .none, closureTuple := .none, builtins := 0 }), #[]⟩
noncomputable def o234 (P : Params) : Obj := ⟨(.type "code"), .none, (.fields #[(.str (z "_law_typed") 2460), (.str (z "_law_typed") 2461), (.str (z "/claim/cut.py") 2462), (.int 203 0), (.int 2 0), (.int 0 0), (.int 0 0), (.int 3 0), (.ref 229), (.bool true), (.int 181 0), (.ref 230), .none, (.ref 231), (.ref 232), (.ref 233), (.int 2471 0), (.int 203 0), (.str (z "/claim/cut.py") 2472)]), #[]⟩
noncomputable def o235 (P : Params) : Obj := ⟨(.type "function"), .none, (.func { name := (z "_law_typed"), qualname := (z "_law_typed"), params := fp21, body := .stmts fb21, scope := fs21, globals := 3, closure := [], defaults := .none, kwdefaults := .none, doc := .none, pyModule := (.str (z "law_uc0065_01") 2440), annotations := .none, code := (.ref 234), closureTuple := .none, builtins := 0 }), #[]⟩
noncomputable def o236 (P : Params) : Obj := ⟨(.type "tuple"), .none, (.seq #[] 0), #[]⟩
noncomputable def o237 (P : Params) : Obj := ⟨.none, .none, (.fields #[]), #[]⟩
noncomputable def o238 (P : Params) : Obj := ⟨(.type "tuple"), .none, (.seq #[(.str (z "typed") 2477), (.str (z "left") 2478), (.str (z "sign") 2479), (.str (z "held") 2480)] 0), #[]⟩
noncomputable def o239 (P : Params) : Obj := ⟨(.type "tuple"), .none, (.seq #[] 0), #[]⟩
noncomputable def o240 (P : Params) : Obj := ⟨.none, .none, (.func { name := (z "_law_prepared"), qualname := (z "_law_prepared"), params := fp22, body := .stmts fb22, scope := fs22, globals := 0, closure := [], defaults := .none, kwdefaults := .none, doc := .none, pyModule := .none, annotations := .none, code := .none, closureTuple := .none, builtins := 0 }), #[]⟩
noncomputable def o241 (P : Params) : Obj := ⟨(.type "code"), .none, (.fields #[(.str (z "_law_prepared") 2474), (.str (z "_law_prepared") 2475), (.str (z "/claim/cut.py") 2476), (.int 214 0), (.int 1 0), (.int 0 0), (.int 0 0), (.int 3 0), (.ref 236), (.bool true), (.int 181 0), (.ref 237), .none, (.ref 238), (.ref 239), (.ref 240), (.int 2481 0), (.int 214 0), (.str (z "/claim/cut.py") 2482)]), #[]⟩
noncomputable def o242 (P : Params) : Obj := ⟨(.type "function"), .none, (.func { name := (z "_law_prepared"), qualname := (z "_law_prepared"), params := fp22, body := .stmts fb22, scope := fs22, globals := 3, closure := [], defaults := .none, kwdefaults := .none, doc := .none, pyModule := (.str (z "law_uc0065_01") 2440), annotations := .none, code := (.ref 241), closureTuple := .none, builtins := 0 }), #[]⟩
noncomputable def o243 (P : Params) : Obj := ⟨(.type "tuple"), .none, (.seq #[] 0), #[]⟩
noncomputable def o244 (P : Params) : Obj := ⟨.none, .none, (.fields #[]), #[]⟩
noncomputable def o245 (P : Params) : Obj := ⟨(.type "tuple"), .none, (.seq #[(.str (z "k") 2487)] 0), #[]⟩
noncomputable def o246 (P : Params) : Obj := ⟨(.type "tuple"), .none, (.seq #[] 0), #[]⟩
noncomputable def o247 (P : Params) : Obj := ⟨.none, .none, (.func { name := (z "_law_dress"), qualname := (z "_law_dress"), params := fp23, body := .stmts fb23, scope := fs23, globals := 0, closure := [], defaults := .none, kwdefaults := .none, doc := .none, pyModule := .none, annotations := .none, code := .none, closureTuple := .none, builtins := 0 }), #[]⟩
noncomputable def o248 (P : Params) : Obj := ⟨(.type "code"), .none, (.fields #[(.str (z "_law_dress") 2484), (.str (z "_law_dress") 2485), (.str (z "/claim/cut.py") 2486), (.int 223 0), (.int 1 0), (.int 0 0), (.int 0 0), (.int 3 0), (.ref 243), (.bool true), (.int 181 0), (.ref 244), .none, (.ref 245), (.ref 246), (.ref 247), (.int 2488 0), (.int 223 0), (.str (z "/claim/cut.py") 2489)]), #[]⟩
noncomputable def o249 (P : Params) : Obj := ⟨(.type "function"), .none, (.func { name := (z "_law_dress"), qualname := (z "_law_dress"), params := fp23, body := .stmts fb23, scope := fs23, globals := 3, closure := [], defaults := .none, kwdefaults := .none, doc := .none, pyModule := (.str (z "law_uc0065_01") 2440), annotations := .none, code := (.ref 248), closureTuple := .none, builtins := 0 }), #[]⟩
noncomputable def o250 (P : Params) : Obj := ⟨(.type "tuple"), .none, (.seq #[] 0), #[]⟩
noncomputable def o251 (P : Params) : Obj := ⟨.none, .none, (.fields #[]), #[]⟩
noncomputable def o252 (P : Params) : Obj := ⟨(.type "tuple"), .none, (.seq #[(.str (z "space") 2494), (.str (z "start") 2495), (.str (z "x") 2496), (.str (z "y") 2497), (.str (z "value") 2498), (.str (z "hooks") 2499), (.str (z "counts") 2500), (.str (z "size") 2501)] 0), #[]⟩
noncomputable def o253 (P : Params) : Obj := ⟨(.type "tuple"), .none, (.seq #[] 0), #[]⟩
noncomputable def o254 (P : Params) : Obj := ⟨.none, .none, (.func { name := (z "_law_weight"), qualname := (z "_law_weight"), params := fp24, body := .stmts fb24, scope := fs24, globals := 0, closure := [], defaults := .none, kwdefaults := .none, doc := .none, pyModule := .none, annotations := .none, code := .none, closureTuple := .none, builtins := 0 }), #[]⟩
noncomputable def o255 (P : Params) : Obj := ⟨(.type "code"), .none, (.fields #[(.str (z "_law_weight") 2491), (.str (z "_law_weight") 2492), (.str (z "/claim/cut.py") 2493), (.int 225 0), (.int 4 0), (.int 0 0), (.int 0 0), (.int 3 0), (.ref 250), (.bool true), (.int 181 0), (.ref 251), .none, (.ref 252), (.ref 253), (.ref 254), (.int 2502 0), (.int 225 0), (.str (z "/claim/cut.py") 2503)]), #[]⟩
noncomputable def o256 (P : Params) : Obj := ⟨(.type "function"), .none, (.func { name := (z "_law_weight"), qualname := (z "_law_weight"), params := fp24, body := .stmts fb24, scope := fs24, globals := 3, closure := [], defaults := .none, kwdefaults := .none, doc := .none, pyModule := (.str (z "law_uc0065_01") 2440), annotations := .none, code := (.ref 255), closureTuple := .none, builtins := 0 }), #[]⟩
noncomputable def o257 (P : Params) : Obj := ⟨(.type "tuple"), .none, (.seq #[] 0), #[]⟩
noncomputable def o258 (P : Params) : Obj := ⟨.none, .none, (.fields #[]), #[]⟩
noncomputable def o259 (P : Params) : Obj := ⟨.none, .none, (.func { name := (z "law"), qualname := (z "law"), params := fp25, body := .stmts fb25, scope := fs25, globals := 0, closure := [], defaults := .none, kwdefaults := .none, doc := .none, pyModule := .none, annotations := .none, code := .none, closureTuple := .none, builtins := 0 }), #[]⟩
noncomputable def o260 (P : Params) : Obj := ⟨(.type "code"), .none, (.fields #[(.str (z "law") 2505), (.str (z "law") 2506), (.str (z "/claim/cut.py") 2507), (.int 232 0), (.int 1 0), (.int 0 0), (.int 0 0), (.int 3 0), (.ref 257), (.bool true), (.int 181 0), (.ref 258), .none, .none, .none, (.ref 259), (.int 2508 0), (.int 232 0), (.str (z "/claim/cut.py") 2509)]), #[]⟩
noncomputable def o261 (P : Params) : Obj := ⟨(.type "function"), .none, (.func { name := (z "law"), qualname := (z "law"), params := fp25, body := .stmts fb25, scope := fs25, globals := 3, closure := [], defaults := .none, kwdefaults := .none, doc := .none, pyModule := (.str (z "law_uc0065_01") 2440), annotations := .none, code := (.ref 260), closureTuple := .none, builtins := 0 }), #[]⟩
noncomputable def tree_27 (P : Params) : BT := (.node (PySem.W.boot_o_0 P) (.node (PySem.W.boot_o_1 P) (.node (o3_27 P) (.node (PySem.W.boot_o_7 P) (.node (o15 P) (.node (o31 P) (.node (o63 P) (.node (o127 P) (.node (o255 P) .nil .nil) .nil) (.node (o191 P) .nil .nil)) (.node (o95 P) (.node (o159 P) .nil .nil) (.node (o223 P) .nil .nil))) (.node (o47 P) (.node (o79 P) (.node (o143 P) .nil .nil) (.node (o207 P) .nil .nil)) (.node (o111 P) (.node (o175 P) .nil .nil) (.node (o239 P) .nil .nil)))) (.node (o23 P) (.node (o39 P) (.node (o71 P) (.node (o135 P) .nil .nil) (.node (o199 P) .nil .nil)) (.node (o103 P) (.node (o167 P) .nil .nil) (.node (o231 P) .nil .nil))) (.node (o55 P) (.node (o87 P) (.node (o151 P) .nil .nil) (.node (o215 P) .nil .nil)) (.node (o119 P) (.node (o183 P) .nil .nil) (.node (o247 P) .nil .nil))))) (.node (o11 P) (.node (o19 P) (.node (o35 P) (.node (o67 P) (.node (o131 P) (.node (o259 P) .nil .nil) .nil) (.node (o195 P) .nil .nil)) (.node (o99 P) (.node (o163 P) .nil .nil) (.node (o227 P) .nil .nil))) (.node (o51 P) (.node (o83 P) (.node (o147 P) .nil .nil) (.node (o211 P) .nil .nil)) (.node (o115 P) (.node (o179 P) .nil .nil) (.node (o243 P) .nil .nil)))) (.node (o27 P) (.node (o43 P) (.node (o75 P) (.node (o139 P) .nil .nil) (.node (o203 P) .nil .nil)) (.node (o107 P) (.node (o171 P) .nil .nil) (.node (o235 P) .nil .nil))) (.node (o59 P) (.node (o91 P) (.node (o155 P) .nil .nil) (.node (o219 P) .nil .nil)) (.node (o123 P) (.node (o187 P) .nil .nil) (.node (o251 P) .nil .nil)))))) (.node (PySem.W.boot_o_5 P) (.node (PySem.W.boot_o_9 P) (.node (o17 P) (.node (o33 P) (.node (o65 P) (.node (o129 P) (.node (o257 P) .nil .nil) .nil) (.node (o193 P) .nil .nil)) (.node (o97 P) (.node (o161 P) .nil .nil) (.node (o225 P) .nil .nil))) (.node (o49 P) (.node (o81 P) (.node (o145 P) .nil .nil) (.node (o209 P) .nil .nil)) (.node (o113 P) (.node (o177 P) .nil .nil) (.node (o241 P) .nil .nil)))) (.node (o25 P) (.node (o41 P) (.node (o73 P) (.node (o137 P) .nil .nil) (.node (o201 P) .nil .nil)) (.node (o105 P) (.node (o169 P) .nil .nil) (.node (o233 P) .nil .nil))) (.node (o57 P) (.node (o89 P) (.node (o153 P) .nil .nil) (.node (o217 P) .nil .nil)) (.node (o121 P) (.node (o185 P) .nil .nil) (.node (o249 P) .nil .nil))))) (.node (o13 P) (.node (o21 P) (.node (o37 P) (.node (o69 P) (.node (o133 P) (.node (o261 P) .nil .nil) .nil) (.node (o197 P) .nil .nil)) (.node (o101 P) (.node (o165 P) .nil .nil) (.node (o229 P) .nil .nil))) (.node (o53 P) (.node (o85 P) (.node (o149 P) .nil .nil) (.node (o213 P) .nil .nil)) (.node (o117 P) (.node (o181 P) .nil .nil) (.node (o245 P) .nil .nil)))) (.node (o29 P) (.node (o45 P) (.node (o77 P) (.node (o141 P) .nil .nil) (.node (o205 P) .nil .nil)) (.node (o109 P) (.node (o173 P) .nil .nil) (.node (o237 P) .nil .nil))) (.node (o61 P) (.node (o93 P) (.node (o157 P) .nil .nil) (.node (o221 P) .nil .nil)) (.node (o125 P) (.node (o189 P) .nil .nil) (.node (o253 P) .nil .nil))))))) (.node (PySem.W.boot_o_2 P) (.node (PySem.W.boot_o_4 P) (.node (PySem.W.boot_o_8 P) (.node (o16 P) (.node (o32 P) (.node (o64 P) (.node (o128 P) (.node (o256 P) .nil .nil) .nil) (.node (o192 P) .nil .nil)) (.node (o96 P) (.node (o160 P) .nil .nil) (.node (o224 P) .nil .nil))) (.node (o48 P) (.node (o80 P) (.node (o144 P) .nil .nil) (.node (o208 P) .nil .nil)) (.node (o112 P) (.node (o176 P) .nil .nil) (.node (o240 P) .nil .nil)))) (.node (o24 P) (.node (o40 P) (.node (o72 P) (.node (o136 P) .nil .nil) (.node (o200 P) .nil .nil)) (.node (o104 P) (.node (o168 P) .nil .nil) (.node (o232 P) .nil .nil))) (.node (o56 P) (.node (o88 P) (.node (o152 P) .nil .nil) (.node (o216 P) .nil .nil)) (.node (o120 P) (.node (o184 P) .nil .nil) (.node (o248 P) .nil .nil))))) (.node (o12_27 P) (.node (o20 P) (.node (o36 P) (.node (o68 P) (.node (o132 P) (.node (o260 P) .nil .nil) .nil) (.node (o196 P) .nil .nil)) (.node (o100 P) (.node (o164 P) .nil .nil) (.node (o228 P) .nil .nil))) (.node (o52 P) (.node (o84 P) (.node (o148 P) .nil .nil) (.node (o212 P) .nil .nil)) (.node (o116 P) (.node (o180 P) .nil .nil) (.node (o244 P) .nil .nil)))) (.node (o28 P) (.node (o44 P) (.node (o76 P) (.node (o140 P) .nil .nil) (.node (o204 P) .nil .nil)) (.node (o108 P) (.node (o172 P) .nil .nil) (.node (o236 P) .nil .nil))) (.node (o60 P) (.node (o92 P) (.node (o156 P) .nil .nil) (.node (o220 P) .nil .nil)) (.node (o124 P) (.node (o188 P) .nil .nil) (.node (o252 P) .nil .nil)))))) (.node (PySem.W.boot_o_6 P) (.node (PySem.W.boot_o_10 P) (.node (o18 P) (.node (o34 P) (.node (o66 P) (.node (o130 P) (.node (o258 P) .nil .nil) .nil) (.node (o194 P) .nil .nil)) (.node (o98 P) (.node (o162 P) .nil .nil) (.node (o226 P) .nil .nil))) (.node (o50 P) (.node (o82 P) (.node (o146 P) .nil .nil) (.node (o210 P) .nil .nil)) (.node (o114 P) (.node (o178 P) .nil .nil) (.node (o242 P) .nil .nil)))) (.node (o26 P) (.node (o42 P) (.node (o74 P) (.node (o138 P) .nil .nil) (.node (o202 P) .nil .nil)) (.node (o106 P) (.node (o170 P) .nil .nil) (.node (o234 P) .nil .nil))) (.node (o58 P) (.node (o90 P) (.node (o154 P) .nil .nil) (.node (o218 P) .nil .nil)) (.node (o122 P) (.node (o186 P) .nil .nil) (.node (o250 P) .nil .nil))))) (.node (o14 P) (.node (o22 P) (.node (o38 P) (.node (o70 P) (.node (o134 P) .nil .nil) (.node (o198 P) .nil .nil)) (.node (o102 P) (.node (o166 P) .nil .nil) (.node (o230 P) .nil .nil))) (.node (o54 P) (.node (o86 P) (.node (o150 P) .nil .nil) (.node (o214 P) .nil .nil)) (.node (o118 P) (.node (o182 P) .nil .nil) (.node (o246 P) .nil .nil)))) (.node (o30 P) (.node (o46 P) (.node (o78 P) (.node (o142 P) .nil .nil) (.node (o206 P) .nil .nil)) (.node (o110 P) (.node (o174 P) .nil .nil) (.node (o238 P) .nil .nil))) (.node (o62 P) (.node (o94 P) (.node (o158 P) .nil .nil) (.node (o222 P) .nil .nil)) (.node (o126 P) (.node (o190 P) .nil .nil) (.node (o254 P) .nil .nil))))))))
-- n 262 toks 2511

noncomputable abbrev bd : List Stmt := behindTheImports pw
noncomputable def env0 : Env := { scope := pw.main.scope, locals := mainNs, globals := mainNs, cells := [], code := .ref 13, frame := some 14 }
noncomputable abbrev cd0 : Code := .body bd env0
noncomputable abbrev q0 : Pos := ⟨0, 0, 0, 0⟩
noncomputable abbrev ST (t : Params → BT) (n k : Nat) (w : World) (os : OsState) : SharedT := ⟨t w.params, n, {}, #[], {}, k, os⟩
noncomputable abbrev grp (i k : Nat) : List Stmt := (bd.drop i).take k
end
end Mine

end
-- G4
section
open PySem PySem.W PySem.Calls PyProof.Rows
set_option Elab.async false
set_option maxRecDepth 100000
set_option linter.unusedVariables false
namespace Mine
theorem none_ne {α : Type} {c : α} {P : Prop} (h : none = some c) : P := by cases h
theorem conE_of {e : Expr} {c : Const} (h : conE e = some c) : ∃ u p, e = .Constant c u p := by
  cases e <;> first | exact none_ne h | exact ⟨_, _, congrArg (Expr.Constant · _ _) (Option.some.inj h)⟩
theorem dec1_of {k : Option Expr} {v : Expr} {q : KS} (h : dec1 k v = some q) : ∃ u p u2 p2, k = some (.Constant (.int q.1) u p) ∧ v = .Constant (.str q.2) u2 p2 := by
  simp only [dec1, Option.bind_eq_some_iff] at h
  obtain ⟨e, rfl, c, h1, d, h2, h⟩ := h
  obtain ⟨u, p, rfl⟩ := conE_of h1
  obtain ⟨u2, p2, rfl⟩ := conE_of h2
  cases c <;> first | exact none_ne h | (cases d <;> first | exact none_ne h | (rw [← Option.some.inj h]; exact ⟨_, _, _, _, rfl, rfl⟩))
theorem dec_items (env : Env) (pos : Pos) : ∀ (ks : List (Option Expr)) (vs : List Expr), okK ks vs = true →
    (evalEachOpt ks env).zip ((evalEach vs env).map fun v => do let x ← v; standAt pos; pure x) = (decK ks vs).map (itm pos) := by
  intro ks
  induction ks with
  | nil => intro vs _; cases vs <;> rfl
  | cons k ks ih =>
    intro vs h
    cases vs with
    | nil => cases h
    | cons v vs =>
      have h1 := (Bool.and_eq_true _ _ ▸ h).1
      have h2 := (Bool.and_eq_true _ _ ▸ h).2
      rw [List.zip_cons_cons, List.all_cons, Bool.and_eq_true] at h2
      obtain ⟨q, hq⟩ := Option.isSome_iff_exists.mp h2.1
      have h3 := ih vs (by unfold okK; rw [h2.2, Bool.and_true]; simpa using h1)
      obtain ⟨u, p, u2, p2, rfl, rfl⟩ := dec1_of hq
      show ((some (eval (.Constant (.int q.1) u p) env)) :: evalEachOpt ks env).zip ((eval (.Constant (.str q.2) u2 p2) env :: evalEach vs env).map _) = List.map (itm pos) (q :: decK ks vs)
      rw [List.map_cons, List.zip_cons_cons, h3]
      rfl
theorem b3_ok : okK b3ks b3vs = true := by kernel_rfl
theorem b3_up : up 0 b3 = true := by kernel_rfl
theorem b3_cut : b3 = chunk 0 ++ (((List.range' 1 37).map chunk).flatten ++ chunk 38) := by kernel_rfl
theorem chunk_17 : ∀ x ∈ (List.range' 1 37).map chunk, x.length = 17 := by
  have h : (((List.range' 1 37).map chunk).all fun x => x.length == 17) = true := by kernel_rfl
  intro x hx
  have := List.all_eq_true.mp h x hx
  simpa using this
theorem st16 : bd[16]? = some (.Assign b3tg (.Dict b3ks b3vs b3dp) b3ap) := by kernel_rfl
theorem sw16 : swapsWithSole b3tg (.Dict b3ks b3vs b3dp) b3ap.line env0 = pure false := by kernel_rfl
theorem ss16 : swappedStores b3tg (.Dict b3ks b3vs b3dp) env0 = pure none := by kernel_rfl
end Mine
namespace Mine
theorem heap16 (P : Params) : (lay (absHeap (tree_15 P) 103 {}) (b3main :: subsOf 430 ((List.range' 1 37).map chunk ++ [chunk 38]))).update 3 (Obj.putName (z "b3_exceptions") (PyData.keyHash P (z "b3_exceptions")) (.str (z "b3_exceptions") 2329) (.ref 103)) = absHeap (tree_16 P) 142 {} := by kernel_rfl
theorem lay_nil (h0 : Heap) : lay h0 [] = h0 := by
  obtain ⟨o, l⟩ := h0
  show Heap.mk _ _ = Heap.mk _ _
  congr 1
noncomputable def h15 (w : World) : Heap := absHeap (tree_15 w.params) 103 {}
theorem h15_size (w : World) : (h15 w).objs.size = 103 := absHeap_size _ _ _
theorem toks16 : toksOf 379 (chunk 0 :: (List.range' 1 37).map chunk ++ [chunk 38]) = 2329 := by kernel_rfl
theorem b3main_is : dob (mainOf 379 (chunk 0 :: (List.range' 1 37).map chunk ++ [chunk 38])).toArray (mainOf 379 (chunk 0 :: (List.range' 1 37).map chunk ++ [chunk 38])).length = b3main := by kernel_rfl
noncomputable abbrev subs16 : List Obj := subsOf 430 ((List.range' 1 37).map chunk ++ [chunk 38])
theorem fin16 (w : World) (os : OsState) (K : Flow → Sem Fin) (H : Value → Sem Fin) (gd : Bool → Bool) (lv : List Value → List Value) (F : Frame) (B : List Frame) (N : Nat) (c : Code) (p0 : Pos) :
    topRun treeTable pw w 11 (some (.ref 6)) (N + 7) (stL h15 w os (b3main :: subs16) 2329) ⟨(assignStores env0 (.ref 103) none ((assignEach b3tg env0).map (·.2))).wrap K H gd lv, c, p0, F :: B⟩ =
    topRun treeTable pw w 11 (some (.ref 6)) N (ST tree_16 142 2330 w os).abs ⟨K .next, c, ⟨126, 0, 126, 13⟩, F :: B⟩ := by kernel_rfl
theorem ev_pre16 (c : Code) (p0 : Pos) : Ev pw 11 (some (.ref 6)) h15 (do standAt b3ap; eval (.Dict b3ks b3vs b3dp) env0) c p0 [] 379 (.ref 103) b3dp (b3main :: subs16) 2329 := by
  rw [arm_eval_Dict, dec_items env0 b3dp _ _ b3_ok]
  have hd := ev_display (p := pw) (n₀ := 11) (ann := some (.ref 6)) (h0 := h15) (c := c) (pos := b3dp) h15_size (by decide) (by decide) 379 (chunk 0) ((List.range' 1 37).map chunk) (chunk 38) (by kernel_rfl) chunk_17 (by
    have : (chunk 38).length = 4 := by kernel_rfl
    omega) (by
    intro h
    have : (chunk 38).length = 4 := by kernel_rfl
    rw [h] at this; cases this) (by rw [← b3_cut]; exact b3_up) (by
    have h1 : (chunk 0).length = 17 := by kernel_rfl
    have h2 : ((List.range' 1 37).map chunk).flatten.length = 629 := by kernel_rfl
    omega)
  rw [← b3_cut, toks16, b3main_is] at hd
  exact ev_bind ev_at (ev_bind ev_at hd)
theorem exec16 : exec (.Assign b3tg (.Dict b3ks b3vs b3dp) b3ap) env0 = ((do standAt b3ap; eval (.Dict b3ks b3vs b3dp) env0) >>= fun v => assignStores env0 v none ((assignEach b3tg env0).map (·.2))) := by
  rw [arm_exec_Assign, sw16, ss16]
  simp only [pure_bind, Bool.false_eq_true, if_false, bind_assoc]
theorem grp16 : grp 16 1 = [.Assign b3tg (.Dict b3ks b3vs b3dp) b3ap] := by kernel_rfl
theorem g4 : ∃ n, ∀ (w : World) (os : OsState) (rest : List Stmt) (N : Nat) (r : Shared), topRun treeTable pw w 11 (some (.ref 6)) N (ST tree_16 142 2330 w os).abs (restOf rest env0 cd0 ⟨126, 0, 126, 13⟩ [topFrame q0]) = some r →
    topRun treeTable pw w 11 (some (.ref 6)) (N + n) (ST tree_15 103 379 w os).abs (restOf (grp 16 1 ++ rest) env0 cd0 ⟨124, 0, 125, 30⟩ [topFrame q0]) = some r := by
  obtain ⟨n, h⟩ := ev_pre16 cd0 ⟨124, 0, 125, 30⟩
  refine ⟨7 + n, fun w os rest N r hr => ?_⟩
  rw [grp16, List.singleton_append]
  unfold restOf
  rw [execs_cons_wrap, exec16, Sem.bind_eq_wrap', Sem.wrap_wrap, ← Nat.add_assoc]
  have e : (ST tree_15 103 379 w os).abs = stL h15 w os [] 379 := by
    show Shared.mk _ _ _ _ _ = Shared.mk _ _ _ _ _
    rw [lay_nil]; rfl
  rw [e]
  refine h w os _ _ _ _ _ _ _ _ ?_
  rw [fin16]
  exact hr
end Mine

end
-- Run
section
open PySem PySem.W PySem.Calls PyProof.Rows
set_option Elab.async false
set_option maxRecDepth 100000
set_option linter.unusedVariables false
namespace Mine
noncomputable abbrev A6 : Option Value := some (.ref 6)
theorem g1 (w : World) (os : OsState) : segRunT treeTable pw w 11 A6 1 374 (ST tree_b 15 187 w os) (piecesOf (grp 0 14) env0 cd0 q0 [topFrame q0]) =
   some (.next, ST tree_13 85 312 w os, cd0, ⟨122, 0, 122, 8⟩) := by kernel_rfl
theorem g2_q (w : World) (os : OsState) (b : Bool) : Fast.tw10110043849684766642 Fast.tw14364793385576792824 pw (w.withFollow "special-get-raises" b) 11 A6 1 999 (ST tree_13 85 312 (w.withFollow "special-get-raises" b) os) (piecesOf (grp 14 1) env0 cd0 ⟨122, 0, 122, 8⟩ [topFrame q0]) =
   some (.next, ST tree_14 96 372 (w.withFollow "special-get-raises" b) os, cd0, ⟨123, 0, 123, 6⟩) := by cases b <;> kernel_rfl
theorem g2 (w : World) (os : OsState) : segRunT treeTable pw w 11 A6 1 999 (ST tree_13 85 312 w os) (piecesOf (grp 14 1) env0 cd0 ⟨122, 0, 122, 8⟩ [topFrame q0]) =
   some (.next, ST tree_14 96 372 w os, cd0, ⟨123, 0, 123, 6⟩) := by
  have h := g2_q w os (w.params.followText "special-get-raises")
  rw [World.withFollow_self, ← Fast.te10110043849684766642, ← Fast.te14364793385576792824] at h
  exact h
theorem g3 (w : World) (os : OsState) : segRunT treeTable pw w 11 A6 1 30 (ST tree_14 96 372 w os) (piecesOf (grp 15 1) env0 cd0 ⟨123, 0, 123, 6⟩ [topFrame q0]) =
   some (.next, ST tree_15 103 379 w os, cd0, ⟨124, 0, 125, 30⟩) := by kernel_rfl
theorem g5 (w : World) (os : OsState) : segRunT treeTable pw w 11 A6 1 40 (ST tree_16 142 2330 w os) (piecesOf (grp 17 2) env0 cd0 ⟨126, 0, 126, 13⟩ [topFrame q0]) =
   some (.next, ST tree_18 149 2340 w os, cd0, ⟨132, 0, 132, 8⟩) := by kernel_rfl
theorem g6_q (w : World) (os : OsState) (b : Bool) : Fast.tw10110043849684766642 Fast.tw14364793385576792824 pw (w.withFollow "special-get-raises" b) 11 A6 1 493 (ST tree_18 149 2340 (w.withFollow "special-get-raises" b) os) (piecesOf (grp 19 1) env0 cd0 ⟨132, 0, 132, 8⟩ [topFrame q0]) =
   some (.next, ST tree_19 215 2440 (w.withFollow "special-get-raises" b) os, cd0, ⟨133, 0, 188, 16⟩) := by cases b <;> kernel_rfl
theorem g6 (w : World) (os : OsState) : segRunT treeTable pw w 11 A6 1 493 (ST tree_18 149 2340 w os) (piecesOf (grp 19 1) env0 cd0 ⟨132, 0, 132, 8⟩ [topFrame q0]) =
   some (.next, ST tree_19 215 2440 w os, cd0, ⟨133, 0, 188, 16⟩) := by
  have h := g6_q w os (w.params.followText "special-get-raises")
  rw [World.withFollow_self, ← Fast.te10110043849684766642, ← Fast.te14364793385576792824] at h
  exact h
theorem g7 (w : World) (os : OsState) : segRunT treeTable pw w 11 A6 1 231 (ST tree_19 215 2440 w os) (piecesOf (grp 20 8) env0 cd0 ⟨133, 0, 188, 16⟩ [topFrame q0]) =
   some (.next, ST tree_27 262 2511 w os, cd0, ⟨232, 0, 284, 15⟩) := by kernel_rfl
theorem g_pre (w : World) (os : OsState) : topGo treeTable pw w 11 A6 12 ⟨boot_heap w.params, #[], boot_drawn, boot_toks, os⟩ (topStub pw) = some ((ST tree_b 15 187 w os).abs, ⟨denote treeTable cd0, cd0, q0, [topFrame q0]⟩) := by kernel_rfl
theorem g_block (w : World) (os : OsState) : segRun treeTable pw w 11 A6 1 1 (ST tree_b 15 187 w os).abs (blockOf bd env0 cd0 q0 [topFrame q0]) = some (.next, (ST tree_b 15 187 w os).abs, cd0, q0) := by kernel_rfl
theorem g_fin (w : World) (os : OsState) : topRun treeTable pw w 11 A6 2 (ST tree_27 262 2511 w os).abs ⟨doneF .next, cd0, ⟨232, 0, 284, 15⟩, [topFrame q0]⟩ = some (ST tree_27 262 2511 w os).abs := by kernel_rfl
theorem bd_cut : bd = grp 0 14 ++ (grp 14 1 ++ (grp 15 1 ++ (grp 16 1 ++ (grp 17 2 ++ (grp 19 1 ++ (grp 20 8 ++ [])))))) := by kernel_rfl
theorem run_top : ∃ M, ∀ (w : World) (os : OsState), topRun treeTable pw w 11 A6 M ⟨boot_heap w.params, #[], boot_drawn, boot_toks, os⟩ (topStub pw) = some (ST tree_27 262 2511 w os).abs := by
  obtain ⟨n4, h4⟩ := g4
  refine ⟨12 + (1 + (374 + (999 + (30 + ((40 + (493 + (231 + 2))) + n4))))), fun w os => ?_⟩
  refine go_top (g_pre w os) ?_
  refine piece_block (g_block w os) ?_
  rw [bd_cut]
  refine piece_app (segRun_of (g1 w os)) ?_
  refine piece_app (segRun_of (g2 w os)) ?_
  refine piece_app (segRun_of (g3 w os)) ?_
  refine h4 w os _ _ _ ?_
  refine piece_app (segRun_of (g5 w os)) ?_
  refine piece_app (segRun_of (g6 w os)) ?_
  refine piece_app (segRun_of (g7 w os)) ?_
  exact piece_nil (g_fin w os)
end Mine

end
-- Head2
section
open PySem PySem.W PySem.Calls PyProof.Rows
set_option Elab.async false
set_option maxRecDepth 100000
set_option linter.unusedVariables false
namespace Mine
noncomputable section
noncomputable abbrev lawSt : List Stmt := (pw.main.body.drop 27)
noncomputable def qv : Program := { pw with main := { pw.main with body := lawSt } }
noncomputable def looseN : List Str := [z "_wall", z "_iter_escaped_chars", z "_strip_quoted_realnames", z "_check_parenthesis", z "_DIV_LIMIT", z "_div2n1n", z "_div3n2n", z "_int2digits", z "_digits2int", z "_divmod_pos", z "int_divmod", z "b1_set", z "in_table_b1", z "b3_exceptions", z "map_table_b3", z "Whitespace", z "_law_hidden", z "_law_one", z "_law_typed", z "_law_prepared", z "_law_dress", z "_law_weight"]
noncomputable abbrev S27 (w : World) (os : OsState) : Shared := (ST tree_27 262 2511 w os).abs
theorem lk_a (w : World) (os : OsState) : staticsOk (importedModules pw.main.body) (boot_heap w.params) (absHeap (tree_27 w.params) 262 {}) = true := by kernel_rfl
theorem lk_b (w : World) (os : OsState) : namesBound pw (absHeap (tree_27 w.params) 262 {}) = true := by kernel_rfl
theorem lk_c (w : World) (os : OsState) : laidKept (boot_heap w.params) (absHeap (tree_27 w.params) 262 {}) = true := by kernel_rfl
theorem lk_1 (w : World) (os : OsState) : seen ((recsOf qv).map (·.name)) (ownsOf qv) [] { S27 w os with gens := #[] } = expectedOf qv := by kernel_rfl
theorem lk_2 (w : World) (os : OsState) : (S27 w os).heap.bltView = bltViewBooted := by kernel_rfl
theorem lk_4 (w : World) (os : OsState) : tabsOk qv (S27 w os) = true := by kernel_rfl
theorem lk_5 (w : World) (os : OsState) : pinSeenD qv (drecsOf qv) (S27 w os) = pinGoodD (drecsOf qv) := by kernel_rfl
theorem lk_6 (w : World) (os : OsState) : plainSeenE qv (looseW qv looseN) (S27 w os) = plainGoodE qv (looseW qv looseN) := by kernel_rfl
theorem lk_7 (w : World) (os : OsState) : plainSeenD qv looseN (S27 w os) = plainGoodD qv looseN := by kernel_rfl
theorem lk_8 (w : World) (os : OsState) : wideSeen qv (S27 w os) = wideGood qv := by kernel_rfl
theorem lk_9 (w : World) (os : OsState) : clsSeenW qv looseN (S27 w os) = clsGoodW qv looseN := by kernel_rfl
theorem lk_3b (w : World) (os : OsState) : ((S27 w os).heap.isNs mainGlobals && (S27 w os).heap.isNs builtinsNs && tablesOk qv (S27 w os).heap && (S27 w os).gens.size == 0) = true := by kernel_rfl
theorem lk_3d (w : World) (os : OsState) : (xlAt qv [] (S27 w os) && recOk [] (S27 w os)) = true := by kernel_rfl
theorem lk_3a (w : World) (os : OsState) : (S27 w os).heap.keysOk (looseW qv looseN) ((recsOf qv).map (·.name)) ((litsOf qv).map (·.1)) ((clssOf qv (looseW qv looseN)).map (·.name)) = true := by kernel_rfl
theorem lk_3c (w : World) (os : OsState) : (S27 w os).heap.accountedOkI (importedModules pw.main.body) = true := by kernel_rfl
noncomputable def KL (P : Params) : Frag := (nat_lit 2, PySem.W.boot_o_2 P) :: (nat_lit 3, o3_27 P) :: (nat_lit 15, o15 P) :: (nat_lit 17, o17 P) :: (nat_lit 18, o18 P) :: (nat_lit 20, o20 P) :: (nat_lit 21, o21 P) :: (nat_lit 22, o22 P) :: (nat_lit 24, o24 P) :: (nat_lit 25, o25 P) :: (nat_lit 27, o27 P) :: (nat_lit 28, o28 P) :: (nat_lit 29, o29 P) :: (nat_lit 31, o31 P) :: (nat_lit 32, o32 P) :: (nat_lit 34, o34 P) :: (nat_lit 35, o35 P) :: (nat_lit 36, o36 P) :: (nat_lit 38, o38 P) :: (nat_lit 39, o39 P) :: (nat_lit 41, o41 P) :: (nat_lit 42, o42 P) :: (nat_lit 43, o43 P) :: (nat_lit 45, o45 P) :: (nat_lit 46, o46 P) :: (nat_lit 48, o48 P) :: (nat_lit 49, o49 P) :: (nat_lit 50, o50 P) :: (nat_lit 52, o52 P) :: (nat_lit 53, o53 P) :: (nat_lit 55, o55 P) :: (nat_lit 56, o56 P) :: (nat_lit 57, o57 P) :: (nat_lit 59, o59 P) :: (nat_lit 60, o60 P) :: (nat_lit 62, o62 P) :: (nat_lit 63, o63 P) :: (nat_lit 64, o64 P) :: (nat_lit 66, o66 P) :: (nat_lit 67, o67 P) :: (nat_lit 69, o69 P) :: (nat_lit 70, o70 P) :: (nat_lit 71, o71 P) :: (nat_lit 73, o73 P) :: (nat_lit 74, o74 P) :: (nat_lit 76, o76 P) :: (nat_lit 77, o77 P) :: (nat_lit 78, o78 P) :: (nat_lit 80, o80 P) :: (nat_lit 81, o81 P) :: (nat_lit 83, o83 P) :: (nat_lit 84, o84 P) :: (nat_lit 92, o92 P) :: (nat_lit 96, o96 P) :: (nat_lit 98, o98 P) :: (nat_lit 99, o99 P) :: (nat_lit 101, o101 P) :: (nat_lit 102, o102 P) :: (nat_lit 103, o103 P) :: (nat_lit 142, o142 P) :: (nat_lit 144, o144 P) :: (nat_lit 145, o145 P) :: (nat_lit 147, o147 P) :: (nat_lit 148, o148 P) :: (nat_lit 159, o159 P) :: (nat_lit 161, o161 P) :: (nat_lit 162, o162 P) :: (nat_lit 164, o164 P) :: (nat_lit 165, o165 P) :: (nat_lit 166, o166 P) :: (nat_lit 168, o168 P) :: (nat_lit 169, o169 P) :: (nat_lit 171, o171 P) :: (nat_lit 172, o172 P) :: (nat_lit 173, o173 P) :: (nat_lit 175, o175 P) :: (nat_lit 176, o176 P) :: (nat_lit 178, o178 P) :: (nat_lit 179, o179 P) :: (nat_lit 180, o180 P) :: (nat_lit 182, o182 P) :: (nat_lit 183, o183 P) :: (nat_lit 185, o185 P) :: (nat_lit 186, o186 P) :: (nat_lit 187, o187 P) :: (nat_lit 189, o189 P) :: (nat_lit 190, o190 P) :: (nat_lit 192, o192 P) :: (nat_lit 193, o193 P) :: (nat_lit 194, o194 P) :: (nat_lit 196, o196 P) :: (nat_lit 197, o197 P) :: (nat_lit 199, o199 P) :: (nat_lit 200, o200 P) :: (nat_lit 201, o201 P) :: (nat_lit 203, o203 P) :: (nat_lit 204, o204 P) :: (nat_lit 206, o206 P) :: (nat_lit 207, o207 P) :: (nat_lit 208, o208 P) :: (nat_lit 209, o209 P) :: (nat_lit 210, o210 P) :: (nat_lit 211, o211 P) :: (nat_lit 212, o212 P) :: (nat_lit 215, o215 P) :: (nat_lit 217, o217 P) :: (nat_lit 218, o218 P) :: (nat_lit 220, o220 P) :: (nat_lit 221, o221 P) :: (nat_lit 222, o222 P) :: (nat_lit 224, o224 P) :: (nat_lit 225, o225 P) :: (nat_lit 227, o227 P) :: (nat_lit 228, o228 P) :: (nat_lit 229, o229 P) :: (nat_lit 231, o231 P) :: (nat_lit 232, o232 P) :: (nat_lit 234, o234 P) :: (nat_lit 235, o235 P) :: (nat_lit 236, o236 P) :: (nat_lit 238, o238 P) :: (nat_lit 239, o239 P) :: (nat_lit 241, o241 P) :: (nat_lit 242, o242 P) :: (nat_lit 243, o243 P) :: (nat_lit 245, o245 P) :: (nat_lit 246, o246 P) :: (nat_lit 248, o248 P) :: (nat_lit 249, o249 P) :: (nat_lit 250, o250 P) :: (nat_lit 252, o252 P) :: (nat_lit 253, o253 P) :: (nat_lit 255, o255 P) :: (nat_lit 256, o256 P) :: (nat_lit 257, o257 P) :: (nat_lit 260, o260 P) :: (nat_lit 261, o261 P) :: []
noncomputable def asL : List Addr := [2, 3, 15, 17, 18, 20, 21, 22, 24, 25, 27, 28, 29, 31, 32, 34, 35, 36, 38, 39, 41, 42, 43, 45, 46, 48, 49, 50, 52, 53, 55, 56, 57, 59, 60, 62, 63, 64, 66, 67, 69, 70, 71, 73, 74, 76, 77, 78, 80, 81, 83, 84, 92, 96, 98, 99, 101, 102, 103, 142, 144, 145, 147, 148, 159, 161, 162, 164, 165, 166, 168, 169, 171, 172, 173, 175, 176, 178, 179, 180, 182, 183, 185, 186, 187, 189, 190, 192, 193, 194, 196, 197, 199, 200, 201, 203, 204, 206, 207, 208, 209, 210, 211, 212, 215, 217, 218, 220, 221, 222, 224, 225, 227, 228, 229, 231, 232, 234, 235, 236, 238, 239, 241, 242, 243, 245, 246, 248, 249, 250, 252, 253, 255, 256, 257, 260, 261]
theorem keys_KL (P : Params) : asL = (KL P).map (·.1) := by kernel_rfl
noncomputable abbrev HK : Hook := kmHook KL asL keys_KL [65, 58]
theorem lk_Y (w : World) (os : OsState) : HK.obs (S27 w os) = HK.val w := by kernel_rfl
noncomputable abbrev rw0 : OpenLaw := PySem.Challenge.rw_uc0065_01
theorem looks (w : World) : (fun os => ((staticsOk (importedModules pw.main.body) (boot_heap w.params) (absHeap (tree_27 w.params) 262 {}) && namesBound pw (absHeap (tree_27 w.params) 262 {}) && gensDone ⟨absHeap (tree_27 w.params) 262 {}, #[], {}, 2511, os⟩ && laidKept (boot_heap w.params) (absHeap (tree_27 w.params) 262 {})),
    openSeen qv looseN (importedModules pw.main.body) (fun s => xlAt qv [] s && recOk [] s) true ⟨absHeap (tree_27 w.params) 262 {}, #[], {}, 2511, os⟩, HK.obs ⟨absHeap (tree_27 w.params) 262 {}, #[], {}, 2511, os⟩)) = fun _ => (true, openGood qv looseN, HK.val w) := by
  funext os
  have e1 := lk_a w os
  have e2 := lk_b w os
  have e3 := lk_c w os
  refine Prod.ext ?_ (Prod.ext ?_ (lk_Y w os))
  · show (_ && _ && true && _) = true
    rw [e1, e2, e3]; rfl
  · show openSeen qv looseN (importedModules pw.main.body) (fun s => xlAt qv [] s && recOk [] s) true (S27 w os) = _
    unfold openSeen openGood
    have b1 := lk_3a w os
    have b2 := lk_3b w os
    have b3 := lk_3c w os
    have b4 := lk_3d w os
    rw [lk_1 w os, lk_2 w os, lk_4 w os, lk_5 w os, lk_6 w os, lk_7 w os, lk_8 w os, lk_9 w os, b1, b3]
    simp only [Bool.and_eq_true] at b2
    rw [b2.1.1.1, b2.1.1.2, b2.1.2]
    refine congrArg (Prod.mk _) (congrArg (Prod.mk _) (Prod.ext ?_ rfl))
    show (true && true && true && true && true && (xlAt qv [] (S27 w os) && recOk [] (S27 w os)) && true) = true
    rw [b4]; rfl
theorem left_top : ∃ N, LeftO pw qv looseN (fun s => xlAt qv [] s && recOk [] s) HK.obs HK.val N := by
  obtain ⟨M, hM⟩ := run_top
  refine ⟨M + 600, LeftO.of_pieces (H₀ := boot_heap) (H₁ := fun P => absHeap (tree_27 P) 262 {}) (gs₀ := #[]) (gs₁ := #[]) (d₀ := boot_drawn) (d₁ := {}) (k₀ := boot_toks) (k₁ := 2511) (m₀ := 11) (ann := some (.ref 6)) (M := M) ?_ ?_ hM ?_ looks⟩
  · exact boot_open rfl (Nat.ble_eq_true_of_le (Nat.le_add_left ..)) fun s => rfl
  · intro w; kernel_rfl
  · exact Nat.ble_eq_true_of_le (Nat.le_add_right ..)
end
end Mine

end
-- P1
section
open PySem PySem.W PySem.Spec PySem.Calls PyProof.Rows
set_option Elab.async false
namespace Mine
noncomputable abbrev prog : Program := PySem.Challenge.rw_uc0065_01.row.prog
end Mine

end
-- Z0
section
open PySem PySem.W PySem.Spec PySem.Calls PyProof.Rows
namespace Mine
theorem storeLF {M : Model} {A : Around} {E : Value → Shared → Prop} {s : Shared} {h₀ : Heap} {L a : Addr} {m : Str → Option Value} {cn : Str} {cs : Scope} {ccd : Value} {cl : List (Str × Addr)} {x : Str} {v : Value} {Q : Unit → Shared → Prop} {news : List (Addr × Obj)}
    (F : Fr h₀ L s.heap m) (N : News h₀ L s.heap news)
    (h : ∀ h', News h₀ L h' news → let m' := (fun y => if y = x then some v else m y); Fr h₀ L h' m' → Q () { s with heap := h', toks := s.toks + 1 })
    (hk : cs.kind = .function) (hx : (envX cn cs L a ccd cl).kindOf x = some .local) : wpAny M A (storeName (envX cn cs L a ccd cl) x v) Q E s :=
  storeX_L F N (fun h' F' N' => h h' N' F') hk hx
end Mine

end
local macro_rules | `(tactic| walk_at $s:str) => `(tactic| k_extra $s)
local macro_rules | `(tactic| omega) => `(tactic| k_extra "OM")
local macro_rules | `(tactic| k_all) => `(tactic| k_extra "KA")
-- Z1
section
open PySem PySem.W PySem.Spec PySem.Calls PyProof.Rows
set_option Elab.async false
namespace Mine
inductive SimpV (m : Str → Option Value) (cs : Scope) : Expr → Nat → Value → Nat → Prop
  | nm {x : Str} {pos : Pos} {v : Value} {t : Nat} (hv : m x = some v) (hx : cs.names.lookup x = some .local) (hd : (x == ("__debug__" : Str)) = false) : SimpV m cs (.Name x pos) t v t
  | int {i : Int} {k pos} {t : Nat} : SimpV m cs (.Constant (.int i) k pos) t (.int i t) (t + 1)
  | str {x : Str} {k pos} {t : Nat} : SimpV m cs (.Constant (.str x) k pos) t (.str x t) (t + 1)
  | non {k pos} {t : Nat} : SimpV m cs (.Constant .none k pos) t .none t
  | boo {c : Bool} {k pos} {t : Nat} : SimpV m cs (.Constant (.bool c) k pos) t (.bool c) t
  | add {l r : Expr} {pos : Pos} {a b : Int} {ta tb t t1 t2 : Nat} (h1 : SimpV m cs l t (.int a ta) t1) (h2 : SimpV m cs r t1 (.int b tb) t2) : SimpV m cs (.BinOp l .Add r pos) t (.int (a + b) t2) (t2 + 1)
  | sub {l r : Expr} {pos : Pos} {a b : Int} {ta tb t t1 t2 : Nat} (h1 : SimpV m cs l t (.int a ta) t1) (h2 : SimpV m cs r t1 (.int b tb) t2) : SimpV m cs (.BinOp l .Sub r pos) t (.int (a - b) t2) (t2 + 1)
inductive SimpL (m : Str → Option Value) (cs : Scope) : List Expr → Nat → List Value → Nat → Prop
  | nil {t : Nat} : SimpL m cs [] t [] t
  | cons {e : Expr} {es : List Expr} {v : Value} {vs : List Value} {t t1 t2 : Nat} (h1 : SimpV m cs e t v t1) (h2 : SimpL m cs es t1 vs t2) : SimpL m cs (e :: es) t (v :: vs) t2
section
variable {p : Program} {w : World} {A : Around} {E : Value → Shared → Prop} {h₀ hp : Heap} {g : Array GenState} {d : Drawn} {o : OsState} {L a : Addr} {m : Str → Option Value} {cn : Str} {cs : Scope} {ccd : Value} {cl : List (Str × Addr)} {t t1 t2 : Nat} {v u : Value} {e l r : Expr} {pos : Pos}
theorem star1 {env : Env} {es : List Expr} (S : SimpV m cs e t v t1) : starEach (e :: es) env = (false, eval e env) :: starEach es env := by
  induction S <;> rfl
theorem swap1 {env : Env} {x : Option Expr} {n : Nat} (S : SimpV m cs e t v t1) : swapsWith e x n env = pure false := by
  induction S <;> rfl
theorem valS {Q : Value → Shared → Prop} (F : Fr h₀ L hp m) (hk : cs.kind = .function) (S : SimpV m cs e t v t1) (h : Q v (Shared.mk hp g d t1 o)) :
    wpAny (model p w) A (eval e (envX cn cs L a ccd cl)) Q E (Shared.mk hp g d t o) := by
  induction S generalizing Q with
  | nm hv hx hd => exact nameX_L F hv h hk hx hd
  | int => exact wpAny_Constant_int h
  | str => exact Constant_str h
  | non => exact Constant_none h
  | boo => exact Constant_bool h
  | add h1 h2 i1 i2 => exact wpAny_BinOp (i1 (i2 (add_int h)))
  | sub h1 h2 i1 i2 => exact wpAny_BinOp (i1 (i2 (sub_int h)))
theorem binS {op : Operator} {Q : Value → Shared → Prop} (F : Fr h₀ L hp m) (hk : cs.kind = .function) (S1 : SimpV m cs l t v t1) (S2 : SimpV m cs r t1 u t2)
    (h : wpAny (model p w) A (binaryOp op v u) Q E (Shared.mk hp g d t2 o)) : wpAny (model p w) A (eval (.BinOp l op r pos) (envX cn cs L a ccd cl)) Q E (Shared.mk hp g d t o) :=
  wpAny_BinOp (valS F hk S1 (valS F hk S2 h))
theorem cmpS {op : CmpOp} {whole : Sem Value} {Q : Bool → Shared → Prop} (F : Fr h₀ L hp m) (hk : cs.kind = .function) (S1 : SimpV m cs l t v t1) (S2 : SimpV m cs r t1 u t2)
    (h : wpAny (model p w) A (compareOp op v u) (fun c s => wpAny (model p w) A (truthy c) Q E s) E (Shared.mk hp g d t2 o)) (hm : behindInMarks op r = false) :
    wpAny (model p w) A (isTrue (.Compare l [op] [r] pos) (envX cn cs L a ccd cl) whole) Q E (Shared.mk hp g d t o) :=
  wpAny_isTrue_Compare1 (valS F hk S1 (valS F hk S2 h)) hm
theorem itemsS {es : List Expr} {vs : List Value} {Q : List Value → Shared → Prop} (F : Fr h₀ L hp m) (hk : cs.kind = .function) (S : SimpL m cs es t vs t1) (h : Q vs (Shared.mk hp g d t1 o)) :
    wpAny (model p w) A (spliced (backTo pos (starEach es (envX cn cs L a ccd cl)))) Q E (Shared.mk hp g d t o) := by
  induction S generalizing Q with
  | nil => exact args_nil h
  | cons h1 h2 ih =>
    exact args_cons (valS F hk h1 (ih h)) (star1 h1)
theorem subS {Q : Value → Shared → Prop} (F : Fr h₀ L hp m) (hk : cs.kind = .function) (S1 : SimpV m cs l t v t1) (S2 : SimpV m cs r t1 u t2)
    (h : wpAny (model p w) A (subscriptTail l r v u) Q E (Shared.mk hp g d t2 o)) : wpAny (model p w) A (eval (.Subscript l r pos) (envX cn cs L a ccd cl)) Q E (Shared.mk hp g d t o) :=
  Subscript_ (valS F hk S1 (valS F hk S2 h))
theorem asgS {x : Str} {pos' : Pos} {Q : Flow → Shared → Prop} (F : Fr h₀ L hp m) (hk : cs.kind = .function) (S : SimpV m cs e t v t1)
    (h : wpAny (model p w) A (storeName (envX cn cs L a ccd cl) x v) (fun _ => Q .next) E (Shared.mk hp g d t1 o)) :
    wpAny (model p w) A (exec (.Assign [.Name x pos'] e pos) (envX cn cs L a ccd cl)) Q E (Shared.mk hp g d t o) := by
  exact wpAny_Assign_Name (valS F hk S h) (swap1 S)
end
end Mine

end
local macro_rules | `(tactic| walk_at "SV") => `(tactic| first | exact Mine.SimpV.nm (Eq.refl (some _)) (Eq.refl (some PySem.NameKind.local)) (by decide) | exact Mine.SimpV.int | exact Mine.SimpV.str | exact Mine.SimpL.nil | exact Mine.SimpV.non | exact Mine.SimpV.boo | (refine' Mine.SimpL.cons ?svA ?svB; (case svA => walk_at "SV"); (case svB => walk_at "SV")) | (refine' Mine.SimpV.add ?svA ?svB; (case svA => walk_at "SV"); (case svB => walk_at "SV")) | (refine' Mine.SimpV.sub ?svA ?svB; (case svA => walk_at "SV"); (case svB => walk_at "SV")))
-- C2
section
open PySem PySem.W PySem.Spec PySem.Calls PyProof.Rows
set_option Elab.async false
set_option maxRecDepth 100000
set_option maxHeartbeats 4000000
namespace Mine
noncomputable def b1L : List Int := [173, 847, 6150, 6155, 6156, 6157, 8203, 8204, 8205, 8288, 65279, 65024, 65025, 65026, 65027, 65028, 65029, 65030, 65031, 65032, 65033, 65034, 65035, 65036, 65037, 65038, 65039]
noncomputable def inB1 (k : Int) : Bool := b1L.contains k
theorem o92_is (P : Params) : ∃ es ep t, o92 P = ⟨.type "set", none, .set es ep t, #[]⟩ ∧ t.fits es.size = true ∧ es.toList.all (fun e => match e.2 with | .int i _ => e.1 == i && decide (0 ≤ i) && decide (i < 2000000) | _ => false) = true ∧ (es.toList.map fun e => match e.2 with | .int i _ => i | _ => 0) = es.toList.map (·.1) ∧ es.size = 27 ∧ (b1L.all fun k => (es.toList.map (·.1)).contains k) = true ∧ ((es.toList.map (·.1)).all fun k => b1L.contains k) = true :=
  ⟨_, _, _, rfl, by kernel_rfl, by kernel_rfl, by kernel_rfl, by kernel_rfl, by kernel_rfl, by kernel_rfl⟩
theorem hashInt_small {i : Int} (h0 : 0 ≤ i) (h1 : i < 2000000) : hashInt i = i := by
  show (if (hv i == -1) = true then -2 else hv i) = i
  rw [hv_small h0 h1, if_neg (by simp; lia)]
theorem set92 {prog : Program} {w : World} {h : Heap} (X : (KL w.params).In h) : h.SetOf (intKind prog w) 92 inB1 27 := by
  obtain ⟨es, ep, t, e1, e2, e3, e4, e5, e6, e7⟩ := o92_is w.params
  have hl : (KL w.params).lookup 92 = some (o92 w.params) := by kernel_rfl
  have hg := X 92 _ hl
  rw [e1] at hg
  have key : ∀ e ∈ es.toList, ∃ i t, e.2 = .int i t ∧ e.1 = i ∧ 0 ≤ i ∧ i < 2000000 := fun e he => by
    have := List.all_eq_true.mp e3 e he
    obtain ⟨a, v⟩ := e
    cases v <;> first | cases this | skip
    rename_i i tk
    simp only [Bool.and_eq_true, beq_iff_eq, decide_eq_true_eq] at this
    exact ⟨i, tk, rfl, this.1.1, this.1.2, this.2⟩
  refine ⟨_, es, ep, t, hg, ⟨rfl, rfl, rfl⟩, rfl, ?_, ?_, ?_, e2, e5⟩
  · intro e he
    obtain ⟨i, tk, h1, h2, h3, h4⟩ := key e he
    refine ⟨⟨i, ?_, ?_⟩, ?_⟩
    · show Value.isInt i e.2 = true
      rw [h1]; simp [Value.isInt]
    · show e.1 = hashInt i
      rw [h2, hashInt_small h3 h4]
    · rw [h1]; rfl
  · intro k
    unfold inB1
    constructor
    · intro hk
      have := List.all_eq_true.mp e6 k (List.contains_iff_mem.mp hk)
      obtain ⟨e, he, hk'⟩ := List.mem_map.mp (List.contains_iff_mem.mp this)
      obtain ⟨i, tk, h1, h2, h3, h4⟩ := key e he
      refine ⟨e, he, ?_⟩
      show Value.isInt k e.2 = true
      rw [h1, ← hk', h2]; simp [Value.isInt]
    · rintro ⟨e, he, hk⟩
      obtain ⟨i, tk, h1, h2, h3, h4⟩ := key e he
      have : k = i := by
        have hk : Value.isInt k e.2 = true := hk
        rw [h1] at hk
        exact (beq_iff_eq.mp (show (i == k) = true from hk)).symm
      subst this
      exact List.all_eq_true.mp e7 _ (List.mem_map.mpr ⟨e, he, h2⟩)
  · rw [e5]; decide
/-! the table b3 as a map -/
noncomputable def fnd (es : List DictEntry) (k : Int) : Option Value := (es.find? fun e => Value.isInt k e.key).map (·.val)
theorem find_L (k : Int) : ∀ (tk : Nat) (es : List KS), (∃ u x, (entsL tk es).find? (fun e => Value.isInt k e.key) = some ⟨k, .int k u, .str x (u + 1)⟩ ∧ es.lookup k = some x) ∨ ((entsL tk es).find? (fun e => Value.isInt k e.key) = none ∧ es.lookup k = none)
  | tk, [] => .inr ⟨rfl, rfl⟩
  | tk, e :: r => by
    obtain ⟨i, x⟩ := e
    rw [entsL, List.find?_cons]
    have e1 : Value.isInt k (ent tk (i, x)).key = (i == k) := rfl
    rw [e1, List.lookup_cons]
    by_cases h : i = k
    · subst h
      simp only [beq_self_eq_true]
      exact .inl ⟨tk, x, rfl, rfl⟩
    · have h1 : (i == k) = false := beq_eq_false_iff_ne.mpr h
      have h2 : (k == i) = false := beq_eq_false_iff_ne.mpr (Ne.symm h)
      rw [h1, h2]
      exact find_L k (tk + 3) r
theorem find_S (k : Int) : ∀ (tk : Nat) (es : List KS), (∃ u x, (entsS tk es).find? (fun e => Value.isInt k e.key) = some ⟨k, .int k u, .str x (u + 1)⟩ ∧ es.lookup k = some x) ∨ ((entsS tk es).find? (fun e => Value.isInt k e.key) = none ∧ es.lookup k = none)
  | tk, [] => .inr ⟨rfl, rfl⟩
  | tk, e :: r => by
    obtain ⟨i, x⟩ := e
    rw [entsS, List.find?_cons]
    have e1 : Value.isInt k (ent tk (i, x)).key = (i == k) := rfl
    rw [e1, List.lookup_cons]
    by_cases h : i = k
    · subst h
      simp only [beq_self_eq_true]
      exact .inl ⟨tk, x, rfl, rfl⟩
    · have h1 : (i == k) = false := beq_eq_false_iff_ne.mpr h
      have h2 : (k == i) = false := beq_eq_false_iff_ne.mpr (Ne.symm h)
      rw [h1, h2]
      exact find_S k (tk + 2) r
theorem lookup_app {k : Int} : ∀ (a b : List KS), (a ++ b).lookup k = (a.lookup k).or (b.lookup k)
  | [], b => rfl
  | (i, x) :: r, b => by
    rw [List.cons_append, List.lookup_cons, List.lookup_cons]
    cases k == i with
    | true => rfl
    | false => exact lookup_app r b
theorem find_main (k : Int) : ∀ (tk : Nat) (chs : List (List KS)), (∃ u x, (mainOf tk chs).find? (fun e => Value.isInt k e.key) = some ⟨k, .int k u, .str x (u + 1)⟩ ∧ chs.flatten.lookup k = some x) ∨ ((mainOf tk chs).find? (fun e => Value.isInt k e.key) = none ∧ chs.flatten.lookup k = none)
  | tk, [] => .inr ⟨rfl, rfl⟩
  | tk, ch :: r => by
    rw [mainOf, List.find?_append, List.flatten_cons, lookup_app]
    have h : (∃ u x, (runE tk ch).find? (fun e => Value.isInt k e.key) = some ⟨k, .int k u, .str x (u + 1)⟩ ∧ ch.lookup k = some x) ∨ ((runE tk ch).find? (fun e => Value.isInt k e.key) = none ∧ ch.lookup k = none) := by
      unfold runE; split; exact find_S k tk ch; exact find_L k tk ch
    rcases h with ⟨u, x, h1, h2⟩ | ⟨h1, h2⟩
    · rw [h1, h2]; exact .inl ⟨u, x, rfl, rfl⟩
    · rw [h1, h2]; exact find_main k _ r
theorem chunks_flat : chunks.flatten = b3 := by kernel_rfl
noncomputable def b3f (k : Int) : Option Value := findBy Value.isInt (mainOf 379 chunks).toArray k
theorem b3f_is (k : Int) : (∃ x u, b3f k = some (.str x u) ∧ b3.lookup k = some x) ∨ (b3f k = none ∧ b3.lookup k = none) := by
  unfold b3f findBy
  rw [List.find?_toArray, ← chunks_flat]
  rcases find_main k 379 chunks with ⟨u, x, h1, h2⟩ | ⟨h1, h2⟩
  · rw [h1]; exact .inl ⟨x, u + 1, rfl, h2⟩
  · rw [h1]; exact .inr ⟨rfl, h2⟩
theorem b3_small : (b3.all fun e => decide (0 ≤ e.1) && decide (e.1 < 2000000)) = true := by kernel_rfl
theorem run_key (tk : Nat) (es : List KS) : ∀ e ∈ runE tk es, ∃ k ∈ es, e.hash = k.1 ∧ ∃ t, e.key = .int k.1 t := by
  have hL : ∀ (tk : Nat) (es : List KS), ∀ e ∈ entsL tk es, ∃ k ∈ es, e.hash = k.1 ∧ ∃ t, e.key = .int k.1 t := by
    intro tk es
    induction es generalizing tk with
    | nil => intro e he; cases he
    | cons k r ih =>
      intro e he
      rcases List.mem_cons.mp he with q | q
      · subst q; exact ⟨k, List.mem_cons_self .., rfl, tk, rfl⟩
      · obtain ⟨k', h1, h2⟩ := ih _ e q; exact ⟨k', List.mem_cons_of_mem _ h1, h2⟩
  have hS : ∀ (tk : Nat) (es : List KS), ∀ e ∈ entsS tk es, ∃ k ∈ es, e.hash = k.1 ∧ ∃ t, e.key = .int k.1 t := by
    intro tk es
    induction es generalizing tk with
    | nil => intro e he; cases he
    | cons k r ih =>
      intro e he
      rcases List.mem_cons.mp he with q | q
      · subst q; exact ⟨k, List.mem_cons_self .., rfl, tk, rfl⟩
      · obtain ⟨k', h1, h2⟩ := ih _ e q; exact ⟨k', List.mem_cons_of_mem _ h1, h2⟩
  unfold runE; split; exact hS tk es; exact hL tk es
theorem main_key (tk : Nat) (chs : List (List KS)) : ∀ e ∈ mainOf tk chs, ∃ k ∈ chs.flatten, e.hash = k.1 ∧ ∃ t, e.key = .int k.1 t := by
  induction chs generalizing tk with
  | nil => intro e he; cases he
  | cons ch r ih =>
    intro e he
    rw [mainOf] at he
    rcases List.mem_append.mp he with q | q
    · obtain ⟨k, h1, h2⟩ := run_key tk ch e q; exact ⟨k, by (first | ((try rw [h1]); (repeat first | exact List.mem_cons_self .. | exact h1 | exact List.mem_append_left _ h1 | refine List.mem_append_right _ ?_ | refine List.mem_cons_of_mem _ ?_); done) | simp [h1]), h2⟩
    · obtain ⟨k, h1, h2⟩ := ih _ e q; exact ⟨k, by rw [List.flatten_cons]; exact List.mem_append_right _ h1, h2⟩
theorem map103 {prog : Program} {w : World} {h : Heap} (X : (KL w.params).In h) : h.MapOf (intKind prog w) 103 b3f := by
  have hl : (KL w.params).lookup 103 = some (o103 w.params) := by kernel_rfl
  have hg := X 103 _ hl
  refine ⟨_, (mainOf 379 chunks).toArray, (mainOf 379 chunks).length, hg, ⟨rfl, rfl, rfl⟩, rfl, ?_, fun k => rfl⟩
  intro e he
  obtain ⟨k, hk, h1, t, h2⟩ := main_key 379 chunks e (by simpa using he)
  rw [chunks_flat] at hk
  have := List.all_eq_true.mp b3_small k hk
  simp only [Bool.and_eq_true, decide_eq_true_eq] at this
  refine ⟨k.1, ?_, ?_⟩
  · show Value.isInt k.1 e.key = true
    rw [h2]; simp [Value.isInt]
  · show e.hash = hashInt k.1
    rw [h1, hashInt_small this.1 this.2]
end Mine

namespace Mine
theorem in92 {w : World} {A : Around} {E : Value → Shared → Prop} {s : Shared} {h₀ : Heap} {L : Addr} {m : Str → Option Value} {i : Int} {t : Tok} {Q : Value → Shared → Prop} (F : Fr h₀ L s.heap m) (X : (KL w.params).In h₀)
    (h : Q (.bool (inB1 i)) { s with toks := s.toks + 1 }) : wpAny (model prog w) A (compareOp .In (.int i t) (.ref 92)) Q E s :=
  wpAny_inSet_of (knd := intKind prog w) (k := i) (by show Value.isInt i (.int i t) = true; simp [Value.isInt]) rfl (set92 (X.keeps F.keep)) h
theorem getB3 {w : World} {A : Around} {E : Value → Shared → Prop} {s : Shared} {h₀ : Heap} {L : Addr} {m : Str → Option Value} {pl : Sem Bool} {Q : Value × List Value → Shared → Prop} (F : Fr h₀ L s.heap m) (X : (KL w.params).In h₀)
    (h : Q (.builtin "dict.get", [.ref 103]) s) : wpAny (model prog w) A (getMethod (.ref 103) (Str.ofString "get") pl) Q E s :=
  have hm := map103 (prog := prog) (X.keeps F.keep)
  getMethod_builtin hm.typeIs PySem.F.plainAttrs_dict PySem.F.slot_dict_get PySem.F.type_dict_get hm.noDict h
theorem callB3 {w : World} {A : Around} {E : Value → Shared → Prop} {s : Shared} {h₀ : Heap} {L : Addr} {m : Str → Option Value} {i : Int} {t : Tok} {Q : Value → Shared → Prop} (F : Fr h₀ L s.heap m) (X : (KL w.params).In h₀)
    (h : Q ((b3f i).getD .none) { s with toks := s.toks + 1 }) : wpAny (model prog w) A (call (.builtin "dict.get") [.ref 103, .int i t]) Q E s :=
  have hm := map103 (prog := prog) (X.keeps F.keep)
  call_meetsIn PySem.F.slot_dict_get hm.typeIs PySem.F.entry_dict_get (PySem.F.args_dict_get_2 _ _) (meets_dict_get (intKind prog w) 103 (by show Value.isInt i (.int i t) = true; simp [Value.isInt]) (by decide)) ⟨_, hm, h⟩
end Mine

end
-- C3
section
open PySem PySem.W PySem.Spec PySem.Calls PyProof.Rows
set_option Elab.async false
set_option maxRecDepth 100000
set_option maxHeartbeats 4000000
namespace Mine
theorem c_in (w : World) (mean : ExcName → Option Value) (mg mb : Str → Option Value) (news : CbLed) (c : Nat) (t : Tok) :
   CbClaim prog w (KL w.params) qv looseN mean mg mb 102 news [] True [.str ⟨#[c]⟩ t] (fun _ => .bool (inB1 c)) := by
  k_with_none
  k_with "isTrue Compare" => (k_here; (first | (with_reducible show wpAny _ _ (PySem.isTrue (PySem.Expr.Compare (PySem.Expr.Name _ _) _ _ _) _ _) _ _ _) | (with_reducible show wpAny _ _ (PySem.isTrue (PySem.Expr.Compare (PySem.Expr.Constant _ _ _) _ _ _) _ _) _ _ _) | (with_reducible show wpAny _ _ (PySem.isTrue (PySem.Expr.Compare (PySem.Expr.BinOp (PySem.Expr.Name _ _) _ _ _) _ _ _) _ _) _ _ _)); (first | (with_reducible show wpAny _ _ (PySem.isTrue (PySem.Expr.Compare _ _ [(PySem.Expr.Name _ _)] _) _ _) _ _ _) | (with_reducible show wpAny _ _ (PySem.isTrue (PySem.Expr.Compare _ _ [(PySem.Expr.Constant _ _ _)] _) _ _) _ _ _) | (with_reducible show wpAny _ _ (PySem.isTrue (PySem.Expr.Compare _ _ [(PySem.Expr.BinOp (PySem.Expr.Name _ _) _ _ _)] _) _ _) _ _ _)); k_dflt (refine' cmpS ?svF ?svk ?svS ?svU ?_ ?svh; (case svF => k_asm); (case svk => rfl); (case svS => walk_at "SV"); (case svU => walk_at "SV"); (case svh => with_unfolding_all rfl); k_whole))
  k_with "spliced" => (k_here; (first | (with_reducible show wpAny _ _ (spliced (backTo _ (starEach ((PySem.Expr.Name _ _) :: _) _))) _ _ _) | (with_reducible show wpAny _ _ (spliced (backTo _ (starEach ((PySem.Expr.Constant _ _ _) :: _) _))) _ _ _) | (with_reducible show wpAny _ _ (spliced (backTo _ (starEach ((PySem.Expr.BinOp (PySem.Expr.Name _ _) _ _ _) :: _) _))) _ _ _)); k_dflt (refine' itemsS ?svF ?svk ?svS ?_; (case svF => k_asm); (case svk => rfl); (case svS => walk_at "SV"); k_whole))
  suffices hfill : PySem.Challenge.rw_uc0065_01 = PySem.Challenge.rw_uc0065_01 → CbClaim prog w (KL w.params) qv looseN mean mg mb 102 news [] True [.str ⟨#[c]⟩ t] (fun _ => .bool (inB1 c)) from hfill rfl
  k_fill
  intro hrow; clear hrow
  unfold CbClaim; dsimp only [CbLists, CbRet]; intros; rename_i hret
  refine wpAny_call ?_
  k_dflt cell_enter
  k_steps
  refine in92 (by assumption) (by assumption) ?_
  k_steps
  exact cb_retB hret rfl (by assumption) (by assumption)
noncomputable def mapS (c : Nat) : Str := match b3.lookup (c : Int) with | some x => x | none => Txt.lower ⟨#[c]⟩
theorem c_map (w : World) (mean : ExcName → Option Value) (mg mb : Str → Option Value) (news : CbLed) (c : Nat) (t : Tok) :
   CbClaim prog w (KL w.params) qv looseN mean mg mb 148 news [] True [.str ⟨#[c]⟩ t] (fun t => .str (mapS c) t) := by
  suffices hfill : PySem.Challenge.rw_uc0065_01 = PySem.Challenge.rw_uc0065_01 → CbClaim prog w (KL w.params) qv looseN mean mg mb 148 news [] True [.str ⟨#[c]⟩ t] (fun t => .str (mapS c) t) from hfill rfl
  k_fill
  intro hrow; clear hrow
  unfold CbClaim; dsimp only [CbLists, CbRet]; intros; rename_i hret
  refine wpAny_call ?_
  k_dflt cell_enter
  k_steps
  refine getB3 (by assumption) (by assumption) ?_
  k_steps
  refine callB3 (by assumption) (by assumption) ?_
  rcases b3f_is (c : Int) with ⟨x, u, h1, h2⟩ | ⟨h1, h2⟩
  · rw [h1, Option.getD_some]
    k_steps
    exact cb_retS hret (by unfold mapS; rw [h2]) (by assumption) (by assumption)
  · rw [h1, Option.getD_none]
    k_steps
    refine SCL.lower (by show (1 : Nat) ≤ 5592405; decide) (fun hlen => ?_)
    k_steps
    exact cb_retS hret (by unfold mapS; rw [h2]) (by assumption) (by assumption)
end Mine
namespace Mine
theorem use {w : World} {mean : ExcName → Option Value} {mg mb : Str → Option Value} {news : CbLed} {f : Addr} {pre : Prop} {vs : List Value} {R : Tok → Value}
    (C : CbClaim prog w (KL w.params) qv looseN mean mg mb f news [] pre vs R) {dp un : Nat} {gd : Option (List Code)} {cn : Str} {cs : Scope} {a : Addr} {ccd : Value} {cl : List (Str × Addr)} {outer : List Env} {A₀ : Around} {base h₀ : Heap} {L : Addr} {m : Str → Option Value} {s : Shared} {Q E : Value → Shared → Prop}
    (B : PyProof.Rows.Below A₀ base outer h₀) (F : Fr h₀ L s.heap m) (X : (KL w.params).In h₀) (N : News h₀ L s.heap news) (T : Top qv looseN mean mg mb h₀) (hk : cs.kind = .function) (hp : pre) (hd : dp + 1 < recursionLimit) (hu : un + 8 < cLine)
    (hR : ∀ (t : Tok) (h' : Heap) (tk' : Nat), Fr h₀ L h' m → News h₀ L h' news → Q (R t) { s with heap := h', toks := tk' }) :
    wpAny (model prog w) (ktrTop dp un gd cn cs L a ccd cl outer) (call (.ref f) vs) Q E s :=
  C dp un gd cn cs a ccd cl outer A₀ base h₀ L m s Q E B F X N T hk hp hd hu hR
end Mine
namespace Mine
/-- as CbClaim, with room for d frames and u units -/
noncomputable abbrev Con (w : World) (mean : ExcName → Option Value) (mg mb : Str → Option Value) (f : Addr) (news : CbLed) (d u : Nat) (pre : Prop) (vs : List Value) (R : Tok → Value) : Prop :=
  ∀ (dp un : Nat) (gd : Option (List Code)) (cn : Str) (cs : Scope) (a : Addr) (ccd : Value) (cl : List (Str × Addr)) (outer : List Env) (A₀ : Around) (base h₀ : Heap) (L : Addr) (m : Str → Option Value) (s : Shared) (Q E : Value → Shared → Prop),
    PyProof.Rows.Below A₀ base outer h₀ → Fr h₀ L s.heap m → (KL w.params).In h₀ → News h₀ L s.heap news → Top qv looseN mean mg mb h₀ → cs.kind = .function →
    pre → dp + d < recursionLimit → un + u < cLine → CbRet h₀ L m news s Q R →
      wpAny (model prog w) (ktrTop dp un gd cn cs L a ccd cl outer) (call (.ref f) vs) Q E s
theorem useD {w : World} {mean : ExcName → Option Value} {mg mb : Str → Option Value} {news : CbLed} {f : Addr} {d u : Nat} {pre : Prop} {vs : List Value} {R : Tok → Value}
    (C : Con w mean mg mb f news d u pre vs R) {dp un : Nat} {gd : Option (List Code)} {cn : Str} {cs : Scope} {a : Addr} {ccd : Value} {cl : List (Str × Addr)} {outer : List Env} {A₀ : Around} {base h₀ : Heap} {L : Addr} {m : Str → Option Value} {s : Shared} {Q E : Value → Shared → Prop}
    (B : PyProof.Rows.Below A₀ base outer h₀) (F : Fr h₀ L s.heap m) (X : (KL w.params).In h₀) (N : News h₀ L s.heap news) (T : Top qv looseN mean mg mb h₀) (hk : cs.kind = .function) (hp : pre) (hd : dp + d < recursionLimit) (hu : un + u < cLine)
    (hR : ∀ (t : Tok) (h' : Heap) (tk' : Nat), Fr h₀ L h' m → News h₀ L h' news → Q (R t) { s with heap := h', toks := tk' }) :
    wpAny (model prog w) (ktrTop dp un gd cn cs L a ccd cl outer) (call (.ref f) vs) Q E s :=
  C dp un gd cn cs a ccd cl outer A₀ base h₀ L m s Q E B F X N T hk hp hd hu hR
end Mine

end
-- C4
section
open PySem PySem.W PySem.Spec PySem.Calls PyProof.Rows
set_option Elab.async false
set_option maxRecDepth 100000
set_option maxHeartbeats 4000000
namespace Mine
/-- a contract with a fact about its answer -/
noncomputable abbrev ConP (w : World) (mean : ExcName → Option Value) (mg mb : Str → Option Value) (f : Addr) (news : CbLed) (d u : Nat) (pre : Prop) (vs : List Value) (R : Tok → Value) (P : Prop) : Prop :=
  Con w mean mg mb f news d u pre vs R ∧ P
theorem useP {w : World} {mean : ExcName → Option Value} {mg mb : Str → Option Value} {news : CbLed} {f : Addr} {d u : Nat} {pre : Prop} {vs : List Value} {R : Tok → Value}
    {P : Prop} (C : ConP w mean mg mb f news d u pre vs R P) {dp un : Nat} {gd : Option (List Code)} {cn : Str} {cs : Scope} {a : Addr} {ccd : Value} {cl : List (Str × Addr)} {outer : List Env} {A₀ : Around} {base h₀ : Heap} {L : Addr} {m : Str → Option Value} {s : Shared} {Q E : Value → Shared → Prop}
    (B : PyProof.Rows.Below A₀ base outer h₀) (F : Fr h₀ L s.heap m) (X : (KL w.params).In h₀) (N : News h₀ L s.heap news) (T : Top qv looseN mean mg mb h₀) (hk : cs.kind = .function) (hp : pre) (hd : dp + d < recursionLimit) (hu : un + u < cLine)
    (hR : P → ∀ (t : Tok) (h' : Heap) (tk' : Nat), Fr h₀ L h' m → News h₀ L h' news → Q (R t) { s with heap := h', toks := tk' }) :
    wpAny (model prog w) (ktrTop dp un gd cn cs L a ccd cl outer) (call (.ref f) vs) Q E s :=
  C.1 dp un gd cn cs a ccd cl outer A₀ base h₀ L m s Q E B F X N T hk hp hd hu (hR C.2)
theorem conOf {w : World} {mean : ExcName → Option Value} {mg mb : Str → Option Value} {news : CbLed} {f : Addr} {pre : Prop} {vs : List Value} {R : Tok → Value}
    (C : CbClaim prog w (KL w.params) qv looseN mean mg mb f news [] pre vs R) : Con w mean mg mb f news 1 8 pre vs R :=
  fun dp un gd cn cs a ccd cl outer A₀ base h₀ L m s Q E B F X N T hk hp hd hu hR => C dp un gd cn cs a ccd cl outer A₀ base h₀ L m s Q E B F X N T hk hp hd hu hR
theorem b3_all : b3.all (fun p => decide (p.2.length ≤ 4)) = true := by kernel_rfl
theorem look_mem : ∀ (l : List KS) (k : Int) (x : Str), l.lookup k = some x → (k, x) ∈ l
  | (a, b) :: r, k, x, h => by
    rw [List.lookup_cons] at h
    cases hk : (k == a) with
    | true => rw [hk] at h; have := beq_iff_eq.mp hk; cases h; subst this; exact List.mem_cons_self ..
    | false => rw [hk] at h; exact List.mem_cons_of_mem _ (look_mem r k x h)
  | [], _, _, h => by cases h
theorem mapS_len (c : Nat) : (mapS c).length ≤ 4 := by
  unfold mapS
  cases h : b3.lookup (c : Int) with
  | none => exact Nat.le_trans (len_lower _) (by show 3 * 1 ≤ 4; decide)
  | some x => exact of_decide_eq_true (List.all_eq_true.mp b3_all _ (look_mem _ _ _ h))
noncomputable def prepC (c : Nat) : Str := if inB1 c then Str.empty else mapS c
noncomputable def prep (l : List Nat) : Str := l.foldl (fun (acc : Str) c => acc ++ prepC c) Str.empty
theorem m_in (w : World) (mean : ExcName → Option Value) (mg mb : Str → Option Value) (news : CbLed) (c : Nat) (t : Tok) : ConP w mean mg mb 102 news 1 8 True [.str ⟨#[c]⟩ t] (fun _ => .bool (inB1 c)) True := ⟨conOf (c_in w mean mg mb news c t), trivial⟩
theorem m_map (w : World) (mean : ExcName → Option Value) (mg mb : Str → Option Value) (news : CbLed) (c : Nat) (t : Tok) : ConP w mean mg mb 148 news 1 8 True [.str ⟨#[c]⟩ t] (fun t => .str (mapS c) t) ((mapS c).length ≤ 4) := ⟨conOf (c_map w mean mg mb news c t), mapS_len c⟩
noncomputable def prepI (l : List Int) : Str := l.foldl (fun (acc : Str) c => acc ++ prepC c.toNat) Str.empty
theorem ofI (n : Nat) : ((n : Int)).toNat = n := Int.toNat_natCast n
theorem prepI_snoc (pre : List Int) (n : Nat) : prepI (pre ++ [(n : Int)]) = prepI pre ++ prepC n := by
  unfold prepI; rw [List.foldl_append]; rfl
theorem slen_append (a b : Str) : (a ++ b).length = a.length + b.length := Array.size_append
theorem sapp_empty (a : Str) : a ++ Str.empty = a := by
  cases a with | mk c => show Str.mk (c ++ #[]) = _; rw [Array.append_empty]
theorem prep_held {l : Str} {pre : List Int} {n : Nat} (h1 : l = prepI pre) (h2 : l.length ≤ 4 * pre.length) (h3 : (inB1 n == false) = false ∨ inB1 n = true) :
    l = prepI (pre ++ [(n : Int)]) ∧ l.length ≤ 4 * (pre ++ [(n : Int)]).length := by
  have h3 : inB1 n = true := by rcases h3 with h | h; (cases hh : inB1 n <;> simp_all); exact h
  refine ⟨?_, by rw [List.length_append]; show _ ≤ 4 * (_ + 1); lia⟩
  rw [prepI_snoc, ← h1]; unfold prepC; rw [if_pos h3, sapp_empty]
theorem prep_not {l : Str} {pre : List Int} {n : Nat} (h1 : l = prepI pre) (h2 : l.length ≤ 4 * pre.length) (h3 : (inB1 n == false) = true) :
    l ++ mapS n = prepI (pre ++ [(n : Int)]) ∧ (l ++ mapS n).length ≤ 4 * (pre ++ [(n : Int)]).length := by
  have h3 : ¬ inB1 n = true := by cases hh : inB1 n <;> simp_all
  have := mapS_len n
  refine ⟨?_, by rw [List.length_append, slen_append]; show _ ≤ 4 * (_ + 1); lia⟩
  rw [prepI_snoc, ← h1]; unfold prepC; rw [if_neg h3]
theorem prepI_codes (x : Str) : prepI (KStt.codes x) = prep x.cps.toList := by
  unfold prepI prep KStt.codes
  rw [List.foldl_map]; rfl
theorem bool_contra {b : Bool} (h1 : (b == false) = false) (h2 : (b != true) = true) : False := by cases b <;> cases h1 <;> cases h2
theorem c_prep (w : World) (mean : ExcName → Option Value) (mg mb : Str → Option Value) (news : CbLed) (x : Str) (t : Tok) :
   Con w mean mg mb 242 news 3 20 (x.length ≤ 100) [.str x t] (fun t => .str (prep x.cps.toList) t) := by
  k_with_none
  k_with "isTrue Compare" => (k_here; (first | (with_reducible show wpAny _ _ (PySem.isTrue (PySem.Expr.Compare (PySem.Expr.Name _ _) _ _ _) _ _) _ _ _) | (with_reducible show wpAny _ _ (PySem.isTrue (PySem.Expr.Compare (PySem.Expr.Constant _ _ _) _ _ _) _ _) _ _ _) | (with_reducible show wpAny _ _ (PySem.isTrue (PySem.Expr.Compare (PySem.Expr.BinOp (PySem.Expr.Name _ _) _ _ _) _ _ _) _ _) _ _ _)); (first | (with_reducible show wpAny _ _ (PySem.isTrue (PySem.Expr.Compare _ _ [(PySem.Expr.Name _ _)] _) _ _) _ _ _) | (with_reducible show wpAny _ _ (PySem.isTrue (PySem.Expr.Compare _ _ [(PySem.Expr.Constant _ _ _)] _) _ _) _ _ _) | (with_reducible show wpAny _ _ (PySem.isTrue (PySem.Expr.Compare _ _ [(PySem.Expr.BinOp (PySem.Expr.Name _ _) _ _ _)] _) _ _) _ _ _)); k_dflt (refine' cmpS ?svF ?svk ?svS ?svU ?_ ?svh; (case svF => k_asm); (case svk => rfl); (case svS => walk_at "SV"); (case svU => walk_at "SV"); (case svh => with_unfolding_all rfl); k_whole))
  k_with "spliced" => (k_here; (first | (with_reducible show wpAny _ _ (spliced (backTo _ (starEach ((PySem.Expr.Name _ _) :: _) _))) _ _ _) | (with_reducible show wpAny _ _ (spliced (backTo _ (starEach ((PySem.Expr.Constant _ _ _) :: _) _))) _ _ _) | (with_reducible show wpAny _ _ (spliced (backTo _ (starEach ((PySem.Expr.BinOp (PySem.Expr.Name _ _) _ _ _) :: _) _))) _ _ _)); k_dflt (refine' itemsS ?svF ?svk ?svS ?_; (case svF => k_asm); (case svk => rfl); (case svS => walk_at "SV"); k_whole))
  k_with "exec Assign" => (k_here; (first | (with_reducible show wpAny _ _ (exec (PySem.Stmt.Assign [_] (PySem.Expr.Name _ _) _) _) _ _ _) | (with_reducible show wpAny _ _ (exec (PySem.Stmt.Assign [_] (PySem.Expr.Constant _ _ _) _) _) _ _ _) | (with_reducible show wpAny _ _ (exec (PySem.Stmt.Assign [_] (PySem.Expr.BinOp (PySem.Expr.Name _ _) _ _ _) _) _) _ _ _)); k_dflt (refine' asgS ?svF ?svk ?svS ?_; (case svF => k_asm); (case svk => rfl); (case svS => walk_at "SV"); k_whole))
  k_with "call ref" => (k_here; (with_reducible show wpAny _ _ (call (Value.ref 102) _) _ _ _); (refine' useP (m_in _ _ _ _ _ _ _) ?k1 ?k2 ?k3 ?k4 ?k5 ?kK ?kp ?kd ?ku ?_); (case k1 => k_asm); (case k2 => k_asm); (case k3 => k_asm); (case k4 => k_asm); (case k5 => k_asm); (case kK => first | exact rfl | assumption); (case kp => trivial); (case kd => ktr_room); (case ku => ktr_units); (intro hP9 _ _ _ _ _); (try dsimp only at hP9); (try dsimp only); (try k_fold))
  k_with "call ref" => (k_here; (with_reducible show wpAny _ _ (call (Value.ref 148) _) _ _ _); (refine' useP (m_map _ _ _ _ _ _ _) ?k1 ?k2 ?k3 ?k4 ?k5 ?kK ?kp ?kd ?ku ?_); (case k1 => k_asm); (case k2 => k_asm); (case k3 => k_asm); (case k4 => k_asm); (case k5 => k_asm); (case kK => first | exact rfl | assumption); (case kp => trivial); (case kd => ktr_room); (case ku => ktr_units); (intro hP9 _ _ _ _ _); (try dsimp only at hP9); (try dsimp only); (try k_fold))
  suffices hfill : PySem.Challenge.rw_uc0065_01 = PySem.Challenge.rw_uc0065_01 → KL = KL → Con w mean mg mb 242 news 3 20 (x.length ≤ 100) [.str x t] (fun t => .str (prep x.cps.toList) t) from hfill rfl rfl
  k_fill
  intro hrow hKL; clear hrow hKL
  unfold Con; dsimp only [CbRet]; intros; rename_i hret
  refine wpAny_call ?_
  k_dflt cell_enter
  k_with "pyIter str" => k_state (fun pre left => left = prepI pre ∧ left.length ≤ 4 * pre.length) "left"
  k_with "state" => first | exact prep_not (by assumption) (by assumption) (by assumption) | exact prep_held (by assumption) (by assumption) (.inl (by assumption)) | exact ⟨rfl, Nat.zero_le _⟩
  k_steps
  · exact (bool_contra (by assumption) (by assumption)).elim
  · subst_vars; exact cb_retS hret (prepI_codes x) (by assumption) (by assumption)
end Mine

end
-- C1
section
open PySem PySem.W PySem.Spec PySem.Calls PyProof.Rows
set_option Elab.async false
set_option maxRecDepth 100000
set_option maxHeartbeats 4000000
namespace Mine
theorem gentok {p : Program} {w : World} {A : Around} {α : Type} {x : Sem α} {Q : α → Shared → Prop} {E : Value → Shared → Prop} {h : Heap} {g : Array GenState} {d : Drawn} {o : OsState} {X : Nat}
    (H : ∀ n : Nat, wpAny (model p w) A x Q E (Shared.mk h g d n o)) : wpAny (model p w) A x Q E (Shared.mk h g d X o) := H X
theorem letF {h₀ h : Heap} {L : Addr} {m : Str → Option Value} {G : Prop} (F : Fr h₀ L h m) (k : let m' := m; Fr h₀ L h m' → G) : G := k F
theorem letA {M : Model} {α : Type} {A : Around} {c : Sem α} {Q : α → Shared → Prop} {E : Value → Shared → Prop} {s : Shared} (k : let A' := A; wpAny M A' c Q E s) : wpAny M A c Q E s := k
theorem fm (v : Int) {k : Int} (hk : 0 < k) : 0 ≤ v.fmod k ∧ v.fmod k < k := by
  rw [Int.fmod_eq_emod_of_nonneg v (Int.le_of_lt hk)]
  exact ⟨Int.emod_nonneg v (by omega), Int.emod_lt_of_pos v hk⟩
noncomputable def b1tab : List Int := [173, 847, 6150, 6155, 6156, 6157, 8203, 8204, 8205, 8288, 65279]
noncomputable def hidC (v : Int) : Int := if v.fmod 27 < 16 then 65024 + v.fmod 27 else b1tab.getD (v.fmod 27 - 16).toNat 0
noncomputable def hid (v : Int) : Str := ⟨#[(hidC v).toNat]⟩
theorem b1tab_range (i : Nat) : 0 ≤ b1tab.getD i 0 ∧ b1tab.getD i 0 ≤ 1114111 := by
  by_cases h : i < 11
  · have : ∀ i : Fin 11, 0 ≤ b1tab.getD i.1 0 ∧ b1tab.getD i.1 0 ≤ 1114111 := by decide
    exact this ⟨i, h⟩
  · rw [List.getD_eq_getElem?_getD, List.getElem?_eq_none (by simp [b1tab]; omega)]
    decide
theorem c_hid (w : World) (mean : ExcName → Option Value) (mg mb : Str → Option Value) (news : CbLed) (v : Int) (t : Tok) :
   CbClaim prog w (KL w.params) qv looseN mean mg mb 221 news [] True [.int v t] (fun t => .str (hid v) t) := by
  k_with_none
  k_with "eval BinOp" => (k_here; (first | (with_reducible show wpAny _ _ (eval (PySem.Expr.BinOp (PySem.Expr.Name _ _) _ _ _) _) _ _ _) | (with_reducible show wpAny _ _ (eval (PySem.Expr.BinOp (PySem.Expr.Constant _ _ _) _ _ _) _) _ _ _) | (with_reducible show wpAny _ _ (eval (PySem.Expr.BinOp (PySem.Expr.BinOp (PySem.Expr.Name _ _) _ _ _) _ _ _) _) _ _ _)); (first | (with_reducible show wpAny _ _ (eval (PySem.Expr.BinOp _ _ (PySem.Expr.Name _ _) _) _) _ _ _) | (with_reducible show wpAny _ _ (eval (PySem.Expr.BinOp _ _ (PySem.Expr.Constant _ _ _) _) _) _ _ _)); k_dflt (first | (refine' valS ?svF ?svk ?svS ?_; (case svF => k_asm); (case svk => rfl); (case svS => walk_at "SV"); k_whole) | (refine' binS ?svF ?svk ?svS ?svU ?_; (case svF => k_asm); (case svk => rfl); (case svS => walk_at "SV"); (case svU => walk_at "SV"); k_whole)))
  k_with "isTrue Compare" => (k_here; (first | (with_reducible show wpAny _ _ (PySem.isTrue (PySem.Expr.Compare (PySem.Expr.Name _ _) _ _ _) _ _) _ _ _) | (with_reducible show wpAny _ _ (PySem.isTrue (PySem.Expr.Compare (PySem.Expr.Constant _ _ _) _ _ _) _ _) _ _ _) | (with_reducible show wpAny _ _ (PySem.isTrue (PySem.Expr.Compare (PySem.Expr.BinOp (PySem.Expr.Name _ _) _ _ _) _ _ _) _ _) _ _ _)); (first | (with_reducible show wpAny _ _ (PySem.isTrue (PySem.Expr.Compare _ _ [(PySem.Expr.Name _ _)] _) _ _) _ _ _) | (with_reducible show wpAny _ _ (PySem.isTrue (PySem.Expr.Compare _ _ [(PySem.Expr.Constant _ _ _)] _) _ _) _ _ _) | (with_reducible show wpAny _ _ (PySem.isTrue (PySem.Expr.Compare _ _ [(PySem.Expr.BinOp (PySem.Expr.Name _ _) _ _ _)] _) _ _) _ _ _)); k_dflt (refine' cmpS ?svF ?svk ?svS ?svU ?_ ?svh; (case svF => k_asm); (case svk => rfl); (case svS => walk_at "SV"); (case svU => walk_at "SV"); (case svh => with_unfolding_all rfl); k_whole))
  k_with "spliced" => (k_here; (first | (with_reducible show wpAny _ _ (spliced (backTo _ (starEach ((PySem.Expr.Name _ _) :: _) _))) _ _ _) | (with_reducible show wpAny _ _ (spliced (backTo _ (starEach ((PySem.Expr.Constant _ _ _) :: _) _))) _ _ _) | (with_reducible show wpAny _ _ (spliced (backTo _ (starEach ((PySem.Expr.BinOp (PySem.Expr.Name _ _) _ _ _) :: _) _))) _ _ _)); k_dflt (refine' itemsS ?svF ?svk ?svS ?_; (case svF => k_asm); (case svk => rfl); (case svS => walk_at "SV"); k_whole))
  k_with "storeName" => (k_here; k_dflt (refine' storeLF ?F ?N ?_ ?a ?b; (case F => k_asm); (case N => k_asm); (case a => rfl); (case b => rfl); k_whole; intro _ _ _ _; (try k_sweep)))
  k_with "execs cons" => (k_here; (with_reducible refine wpAny_execs_cons ?_); k_fold)
  k_with "execs cons" => (k_here; (with_reducible show wpAny _ _ _ _ _ (Shared.mk _ _ _ (_ + 1 + 1) _)); refine gentok ?_; intro _; (with_reducible refine wpAny_execs_cons ?_); (try dsimp only); (try k_fold))
  k_with "execs nil" => (k_here; (with_reducible show wpAny _ _ _ _ _ (Shared.mk _ _ _ (_ + 1 + 1) _)); refine gentok ?_; intro _; (with_reducible refine wpAny_execs_nil ?_); try dsimp only)
  suffices hfill : PySem.Challenge.rw_uc0065_01 = PySem.Challenge.rw_uc0065_01 → CbClaim prog w (KL w.params) qv looseN mean mg mb 221 news [] True [.int v t] (fun t => .str (hid v) t) from hfill rfl
  k_fill
  intro hrow; clear hrow
  unfold CbClaim; dsimp only [CbLists, CbRet]; intros; rename_i hret
  refine wpAny_call ?_
  k_dflt cell_enter
  refine letF ‹Fr _ _ _ _› ?_
  intro me Fe
  refine letA ?_
  intro A9
  k_steps
  · exact cb_retS hret (by unfold hid hidC; rw [if_pos (by assumption)]) (by assumption) (by assumption)
  · refine chr_of_range (b1tab_range _).1 (b1tab_range _).2 ?_
    k_steps
    exact cb_retS hret (by unfold hid hidC; rw [if_neg (by assumption)]; rfl) (by assumption) (cb_drop (by assumption) (by intro p hp; exact List.mem_cons_of_mem _ hp))
noncomputable def tabA : List Int := [172, 174, 846, 848, 6149, 6151, 6154, 6158, 8202, 8206, 8287, 8289, 65023, 65040, 65278, 65280]
noncomputable def tabB : List Int := [97, 65, 119808, 119860, 119912, 120016, 120172, 120224, 120276, 120328, 120380, 120432]
theorem getD_range (l : List Int) (h : (l.all fun x => decide (0 ≤ x ∧ x ≤ 1000000)) = true) (i : Nat) : 0 ≤ l.getD i 0 ∧ l.getD i 0 ≤ 1000000 := by
  by_cases hi : i < l.length
  · rw [List.getD_eq_getElem?_getD, List.getElem?_eq_getElem hi]
    exact of_decide_eq_true (List.all_eq_true.mp h _ (List.getElem_mem hi))
  · rw [List.getD_eq_getElem?_getD, List.getElem?_eq_none (by omega)]
    decide
noncomputable def one (v : Int) : Str :=
  if v.fmod 3 = 0 then (⟨#[(tabA.getD ((v.fdiv 3).fmod 16).toNat 0).toNat]⟩ : Str) ++ (⟨#[(tabA.getD ((v.fdiv 3).fmod 16).toNat 0).toNat]⟩ : Str)
  else if (v.fdiv 78).fmod 13 = 12 then (⟨#[(1040 + (v.fdiv 3).fmod 26).toNat]⟩ : Str) ++ (⟨#[(1072 + (v.fdiv 3).fmod 26).toNat]⟩ : Str)
  else (⟨#[(tabB.getD ((v.fdiv 78).fmod 13).toNat 0 + (v.fdiv 3).fmod 26).toNat]⟩ : Str) ++ (⟨#[(97 + (v.fdiv 3).fmod 26).toNat]⟩ : Str)
theorem c_one (w : World) (mean : ExcName → Option Value) (mg mb : Str → Option Value) (news : CbLed) (v : Int) (t : Tok) :
   CbClaim prog w (KL w.params) qv looseN mean mg mb 228 news [] True [.int v t] (fun t => .str (one v) t) := by
  suffices hfill : PySem.Challenge.rw_uc0065_01 = PySem.Challenge.rw_uc0065_01 → CbClaim prog w (KL w.params) qv looseN mean mg mb 228 news [] True [.int v t] (fun t => .str (one v) t) from hfill rfl
  k_fill
  intro hrow; clear hrow
  unfold CbClaim; dsimp only [CbLists, CbRet]; intros; rename_i hret
  refine wpAny_call ?_
  k_dflt cell_enter
  refine letF ‹Fr _ _ _ _› ?_
  intro me Fe
  refine letA ?_
  intro A9
  k_steps
  · refine chr_of_range (getD_range tabA (by decide) _).1 (Int.le_trans (getD_range tabA (by decide) _).2 (by decide)) ?_
    k_steps
    refine chr_of_range (getD_range tabA (by decide) _).1 (Int.le_trans (getD_range tabA (by decide) _).2 (by decide)) ?_
    k_steps
    exact cb_retS hret (by unfold one; rw [if_pos (by assumption)]; rfl) (by assumption) (cb_drop (by assumption) (by kcj_all))
  · exact cb_retS hret (by unfold one; rw [if_neg (by assumption), if_pos (by assumption)]) (by assumption) (cb_drop (by assumption) (by kcj_all))
  · have h1 := getD_range tabB (by decide) ((v.fdiv 78).fmod 13).toNat
    have h2 := fm (v.fdiv 3) (k := 26) (by decide)
    refine chr_of_range (by show 0 ≤ tabB.getD ((v.fdiv 78).fmod 13).toNat 0 + (v.fdiv 3).fmod 26; omega) (by show tabB.getD ((v.fdiv 78).fmod 13).toNat 0 + (v.fdiv 3).fmod 26 ≤ 1114111; omega) ?_
    k_steps
    exact cb_retS hret (by unfold one; rw [if_neg (by assumption), if_neg (by assumption)]; rfl) (by assumption) (cb_drop (by assumption) (by kcj_all))
noncomputable def dressT : List Str := [Str.ofString "", Str.ofString "k", Str.ofString "\\\\", Str.ofString "\\(", Str.ofString "\"(\\\\\"", Str.ofString "\"\\\")\"", Str.ofString "\""]
noncomputable def dress (v : Int) : Str := dressT.getD (v.fmod 7).toNat Str.empty
theorem c_dress (w : World) (mean : ExcName → Option Value) (mg mb : Str → Option Value) (news : CbLed) (v : Int) (t : Tok) :
   CbClaim prog w (KL w.params) qv looseN mean mg mb 249 news [] True [.int v t] (fun t => .str (dress v) t) := by
  suffices hfill : PySem.Challenge.rw_uc0065_01 = PySem.Challenge.rw_uc0065_01 → CbClaim prog w (KL w.params) qv looseN mean mg mb 249 news [] True [.int v t] (fun t => .str (dress v) t) from hfill rfl
  k_fill
  intro hrow; clear hrow
  unfold CbClaim; dsimp only [CbLists, CbRet]; intros; rename_i hret
  refine wpAny_call ?_
  k_dflt cell_enter
  refine letF ‹Fr _ _ _ _› ?_
  intro me Fe
  refine letA ?_
  intro A9
  k_with "table" => skip
  k_steps
  exact cb_retS hret rfl (by assumption) (cb_drop (by assumption) (by kcj_all))
end Mine

end
-- T5
section
open PySem PySem.W PySem.Spec PySem.Calls PyProof.Rows
set_option Elab.async false
set_option maxRecDepth 100000
set_option maxHeartbeats 4000000
namespace Mine
noncomputable def okWb (wd : Str) (n : Nat) : Bool := decide (wd.length = n + 2) && (prepC (Txt.item wd 0).cps[0]! == Txt.slice wd (some 1) none) && decide ((Txt.slice wd (some 1) none).length = n + 1)
theorem ok_same : ((List.range 16).all fun i => okWb ((⟨#[(tabA.getD i 0).toNat]⟩ : Str) ++ (⟨#[(tabA.getD i 0).toNat]⟩ : Str)) 0) = true := by kernel_rfl
theorem ok_12 : ((List.range 26).all fun j => okWb ((⟨#[(1040 + (j : Int)).toNat]⟩ : Str) ++ (⟨#[(1072 + (j : Int)).toNat]⟩ : Str)) 0) = true := by kernel_rfl
theorem ok_y0 : ((List.range 26).all fun j => okWb ((⟨#[(tabB.getD 0 0 + (j : Int)).toNat]⟩ : Str) ++ (⟨#[(97 + (j : Int)).toNat]⟩ : Str)) 0) = true := by kernel_rfl
theorem ok_y1 : ((List.range 26).all fun j => okWb ((⟨#[(tabB.getD 1 0 + (j : Int)).toNat]⟩ : Str) ++ (⟨#[(97 + (j : Int)).toNat]⟩ : Str)) 0) = true := by kernel_rfl
theorem ok_y2 : ((List.range 26).all fun j => okWb ((⟨#[(tabB.getD 2 0 + (j : Int)).toNat]⟩ : Str) ++ (⟨#[(97 + (j : Int)).toNat]⟩ : Str)) 0) = true := by kernel_rfl
theorem ok_y3 : ((List.range 26).all fun j => okWb ((⟨#[(tabB.getD 3 0 + (j : Int)).toNat]⟩ : Str) ++ (⟨#[(97 + (j : Int)).toNat]⟩ : Str)) 0) = true := by kernel_rfl
theorem ok_y4 : ((List.range 26).all fun j => okWb ((⟨#[(tabB.getD 4 0 + (j : Int)).toNat]⟩ : Str) ++ (⟨#[(97 + (j : Int)).toNat]⟩ : Str)) 0) = true := by kernel_rfl
theorem ok_y5 : ((List.range 26).all fun j => okWb ((⟨#[(tabB.getD 5 0 + (j : Int)).toNat]⟩ : Str) ++ (⟨#[(97 + (j : Int)).toNat]⟩ : Str)) 0) = true := by kernel_rfl
theorem ok_y6 : ((List.range 26).all fun j => okWb ((⟨#[(tabB.getD 6 0 + (j : Int)).toNat]⟩ : Str) ++ (⟨#[(97 + (j : Int)).toNat]⟩ : Str)) 0) = true := by kernel_rfl
theorem ok_y7 : ((List.range 26).all fun j => okWb ((⟨#[(tabB.getD 7 0 + (j : Int)).toNat]⟩ : Str) ++ (⟨#[(97 + (j : Int)).toNat]⟩ : Str)) 0) = true := by kernel_rfl
theorem ok_y8 : ((List.range 26).all fun j => okWb ((⟨#[(tabB.getD 8 0 + (j : Int)).toNat]⟩ : Str) ++ (⟨#[(97 + (j : Int)).toNat]⟩ : Str)) 0) = true := by kernel_rfl
theorem ok_y9 : ((List.range 26).all fun j => okWb ((⟨#[(tabB.getD 9 0 + (j : Int)).toNat]⟩ : Str) ++ (⟨#[(97 + (j : Int)).toNat]⟩ : Str)) 0) = true := by kernel_rfl
theorem ok_y10 : ((List.range 26).all fun j => okWb ((⟨#[(tabB.getD 10 0 + (j : Int)).toNat]⟩ : Str) ++ (⟨#[(97 + (j : Int)).toNat]⟩ : Str)) 0) = true := by kernel_rfl
theorem ok_y11 : ((List.range 26).all fun j => okWb ((⟨#[(tabB.getD 11 0 + (j : Int)).toNat]⟩ : Str) ++ (⟨#[(97 + (j : Int)).toNat]⟩ : Str)) 0) = true := by kernel_rfl
theorem ok_way : ((List.range 12).all fun a => (List.range 26).all fun j => okWb ((⟨#[(tabB.getD a 0 + (j : Int)).toNat]⟩ : Str) ++ (⟨#[(97 + (j : Int)).toNat]⟩ : Str)) 0) = true := by
  rw [show List.range 12 = [0, 1, 2, 3, 4, 5, 6, 7, 8, 9, 10, 11] from rfl]
  simp only [List.all_cons, List.all_nil, ok_y0, ok_y1, ok_y2, ok_y3, ok_y4, ok_y5, ok_y6, ok_y7, ok_y8, ok_y9, ok_y10, ok_y11, Bool.and_self]
theorem ok_w1 : ([Str.ofString "ﬀff", Str.ofString "ﬁfi", Str.ofString "ﬂfl", Str.ofString "ﬅst", Str.ofString "ﬆst",
              Str.ofString "ßss", Str.ofString "№no", Str.ofString "㏍kk"].all fun s => okWb s 1) = true := by kernel_rfl
theorem ok_w2 : ([Str.ofString "ﬃffi", Str.ofString "ﬄffl", Str.ofString "℡tel", Str.ofString "㏙ppm", Str.ofString "㎒mhz", Str.ofString "㏇co."].all fun s => okWb s 2) = true := by kernel_rfl
theorem ok_w3 : ([Str.ofString "㏆c∕kg"].all fun s => okWb s 3) = true := by kernel_rfl
theorem okW_one (v : Int) : okWb (one v) 0 = true := by
  unfold one
  split
  · have h := fm (v.fdiv 3) (k := 16) (by decide)
    exact List.all_eq_true.mp ok_same _ (List.mem_range.mpr (by omega : ((v.fdiv 3).fmod 16).toNat < 16))
  · have h := fm (v.fdiv 3) (k := 26) (by decide)
    have e : (((v.fdiv 3).fmod 26).toNat : Int) = (v.fdiv 3).fmod 26 := Int.toNat_of_nonneg h.1
    split
    · have := List.all_eq_true.mp ok_12 _ (List.mem_range.mpr (by omega : ((v.fdiv 3).fmod 26).toNat < 26))
      rw [e] at this; exact this
    · rename_i hn
      have h2 := fm (v.fdiv 78) (k := 13) (by decide)
      have := List.all_eq_true.mp (List.all_eq_true.mp ok_way _ (List.mem_range.mpr (by omega : ((v.fdiv 78).fmod 13).toNat < 12))) _ (List.mem_range.mpr (by omega : ((v.fdiv 3).fmod 26).toNat < 26))
      rw [e] at this; exact this
theorem getD_ok {l : List Str} {n : Nat} (h : (l.all fun s => okWb s n) = true) {i : Nat} (hi : i < l.length) : okWb (l.getD i Str.empty) n = true := by
  rw [List.getD_eq_getElem?_getD, List.getElem?_eq_getElem hi]
  exact List.all_eq_true.mp h _ (List.getElem_mem hi)
end Mine

end
-- C5a
section
open PySem PySem.W PySem.Spec PySem.Calls PyProof.Rows
set_option Elab.async false
set_option maxRecDepth 100000
set_option maxHeartbeats 4000000
namespace Mine
theorem m_hid (w : World) (mean : ExcName → Option Value) (mg mb : Str → Option Value) (news : CbLed) (v : Int) (t : Tok) : ConP w mean mg mb 221 news 1 8 True [.int v t] (fun t => .str (hid v) t) ((hid v).length = 1) := ⟨conOf (c_hid w mean mg mb news v t), rfl⟩
theorem one_len (v : Int) : (one v).length = 2 := by
  unfold one; split
  · rfl
  · split <;> rfl
theorem m_one (w : World) (mean : ExcName → Option Value) (mg mb : Str → Option Value) (news : CbLed) (v : Int) (t : Tok) : ConP w mean mg mb 228 news 1 8 True [.int v t] (fun t => .str (one v) t) ((one v).length = 2) := ⟨conOf (c_one w mean mg mb news v t), one_len v⟩
noncomputable abbrev TyInv (size : Int) (typed meant : Str) (u : Int) : Prop := prep typed.cps.toList = meant ∧ (meant.length : Int) ≤ size ∧ meant.length ≤ 5 ∧ typed.length ≤ 1 + 2 * meant.length ∧ 0 ≤ u
theorem inB1_hid (v : Int) : inB1 (((hidC v).toNat : Nat) : Int) = true := by
  have h := fm v (k := 27) (by decide)
  have : ∀ i : Fin 27, inB1 ((((if (i.1 : Int) < 16 then 65024 + (i.1 : Int) else b1tab.getD ((i.1 : Int) - 16).toNat 0) : Int).toNat : Nat) : Int) = true := by decide
  have h3 := this ⟨(v.fmod 27).toNat, by lia⟩
  simp only [Int.toNat_of_nonneg h.1] at h3
  exact h3
theorem prep_hid (v : Int) : prep (hid v).cps.toList = Str.empty := by
  show Str.empty ++ prepC (hidC v).toNat = Str.empty
  unfold prepC; rw [if_pos (inB1_hid v)]; rfl
theorem ty_start {size v : Int} (h : 0 ≤ size ∧ size ≤ 5 ∧ 0 ≤ v) : TyInv size (hid v) (Str.ofString "") v :=
  ⟨prep_hid v, h.1, by decide, Nat.le_refl 1, h.2.2⟩
/-- a contract that gives back a fresh object -/
noncomputable abbrev ConO (w : World) (mean : ExcName → Option Value) (mg mb : Str → Option Value) (f : Addr) (news : CbLed) (d u : Nat) (pre : Prop) (vs : List Value) (O : Tok → Tok → Obj) (P : Prop) : Prop :=
  (∀ (dp un : Nat) (gd : Option (List Code)) (cn : Str) (cs : Scope) (a : Addr) (ccd : Value) (cl : List (Str × Addr)) (outer : List Env) (A₀ : Around) (base h₀ : Heap) (L : Addr) (m : Str → Option Value) (s : Shared) (Q E : Value → Shared → Prop),
    PyProof.Rows.Below A₀ base outer h₀ → Fr h₀ L s.heap m → (KL w.params).In h₀ → News h₀ L s.heap news → Top qv looseN mean mg mb h₀ → cs.kind = .function →
    pre → dp + d < recursionLimit → un + u < cLine →
    (∀ (t1 t2 : Tok) (b : Addr) (h' : Heap) (tk' : Nat), Fr h₀ L h' m → News h₀ L h' ((b, O t1 t2) :: news) → (∀ p ∈ news, p.1 < b) → Q (.ref b) { s with heap := h', toks := tk' }) →
      wpAny (model prog w) (ktrTop dp un gd cn cs L a ccd cl outer) (call (.ref f) vs) Q E s) ∧ P
noncomputable abbrev tup2S (x y : Str) (t1 t2 : Tok) : Obj := { cls := Value.type "tuple", data := Data.seq #[Value.str x t1, Value.str y t2] }
theorem small4 {u d : Int} (h : 0 < d) : (0 ≤ u.fmod (if d < 4 then d else 4) ∧ u.fmod (if d < 4 then d else 4) < 4) ∧ u.fmod (if d < 4 then d else 4) < d := by
  split
  · have := fm u h; omega
  · have := fm u (k := 4) (by decide); omega
theorem okW_len {x : Str} {n : Nat} (h : okWb x n = true) : x.length = n + 2 := by
  unfold okWb at h; rw [Bool.and_eq_true, Bool.and_eq_true] at h; exact of_decide_eq_true h.1.1
theorem okW_slen {x : Str} {n : Nat} (h : okWb x n = true) : (Txt.slice x (some 1) none).length = n + 1 := by
  unfold okWb at h; rw [Bool.and_eq_true, Bool.and_eq_true] at h; exact of_decide_eq_true h.2
theorem okW_prep {x : Str} {n : Nat} (h : okWb x n = true) : prepC (Txt.item x 0).cps[0]! = Txt.slice x (some 1) none := by
  unfold okWb at h; rw [Bool.and_eq_true, Bool.and_eq_true] at h; exact eq_of_beq h.1.2
theorem item_ok {w : World} {A : Around} {e1 e2 : Expr} {x : Str} {n : Nat} {t u : Tok} {Q E : Value → Shared → Prop} {s : Shared} (h : okWb x n = true) (hn : n ≤ 5)
    (hQ : (Txt.item x 0).length = 1 → Q (.str (Txt.item x 0) s.toks) { s with toks := s.toks + 1 })
    (hs : subscripted e2 false (.str x t) (.int 0 u) = operate [.str x t, .int 0 u] (getItem (.str x t) (.int 0 u)))
    (ht : ∀ r, letTemporaryGo e1 (.str x t) r = pure ()) :
    wpAny (model prog w) A (subscriptTail e1 e2 (.str x t) (.int 0 u)) Q E s :=
  KXi.item (n := n + 2) (okW_len h) (by lia) (by lia) (by lia) hQ hs ht
theorem prep_snoc (a : Str) (c : Nat) : prep (a ++ (⟨#[c]⟩ : Str)).cps.toList = prep a.cps.toList ++ prepC c := by
  unfold prep
  show List.foldl _ _ (a.cps ++ #[c]).toList = _
  rw [Array.toList_append, List.foldl_append]; rfl
theorem ty_turn {size : Int} {typed meant wd : Str} {u u' h : Int} {n : Nat} (hp : prep typed.cps.toList = meant) (hl : typed.length ≤ 1 + 2 * meant.length) (h5 : size ≤ 5)
    (hok : okWb wd n = true) (hn : (n : Int) < size - meant.length) (hu : 0 ≤ u') :
    TyInv size (typed ++ Txt.item wd 0 ++ hid h) (meant ++ Txt.slice wd (some 1) none) u' := by
  have e1 := okW_slen hok
  refine ⟨?_, ?_, ?_, ?_, hu⟩
  · unfold hid; rw [prep_snoc]
    rw [show typed ++ Txt.item wd 0 = typed ++ (⟨#[(Txt.item wd 0).cps[0]!]⟩ : Str) from rfl, prep_snoc, hp, okW_prep hok]
    unfold prepC; rw [if_pos (inB1_hid h), sapp_empty]
  · rw [slen_append, e1]; lia
  · rw [slen_append, e1]; lia
  · rw [slen_append, slen_append, slen_append, e1]
    have a1 : (Txt.item wd 0).length = 1 := rfl
    have a2 : (hid h).length = 1 := rfl
    lia
theorem sub1 {w : World} {A : Around} {e1 e2 : Expr} {l : Value} {i : Int} {tk : Tok} {Q E : Value → Shared → Prop} {s : Shared}
    (h : wpAny (model prog w) A (subscriptTail e1 e2 l (.int 0 tk)) Q E s) : wpAny (model prog w) A (subscriptTail e1 e2 l (.int (i.fmod 1) tk)) Q E s := by
  have := fm i (k := 1) (by decide)
  rw [show i.fmod 1 = 0 by lia]; exact h
theorem fdiv_nn {u d : Int} (h : 0 ≤ u) (hd : 0 ≤ d) : 0 ≤ u.fdiv d := by rw [Int.fdiv_eq_ediv_of_nonneg _ hd]; exact Int.ediv_nonneg h hd
theorem rsub {l : List Str} {u : Int} {n k : Nat} (h : (l.all fun s => okWb s n) = true) (hl : l.length = k) (hk : 0 < k) : okWb (l.getD (u.fmod k).toNat Str.empty) n = true :=
  getD_ok h (by have := fm u (k := (k : Int)) (by lia); omega)
theorem s4lt {u d n : Int} (h : 0 < d) (hk : u.fmod (if d < 4 then d else 4) = n) : n < d := hk ▸ (small4 h).2
theorem s4nn {u d n : Int} (h : 0 < d) (_hk : u.fmod (if d < 4 then d else 4) = n) (v : Int) (hv : 0 ≤ v) : 0 ≤ (v.fdiv (if d < 4 then d else 4)).fdiv 7 :=
  fdiv_nn (fdiv_nn hv (by split <;> lia)) (by decide)

end Mine

end
-- D0
section
open PySem PySem.W PySem.Spec PySem.Calls PyProof.Rows
set_option Elab.async false
set_option maxRecDepth 100000
set_option maxHeartbeats 4000000
namespace Mine
theorem useO {w : World} {mean : ExcName → Option Value} {mg mb : Str → Option Value} {news : CbLed} {f : Addr} {d u : Nat} {pre : Prop} {vs : List Value} {O : Tok → Tok → Obj} {P : Prop}
    (C : ConO w mean mg mb f news d u pre vs O P) {dp un : Nat} {gd : Option (List Code)} {cn : Str} {cs : Scope} {a : Addr} {ccd : Value} {cl : List (Str × Addr)} {outer : List Env} {A₀ : Around} {base h₀ : Heap} {L : Addr} {m : Str → Option Value} {s : Shared} {Q E : Value → Shared → Prop}
    (B : PyProof.Rows.Below A₀ base outer h₀) (F : Fr h₀ L s.heap m) (X : (KL w.params).In h₀) (N : News h₀ L s.heap news) (T : Top qv looseN mean mg mb h₀) (hk : cs.kind = .function) (hp : pre) (hd : dp + d < recursionLimit) (hu : un + u < cLine)
    (hR : P → ∀ (t1 t2 : Tok) (b : Addr) (h' : Heap) (tk' : Nat), Fr h₀ L h' m → News h₀ L h' ((b, O t1 t2) :: news) → (∀ p ∈ news, p.1 < b) → Q (.ref b) { s with heap := h', toks := tk' }) :
    wpAny (model prog w) (ktrTop dp un gd cn cs L a ccd cl outer) (call (.ref f) vs) Q E s :=
  C.1 dp un gd cn cs a ccd cl outer A₀ base h₀ L m s Q E B F X N T hk hp hd hu (hR C.2)
noncomputable abbrev tup2I (x y : Int) (t1 t2 : Tok) : Obj := { cls := Value.type "tuple", data := Data.seq #[Value.int x t1, Value.int y t2] }
noncomputable abbrev bl (x : Int) : Nat := Builtin.Int.intBits x
end Mine

end
-- GS
section
open PySem PySem.W PySem.Spec PySem.Calls PyProof.Rows
set_option Elab.async false
set_option maxRecDepth 100000
set_option maxHeartbeats 400000
namespace Mine
section
variable {M : Model} {A : Around} {R : GenEnd} {Y : Protocol} {n : Nat} {s₀ : Shared} {c : Code} {fs : List Frame} {s : Shared} {env : Env}
  {K : Flow → Sem Fin} {H : Value → Sem Fin} {gd : Bool → Bool} {lv : List Value → List Value}
/-- any statement that does not yield -/
theorem seg_stmt {st : Stmt} (h : wpAny M (A.over c fs) (exec st env) (fun f s' => Seg M A R Y n s₀ c (K f) fs s') (fun x s' => Seg M A R Y n s₀ c (H x) fs s') s) :
    Seg M A R Y n s₀ c ((exec st env).wrap K H gd lv) fs s := seg_wrap h
theorem seg_If {test : Expr} {body orelse : List Stmt} {pos : Pos}
    (h : wpAny M (A.over c fs) (isTrue test env (eval test env)) (fun b s' => Seg M A R Y n s₀ c ((if b = true then execs body env else execs orelse env).wrap K H gd lv) fs s') (fun x s' => Seg M A R Y n s₀ c (H x) fs s') s) :
    Seg M A R Y n s₀ c ((exec (.If test body orelse pos) env).wrap K H gd lv) fs s := by
  rw [exec_If]
  refine seg_bind_wrap (wpAny_standAt ?_)
  refine seg_bind_wrap (wpAny_mono h (fun b s' hb => ?_) fun _ _ x => x)
  cases b <;> exact hb
theorem seg_For {target iter : Expr} {body orelse : List Stmt} {pos : Pos} (hs : ∀ x, foldedSetIterable iter env x = pure x)
    (h : wpAny M (A.over c fs) (eval iter env) (fun x s₁ => wpAny M (A.over c fs) (pyIter x) (fun it s₂ =>
      ∀ p, Seg M A R Y n s₀ (.forLoop target it body orelse env) (M.den (.forLoop target it body orelse env))
        (.ret (fun r => ((match r with | .ok f => (.pure f : Sem Flow) | .error e => .raise e).onRaise fun (x : Value) => do
          if (← field x 1) == Value.none then unsupported "frame.own-activation:exception-without-traceback"
          setFlight x env.frame).wrap K H gd lv) none (gd false) (lv []) c p [] :: fs) s₂) (fun x s' => Seg M A R Y n s₀ c (H x) fs s') s₁) (fun x s' => Seg M A R Y n s₀ c (H x) fs s') s) :
    Seg M A R Y n s₀ c ((exec (.For target iter body orelse pos) env).wrap K H gd lv) fs s := by
  rw [exec_For]
  refine seg_bind_wrap (wpAny_standAt ?_)
  refine seg_bind_wrap (wpAny_mono h (fun x s₁ h₁ => ?_) fun _ _ x => x)
  refine seg_bind_wrap (wpAny_of_eq (hs x) ?_)
  refine seg_bind_wrap (wpAny_standAt ?_)
  refine seg_bind_wrap (wpAny_holding (wpAny_mono h₁ (fun it s₂ h₂ => ?_) fun _ _ x => x))
  exact seg_call h₂
end
section
variable {prog : Program} {w : World} {A : Around} {R : GenEnd} {Y : Protocol} {n : Nat} {s₀ : Shared} {fs : List Frame} {s : Shared} {env : Env}
/-- one turn of a for inside a generator -/
theorem seg_forLoop {target : Expr} {it : Value} {body : List Stmt}
    (h : wpAny (model prog w) (A.over (.forLoop target it body [] env) fs) (pyNext it) (fun r s₁ => match r with
        | none => Seg (model prog w) A R Y n s₀ (.block [] env) (leafOf (.ok .next)) fs s₁
        | some v => wpAny (model prog w) (A.over (.forLoop target it body [] env) fs) (letOwnedTupleGo target it v) (fun _ s₂ =>
            wpAny (model prog w) (A.over (.forLoop target it body [] env) fs) (assign target env v) (fun _ s₃ =>
              Seg (model prog w) A R Y n s₀ (.forLoop target it body [] env) ((execs body env).wrap (fun f => match f with
                | .next | .cont => .pure (.again (.forLoop target it body [] env))
                | .brk => .pure (.done .next)
                | .ret v => .pure (.done (.ret v))) (fun e => (do noteFrame e env; theTreesLotGoes e : Sem Unit).wrap (fun _ => .raise e) .raise id id) id id) fs s₃)
              (fun x s' => Seg (model prog w) A R Y n s₀ (.forLoop target it body [] env) ((do noteFrame x env; theTreesLotGoes x : Sem Unit).wrap (fun _ => .raise x) .raise id id) fs s') s₂)
            (fun x s' => Seg (model prog w) A R Y n s₀ (.forLoop target it body [] env) ((do noteFrame x env; theTreesLotGoes x : Sem Unit).wrap (fun _ => .raise x) .raise id id) fs s') s₁)
      (fun x s' => Seg (model prog w) A R Y n s₀ (.forLoop target it body [] env) ((do noteFrame x env; theTreesLotGoes x : Sem Unit).wrap (fun _ => .raise x) .raise id id) fs s') s) :
    Seg (model prog w) A R Y n s₀ (.forLoop target it body [] env) ((model prog w).den (.forLoop target it body [] env)) fs s := by
  show Seg _ A R Y n s₀ _ ((forTurn target it body [] env).onRaise (fun x => do noteFrame x env; theTreesLotGoes x)) fs s
  unfold forTurn
  rw [Sem.onRaise_eq_wrap]
  refine seg_bind_wrap (wpAny_standAt ?_)
  refine seg_bind_wrap (wpAny_onRaise (wpAny_mono h (fun r s₁ h₁ => ?_) fun x s' h' => wpAny_standAt ?_))
  · cases r with
    | none =>
      show Seg _ A R Y n s₀ _ (.pure (.again (.block [] env))) fs s₁
      refine seg_again rfl ?_
      exact h₁
    | some v =>
      refine seg_bind_wrap (wpAny_mono h₁ (fun _ s₂ h₂ => ?_) fun x s' h' => ?_)
      · refine seg_bind_wrap (wpAny_mono h₂ (fun _ s₃ h₃ => ?_) fun x s' h' => ?_)
        · rw [Sem.bind_eq_wrap', Sem.wrap_wrap]
          refine Eq.mp (congrArg (fun t => Seg _ A R Y n s₀ _ t fs s₃) ?_) h₃
          exact Sem.wrap_congr _ _ _ (fun f => by cases f <;> rfl) (fun e => by first | exact (Sem.bind_eq_wrap _ _).symm | (show _ = (do noteFrame e env; theTreesLotGoes e : Sem Unit).bind (fun _ => .raise e); rw [Sem.bind_eq_wrap]))
        · rw [Sem.bind_eq_wrap]; exact h'
      · rw [Sem.bind_eq_wrap]; exact h'
  · rw [Sem.bind_eq_wrap]; exact h'
end
end Mine

end
-- C5
section
open PySem PySem.W PySem.Spec PySem.Calls PyProof.Rows
set_option Elab.async false
set_option maxRecDepth 100000
set_option maxHeartbeats 4000000
namespace Mine
/-- the contract of _law_typed -/
noncomputable abbrev ConTy (w : World) (mean : ExcName → Option Value) (mg mb : Str → Option Value) (news : CbLed) (d u : Nat) (size v : Int) (k1 k2 : Tok) : Prop :=
  (∀ (dp un : Nat) (gd : Option (List Code)) (cn : Str) (cs : Scope) (a : Addr) (ccd : Value) (cl : List (Str × Addr)) (outer : List Env) (A₀ : Around) (base h₀ : Heap) (L : Addr) (m : Str → Option Value) (s : Shared) (Q E : Value → Shared → Prop),
    PyProof.Rows.Below A₀ base outer h₀ → Fr h₀ L s.heap m → (KL w.params).In h₀ → News h₀ L s.heap news → Top qv looseN mean mg mb h₀ → cs.kind = .function →
    (0 ≤ size ∧ size ≤ 5 ∧ 0 ≤ v) → dp + d < recursionLimit → un + u < cLine →
    (∀ (typed meant : Str) (t1 t2 : Tok) (b : Addr) (h' : Heap) (tk' : Nat), prep typed.cps.toList = meant → (meant.length : Int) = size → typed.length ≤ 11 → Fr h₀ L h' m → News h₀ L h' ((b, tup2S typed meant t1 t2) :: news) → (∀ p ∈ news, p.1 < b) → Q (.ref b) { s with heap := h', toks := tk' }) →
      wpAny (model prog w) (ktrTop dp un gd cn cs L a ccd cl outer) (call (.ref 235) [.int size k1, .int v k2]) Q E s)
theorem allLt_all {d : Addr} : ∀ (l : List (Addr × Obj)), AllLt d l → ∀ p ∈ l, p.1 < d := by
  k_with_none
  k_with "OM" => lia
  intro l
  induction l with
  | nil => intro _ p hp; exact absurd hp List.not_mem_nil
  | cons q r ih =>
    intro h p hp
    rcases List.mem_cons.mp hp with h1 | h1
    · subst h1; exact h.1
    · exact ih h.2 p h1
theorem ty_news {g h : Heap} {L : Addr} {news : CbLed} {x y : Str} {t1 t2 : Tok} {D : Addr} {e : Addr × Obj} (N : News g L h ((D, tup2S x y t1 t2) :: e :: news)) : News g L h ((D, tup2S x y t1 t2) :: news) :=
  cb_drop N (fun _ hp => (List.mem_cons.mp hp).elim (fun h => h ▸ List.mem_cons_self ..) (fun h => List.mem_cons_of_mem _ (List.mem_cons_of_mem _ h)))
/-- a list of the words of one step -/
noncomputable def OkL (V : List Value) (n : Nat) : Prop := ∃ ws, StrsAre V ws ∧ (ws.all fun s => okWb s n) = true ∧ 0 < ws.length ∧ ws.length ≤ 8
theorem okl0 (v : Int) (t : Tok) : OkL [.str (one v) t] 0 := ⟨[one v], .cons _ _ .nil, by rw [List.all_cons, okW_one]; rfl, Nat.zero_lt_one, by show 1 ≤ 8; decide⟩
noncomputable def TurnK (wd : Str) (size : Int) (meant : Str) : Prop := ∃ k : Nat, okWb wd k = true ∧ (k : Int) < size - (meant.length : Int)
noncomputable def TurnB (k : Nat) (size : Int) (meant : Str) : Prop := (k : Int) < size - (meant.length : Int)
theorem TurnB.mk {meant : Str} {k : Nat} {size : Int} (hn : (k : Int) < size - (meant.length : Int)) : TurnB k size meant := hn
theorem TurnK.mk {wd meant : Str} {k : Nat} {size : Int} (h : okWb wd k = true) (hn : TurnB k size meant) : TurnK wd size meant := ⟨k, h, hn⟩
theorem ty_turnK {size v : Int} {typed meant wd : Str} {u' h : Int} (h5 : 0 ≤ size ∧ size ≤ 5 ∧ 0 ≤ v) (hp : prep typed.cps.toList = meant) (hl : typed.length ≤ 1 + 2 * meant.length) (K : TurnK wd size meant) (hu : 0 ≤ u') :
    TyInv size (typed ++ Txt.item wd 0 ++ hid h) (meant ++ Txt.slice wd (some 1) none) u' := by
  obtain ⟨k, h1, h2⟩ := K
  exact ty_turn (u := 0) hp hl h5.2.1 h1 h2 hu
theorem ty_lessK {size : Int} {y wd : Str} (K : TurnK wd size y) : (size - ((y ++ Txt.slice wd (some 1) none).length : Int)).toNat < (size - (y.length : Int)).toNat := by
  obtain ⟨k, h1, h2⟩ := K
  rw [slen_append, okW_slen h1]; omega
theorem sub4W {w : World} {A : Around} {e1 e2 : Expr} {g : Heap} {L lo a b c d : Addr} {V0 V1 V2 V3 : List Value} {R : CbLed} {i : Int} {tk : Tok} {Q E : Value → Shared → Prop} {s : Shared}
    (N : News g L s.heap ((lo, W.listOf #[.ref a, .ref b, .ref c, .ref d] 0) :: (d, W.listOf V3.toArray 0) :: (c, W.listOf V2.toArray 0) :: (b, W.listOf V1.toArray 0) :: (a, W.listOf V0.toArray 0) :: R))
    (s0 : OkL V0 0) (s1 : OkL V1 1) (s2 : OkL V2 2) (s3 : OkL V3 3) (hi : 0 ≤ i ∧ i < 4)
    (hQ : ∀ (k : Nat) (lw : Addr) (V : List Value) (ws : List Str), (k : Int) = i → k ≤ 3 → StrsAre V ws → (ws.all fun s => okWb s k) = true → V.length = ws.length → 0 < ws.length → ws.length ≤ 8 → News g L s.heap ((lw, W.listOf V.toArray 0) :: R) → Q (.ref lw) s)
    (hs : ∀ i, subscripted e2 false (.ref lo) (.int i tk) = operate [.ref lo, .int i tk] (getItem (.ref lo) (.int i tk))) :
    wpAny (model prog w) A (subscriptTail e1 e2 (.ref lo) (.int i tk)) Q E s := by
  have hl : s.heap.IsList lo [Value.ref a, .ref b, .ref c, .ref d].toArray := N.isList (.head _)
  have use : ∀ (k : Nat) (l : Addr) (V : List Value), k < 4 → (k : Int) = i → [Value.ref a, .ref b, .ref c, .ref d][k]? = some (.ref l) → OkL V k → (l, W.listOf V.toArray 0) ∈ ((lo, W.listOf #[.ref a, .ref b, .ref c, .ref d] 0) :: (d, W.listOf V3.toArray 0) :: (c, W.listOf V2.toArray 0) :: (b, W.listOf V1.toArray 0) :: (a, W.listOf V0.toArray 0) :: R : CbLed) → wpAny (model prog w) A (subscriptTail e1 e2 (.ref lo) (.int i tk)) Q E s := by
    intro k l V hk e hx ⟨ws, h1, h2, h3, h4⟩ hm
    subst e
    refine item_litK hl (Int.natCast_nonneg k) (by omega) (by rw [Int.toNat_natCast]; exact hx) (hQ k l V ws rfl (by omega) h1 h2 h1.length h3 h4 fun p hp => ?_) (hs _)
    rcases List.mem_cons.mp hp with h | h
    · rw [h]; exact N _ hm
    · exact N p (.tail _ (.tail _ (.tail _ (.tail _ (.tail _ h)))))
  have : i = 0 ∨ i = 1 ∨ i = 2 ∨ i = 3 := by omega
  rcases this with h | h | h | h
  · exact use 0 a V0 (by decide) h.symm rfl s0 (.tail _ (.tail _ (.tail _ (.tail _ (.head _)))))
  · exact use 1 b V1 (by decide) h.symm rfl s1 (.tail _ (.tail _ (.tail _ (.head _))))
  · exact use 2 c V2 (by decide) h.symm rfl s2 (.tail _ (.tail _ (.head _)))
  · exact use 3 d V3 (by decide) h.symm rfl s3 (.tail _ (.head _))
theorem itemW {w : World} {A : Around} {e1 e2 : Expr} {l : Addr} {V : List Value} {ws : List Str} {k : Nat} {i : Int} {tk : Tok} {Q E : Value → Shared → Prop} {s : Shared} (hl : s.heap.IsList l V.toArray) (hS : StrsAre V ws) (hok : (ws.all fun s => okWb s k) = true) (hlen : V.length = ws.length) (hi : 0 ≤ i ∧ i < (ws.length : Int)) (h8 : ws.length ≤ 8)
    (hQ : ∀ (wd : Str) (t : Tok), okWb wd k = true → wd.length = k + 2 → (Txt.slice wd (some 1) none).length = k + 1 → Q (.str wd t) s)
    (hs : subscripted e2 false (.ref l) (.int i tk) = operate [.ref l, .int i tk] (getItem (.ref l) (.int i tk))) :
    wpAny (model prog w) A (subscriptTail e1 e2 (.ref l) (.int i tk)) Q E s := by
  obtain ⟨j, hj⟩ : ∃ j : Nat, i = j := ⟨i.toNat, (Int.toNat_of_nonneg hi.1).symm⟩
  subst hj
  have hj : j < V.length := by omega
  obtain ⟨t, e⟩ : ∃ t, V[j] = .str (ws.getD j Str.empty) t := by
    clear hQ hl hs hi hok
    induction hS generalizing j with
    | nil => cases hj
    | cons y t r ih =>
      cases j with
      | zero => exact ⟨t, rfl⟩
      | succ j =>
        obtain ⟨t', e⟩ := ih r.length (by simp only [List.length_cons] at h8; omega) j (by simp only [List.length_cons] at hj; omega)
        exact ⟨t', by simpa using e⟩
  have hw := getD_ok hok (i := j) (hlen ▸ hj)
  exact item_litK hl (Int.natCast_nonneg j) (by omega) (by rw [Int.toNat_natCast, List.getElem?_eq_getElem hj, e]) (hQ _ t hw (okW_len hw) (okW_slen hw)) hs


theorem c_typed (w : World) (mean : ExcName → Option Value) (mg mb : Str → Option Value) (news : CbLed) (size v : Int) (k1 k2 : Tok) :
   ConTy w mean mg mb news 3 20 size v k1 k2 := by
  k_with_none
  k_with "OM" => lia
  k_with "eval BinOp" => (k_here; (first | (with_reducible show wpAny _ _ (eval (PySem.Expr.BinOp (PySem.Expr.Name _ _) _ _ _) _) _ _ _) | (with_reducible show wpAny _ _ (eval (PySem.Expr.BinOp (PySem.Expr.Constant _ _ _) _ _ _) _) _ _ _) | (with_reducible show wpAny _ _ (eval (PySem.Expr.BinOp (PySem.Expr.BinOp (PySem.Expr.Name _ _) _ _ _) _ _ _) _) _ _ _)); (first | (with_reducible show wpAny _ _ (eval (PySem.Expr.BinOp _ _ (PySem.Expr.Name _ _) _) _) _ _ _) | (with_reducible show wpAny _ _ (eval (PySem.Expr.BinOp _ _ (PySem.Expr.Constant _ _ _) _) _) _ _ _)); k_dflt (first | (refine' valS ?svF ?svk ?svS ?_; (case svF => k_asm); (case svk => rfl); (case svS => walk_at "SV"); k_whole) | (refine' binS ?svF ?svk ?svS ?svU ?_; (case svF => k_asm); (case svk => rfl); (case svS => walk_at "SV"); (case svU => walk_at "SV"); k_whole)))
  k_with "spliced" => (k_here; (first | (with_reducible show wpAny _ _ (spliced (backTo _ (starEach ((PySem.Expr.Name _ _) :: _) _))) _ _ _) | (with_reducible show wpAny _ _ (spliced (backTo _ (starEach ((PySem.Expr.Constant _ _ _) :: _) _))) _ _ _) | (with_reducible show wpAny _ _ (spliced (backTo _ (starEach ((PySem.Expr.BinOp (PySem.Expr.Name _ _) _ _ _) :: _) _))) _ _ _)); k_dflt (refine' itemsS ?svF ?svk ?svS ?_; (case svF => k_asm); (case svk => rfl); (case svS => walk_at "SV"); k_whole))
  k_with "eval Subscript" => (k_here; (first | (with_reducible show wpAny _ _ (eval (PySem.Expr.Subscript (PySem.Expr.Name _ _) (PySem.Expr.Name _ _) _) _) _ _ _) | (with_reducible show wpAny _ _ (eval (PySem.Expr.Subscript (PySem.Expr.Name _ _) (PySem.Expr.Constant _ _ _) _) _) _ _ _) | (with_reducible show wpAny _ _ (eval (PySem.Expr.Subscript (PySem.Expr.Name _ _) (PySem.Expr.BinOp (PySem.Expr.Name _ _) _ _ _) _) _) _ _ _)); k_dflt (refine' subS ?svF ?svk ?svS ?svU ?_; (case svF => k_asm); (case svk => rfl); (case svS => walk_at "SV"); (case svU => walk_at "SV"); k_whole))
  k_with "execs cons" => (k_here; (with_reducible refine wpAny_execs_cons ?_); k_fold)
  k_with "execs cons" => (k_here; (with_reducible show wpAny _ _ _ _ _ (Shared.mk _ _ _ (_ + 1 + 1) _)); refine gentok ?_; intro _; (with_reducible refine wpAny_execs_cons ?_); (try dsimp only); (try k_fold))
  k_with "execs nil" => (k_here; (with_reducible show wpAny _ _ _ _ _ (Shared.mk _ _ _ (_ + 1 + 1) _)); refine gentok ?_; intro _; (with_reducible refine wpAny_execs_nil ?_); try dsimp only)
  k_with "call ref" => (k_here; (with_reducible show wpAny _ _ (call (Value.ref 221) _) _ _ _); (refine' useP (m_hid _ _ _ _ _ _ _) ?k1 ?k2 ?k3 ?k4 ?k5 ?kK ?kp ?kd ?ku ?_); (case k1 => k_asm); (case k2 => k_asm); (case k3 => k_asm); (case k4 => k_asm); (case k5 => k_asm); (case kK => first | exact rfl | assumption); (case kp => trivial); (case kd => ktr_room); (case ku => ktr_units); (intro hP9 _ _ _ _ _); (try dsimp only at hP9); (try dsimp only); (try k_fold))
  k_with "call ref" => (k_here; (with_reducible show wpAny _ _ (call (Value.ref 228) _) _ _ _); (refine' useP (m_one _ _ _ _ _ _ _) ?k1 ?k2 ?k3 ?k4 ?k5 ?kK ?kp ?kd ?ku ?_); (case k1 => k_asm); (case k2 => k_asm); (case k3 => k_asm); (case k4 => k_asm); (case k5 => k_asm); (case kK => first | exact rfl | assumption); (case kp => trivial); (case kd => ktr_room); (case ku => ktr_units); (intro hP9 _ _ _ _ _); (try dsimp only at hP9); (try dsimp only); (try k_fold))
  k_with "subscriptTail Name Name ref int" => (k_here; (with_reducible show wpAny _ _ (subscriptTail _ _ (Value.ref _) (Value.int (Int.fmod _ (ite _ _ _)) _)) _ _ _); k_dflt (refine' sub4W ?kN ?s0 ?s1 ?s2 ?s3 (small4 (Int.sub_pos_of_lt (by assumption))).1 ?_ ?s4; (case s4 => intro _; with_unfolding_all rfl); (case kN => k_asm); (case s0 => exact okl0 _ _); (case s1 => exact ⟨_, by repeat constructor, ok_w1, by decide, by decide⟩); (case s2 => exact ⟨_, by repeat constructor, ok_w2, by decide, by decide⟩); (case s3 => exact ⟨_, by repeat constructor, ok_w3, by decide, by decide⟩)); (intro _ _ _ _ hk9 _ _ _ _ _ _ _); (have hn4 := s4lt (Int.sub_pos_of_lt (by assumption)) hk9.symm); (have hb4 := TurnB.mk hn4); (have hv4 := s4nn (Int.sub_pos_of_lt (by assumption)) hk9.symm _ (by assumption)))
  k_with "subscriptTail Name BinOp ref int" => (k_here; (with_reducible show wpAny _ _ (subscriptTail _ _ (Value.ref _) (Value.int _ _)) _ _ _); k_dflt (refine' itemW ?k1 ?k2 ?k3 ?k4 ?k5 ?k6 ?_ ?k7; (case k1 => is_list); (case k2 => assumption); (case k3 => assumption); (case k4 => assumption); (case k5 => exact fm _ (Int.natCast_pos.mpr (by assumption))); (case k6 => assumption); (case k7 => with_unfolding_all rfl)); (intro _ _ hw9 _ _); (have K9 := TurnK.mk hw9 ‹TurnB _ _ _›))
  k_with "subscriptTail Name Constant str int" => (k_here; k_dflt (refine' item_ok ?k1 ?k2 ?_ ?k3 ?k4; (case k1 => assumption); (case k2 => omega); (case k3 => with_unfolding_all rfl); (case k4 => intro _; with_unfolding_all rfl)); (intro _))
  suffices hfill : PySem.Challenge.rw_uc0065_01 = PySem.Challenge.rw_uc0065_01 → KL = KL → ConTy w mean mg mb news 3 20 size v k1 k2 from hfill rfl rfl
  k_fill
  intro hrow hKL; clear hrow hKL
  unfold ConTy; intros; rename_i hret
  refine wpAny_call ?_
  k_dflt cell_enter
  refine letF ‹Fr _ _ _ _› ?_
  intro me Fe
  refine letA ?_
  intro A9
  k_with "state" => first | exact ty_start (by assumption) | (with_reducible refine ty_turnK (v := v) ?_ ?_ ?_ ?_ ?_ <;> assumption)
  k_with "measure" => (with_reducible refine ty_lessK ?_; assumption)
  k_with "exec While Compare cons nil" => k_while (fun script typed meant u => prep typed.cps.toList = meant ∧ (meant.length : Int) ≤ size ∧ meant.length ≤ 5 ∧ typed.length ≤ 1 + 2 * meant.length ∧ 0 ≤ u) (fun script typed meant u => (size - meant.length).toNat) "typed" "meant" "v"
  k_with "table" => skip
  k_steps
  (have hN9 := ty_news (by assumption))
  refine hret _ _ _ _ _ _ _ ?zp ?za ?zb ?zF hN9 ?zl
  case zp => assumption
  case za => omega
  case zb => omega
  case zF => assumption
  case zl => (exact allLt_all _ (And.right (by assumption)))

end Mine
open PyProof.Rows in

end
-- GS2
section
open PySem PySem.W PySem.Spec PySem.Calls PyProof.Rows
set_option Elab.async false
set_option maxRecDepth 100000
set_option maxHeartbeats 4000000
namespace Mine
noncomputable def forBody : List Stmt → List Stmt
  | [] => []
  | .For _ _ b _ _ :: _ => b
  | _ :: r => forBody r
noncomputable abbrev escB : List Stmt := forBody fb1
/-- the generator's own names -/
noncomputable abbrev escM (i : Int) (ti : Tok) (cd : Nat) (tc : Tok) (e : Bool) (m : Str → Option Value) : Str → Option Value :=
  fun y => if y = Str.ofString "ch" then some (.str ⟨#[cd]⟩ tc) else if y = Str.ofString "pos" then some (.int i ti) else if y = Str.ofString "escape" then some (.bool e) else m y
noncomputable abbrev escE (C : Addr) : Env := envOf (z "_iter_escaped_chars") fs1 C 28 (.ref 27)
noncomputable def AfterY (w : World) (A : Around) (R : GenEnd) (Y : Protocol) (n : Nat) (c : Code) (fs : List Frame) (K : Flow → Sem Fin) (C : Addr) (M0 M1 : Str → Option Value) (s'' : Shared) : Prop :=
  ∃ g2 news2, Fr g2 C s''.heap M0 ∧ (KL w.params).In g2 ∧ News g2 C s''.heap news2 ∧ ∀ h3 tk3, Fr g2 C h3 M1 → News g2 C h3 news2 → Seg (model prog w) A R Y n s'' c (K .next) fs { s'' with heap := h3, toks := tk3 }
theorem esc_yes (w : World) {A : Around} {R : GenEnd} {Y : Protocol} {n : Nat} {s₀ : Shared} {c : Code} {fs : List Frame} {s : Shared} {K : Flow → Sem Fin} {H : Value → Sem Fin} {gd : Bool → Bool} {lv : List Value → List Value}
    {g : Heap} {C : Addr} {m : Str → Option Value} {news : List (Addr × Obj)} (i : Int) (ti : Tok) (cd : Nat) (tc : Tok) (hh : A.handled = none) (hfs : splitAtGen fs = none) (hgd : gd false = false) (hfg : fs.any Frame.guarded = false)
    (F : Fr g C s.heap (escM i ti cd tc true m)) (X : (KL w.params).In g) (N : News g C s.heap news)
    (hY : ∀ (T : Addr) (t2 : Tok) (h' : Heap) (tk' : Nat) (kap : Resume → Shared → Prop), Fr g C h' (escM i ti cd tc true m) → h'.IsTuple T #[.int i ti, .str (Str.ofString "\\" ++ ⟨#[cd]⟩) t2] → News g C h' news →
      (∀ s'', AfterY w A R Y n c fs K C (escM i ti cd tc true m) (fun y => if y = Str.ofString "escape" then some (.bool false) else escM i ti cd tc true m y) s'' → kap (.send .none) s'') → Y n s₀ (.ref T) { s with heap := h', toks := tk' } kap) :
    PySem.Challenge.rw_uc0065_01 = PySem.Challenge.rw_uc0065_01 → KL = KL →
    Seg (model prog w) A R Y (n + 1) s₀ c ((execs escB (escE C)).wrap K H gd lv) fs s := by
  k_with_none
  k_with "eval BinOp" => (k_here; (first | (with_reducible show wpAny _ _ (eval (PySem.Expr.BinOp (PySem.Expr.Name _ _) _ _ _) _) _ _ _) | (with_reducible show wpAny _ _ (eval (PySem.Expr.BinOp (PySem.Expr.Constant _ _ _) _ _ _) _) _ _ _) | (with_reducible show wpAny _ _ (eval (PySem.Expr.BinOp (PySem.Expr.BinOp (PySem.Expr.Name _ _) _ _ _) _ _ _) _) _ _ _)); (first | (with_reducible show wpAny _ _ (eval (PySem.Expr.BinOp _ _ (PySem.Expr.Name _ _) _) _) _ _ _) | (with_reducible show wpAny _ _ (eval (PySem.Expr.BinOp _ _ (PySem.Expr.Constant _ _ _) _) _) _ _ _)); k_dflt (first | (refine' valS ?svF ?svk ?svS ?_; (case svF => k_asm); (case svk => rfl); (case svS => walk_at "SV"); k_whole) | (refine' binS ?svF ?svk ?svS ?svU ?_; (case svF => k_asm); (case svk => rfl); (case svS => walk_at "SV"); (case svU => walk_at "SV"); k_whole)))
  k_with "isTrue Compare" => (k_here; (first | (with_reducible show wpAny _ _ (PySem.isTrue (PySem.Expr.Compare (PySem.Expr.Name _ _) _ _ _) _ _) _ _ _) | (with_reducible show wpAny _ _ (PySem.isTrue (PySem.Expr.Compare (PySem.Expr.Constant _ _ _) _ _ _) _ _) _ _ _) | (with_reducible show wpAny _ _ (PySem.isTrue (PySem.Expr.Compare (PySem.Expr.BinOp (PySem.Expr.Name _ _) _ _ _) _ _ _) _ _) _ _ _)); (first | (with_reducible show wpAny _ _ (PySem.isTrue (PySem.Expr.Compare _ _ [(PySem.Expr.Name _ _)] _) _ _) _ _ _) | (with_reducible show wpAny _ _ (PySem.isTrue (PySem.Expr.Compare _ _ [(PySem.Expr.Constant _ _ _)] _) _ _) _ _ _) | (with_reducible show wpAny _ _ (PySem.isTrue (PySem.Expr.Compare _ _ [(PySem.Expr.BinOp (PySem.Expr.Name _ _) _ _ _)] _) _ _) _ _ _)); k_dflt (refine' cmpS ?svF ?svk ?svS ?svU ?_ ?svh; (case svF => k_asm); (case svk => rfl); (case svS => walk_at "SV"); (case svU => walk_at "SV"); (case svh => with_unfolding_all rfl); k_whole))
  k_with "spliced" => (k_here; (first | (with_reducible show wpAny _ _ (spliced (backTo _ (starEach ((PySem.Expr.Name _ _) :: _) _))) _ _ _) | (with_reducible show wpAny _ _ (spliced (backTo _ (starEach ((PySem.Expr.Constant _ _ _) :: _) _))) _ _ _) | (with_reducible show wpAny _ _ (spliced (backTo _ (starEach ((PySem.Expr.BinOp (PySem.Expr.Name _ _) _ _ _) :: _) _))) _ _ _)); k_dflt (refine' itemsS ?svF ?svk ?svS ?_; (case svF => k_asm); (case svk => rfl); (case svS => walk_at "SV"); k_whole))
  k_with "exec Assign" => (k_here; (first | (with_reducible show wpAny _ _ (exec (PySem.Stmt.Assign [_] (PySem.Expr.Name _ _) _) _) _ _ _) | (with_reducible show wpAny _ _ (exec (PySem.Stmt.Assign [_] (PySem.Expr.Constant _ _ _) _) _) _ _ _) | (with_reducible show wpAny _ _ (exec (PySem.Stmt.Assign [_] (PySem.Expr.BinOp (PySem.Expr.Name _ _) _ _ _) _) _) _ _ _)); k_dflt (refine' asgS ?svF ?svk ?svS ?_; (case svF => k_asm); (case svk => rfl); (case svS => walk_at "SV"); k_whole))
  k_fill
  intro hrow hKL; clear hrow hKL
  dsimp only [escB, forBody]
  refine seg_execs_cons (seg_If ?_)
  k_steps
  refine seg_execs_cons (seg_Expr_Yield hfs hgd hfg ?_)
  k_steps
  rename_i kap hkap
  have N9 := ‹News g C _ ((_, _) :: _)› _ (List.mem_cons_self ..)
  refine hY _ _ _ _ _ (by assumption) ⟨_, N9.1, rfl, _, rfl⟩ (fun p hp => (‹News g C _ ((_, _) :: _)› : News g C _ _) p (List.mem_cons_of_mem _ hp)) (fun s'' hA => hkap .none s'' ?_)
  obtain ⟨g2, news2, F2, X2, N2, hK⟩ := hA
  refine seg_execs_cons (seg_stmt ?_)
  k_steps
  refine seg_execs_nil (hK _ _ (by assumption) (by assumption))
theorem esc_no (w : World) {A : Around} {R : GenEnd} {Y : Protocol} {n : Nat} {s₀ : Shared} {c : Code} {fs : List Frame} {s : Shared} {K : Flow → Sem Fin} {H : Value → Sem Fin} {gd : Bool → Bool} {lv : List Value → List Value}
    {g : Heap} {C : Addr} {m : Str → Option Value} {news : List (Addr × Obj)} (i : Int) (ti : Tok) (cd : Nat) (tc : Tok) (hh : A.handled = none) (hfs : splitAtGen fs = none) (hgd : gd false = false) (hcd : cd ≠ 92) (hfg : fs.any Frame.guarded = false)
    (F : Fr g C s.heap (escM i ti cd tc false m)) (X : (KL w.params).In g) (N : News g C s.heap news)
    (hY : ∀ (T : Addr) (t2 : Tok) (h' : Heap) (tk' : Nat) (kap : Resume → Shared → Prop), Fr g C h' (escM i ti cd tc false m) → h'.IsTuple T #[.int i ti, .str ⟨#[cd]⟩ t2] → News g C h' news →
      (∀ s'', AfterY w A R Y n c fs K C (escM i ti cd tc false m) (escM i ti cd tc false m) s'' → kap (.send .none) s'') → Y n s₀ (.ref T) { s with heap := h', toks := tk' } kap) :
    PySem.Challenge.rw_uc0065_01 = PySem.Challenge.rw_uc0065_01 → KL = KL →
    Seg (model prog w) A R Y (n + 1) s₀ c ((execs escB (escE C)).wrap K H gd lv) fs s := by
  k_fill
  intro hrow hKL; clear hrow hKL
  dsimp only [escB, forBody]
  refine seg_execs_cons (seg_If ?_)
  k_steps
  refine seg_execs_cons (seg_If ?_)
  k_steps
  rw [if_neg (show ¬ (({ cps := #[cd] } : Str) == Str.ofString "\\") = true from fun h => hcd (by
    have h2 : ({ cps := #[cd] } : Str) = Str.ofString "\\" := by simpa using h
    have h3 := congrArg (fun x : Str => x.cps[0]?) h2
    exact Option.some.inj (h3.trans (by decide : (Str.ofString "\\").cps[0]? = some 92))))]
  refine seg_execs_cons (seg_Expr_Yield hfs hgd hfg ?_)
  k_steps
  rename_i kap hkap
  have N9 := ‹News g C _ ((_, _) :: _)› _ (List.mem_cons_self ..)
  refine hY _ _ _ _ _ (by assumption) ⟨_, N9.1, rfl, _, rfl⟩ (fun p hp => (‹News g C _ ((_, _) :: _)› : News g C _ _) p (List.mem_cons_of_mem _ hp)) (fun s'' hA => hkap .none s'' ?_)
  obtain ⟨g2, news2, F2, X2, N2, hK⟩ := hA
  exact seg_execs_nil (seg_execs_nil (hK _ _ F2 N2))
theorem esc_skip (w : World) {A : Around} {R : GenEnd} {Y : Protocol} {n : Nat} {s₀ : Shared} {c : Code} {fs : List Frame} {s : Shared} {K : Flow → Sem Fin} {H : Value → Sem Fin} {gd : Bool → Bool} {lv : List Value → List Value}
    {g : Heap} {C : Addr} {m : Str → Option Value} {news : List (Addr × Obj)} (i : Int) (ti : Tok) (tc : Tok) (hh : A.handled = none) (hfs : splitAtGen fs = none) (hgd : gd false = false)  (hfg : fs.any Frame.guarded = false)
    (F : Fr g C s.heap (escM i ti 92 tc false m)) (X : (KL w.params).In g) (N : News g C s.heap news)
    (hK : ∀ h3 tk3, Fr g C h3 (fun y => if y = Str.ofString "escape" then some (.bool true) else escM i ti 92 tc false m y) → News g C h3 news → Seg (model prog w) A R Y n s₀ c (K .next) fs { s with heap := h3, toks := tk3 }) :
    PySem.Challenge.rw_uc0065_01 = PySem.Challenge.rw_uc0065_01 → KL = KL →
    Seg (model prog w) A R Y n s₀ c ((execs escB (escE C)).wrap K H gd lv) fs s := by
  k_fill
  intro hrow hKL; clear hrow hKL
  dsimp only [escB, forBody]
  refine seg_execs_cons (seg_If ?_)
  k_steps
  refine seg_execs_cons (seg_If ?_)
  k_steps
  rw [if_pos (show (({ cps := #[92] } : Str) == Str.ofString "\\") = true from by decide)]
  refine seg_execs_cons (seg_stmt ?_)
  k_steps
  refine seg_execs_nil (seg_execs_nil (hK _ _ (by assumption) (by assumption)))
end Mine

end
-- GS3
section
open PySem PySem.W PySem.Spec PySem.Calls PyProof.Rows
set_option Elab.async false
set_option maxRecDepth 100000
set_option maxHeartbeats 4000000
namespace Mine
/-- the heap below an address -/
noncomputable def cutH (h : Heap) (C : Addr) : Heap := { h with objs := h.objs.extract 0 C }
theorem cutH_size (h : Heap) (C : Addr) : (cutH h C).objs.size ≤ C := by simp [cutH]; lia
theorem ext_get (a : Array Obj) (C b : Nat) : (a.extract 0 C)[b]? = if b < C then a[b]? else none := by
  split
  · rcases Nat.lt_or_ge b a.size with h2 | h2
    · rw [Array.getElem?_eq_getElem (h := by rw [Array.size_extract]; lia), Array.getElem?_eq_getElem (h := h2)]; simp
    · rw [Array.getElem?_eq_none (by rw [Array.size_extract]; lia), Array.getElem?_eq_none h2]
  · exact Array.getElem?_eq_none (by rw [Array.size_extract]; lia)
theorem cutH_get {h : Heap} {C b : Addr} : (cutH h C).get? b = if b < C then h.get? b else none := by
  unfold Heap.get? cutH
  have e := ext_get h.objs C b
  by_cases hb : b < C
  · rw [if_pos hb] at e ⊢; simp only [e]
  · rw [if_neg hb] at e ⊢; simp only [e]
noncomputable def aboveH (h : Heap) (C : Addr) : List (Addr × Obj) := (List.range h.objs.size).filterMap fun b => if C < b then (h.get? b).map fun o => (b, o) else none
theorem mem_aboveH {h : Heap} {C b : Addr} {o : Obj} : (b, o) ∈ aboveH h C ↔ C < b ∧ h.get? b = some o := by
  unfold aboveH
  rw [List.mem_filterMap]
  constructor
  · rintro ⟨a, ha, e⟩
    split at e
    · obtain ⟨o', ho', e2⟩ := Option.map_eq_some_iff.mp e
      cases e2
      exact ⟨by assumption, ho'⟩
    · cases e
  · rintro ⟨hlt, e⟩
    exact ⟨b, List.mem_range.mpr (Heap.lt_size e), by rw [if_pos hlt, e]; rfl⟩
theorem cut_fr {h : Heap} {C : Addr} {m : Str → Option Value} (hn : h.Ns C m) : Fr (cutH h C) C h m :=
  ⟨hn, fun b o e => (by rw [cutH_get] at e; split at e; exact e; cases e), cutH_size h C⟩
theorem cut_news (h : Heap) (C : Addr) : News (cutH h C) C h (aboveH h C) := fun p hp => by
  obtain ⟨b, o⟩ := p
  obtain ⟨h1, h2⟩ := mem_aboveH.mp hp
  exact ⟨h2, Nat.ne_of_gt h1, by rw [cutH_get, if_neg (Nat.not_lt.mpr (Nat.le_of_lt h1))]⟩
theorem cut_keep {h h' : Heap} {C : Addr} {m : Str → Option Value} (F : Fr (cutH h C) C h' m) (N : News (cutH h C) C h' (aboveH h C)) : ∀ b o, b ≠ C → h.get? b = some o → h'.get? b = some o := by
  intro b o hb e
  rcases Nat.lt_or_gt_of_ne hb with hlt | hgt
  · exact F.keep b o (by rw [cutH_get, if_pos hlt]; exact e)
  · exact (N (b, o) (mem_aboveH.mpr ⟨hgt, e⟩)).1
theorem cut_in {K : Frag} {h : Heap} {C : Addr} (X : K.In h) (hK : ∀ a o, K.lookup a = some o → a < C) : K.In (cutH h C) := fun a o e => by
  rw [cutH_get, if_pos (hK a o e)]; exact X a o e
/-- what the generator gives, from place i on -/
noncomputable def escO (i : Nat) : Bool → List Nat → List (Int × Str)
  | e, [] => if e then [((i : Int) - 1, Str.ofString "\\")] else []
  | true, c :: r => ((i : Int), Str.ofString "\\" ++ ⟨#[c]⟩) :: escO (i + 1) false r
  | false, c :: r => if c = 92 then escO (i + 1) true r else ((i : Int), ⟨#[c]⟩) :: escO (i + 1) false r
noncomputable def forTgt : List Stmt → Expr
  | [] => .Tuple [] 0 default
  | .For t _ _ _ _ :: _ => t
  | _ :: r => forTgt r
noncomputable def forRest : List Stmt → List Stmt
  | [] => []
  | .For _ _ _ _ _ :: r => r
  | _ :: r => forRest r
noncomputable abbrev escT : List Stmt := forRest fb1
noncomputable abbrev escC (e C : Addr) : Code := .forLoop (forTgt fb1) (.ref e) escB [] (escE C)
/-- since then, all below lo but C is kept -/
noncomputable def GenLo (C lo : Addr) (s₀ s : Shared) : Prop :=
  ∃ h' tk, s = { s₀ with heap := h', toks := tk } ∧ ∀ b o, b ≠ C → b < lo → s₀.heap.get? b = some o → h'.get? b = some o
theorem GenLo.refl (C lo : Addr) (s : Shared) : GenLo C lo s s := ⟨s.heap, s.toks, rfl, fun _ _ _ _ e => e⟩
theorem GenLo.step {C lo e it : Addr} {s₀ s : Shared} (x : GenLo C lo s₀ s) (he : lo ≤ e) (hi : lo ≤ it) {h' : Heap} {tk : Nat} (hk : ∀ b o, b ≠ C → b ∉ [e, it] → s.heap.get? b = some o → h'.get? b = some o) :
    GenLo C lo s₀ { s with heap := h', toks := tk } := by
  obtain ⟨h₁, tk₁, rfl, hk₁⟩ := x
  exact ⟨h', tk, rfl, fun b o hC hw x => hk b o hC (by simp only [List.mem_cons, List.not_mem_nil, or_false, not_or]; exact ⟨Nat.ne_of_lt (Nat.lt_of_lt_of_le hw he), Nat.ne_of_lt (Nat.lt_of_lt_of_le hw hi)⟩) (hk₁ b o hC hw x)⟩
noncomputable def escY (w : World) (C lo : Addr) (Z : List (Int × Str)) : Protocol := fun m s₀ v s kap =>
  ∃ e it : Addr, lo ≤ e ∧ lo ≤ it ∧ (∃ p, Z[Z.length - 1 - m]? = some p ∧ ∃ T ti tc, v = .ref T ∧ s.heap.IsTuple T #[.int p.1 ti, .str p.2 tc]) ∧ GenLo C lo s₀ s ∧
    ∀ s'' : Shared, (KL w.params).In s''.heap → (∀ b ∈ [C, e, it], ∀ o, s.heap.get? b = some o → s''.heap.get? b = some o) → kap (.send .none) s''
noncomputable def escR (C lo : Addr) : GenEnd := fun n s₀ r s₁ => r = .ok (.ret .none) ∧ (n = 0 ∧ GenLo C lo s₀ s₁)
/-- what holds of the generator's names ahead of a turn -/
noncomputable def EscM (i : Nat) (eb : Bool) (m : Str → Option Value) : Prop := m (Str.ofString "escape") = some (.bool eb) ∧ (0 < i → ∃ t, m (Str.ofString "pos") = some (.int ((i : Int) - 1) t))
theorem escM_eq {i : Int} {ti : Tok} {cd : Nat} {tc : Tok} {eb : Bool} {m : Str → Option Value} (h : m (Str.ofString "escape") = some (.bool eb)) :
    (fun y => if y = Str.ofString "ch" then some (Value.str ⟨#[cd]⟩ tc) else if y = Str.ofString "pos" then some (.int i ti) else m y) = escM i ti cd tc eb m := by
  funext y
  unfold escM
  by_cases h3 : y = Str.ofString "escape"
  · subst h3; simp [h]
  · simp [h3]
theorem escM_next {i : Nat} {ti : Tok} {cd : Nat} {tc : Tok} {eb : Bool} {m : Str → Option Value} : EscM (i + 1) eb (escM i ti cd tc eb m) :=
  ⟨by unfold escM; rw [if_neg (by decide), if_neg (by decide), if_pos rfl], fun _ => ⟨ti, by unfold escM; rw [if_neg (by decide), if_pos rfl]; congr 2; lia⟩⟩
theorem escM_set {i : Nat} {ti : Tok} {cd : Nat} {tc : Tok} {eb e2 : Bool} {m : Str → Option Value} : EscM (i + 1) e2 (fun y => if y = Str.ofString "escape" then some (.bool e2) else escM i ti cd tc eb m y) :=
  ⟨by simp, fun _ => ⟨ti, by show (if _ then _ else _) = _; rw [if_neg (by decide)]; unfold escM; rw [if_neg (by decide), if_pos rfl]; congr 2; lia⟩⟩
end Mine

end
-- GS4
section
open PySem PySem.W PySem.Spec PySem.Calls PyProof.Rows
set_option Elab.async false
set_option maxRecDepth 100000
set_option maxHeartbeats 4000000
namespace Mine
theorem esc_idx {Z pre : List (Int × Str)} {p : Int × Str} {r : List (Int × Str)} (h : Z = pre ++ p :: r) : Z[Z.length - 1 - r.length]? = some p := by
  subst h
  rw [show (pre ++ p :: r).length - 1 - r.length = pre.length by simp]
  simp
theorem esc_loop (w : World) {A : Around} (hh : A.handled = none) {fs : List Frame} (e it C : Addr) (hh' : (A.over (escC e C) fs).handled = none) (L : List Nat) {P : Nat → Value → Prop} {St : Nat → Heap → Prop} (lo : Addr) (hle : lo ≤ e) (hli : lo ≤ it) (hei : e ≠ it) (heC : e ≠ C) (hiC : it ≠ C)
    (hKC : ∀ a o, (KL w.params).lookup a = some o → a < C ∧ a ≠ e ∧ a ≠ it)
    (D : ∀ A' : Around, A'.handled = none → Draws prog w A' it [it] L.length P St) (hP : ∀ i x, P i x → ∃ c u, L[i]? = some c ∧ x = .str ⟨#[c]⟩ u)
    {Z : List (Int × Str)} (hfs : splitAtGen fs = none) (hfg : fs.any Frame.guarded = false)
    (hend : ∀ pre i eb s₀ s m, Z = pre ++ escO i eb [] → s.heap.Ns C m → EscM i eb m → (eb = true → 0 < i) → (KL w.params).In s.heap → GenLo C lo s₀ s →
      Seg (model prog w) A (escR C lo) (escY w C lo Z) (escO i eb []).length s₀ (.block [] (escE C)) (leafOf (.ok .next)) fs s) :
    ∀ (rest : List Nat) (i : Nat) (eb : Bool) (pre : List (Int × Str)) (s₀ s : Shared) (m : Str → Option Value) (old : Value), L.drop i = rest → i ≤ L.length → Z = pre ++ escO i eb rest → IsEnum s.heap e it i old → St i s.heap →
      s.heap.Ns C m → EscM i eb m → (eb = true → 0 < i) → (KL w.params).In s.heap → GenLo C lo s₀ s →
      Seg (model prog w) A (escR C lo) (escY w C lo Z) (escO i eb rest).length s₀ (escC e C) ((model prog w).den (escC e C)) fs s := by
  have W₀ : ∀ A' : Around, A'.handled = none → WalksU prog w A' e _ _ _ _ _ _ := fun A' hA => (WalksT.enumerateD (D A'.in1 hA) e hei (by (first | ((try rw [hei]); (repeat first | exact List.mem_cons_self .. | exact hei | exact List.mem_append_left _ hei | refine List.mem_append_right _ ?_ | refine List.mem_cons_of_mem _ ?_); done) | simp [hei])) (by first | ((repeat first | exact List.mem_cons_self .. | refine List.mem_append_right _ ?_ | refine List.mem_cons_of_mem _ ?_); done) | simp)).toU
  have hCw : C ∉ [e, it] := by simp [Ne.symm heC, Ne.symm hiC]
  intro rest
  induction rest with
  | nil =>
    intro i eb pre s₀ s m old hd hi hZ he hst hn hm hp X hsince
    have hin : i = L.length := by
      have := congrArg List.length hd
      simp at this; omega
    subst hin
    refine seg_forLoop ((W₀ _ hh').done s _ _ ⟨⟨old, he⟩, hst⟩ fun h' tk hk' => ?_)
    exact hend pre _ eb s₀ _ m hZ (hn.at' fun o x => hk' _ o hCw x) hm hp (fun a o x => hk' a o (by simp [hKC a o x]) (X a o x)) (hsince.step hle hli fun b o _ hw x => hk' b o hw x)
  | cons c rest ih =>
    intro i eb pre s₀ s m old hd hi hZ he hst hn hm hp X hsince
    have hlt : i < L.length := by
      have := congrArg List.length hd
      simp at this; omega
    have hd' : L.drop (i + 1) = rest := by
      have := congrArg List.tail hd
      simpa using this
    have hc : L[i]? = some c := by
      have := congrArg List.head? hd
      simpa using this
    refine seg_forLoop ((W₀ _ hh').item i s _ _ hlt ⟨⟨old, he⟩, hst⟩ fun T vals h₁ tk₁ hPv hT₁ hmid hk₁ => ?_)
    obtain ⟨ti, x, hPx, rfl⟩ := hPv
    obtain ⟨c', u, hc', rfl⟩ := hP _ _ hPx
    rw [hc] at hc'; cases hc'
    refine (W₀ _ hh').go _ _ _ i T _ _ _ hmid fun h₁' hst₁ hk₁' => ?_
    have hT₁' : h₁'.IsTuple T #[.int i ti, .str ⟨#[c]⟩ u] := let ⟨o, e, r⟩ := hT₁; ⟨o, hk₁' _ o ((W₀ _ hh').apart i T _ hmid) e, r⟩
    refine wpAny_assign_Tuple hh' hT₁' rfl rfl fun h₁'' hx₁ => ?_
    replace hx₁ : Heap.ExtBut h₁'.objs.size h₁' h₁'' := hx₁
    have old₁ : ∀ b o, h₁'.get? b = some o → h₁''.get? b = some o := fun b o e => hx₁ b o (Nat.ne_of_lt (Heap.lt_size e)) e
    show wpAny _ _ (do holding [_] (assign (.Name _ _) (escE C) (.int i ti)); do holding [] (assign (.Name _ _) (escE C) (.str ⟨#[c]⟩ u)); pure ()) _ _ _
    refine wpAny_bind (wpAny_holding (wpAny_assign_Name (wpAny_storeName_local rfl (hn.at' fun o e => old₁ _ o (hk₁' _ o hCw (hk₁ _ o hCw e))) (fun h₂a hn₂a hs₂a => ?_))))
    replace hs₂a : Heap.SameBut C h₁'' h₂a := hs₂a
    refine wpAny_bind (wpAny_holding (wpAny_assign_Name (wpAny_storeName_local rfl hn₂a (fun h₂ hn₂ hs₂ => wpAny_pure ?_))))
    replace hs₂ : Heap.SameBut C h₂a h₂ := hs₂
    have up₂ : ∀ b o, b ≠ C → b ∉ [e, it] → s.heap.get? b = some o → h₂.get? b = some o := fun b o hbC hbw e => hs₂.extBut b o hbC (hs₂a.extBut b o hbC (old₁ b o (hk₁' b o hbw (hk₁ b o hbw e))))
    have hst₂ := (W₀ A hh).frame _ _ _ hst₁ fun b hb o ex => hs₂.extBut b o (fun h => by subst h; simp [Ne.symm heC, Ne.symm hiC] at hb) (hs₂a.extBut b o (fun h => by subst h; simp [Ne.symm heC, Ne.symm hiC] at hb) (old₁ b o ex))
    obtain ⟨⟨old2, he₂⟩, hst₂⟩ := hst₂
    have X₂ : (KL w.params).In h₂ := fun a o x => up₂ a o (Nat.ne_of_lt (hKC a o x).1) (by simp [hKC a o x]) (X a o x)
    have hn₃ : h₂.Ns C (escM i ti c u eb m) := by rw [← escM_eq (i := (i : Int)) (ti := ti) (cd := c) (tc := u) hm.1]; exact hn₂
    have go : ∀ (h4 : Heap) (s₁ s : Shared) (eb' : Bool) (pre' : List (Int × Str)) (m' : Str → Option Value), s.heap = h4 → (∀ b ∈ [e, it], ∀ o, h₂.get? b = some o → h4.get? b = some o) → Z = pre' ++ escO (i + 1) eb' rest → h4.Ns C m' → EscM (i + 1) eb' m' → (KL w.params).In h4 → GenLo C lo s₁ s →
        Seg (model prog w) A (escR C lo) (escY w C lo Z) (escO (i + 1) eb' rest).length s₁ (escC e C) (.pure (.again (escC e C))) fs s := by
      intro h4 s₁ s eb' pre' m' hs hk hZ' hn' hm' X' hsi
      subst hs
      exact seg_again rfl (ih (i + 1) eb' pre' s₁ s m' old2 hd' hlt hZ' (by have := hk e (by first | ((repeat first | exact List.mem_cons_self .. | refine List.mem_append_right _ ?_ | refine List.mem_cons_of_mem _ ?_); done) | simp) _ he₂; simpa using this) ((D A hh).frame _ _ _ hst₂ fun b hb o x => hk b (by simp at hb; simp [hb]) o x) hn' hm' (fun _ => Nat.succ_pos i) X' hsi)
    have N₂ := cut_news h₂ C
    have F₂ := cut_fr hn₃
    have XC := cut_in X₂ fun a o x => (hKC a o x).1
    cases eb with
    | true =>
      refine esc_yes w i ti c u hh hfs rfl hfg F₂ XC N₂ (fun T2 t2 h' tk' kap hF hT2 hN hkap => ?_) rfl rfl
      have kp := cut_keep hF hN
      refine ⟨e, it, hle, hli, ⟨_, esc_idx hZ, T2, ti, t2, rfl, hT2⟩, hsince.step hle hli fun b o hbC hbw x => kp b o hbC (up₂ b o hbC hbw x), fun s'' X'' hal => hkap s'' ⟨cutH s''.heap C, aboveH s''.heap C, ?_, cut_in X'' (fun a o x => (hKC a o x).1), cut_news _ _, fun h3 tk3 F3 N3 => ?_⟩⟩
      · exact cut_fr (hF.ns.at' fun o x => hal C (by first | ((repeat first | exact List.mem_cons_self .. | refine List.mem_append_right _ ?_ | refine List.mem_cons_of_mem _ ?_); done) | simp) o x)
      · have k3 := cut_keep F3 N3
        exact go h3 _ _ false (pre ++ [((i : Int), Str.ofString "\\" ++ ⟨#[c]⟩)]) _ rfl (fun b hb o x => k3 b o (by rintro rfl; exact hCw hb) (hal b (List.mem_cons_of_mem _ hb) o (kp b o (by rintro rfl; exact hCw hb) x))) (by rw [hZ]; simp [escO]) F3.ns escM_set
          (fun a o x => k3 a o (Nat.ne_of_lt (hKC a o x).1) (X'' a o x)) ((GenLo.refl _ _ _).step hle hli fun b o hbC _ x => k3 b o hbC x)
    | false =>
      by_cases h92 : c = 92
      · subst h92
        rw [show escO i false (92 :: rest) = escO (i + 1) true rest by simp [escO]] at hZ ⊢
        refine esc_skip w i ti u hh hfs rfl hfg F₂ XC N₂ (fun h3 tk3 F3 N3 => ?_) rfl rfl
        have k3 := cut_keep F3 N3
        exact go h3 _ _ true pre _ rfl (fun b hb o x => k3 b o (by rintro rfl; exact hCw hb) x) hZ F3.ns escM_set
          (fun a o x => k3 a o (Nat.ne_of_lt (hKC a o x).1) (X₂ a o x)) (hsince.step hle hli fun b o hbC hbw x => k3 b o hbC (up₂ b o hbC hbw x))
      · rw [show escO i false (c :: rest) = ((i : Int), ⟨#[c]⟩) :: escO (i + 1) false rest by simp [escO, h92]] at hZ ⊢
        refine esc_no w i ti c u hh hfs rfl h92 hfg F₂ XC N₂ (fun T2 t2 h' tk' kap hF hT2 hN hkap => ?_) rfl rfl
        have kp := cut_keep hF hN
        refine ⟨e, it, hle, hli, ⟨_, esc_idx hZ, T2, ti, t2, rfl, hT2⟩, hsince.step hle hli fun b o hbC hbw x => kp b o hbC (up₂ b o hbC hbw x), fun s'' X'' hal => hkap s'' ⟨cutH s''.heap C, aboveH s''.heap C, ?_, cut_in X'' (fun a o x => (hKC a o x).1), cut_news _ _, fun h3 tk3 F3 N3 => ?_⟩⟩
        · exact cut_fr (hF.ns.at' fun o x => hal C (by first | ((repeat first | exact List.mem_cons_self .. | refine List.mem_append_right _ ?_ | refine List.mem_cons_of_mem _ ?_); done) | simp) o x)
        · have k3 := cut_keep F3 N3
          exact go h3 _ _ false (pre ++ [((i : Int), ⟨#[c]⟩)]) _ rfl (fun b hb o x => k3 b o (by rintro rfl; exact hCw hb) (hal b (List.mem_cons_of_mem _ hb) o (kp b o (by rintro rfl; exact hCw hb) x))) (by rw [hZ]; simp) F3.ns escM_next
            (fun a o x => k3 a o (Nat.ne_of_lt (hKC a o x).1) (X'' a o x)) ((GenLo.refl _ _ _).step hle hli fun b o hbC _ x => k3 b o hbC x)
end Mine

end
-- GS5
section
open PySem PySem.W PySem.Spec PySem.Calls PyProof.Rows
set_option Elab.async false
set_option maxRecDepth 100000
set_option maxHeartbeats 4000000
namespace Mine
noncomputable abbrev tailM (j : Int) (tj : Tok) (eb : Bool) (m : Str → Option Value) : Str → Option Value :=
  fun y => if y = Str.ofString "pos" then some (.int j tj) else if y = Str.ofString "escape" then some (.bool eb) else m y
theorem esc_tail_yes (w : World) {A : Around} {R : GenEnd} {Y : Protocol} {n : Nat} {s₀ : Shared} {c : Code} {fs : List Frame} {s : Shared} {K : Flow → Sem Fin} {H : Value → Sem Fin} {gd : Bool → Bool} {lv : List Value → List Value}
    {g : Heap} {C : Addr} {m : Str → Option Value} {news : List (Addr × Obj)} (j : Int) (tj : Tok) (hh : A.handled = none) (hfs : splitAtGen fs = none) (hgd : gd false = false) (hfg : fs.any Frame.guarded = false)
    (F : Fr g C s.heap (tailM j tj true m)) (X : (KL w.params).In g) (N : News g C s.heap news)
    (hY : ∀ (T : Addr) (t2 : Tok) (h' : Heap) (tk' : Nat) (kap : Resume → Shared → Prop), Fr g C h' (tailM j tj true m) → h'.IsTuple T #[.int j tj, .str (Str.ofString "\\") t2] → News g C h' news →
      (∀ s'', AfterY w A R Y n c fs K C (tailM j tj true m) (tailM j tj true m) s'' → kap (.send .none) s'') → Y n s₀ (.ref T) { s with heap := h', toks := tk' } kap) :
    PySem.Challenge.rw_uc0065_01 = PySem.Challenge.rw_uc0065_01 → KL = KL →
    Seg (model prog w) A R Y (n + 1) s₀ c ((execs escT (escE C)).wrap K H gd lv) fs s := by
  k_with_none
  k_with "spliced" => (k_here; (first | (with_reducible show wpAny _ _ (spliced (backTo _ (starEach ((PySem.Expr.Name _ _) :: _) _))) _ _ _) | (with_reducible show wpAny _ _ (spliced (backTo _ (starEach ((PySem.Expr.Constant _ _ _) :: _) _))) _ _ _) | (with_reducible show wpAny _ _ (spliced (backTo _ (starEach ((PySem.Expr.BinOp (PySem.Expr.Name _ _) _ _ _) :: _) _))) _ _ _)); k_dflt (refine' itemsS ?svF ?svk ?svS ?_; (case svF => k_asm); (case svk => rfl); (case svS => walk_at "SV"); k_whole))
  k_with "exec Assign" => (k_here; (first | (with_reducible show wpAny _ _ (exec (PySem.Stmt.Assign [_] (PySem.Expr.Name _ _) _) _) _ _ _) | (with_reducible show wpAny _ _ (exec (PySem.Stmt.Assign [_] (PySem.Expr.Constant _ _ _) _) _) _ _ _) | (with_reducible show wpAny _ _ (exec (PySem.Stmt.Assign [_] (PySem.Expr.BinOp (PySem.Expr.Name _ _) _ _ _) _) _) _ _ _)); k_dflt (refine' asgS ?svF ?svk ?svS ?_; (case svF => k_asm); (case svk => rfl); (case svS => walk_at "SV"); k_whole))
  k_fill
  intro hrow hKL; clear hrow hKL
  dsimp only [escT, forRest]
  refine seg_execs_cons (seg_If ?_)
  k_steps
  refine seg_execs_cons (seg_Expr_Yield hfs hgd hfg ?_)
  k_steps
  rename_i kap hkap
  have N9 := ‹News g C _ ((_, _) :: _)› _ (List.mem_cons_self ..)
  refine hY _ _ _ _ _ (by assumption) ⟨_, N9.1, rfl, _, rfl⟩ (fun p hp => (‹News g C _ ((_, _) :: _)› : News g C _ _) p (List.mem_cons_of_mem _ hp)) (fun s'' hA => hkap .none s'' ?_)
  obtain ⟨g2, news2, F2, X2, N2, hK⟩ := hA
  exact seg_execs_nil (seg_execs_nil (hK _ _ F2 N2))
theorem esc_tail_no (w : World) {A : Around} {R : GenEnd} {Y : Protocol} {n : Nat} {s₀ : Shared} {c : Code} {fs : List Frame} {s : Shared} {K : Flow → Sem Fin} {H : Value → Sem Fin} {gd : Bool → Bool} {lv : List Value → List Value}
    {g : Heap} {C : Addr} {m : Str → Option Value} {news : List (Addr × Obj)} (hh : A.handled = none)
    (F : Fr g C s.heap (fun y => if y = Str.ofString "escape" then some (.bool false) else m y)) (X : (KL w.params).In g) (N : News g C s.heap news)
    (hK : ∀ h3 tk3, Fr g C h3 (fun y => if y = Str.ofString "escape" then some (.bool false) else m y) → News g C h3 news → Seg (model prog w) A R Y n s₀ c (K .next) fs { s with heap := h3, toks := tk3 }) :
    PySem.Challenge.rw_uc0065_01 = PySem.Challenge.rw_uc0065_01 → KL = KL →
    Seg (model prog w) A R Y n s₀ c ((execs escT (escE C)).wrap K H gd lv) fs s := by
  k_fill
  intro hrow hKL; clear hrow hKL
  dsimp only [escT, forRest]
  refine seg_execs_cons (seg_If ?_)
  k_steps
  rw [if_neg (by decide)]
  exact seg_execs_nil (env := escE C) (seg_execs_nil (env := escE C) (hK _ _ F N))
theorem esc_head (w : World) {A : Around} {R : GenEnd} {Y : Protocol} {n : Nat} {s₀ : Shared} {c : Code} {fs : List Frame} {s : Shared} {K : Flow → Sem Fin} {H : Value → Sem Fin} {gd : Bool → Bool} {lv : List Value → List Value}
    {g : Heap} {C : Addr} {x : Str} {t : Tok} {news : List (Addr × Obj)} (hh : A.handled = none) {mean : ExcName → Option Value} {mg mb : Str → Option Value} (T : Top qv looseN mean mg mb g)
    (F : Fr g C s.heap (fun y => if y = Str.ofString "addr" then some (.str x t) else none)) (X : (KL w.params).In g) (N : News g C s.heap news)
    (hK : ∀ (h' h2 : Heap) (tk2 : Nat) (m : Str → Option Value) (e it : Addr) (p : Pos) (K1 : Result → Sem Fin), Fr g C h' m → News g C h' news → EscM 0 false m → IsEnum h2 e it 0 .none → h2.IsStrIter it (strIterType x) x t 0 → (∀ b o, h'.get? b = some o → h2.get? b = some o) → h'.objs.size ≤ it → it < e →
      K1 (.ok .next) = (execs escT (escE C)).wrap K H gd lv →
      Seg (model prog w) A R Y n s₀ (escC e C) ((model prog w).den (escC e C)) (.ret K1 none (gd false) (lv []) c p [] :: fs) { s with heap := h2, toks := tk2 }) :
    PySem.Challenge.rw_uc0065_01 = PySem.Challenge.rw_uc0065_01 → KL = KL →
    Seg (model prog w) A R Y n s₀ c ((execs fb1 (escE C)).wrap K H gd lv) fs s := by
  k_fill
  intro hrow hKL; clear hrow hKL
  show Seg (model prog w) A R Y n s₀ c ((execs (_ :: _ :: _ :: escT) (escE C)).wrap K H gd lv) fs s
  generalize htl : escT = tl at hK ⊢
  refine seg_execs_cons (seg_stmt ?_)
  k_steps
  refine seg_execs_cons (seg_stmt ?_)
  k_steps
  refine seg_execs_cons (seg_For (fun x => rfl) ?_)
  k_steps
  refine call_enumerate_str fun h' he hi hsz hk => ?_
  refine wpAny_pyIter_enum he fun p => ?_
  refine hK _ h' _ _ _ _ p _ (by assumption) (by assumption) ?_ he hi hk (Nat.le_refl _) (Nat.lt_succ_self _) rfl
  exact ⟨by simp, fun h => absurd h (Nat.lt_irrefl _)⟩
theorem esc_draws (w : World) (x : Str) (t : Tok) (it : Addr) : ∃ St : Nat → Heap → Prop, (∀ h : Heap, h.IsStrIter it (strIterType x) x t 0 → St 0 h) ∧
    ∀ A' : Around, A'.handled = none → Draws prog w A' it [it] x.cps.size (fun i v => ∃ c u, x.cps[i]? = some c ∧ v = .str ⟨#[c]⟩ u) St := by
  unfold strIterType
  split
  · exact ⟨_, fun h hi => hi, fun A' hA => Draws.strAscii hA it x t⟩
  · exact ⟨_, fun h hi => hi, fun A' hA => Draws.strWide hA it x t⟩
end Mine

end
-- GS6
section
open PySem PySem.W PySem.Spec PySem.Calls PyProof.Rows
set_option Elab.async false
set_option maxRecDepth 100000
set_option maxHeartbeats 400000
namespace Mine
theorem esc_end (w : World) {A : Around} (hh : A.handled = none) {c : Code} {C lo e it : Addr} (hle : lo ≤ e) (hli : lo ≤ it) {Z pre : List (Int × Str)} {i : Nat} {eb : Bool} {s₀ s : Shared} {m : Str → Option Value} {H : Value → Sem Fin} {gd : Bool → Bool} {lv : List Value → List Value} (hgd : gd false = false)
    (hKC : ∀ a o, (KL w.params).lookup a = some o → a < C)
    (hZ : Z = pre ++ escO i eb []) (hn : s.heap.Ns C m) (hm : EscM i eb m) (hp : eb = true → 0 < i) (X : (KL w.params).In s.heap) (hs : GenLo C lo s₀ s) :
    Seg (model prog w) A (escR C lo) (escY w C lo Z) (escO i eb []).length s₀ c ((execs escT (escE C)).wrap (fun f => .pure (.done (.ret (match f with | .ret v => v | _ => .none)))) H gd lv) [] s := by
  have XC := cut_in X hKC
  cases eb with
  | false =>
    have e1 : m = fun y => if y = Str.ofString "escape" then some (.bool false) else m y := by
      funext y; by_cases h : y = Str.ofString "escape"
      · subst h; simp [hm.1]
      · (first | ((try rw [h]); (repeat first | exact List.mem_cons_self .. | exact h | exact List.mem_append_left _ h | refine List.mem_append_right _ ?_ | refine List.mem_cons_of_mem _ ?_); done) | simp [h])
    rw [e1] at hn
    refine esc_tail_no w hh (cut_fr hn) XC (cut_news _ _) (fun h3 tk3 F3 N3 => ?_) rfl rfl
    refine seg_end (.ok (.ret .none)) ⟨rfl, rfl, hs.step hle hli fun b o hb _ x => cut_keep F3 N3 b o hb x⟩
  | true =>
    obtain ⟨tj, htj⟩ := hm.2 (hp rfl)
    have e1 : m = tailM ((i : Int) - 1) tj true m := by
      funext y; unfold tailM
      by_cases h : y = Str.ofString "pos"
      · subst h; (first | ((try rw [htj]); (repeat first | exact List.mem_cons_self .. | exact htj | exact List.mem_append_left _ htj | refine List.mem_append_right _ ?_ | refine List.mem_cons_of_mem _ ?_); done) | simp [htj])
      · by_cases h2 : y = Str.ofString "escape"
        · subst h2; simp [h, hm.1]
        · simp [h, h2]
    rw [e1] at hn
    refine esc_tail_yes w (n := 0) ((i : Int) - 1) tj hh rfl hgd rfl (cut_fr hn) XC (cut_news _ _) (fun T t2 h' tk' kap hF hT hN hkap => ?_) rfl rfl
    have kp := cut_keep hF hN
    refine ⟨e, it, hle, hli, ⟨((i : Int) - 1, Str.ofString "\\"), esc_idx (r := []) (by rw [hZ]; rfl), T, tj, t2, rfl, hT⟩, hs.step hle hli fun b o hbC _ x => kp b o hbC x, fun s'' X'' hal => hkap s'' ⟨cutH s''.heap C, aboveH s''.heap C, ?_, cut_in X'' hKC, cut_news _ _, fun h3 tk3 F3 N3 => ?_⟩⟩
    · exact cut_fr (hF.ns.at' fun o x => hal C (by first | ((repeat first | exact List.mem_cons_self .. | refine List.mem_append_right _ ?_ | refine List.mem_cons_of_mem _ ?_); done) | simp) o x)
    · exact seg_end (.ok (.ret .none)) ⟨rfl, rfl, (GenLo.refl _ _ _).step hle hli fun b o hb _ x => cut_keep F3 N3 b o hb x⟩
/-- the whole generator, from its first turn on -/
theorem esc_go (w : World) {A : Around} (hh : A.handled = none) {C G : Addr} {x : Str} {t : Tok} {h₀ : Heap} {oG : Obj} {s : Shared} {mean : ExcName → Option Value} {mg mb : Str → Option Value}
    (T : Top qv looseN mean mg mb h₀) (X₀ : (KL w.params).In h₀) (hC : h₀.objs.size ≤ C) (hCG : C < G) (hk : ∀ b o, h₀.get? b = some o → s.heap.get? b = some o) (hG : s.heap.get? G = some oG)
    (hn : s.heap.Ns C (fun y => if y = Str.ofString "addr" then some (.str x t) else none)) :
    Seg (model prog w) A (escR C (G + 1)) (escY w C (G + 1) (escO 0 false x.cps.toList)) (escO 0 false x.cps.toList).length s (.func fb1 (escE C)) ((model prog w).den (.func fb1 (escE C))) [] s := by
  have hKC : ∀ a o, (KL w.params).lookup a = some o → a < C := fun a o hl => Nat.lt_of_lt_of_le (Heap.lt_size (X₀ a o hl)) hC
  have kc : ∀ b o, h₀.get? b = some o → (cutH s.heap C).get? b = some o := fun b o hb => by
    rw [cutH_get, if_pos (Nat.lt_of_lt_of_le (Heap.lt_size hb) hC)]; exact hk b o hb
  refine seg_func ?_
  refine esc_head w hh (T.keeps kc) (cut_fr hn) (fun a o hl => kc a o (X₀ a o hl)) (cut_news _ _) (fun h' h2 tk2 m e it p K1 F' N' hm he hi hk2 hsz hlt hK1 => ?_) rfl rfl
  have k1 := cut_keep F' N'
  have hlo : G + 1 ≤ it := Nat.le_trans (Nat.succ_le_of_lt (Heap.lt_size (k1 G oG (Nat.ne_of_gt hCG) hG))) hsz
  have hCi : C < it := Nat.lt_trans hCG hlo
  have hCe : C < e := Nat.lt_trans hCi hlt
  have hle : G + 1 ≤ e := Nat.le_trans hlo (Nat.le_of_lt hlt)
  obtain ⟨St, hSt, D⟩ := esc_draws w x t it
  refine esc_loop w hh e it C (by exact hh) x.cps.toList (St := St) (P := fun i v => ∃ c u, x.cps[i]? = some c ∧ v = .str ⟨#[c]⟩ u) (G + 1) hle hlo (Nat.ne_of_gt hlt) (Nat.ne_of_gt hCe) (Nat.ne_of_gt hCi) (fun a o hl => ⟨hKC a o hl, Nat.ne_of_lt (Nat.lt_trans (hKC a o hl) hCe), Nat.ne_of_lt (Nat.lt_trans (hKC a o hl) hCi)⟩) (by simpa using D)
    (fun i v ⟨c, u, h1, h2⟩ => ⟨c, u, by simpa using h1, h2⟩) rfl rfl ?_ x.cps.toList 0 false [] s _ m .none rfl (Nat.zero_le _) rfl he (hSt _ hi) (F'.ns.at' fun o x => hk2 _ o x) hm (fun h => nomatch h) (fun a o hl => hk2 a o (k1 a o (Nat.ne_of_lt (hKC a o hl)) (hk a o (X₀ a o hl)))) ?_
  · intro pre i eb s₀ s m hZ hn hm hp X hs
    refine seg_leaf (.ok .next) ?_
    rw [hK1]
    exact esc_end w hh (e := e) (it := it) hle hlo rfl hKC hZ hn hm hp X hs
  · exact ⟨_, _, rfl, fun b o hb _ x => hk2 b o (k1 b o hb x)⟩
end Mine

end
-- GS7
section
open PySem PySem.W PySem.Spec PySem.Calls PyProof.Rows
set_option Elab.async false
set_option maxRecDepth 100000
set_option maxHeartbeats 400000
namespace Mine
noncomputable def AllBare (a : Array GenState) : Prop := ∀ x ∈ a, x.bare = true
theorem AllBare.set {a : Array GenState} {i : Nat} {x : GenState} (h : AllBare a) (hx : x.bare = true) : AllBare (a.setIfInBounds i x) := fun y hy => by
  rcases Array.mem_or_eq_of_mem_setIfInBounds hy with h1 | h1
  · exact h y h1
  · rw [h1]; exact hx
theorem AllBare.push {a : Array GenState} {x : GenState} (h : AllBare a) (hx : x.bare = true) : AllBare (a.push x) := fun y hy => by
  rcases Array.mem_push.mp hy with h1 | h1
  · exact h y h1
  · rw [h1]; exact hx
/-- next(): one turn of a generator that a def made; how it stands afterwards is bare -/
theorem fun_pyNext (w : World) {A : Around} {s : Shared} {E : Value → Shared → Prop} {a : Addr} {g n : Nat} {gs : GenState} {C lo : Addr} {Y : Protocol} {Q : Option Value → Shared → Prop} (hh : A.handled = none)
    (hl : s.heap.NoLimit) (hroom : A.depth < recursionLimit) (hg : s.heap.IsGen a g) (hgs : s.gens[g]? = some gs)
    (hgo : gs.Goes (model prog w) A.in1 (escR C lo) Y n (.send .none) (s.setGen g .running))
    (hY : ∀ v s₁ gs', gs'.bare = true → Y (n - 1) (s.setGen g .running) v s₁ (fun r' s'' => match n with
        | 0 => False
        | m + 1 => gs'.Goes (model prog w) A.in1 (escR C lo) Y m r' s'') → Q (some v) (s₁.setGen g gs'))
    (hP : ∀ s₁, n = 0 → GenLo C lo (s.setGen g .running) s₁ → ∀ h', (∀ b o, s₁.heap.get? b = some o → h'.get? b = some o) → Q none { s₁.setGen g .finished with heap := h' }) :
    wpAny (model prog w) A (pyNext (.ref a)) Q E s := by
  have run : ∀ k : GenResult → Sem PySem.Fin, (∀ v, k (.yielded v) = ret v) → (∃ jp : PUnit → Sem PySem.Fin, k (.returned .none) = (newExc (.type "StopIteration") [] >>= fun e => raiseNew e >>= jp)) →
      wpAny (model prog w) A.in1 (.resume g (.send .none) [] k) (fun f s' => ∃ v, f = .done (.ret v) ∧ Q (some v) s') (fun e s' => s'.TypeIs e "StopIteration" ∧ Q none s') s := by
    intro k hk1 ⟨jp, hk2⟩
    refine wpAny_resumeQ hgs hgo (fun x s₁ hx => ?_) (fun v s₁ gs' hb hv => ?_)
    · obtain ⟨rfl, hn, hp⟩ := hx
      show wpAny _ A.in1 (k (.returned .none)) _ _ _
      rw [hk2]
      refine wpAny_bind ?_
      simp only [newExc, newTuple]
      refine wpAny_bind (wpAny_newObj_type ?_ (by size_fits))
      refine wpAny_bind (m := firstArgMember _ _) (wpAny_of_eq (a := Value.none) (by first | rfl | (simp only [firstArgMember]; rfl)) ?_)
      refine wpAny_newObj_type ?_ (by size_fits)
      simp only [raiseNew]
      refine wpAny_bind (wpAny_bind (wpAny_handled ?_))
      first | rw [show A.in1.handled = none from hh] | rw [hh]
      refine wpAny_throw ?_
      exact And.intro ⟨_, Heap.get?_push_size _ rfl, rfl⟩ (hP s₁ hn hp _ fun b o hb => Heap.get?_push_of_some _ (Heap.get?_push_of_some _ hb))
    · rw [hk1]
      exact wpAny_pure ⟨v, rfl, hY v s₁ gs' hb hv⟩
  unfold pyNext
  refine wpAny_bind (wpAny_attempt (wpAny_callSpecial?_slot (name := Str.ofString "__next__") hg.typeIs slot_gen_next
    (wpAny_call_entry slot_gen_next hg.typeIs entry_gen_next ?_ (args_gen_next _))))
  show wpAny _ A.in1 (Builtin.Generator.genWake (.ref a) (.send .none)) _ _ s
  refine wpAny_mono (Q := fun f s' => ∃ v, f = .done (.ret v) ∧ Q (some v) s') (E := fun e s' => s'.TypeIs e "StopIteration" ∧ Q none s') ?_ (fun f s' ⟨v, hf, hv⟩ => ⟨v, hf, wpAny_pure hv⟩) fun e s' he => ?_
  · unfold Builtin.Generator.genWake
    refine wpAny_bind (wpAny_holding (wpAny_genNumber hg (wpAny_bind (wpAny_genState hgs ?_))))
    cases gs with
    | running => exact hgo.elim
    | finished => exact hgo.elim
    | _ => exact wpAny_bind (wpAny_roomToWake hl hroom (run _ (fun v => rfl) ⟨_, rfl⟩))
  · exact wpAny_bind (wpAny_isInstance (T := "StopIteration") (b := true) he.1 isSubtype_stop (wpAny_pure he.2))
end Mine

end
-- GS8
section
open PySem PySem.W PySem.Spec PySem.Calls PyProof.Rows
set_option Elab.async false
set_option maxRecDepth 100000
set_option maxHeartbeats 400000
namespace Mine
/-- how the generator stands: j turns are taken -/
noncomputable def EscGo (w : World) (A : Around) (h₀ : Heap) (C lo : Addr) (gn : Nat) (Z : List (Int × Str)) (j : Nat) (wr : List Addr) (h : Heap) (gens : Array GenState) : Prop :=
  ∃ gs, gens[gn]? = some gs ∧ ∀ s'' : Shared, (∀ b o, h₀.get? b = some o → s''.heap.get? b = some o) → (∀ b ∈ wr, ∀ o, h.get? b = some o → s''.heap.get? b = some o) →
    gs.Goes (model prog w) A.in1 (escR C lo) (escY w C lo Z) (Z.length - j) (.send .none) s''
theorem EscGo.keep {w : World} {A : Around} {h₀ : Heap} {C lo : Addr} {gn : Nat} {Z : List (Int × Str)} {j : Nat} {wr : List Addr} {h h' : Heap} {gens : Array GenState} (x : EscGo w A h₀ C lo gn Z j wr h gens)
    (hk : ∀ b ∈ wr, ∀ o, h.get? b = some o → h'.get? b = some o) : EscGo w A h₀ C lo gn Z j wr h' gens :=
  let ⟨gs, h1, h2⟩ := x; ⟨gs, h1, fun s'' a b => h2 s'' a fun b' hb o e => b b' hb o (hk b' hb o e)⟩
theorem esc_next (w : World) {A : Around} {s : Shared} {E : Value → Shared → Prop} {G : Addr} {gn : Nat} {h₀ : Heap} {C lo : Addr} {Z : List (Int × Str)} {j : Nat} {wr : List Addr} {Q : Option Value → Shared → Prop} (hh : A.handled = none)
    (hl : h₀.NoLimit) (hroom : A.depth < recursionLimit) (X₀ : (KL w.params).In h₀) (hC : h₀.objs.size ≤ C) (hlo : C < lo) (hk : ∀ b o, h₀.get? b = some o → s.heap.get? b = some o) (hG : s.heap.IsGen G gn) (hgo : EscGo w A h₀ C lo gn Z j wr s.heap s.gens) (hj : j ≤ Z.length)
    (hitem : ∀ (p : Int × Str) (T : Addr) (ti tc : Tok) (h' : Heap) (tk' : Nat) (g' : Array GenState) (e it : Addr), Z[j]? = some p → h'.IsTuple T #[.int p.1 ti, .str p.2 tc] → (∀ b o, b ≠ C → b < lo → s.heap.get? b = some o → h'.get? b = some o) → lo ≤ e → lo ≤ it →
      (AllBare s.gens → AllBare g') → EscGo w A h₀ C lo gn Z (j + 1) [C, e, it] h' g' → Q (some (.ref T)) { s with heap := h', toks := tk', gens := g' })
    (hend : j = Z.length → ∀ (h' : Heap) (tk' : Nat) (g' : Array GenState), (∀ b o, b ≠ C → b < lo → s.heap.get? b = some o → h'.get? b = some o) → (AllBare s.gens → AllBare g') → Q none { s with heap := h', toks := tk', gens := g' }) :
    wpAny (model prog w) A (pyNext (.ref G)) Q E s := by
  obtain ⟨gs, hgs, hgo⟩ := hgo
  have hlt : gn < s.gens.size := (Array.getElem?_eq_some_iff.mp hgs).1
  refine fun_pyNext w (C := C) (lo := lo) (n := Z.length - j) (Y := escY w C lo Z) hh (hl.keeps hk) hroom hG hgs (hgo _ hk fun b _ o e => e) (fun v s₁ gs' hb hY => ?_) (fun s₁ hn hs h' hk' => ?_)
  · obtain ⟨e, it, hle, hli, ⟨p, hp, T, ti, tc, rfl, hT⟩, ⟨h1, tk1, rfl, hk1⟩, hkap⟩ := hY
    have hjlt : j < Z.length := by
      rcases Nat.lt_or_ge j Z.length with h | h
      · exact h
      · exfalso
        rw [Nat.sub_eq_zero_of_le h] at hkap
        exact hkap { s with heap := h1 } (fun a o hl => by
          have hb := hk1 a o (Nat.ne_of_lt (Nat.lt_of_lt_of_le (Heap.lt_size (X₀ a o hl)) hC)) (Nat.lt_trans (Nat.lt_of_lt_of_le (Heap.lt_size (X₀ a o hl)) hC) hlo) (hk a o (X₀ a o hl))
          exact hb) (fun b _ o x => x)
    have hidx : Z.length - 1 - (Z.length - j - 1) = j := by rw [Nat.sub_right_comm Z.length j 1]; exact Nat.sub_sub_self (Nat.le_sub_one_of_lt hjlt)
    rw [hidx] at hp
    refine hitem p T ti tc h1 tk1 _ e it hp hT hk1 hle hli (fun ha => (ha.set (x := .running) rfl).set hb) ⟨gs', ?_, fun s'' hk0 hal => ?_⟩
    · show ((s.gens.setIfInBounds gn .running).setIfInBounds gn gs')[gn]? = some gs'
      simp [hlt]
    · obtain ⟨m, hm⟩ : ∃ m, Z.length - j = m + 1 := ⟨Z.length - j - 1, (Nat.sub_add_cancel (Nat.sub_pos_of_lt hjlt)).symm⟩
      rw [hm] at hkap
      have := hkap s'' (fun a o hl => hk0 a o (X₀ a o hl)) hal
      rw [Nat.sub_add_eq, hm, Nat.add_sub_cancel]
      exact this
  · obtain ⟨h1, tk1, rfl, hk1⟩ := hs
    exact hend (by omega) h' tk1 _ (fun b o hbC hb x => hk' b o (hk1 b o hbC hb x)) (fun ha => (ha.set (x := .running) rfl).set rfl)
noncomputable def ledOf (h : Heap) (bs : List Addr) : List (Addr × Obj) := bs.filterMap fun b => (h.get? b).map fun o => (b, o)
theorem mem_ledOf {h : Heap} {bs : List Addr} {b : Addr} {o : Obj} : (b, o) ∈ ledOf h bs ↔ b ∈ bs ∧ h.get? b = some o := by
  unfold ledOf
  rw [List.mem_filterMap]
  constructor
  · rintro ⟨a, ha, e⟩
    obtain ⟨o', ho', e2⟩ := Option.map_eq_some_iff.mp e
    cases e2
    exact ⟨ha, ho'⟩
  · rintro ⟨hb, e⟩
    exact ⟨b, hb, by rw [e]; rfl⟩
end Mine

end
-- GS9
section
open PySem PySem.W PySem.Spec PySem.Calls PyProof.Rows
set_option Elab.async false
set_option maxRecDepth 100000
set_option maxHeartbeats 400000
namespace Mine
noncomputable abbrev pcM (p : Int × Str) (ti tc : Tok) (m : Str → Option Value) : Str → Option Value :=
  fun y => if y = Str.ofString "ch" then some (.str p.2 tc) else if y = Str.ofString "pos" then some (.int p.1 ti) else m y
noncomputable def GenI (w : World) (A : Around) (h₀ : Heap) (L C G : Addr) (gn : Nat) (Z : List (Int × Str)) (J : Nat → (Str → Option Value) → List (Addr × Obj) → Prop) (s : Shared) (k : Nat) (s' : Shared) : Prop :=
  ∀ Go : Nat → Shared → Prop, (∀ (h : Heap) (tk : Nat) (g : Array GenState) (m : Str → Option Value) (news : List (Addr × Obj)) (j : Nat) (wr : List Addr), Fr h₀ L h m → News h₀ L h news → J j m news → j ≤ Z.length →
    h.IsGen G gn → (AllBare s.gens → AllBare g) → EscGo w A h₀ C (G + 1) gn Z j wr h g → (∀ b ∈ wr, C ≤ b) → Go (Z.length + 1 - j) { s with heap := h, toks := tk, gens := g }) → Go k s'
noncomputable def GenEnd (h₀ : Heap) (L : Addr) (gl : List (Addr × Obj)) (J : (Str → Option Value) → List (Addr × Obj) → Prop) (s₁ s₃ : Shared) : Prop :=
  ∀ Go : Shared → Prop, (∀ (h3 : Heap) (tk3 : Nat) (m3 : Str → Option Value) (news3 : List (Addr × Obj)), Fr h₀ L h3 m3 → News h₀ L h3 (news3 ++ gl) → J m3 news3 → Go { s₁ with heap := h3, toks := tk3 }) → Go s₃
noncomputable def GenPost (h₀ : Heap) (L : Addr) (gl : List (Addr × Obj)) (J : (Str → Option Value) → List (Addr × Obj) → Prop) (s₁ : Shared) (Q : Flow → Shared → Prop) (f : Flow) (s₃ : Shared) : Prop :=
  match f with
  | .ret v => Q (.ret v) s₃
  | .brk => Q .next s₃
  | _ => GenEnd h₀ L gl J s₁ s₃
theorem gen_loop (w : World) {A : Around} {env : Env} {h₀ : Heap} {s : Shared} {body : List Stmt} {Q : Flow → Shared → Prop} {E : Value → Shared → Prop} (hh : A.handled = none) (hroom : A.depth < recursionLimit) (hl : h₀.NoLimit) (X₀ : (KL w.params).In h₀) {G C : Addr} {gn : Nat} {Z : List (Int × Str)} {p1 p2 p3 : Pos} {x1 : Nat}
    (hLC : env.locals < C) (hCG : C < G) (hpos : env.kindOf (Str.ofString "pos") = some .local) (hch : env.kindOf (Str.ofString "ch") = some .local)
    (hcls : (env.scope.kind == .class || (env.scope.kind == .module && env.locals != env.globals)) = false)
    {m : Str → Option Value} {news : List (Addr × Obj)} (F : Fr h₀ env.locals s.heap m) (N : News h₀ env.locals s.heap news) (hG : s.heap.IsGen G gn) (hgo : EscGo w A h₀ C (G + 1) gn Z 0 [C, G] s.heap s.gens)
    (J : Nat → (Str → Option Value) → List (Addr × Obj) → Prop) (hJ : ∀ j m news, J j m news → ∀ q ∈ news, q.1 < C) (h0 : J 0 m news)
    (turn : ∀ (j : Nat) (p : Int × Str) (m₁ : Str → Option Value) (news₁ gl : List (Addr × Obj)) (h : Heap) (tk : Nat) (g : Array GenState) (ti tc : Tok) (E' : Value → Shared → Prop), Z[j]? = some p → J j m₁ news₁ → (AllBare s.gens → AllBare g) → (∀ q ∈ gl, C ≤ q.1) →
      Fr h₀ env.locals h (pcM p ti tc m₁) → News h₀ env.locals h (news₁ ++ gl) →
      wpAny (model prog w) A (execs body env) (GenPost h₀ env.locals gl (J (j + 1)) { s with heap := h, toks := tk, gens := g } Q) E' { s with heap := h, toks := tk, gens := g })
    (done : ∀ (h : Heap) (tk : Nat) (g : Array GenState) (m : Str → Option Value) (news : List (Addr × Obj)), J Z.length m news → Fr h₀ env.locals h m → News h₀ env.locals h news → (AllBare s.gens → AllBare g) → Q .next { s with heap := h, toks := tk, gens := g }) :
    wpAny (model prog w) A (pyIter (.ref G)) (fun it s₂ => codeAny (model prog w) A (.forLoop (.Tuple [.Name (Str.ofString "pos") p1, .Name (Str.ofString "ch") p2] x1 p3) it body [] env) (fun r s' => match r with | .ok f => Q f s' | .error e => cameBackBy (model prog w) A env E e s') s₂) E s := by
  refine wpAny_pyIter_gen hG ?_
  have hL0 : h₀.objs.size ≤ env.locals := F.above
  have hC0 : h₀.objs.size ≤ C := Nat.le_trans hL0 (Nat.le_of_lt hLC)
  have hLlo : env.locals < G + 1 := Nat.lt_succ_of_lt (Nat.lt_trans hLC hCG)
  refine codeAny_forLoop_any (GenI w A h₀ env.locals C G gn Z J s) (fun k s' hI => ?_) (Z.length + 1) fun Go k => k s.heap s.toks s.gens m news 0 [C, G] F N h0 (Nat.zero_le _) hG id hgo fun b hb => ?_
  · apply hI
    clear hI k s'
    intro h tk g m' news' j wr F' N' hJ' hj hG' hg' hgo' hwr
    refine esc_next w hh hl hroom X₀ hC0 (Nat.lt_succ_of_lt hCG) F'.keep hG' hgo' hj (fun p T ti tc h1 tk1 g1 e it hp hT hk1 hle hli hg1 hgo1 => ?_) (fun hjl h1 tk1 g1 hk1 hg1 => ?_)
    · have kL : ∀ o, h.get? env.locals = some o → h1.get? env.locals = some o := fun o x => hk1 _ o (Nat.ne_of_lt hLC) hLlo x
      have k0 : ∀ b o, h₀.get? b = some o → h1.get? b = some o := fun b o x => hk1 b o (Nat.ne_of_lt (Nat.lt_of_lt_of_le (Heap.lt_size x) hC0)) (Nat.lt_trans (Nat.lt_of_lt_of_le (Heap.lt_size x) hL0) hLlo) (F'.keep b o x)
      have hG1 : h1.IsGen G gn := let ⟨o, nm, qn, ho, r⟩ := hG'; ⟨o, nm, qn, hk1 G o (Nat.ne_of_gt hCG) (Nat.lt_succ_self _) ho, r⟩
      obtain ⟨oG, nmG, qnG, hoG, hcG, hdG, hsG⟩ := id hG1
      show wpAny _ _ (letOwnedTupleGo (.Tuple _ _ _) (.ref G) (.ref T)) _ _ _
      have hlet : ∀ {Q' : Unit → Shared → Prop} {E' : Value → Shared → Prop} {s1 : Shared}, s1.heap.get? G = some oG → Q' () s1 → wpAny (model prog w) A (letOwnedTupleGo (.Tuple [.Name (Str.ofString "pos") p1, .Name (Str.ofString "ch") p2] x1 p3) (.ref G) (.ref T)) Q' E' s1 := by
        intro Q' E' s1 hg hq
        unfold letOwnedTupleGo
        refine wpAny_bind (wpAny_load hg ?_)
        rw [hcG, hdG]
        exact wpAny_pure hq
      refine hlet hoG ?_
      refine wpAny_assign_Tuple hh hT rfl rfl fun h2 hx2 => ?_
      replace hx2 : Heap.ExtBut h1.objs.size h1 h2 := hx2
      have k2 : ∀ b o, h1.get? b = some o → h2.get? b = some o := fun b o x => hx2 b o (Nat.ne_of_lt (Heap.lt_size x)) x
      show wpAny _ _ (do holding [_] (assign (.Name _ _) env (.int p.1 ti)); do holding [] (assign (.Name _ _) env (.str p.2 tc)); pure ()) _ _ _
      refine wpAny_bind (wpAny_holding (wpAny_assign_Name (wpAny_storeName_local hpos (F'.ns.at' fun o x => k2 _ o (kL o x)) (fun h3 hn3 hs3 => ?_) hcls)))
      replace hs3 : Heap.SameBut env.locals h2 h3 := hs3
      refine wpAny_bind (wpAny_holding (wpAny_assign_Name (wpAny_storeName_local hch hn3 (fun h4 hn4 hs4 => wpAny_pure ?_) hcls)))
      replace hs4 : Heap.SameBut env.locals h3 h4 := hs4
      have k4 : ∀ b o, b ≠ env.locals → h1.get? b = some o → h4.get? b = some o := fun b o hb x => hs4.extBut b o hb (hs3.extBut b o hb (k2 b o x))
      have F4 : Fr h₀ env.locals h4 (pcM p ti tc m') := ⟨hn4, fun b o x => k4 b o (Nat.ne_of_lt (Nat.lt_of_lt_of_le (Heap.lt_size x) hL0)) (k0 b o x), F'.above⟩
      have N4 : News h₀ env.locals h4 (news' ++ ((G, oG) :: ledOf h1 [C, e, it])) := by
        have fresh : ∀ b, C ≤ b → h₀.get? b = none := fun b hb => Heap.get?_none_of_le (Nat.le_trans hC0 hb)
        have big : ∀ b, C ≤ b → b ≠ env.locals := fun b hb => Nat.ne_of_gt (Nat.lt_of_lt_of_le hLC hb)
        have put : ∀ b o, C ≤ b → h1.get? b = some o → h4.get? b = some o ∧ b ≠ env.locals ∧ h₀.get? b = none := fun b o hb x => ⟨k4 b o (big b hb) x, big b hb, fresh b hb⟩
        intro q hq
        rcases List.mem_append.mp hq with hq | hq
        · have hlt := hJ _ _ _ hJ' q hq
          exact ⟨k4 _ _ (N' q hq).2.1 (hk1 _ _ (Nat.ne_of_lt hlt) (Nat.lt_succ_of_lt (Nat.lt_trans hlt hCG)) (N' q hq).1), (N' q hq).2⟩
        · rcases List.mem_cons.mp hq with rfl | hq
          · exact put _ _ (Nat.le_of_lt hCG) hoG
          · obtain ⟨b, o⟩ := q
            obtain ⟨h5, h6⟩ := mem_ledOf.mp hq
            refine put b o ?_ h6
            simp only [List.mem_cons, List.not_mem_nil, or_false] at h5
            rcases h5 with rfl | rfl | rfl
            · exact Nat.le_refl _
            · exact Nat.le_trans (Nat.le_of_lt (Nat.lt_succ_of_lt hCG)) hle
            · exact Nat.le_trans (Nat.le_of_lt (Nat.lt_succ_of_lt hCG)) hli
      have hbig : ∀ b ∈ [C, e, it], C ≤ b := fun b h5 => by
        simp only [List.mem_cons, List.not_mem_nil, or_false] at h5
        rcases h5 with rfl | rfl | rfl
        · exact Nat.le_refl _
        · exact Nat.le_trans (Nat.le_of_lt (Nat.lt_succ_of_lt hCG)) hle
        · exact Nat.le_trans (Nat.le_of_lt (Nat.lt_succ_of_lt hCG)) hli
      have hjlt : j < Z.length := (List.getElem?_eq_some_iff.mp hp).1
      refine wpAny_mono (turn j p m' news' ((G, oG) :: ledOf h1 [C, e, it]) h4 _ g1 ti tc _ hp hJ' (fun a => hg1 (hg' a)) (fun q hq => ?_) F4 N4) (fun f s3 hpost => ?_) fun _ _ x => x
      · rcases List.mem_cons.mp hq with rfl | hq
        · exact Nat.le_of_lt hCG
        · obtain ⟨b, o⟩ := q
          exact hbig b (mem_ledOf.mp hq).1
      · have nx : GenEnd h₀ env.locals ((G, oG) :: ledOf h1 [C, e, it]) (J (j + 1)) { s with heap := h4, toks := tk1, gens := g1 } s3 → ∃ k', k' < Z.length + 1 - j ∧ GenI w A h₀ env.locals C G gn Z J s k' s3 := by
          intro hx
          apply hx
          intro h5 tk5 m5 news5 F5 N5 hJ5
          refine ⟨Z.length + 1 - (j + 1), by rw [Nat.add_sub_add_right]; exact Nat.lt_of_lt_of_eq (Nat.lt_succ_self _) (Nat.succ_sub hj).symm, fun Go k => k h5 tk5 g1 m5 news5 (j + 1) [C, e, it] F5 (fun q hq => N5 q (List.mem_append_left _ hq)) hJ5 hjlt ?_ (fun a => hg1 (hg' a)) (hgo1.keep fun b hb o x => ?_) hbig⟩
          · exact ⟨oG, nmG, qnG, (N5 (G, oG) (List.mem_append_right _ (List.mem_cons_self ..))).1, hcG, hdG, hsG⟩
          · exact (N5 (b, o) (List.mem_append_right _ (List.mem_cons_of_mem _ (mem_ledOf.mpr ⟨hb, x⟩)))).1
        cases f with
        | ret v => exact hpost
        | brk => exact hpost
        | next => exact nx hpost
        | cont => exact nx hpost
    · subst hjl
      show wpAny _ _ (execs [] env) _ _ _
      refine wpAny_execs_nil ?_
      refine done h1 tk1 g1 m' news' hJ' ⟨F'.ns.at' fun o x => hk1 _ o (Nat.ne_of_lt hLC) hLlo x, fun b o x => hk1 b o (Nat.ne_of_lt (Nat.lt_of_lt_of_le (Heap.lt_size x) hC0)) (Nat.lt_trans (Nat.lt_of_lt_of_le (Heap.lt_size x) hL0) hLlo) (F'.keep b o x), F'.above⟩ (fun q hq => ?_) (fun a => hg1 (hg' a))
      have hlt := hJ _ _ _ hJ' q hq
      exact ⟨hk1 _ _ (Nat.ne_of_lt hlt) (Nat.lt_succ_of_lt (Nat.lt_trans hlt hCG)) (N' q hq).1, (N' q hq).2⟩
  · simp only [List.mem_cons, List.not_mem_nil, or_false] at hb
    rcases hb with rfl | rfl
    · exact Nat.le_refl _
    · exact Nat.le_of_lt hCG
end Mine

end
-- GS10
section
open PySem PySem.W PySem.Spec PySem.Calls PyProof.Rows
set_option Elab.async false
set_option maxRecDepth 100000
set_option maxHeartbeats 400000
namespace Mine
theorem esc_call (w : World) {A A' : Around} {s : Shared} {h₀ : Heap} {L : Addr} {m : Str → Option Value} {news : List (Addr × Obj)} {x : Str} {t : Tok} {mean : ExcName → Option Value} {mg mb : Str → Option Value} {Q E : Value → Shared → Prop}
    (F : Fr h₀ L s.heap m) (X₀ : (KL w.params).In h₀) (N : News h₀ L s.heap news) (T : Top qv looseN mean mg mb h₀) (hroom : A.depth < recursionLimit) (hA' : A'.handled = none)
    (hQ : ∀ (h' : Heap) (tk' : Nat) (g' : Array GenState) (C G : Addr) (gn : Nat), L < C → C < G → h'.IsGen G gn → Fr h₀ L h' m → News h₀ L h' news → (∀ q ∈ news, q.1 < C) → (AllBare s.gens → AllBare g') →
      EscGo w A' h₀ C (G + 1) gn (escO 0 false x.cps.toList) 0 [C, G] h' g' → Q (.ref G) { s with heap := h', toks := tk', gens := g' }) :
    wpAny (model prog w) A (call (.ref 28) [.str x t]) Q E s := by
  have X := X₀.keeps F.keep
  have hlk : (KL w.params).lookup 28 = some (o28 w.params) := rfl
  have hcd : codeIn (KL w.params) (.ref 27) (z "_iter_escaped_chars") = true := rfl
  have hLs : L < s.heap.objs.size := F.ns.lt
  refine wpAny_call ?_
  refine codeAny_call_generator (fd := _) (body := fb1) hroom (X _ _ hlk) rfl rfl rfl rfl (codeRec_of X hcd) ?_
  refine wpAny_of_eq (a := [(Str.ofString "addr", .str x t)]) rfl ?_
  refine wpAny_newFunctionEnv (by decide) (fun y hy => by rw [List.mem_singleton.mp hy]; rfl) (fun h1 hn1 hs1 => ?_) rfl
  have k1 : ∀ b o, s.heap.get? b = some o → h1.get? b = some o := fun b o e => hs1.extBut b o (Nat.ne_of_lt (Heap.lt_size e)) (Heap.get?_push_of_some _ e)
  refine ⟨(T.nolimit.keeps F.keep).keeps k1, ?_⟩
  have hC1 : s.heap.objs.size < h1.objs.size := hn1.lt
  refine hQ _ _ _ s.heap.objs.size h1.objs.size s.gens.size hLs hC1 ?_ ?_ ?_ ?_ ?_ ?_
  · exact ⟨_, _, _, Heap.get?_push_size _ rfl, rfl, rfl, rfl⟩
  · exact (F.keptAll k1).keptAll fun b o e => Heap.get?_push_of_some _ e
  · exact fun q hq => ⟨Heap.get?_push_of_some _ (k1 _ _ (N q hq).1), (N q hq).2⟩
  · exact fun q hq => Heap.lt_size (N q hq).1
  · exact fun ha => ha.push rfl
  · refine ⟨.fresh (.func fb1 (escE s.heap.objs.size)), Array.getElem?_push_size, fun s'' hk hal => ⟨rfl, ?_⟩⟩
    refine esc_go w (A := A'.in1) (t := t) (oG := _) hA' T X₀ (Nat.le_trans F.above (Nat.le_of_lt hLs)) hC1 hk (hal h1.objs.size (by first | ((repeat first | exact List.mem_cons_self .. | refine List.mem_append_right _ ?_ | refine List.mem_cons_of_mem _ ?_); done) | simp) _ (Heap.get?_push_size _ rfl)) ?_
    have hn2 : (h1.push { cls := .type "generator", data := .fields #[.int s.gens.size 0, .str (z "_iter_escaped_chars") (s.toks + 1), .str (z "_iter_escaped_chars") (s.toks + 1 + 1)] }).Ns s.heap.objs.size (fun y => if y = Str.ofString "addr" then some (.str x t) else none) := by
      have : (fun y : Str => if y = Str.ofString "addr" then some (Value.str x t) else none) = fun y => [(Str.ofString "addr", Value.str x t)].reverse.lookup y := by
        funext y
        simp only [List.reverse_cons, List.reverse_nil, List.nil_append, List.lookup]
        by_cases h : y = Str.ofString "addr"
        · subst h; (first | ((repeat first | exact List.mem_cons_self .. | refine List.mem_append_right _ ?_ | refine List.mem_cons_of_mem _ ?_); done) | simp)
        · have : (y == Str.ofString "addr") = false := by simpa using h
          simp [h, this]
      rw [this]; exact hn1.push _
    exact hn2.at' fun o e => hal _ (by first | ((repeat first | exact List.mem_cons_self .. | refine List.mem_append_right _ ?_ | refine List.mem_cons_of_mem _ ?_); done) | simp) o e
end Mine

end
-- GA0
section
open PySem PySem.W PySem.Spec PySem.Calls PyProof.Rows
set_option Elab.async false
set_option maxRecDepth 100000
set_option maxHeartbeats 4000000
namespace Mine
/-- as Con, for a def that runs generators -/
noncomputable abbrev ConG (w : World) (mean : ExcName → Option Value) (mg mb : Str → Option Value) (f : Addr) (news : CbLed) (d u : Nat) (pre : Prop) (vs : List Value) (R : Tok → Value) : Prop :=
  ∀ (dp un : Nat) (gd : Option (List Code)) (cn : Str) (cs : Scope) (a : Addr) (ccd : Value) (cl : List (Str × Addr)) (outer : List Env) (A₀ : Around) (base h₀ : Heap) (L : Addr) (m : Str → Option Value) (s : Shared) (Q E : Value → Shared → Prop),
    PyProof.Rows.Below A₀ base outer h₀ → Fr h₀ L s.heap m → (KL w.params).In h₀ → News h₀ L s.heap news → Top qv looseN mean mg mb h₀ → cs.kind = .function →
    pre → dp + d < recursionLimit → un + u < cLine → (∀ (t : Tok) (h' : Heap) (tk' : Nat) (g' : Array GenState), Fr h₀ L h' m → News h₀ L h' news → (AllBare s.gens → AllBare g') → Q (R t) { s with heap := h', toks := tk', gens := g' }) →
      wpAny (model prog w) (ktrTop dp un gd cn cs L a ccd cl outer) (call (.ref f) vs) Q E s
theorem useG {w : World} {mean : ExcName → Option Value} {mg mb : Str → Option Value} {news : CbLed} {f : Addr} {d u : Nat} {pre : Prop} {vs : List Value} {R : Tok → Value}
    (C : ConG w mean mg mb f news d u pre vs R) {dp un : Nat} {gd : Option (List Code)} {cn : Str} {cs : Scope} {a : Addr} {ccd : Value} {cl : List (Str × Addr)} {outer : List Env} {A₀ : Around} {base h₀ : Heap} {L : Addr} {m : Str → Option Value} {s : Shared} {Q E : Value → Shared → Prop}
    (B : PyProof.Rows.Below A₀ base outer h₀) (F : Fr h₀ L s.heap m) (X : (KL w.params).In h₀) (N : News h₀ L s.heap news) (T : Top qv looseN mean mg mb h₀) (hk : cs.kind = .function) (hp : pre) (hd : dp + d < recursionLimit) (hu : un + u < cLine)
    (hR : ∀ (t : Tok) (h' : Heap) (tk' : Nat) (g' : Array GenState), Fr h₀ L h' m → News h₀ L h' news → (AllBare s.gens → AllBare g') → Q (R t) { s with heap := h', toks := tk', gens := g' }) :
    wpAny (model prog w) (ktrTop dp un gd cn cs L a ccd cl outer) (call (.ref f) vs) Q E s :=
  C dp un gd cn cs a ccd cl outer A₀ base h₀ L m s Q E B F X N T hk hp hd hu hR
theorem conG_of {w : World} {mean : ExcName → Option Value} {mg mb : Str → Option Value} {news : CbLed} {f : Addr} {d u : Nat} {pre : Prop} {vs : List Value} {R : Tok → Value}
    (C : Con w mean mg mb f news d u pre vs R) : ConG w mean mg mb f news d u pre vs R :=
  fun dp un gd cn cs a ccd cl outer A₀ base h₀ L m s Q E B F X N T hk hp hd hu hR => C dp un gd cn cs a ccd cl outer A₀ base h₀ L m s Q E B F X N T hk hp hd hu fun t h' tk' F' N' => hR t h' tk' s.gens F' N' id
theorem Fr.know {h₀ h : Heap} {L : Addr} {m : Str → Option Value} {x : Str} {v : Value} (F : Fr h₀ L h m) (e : m x = some v) : Fr h₀ L h (fun y => if y = x then some v else m y) := by
  have : (fun y => if y = x then some v else m y) = m := by
    funext y; by_cases h : y = x
    · subst h; simp [e]
    · simp [h]
  rw [this]; exact F
noncomputable def chkF : List (Int × Str) → Int → Bool
  | [], k => decide (k = 0)
  | p :: r, k => if p.2 == Str.ofString "(" then chkF r (k + 1) else if p.2 == Str.ofString ")" then (if k - 1 < 0 then false else chkF r (k - 1)) else chkF r k
theorem drop_at {Z : List (Int × Str)} {j : Nat} {p : Int × Str} (h : Z[j]? = some p) : Z.drop j = p :: Z.drop (j + 1) := by
  obtain ⟨hj, rfl⟩ := List.getElem?_eq_some_iff.mp h
  exact List.drop_eq_getElem_cons hj
end Mine
namespace Mine
theorem esc_callA (w : World) {A : Around} {s : Shared} {h₀ : Heap} {L : Addr} {m : Str → Option Value} {news : List (Addr × Obj)} {x : Str} {t : Tok} {mean : ExcName → Option Value} {mg mb : Str → Option Value} {Q E : Value → Shared → Prop}
    (F : Fr h₀ L s.heap m) (X₀ : (KL w.params).In h₀) (N : News h₀ L s.heap news) (T : Top qv looseN mean mg mb h₀) (hroom : A.depth < recursionLimit) (hA' : A.handled = none)
    (hQ : ∀ (h' : Heap) (tk' : Nat) (g' : Array GenState) (C G : Addr) (gn : Nat), L < C → C < G → h'.IsGen G gn → Fr h₀ L h' m → News h₀ L h' news → (∀ q ∈ news, q.1 < C) → (AllBare s.gens → AllBare g') →
      EscGo w A h₀ C (G + 1) gn (escO 0 false x.cps.toList) 0 [C, G] h' g' → Q (.ref G) { s with heap := h', toks := tk', gens := g' }) :
    wpAny (model prog w) A (call (.ref 28) [.str x t]) Q E s := esc_call w F X₀ N T hroom hA' hQ
end Mine

end
-- GA2
section
open PySem PySem.W PySem.Spec PySem.Calls PyProof.Rows
set_option Elab.async false
set_option maxRecDepth 100000
set_option maxHeartbeats 4000000
namespace Mine
theorem strs_snoc : ∀ {vs : List Value} {xs : List Str} {y : Str} {t : Tok}, StrsAre vs xs → StrsAre (vs ++ [.str y t]) (xs ++ [y])
  | _, _, _, _, .nil => .cons _ _ .nil
  | _, _, _, _, .cons y t h => .cons y t (strs_snoc h)
theorem escO_rng : ∀ (L : List Nat) (i : Nat) (e : Bool) (p : Int × Str), p ∈ escO i e L → (e = true → 0 < i) → 0 ≤ p.1 ∧ p.1 < (i : Int) + L.length
  | [], i, true, p, h, hi => by
    have := hi rfl
    simp [escO] at h; subst h; simp; lia
  | [], i, false, p, h, _ => by simp [escO] at h
  | c :: r, i, true, p, h, hi => by
    simp only [escO, List.mem_cons] at h
    rcases h with rfl | h
    · simp; lia
    · have := escO_rng r (i + 1) false p h (fun h => nomatch h); simp; lia
  | c :: r, i, false, p, h, _ => by
    simp only [escO] at h
    split at h
    · have := escO_rng r (i + 1) true p h (fun _ => Nat.succ_pos i); simp; lia
    · rcases List.mem_cons.mp h with rfl | h
      · simp; lia
      · have := escO_rng r (i + 1) false p h (fun h => nomatch h); simp; lia
theorem escO_len : ∀ (L : List Nat) (i : Nat) (e : Bool), (escO i e L).length ≤ L.length + 1
  | [], i, true => by simp [escO]
  | [], i, false => by simp [escO]
  | c :: r, i, true => by have := escO_len r (i + 1) false; simp [escO]; lia
  | c :: r, i, false => by
    have h1 := escO_len r (i + 1) true; have h2 := escO_len r (i + 1) false
    simp only [escO]
    split <;> simp <;> lia
/-- what the quotation marks leave -/
noncomputable def stripR (x : Str) : List (Int × Str) → Int → Option Int → List Str → Str
  | [], st, _, res => if st < x.length then Txt.join (Str.ofString "") (res ++ [Txt.slice x (some st) none]) else Txt.join (Str.ofString "") res
  | p :: r, st, op, res => if p.2 == Str.ofString "\"" then (match op with
      | none => stripR x r st (some p.1) res
      | some o => if st = o then stripR x r (p.1 + 1) none res else stripR x r (p.1 + 1) none (res ++ [Txt.slice x (some st) (some o)])) else stripR x r st op res
noncomputable def stripQ (x : Str) : Str := if (Builtin.Str.occurrences x (Str.ofString "\"") 0 x.length 1).isEmpty then x else stripR x (escO 0 false x.cps.toList) 0 none []
noncomputable def opV (top : Tok) : Option Int → Value
  | none => .none
  | some o => .int o top
noncomputable def SqJ (x : Str) (t : Tok) (l : Addr) (news : CbLed) (Z : List (Int × Str)) (j : Nat) (m : Str → Option Value) (nx : List (Addr × Obj)) : Prop :=
  ∀ Go : CbLed → Prop, (∀ (st : Int) (op : Option Int) (vs : List Value) (xs : List Str) (n : Nat) (ts top : Tok), m (Str.ofString "start") = some (.int st ts) → m (Str.ofString "open_pos") = some (opV top op) → m (Str.ofString "result") = some (.ref l) → m (Str.ofString "addr") = some (.str x t) →
    StrsAre vs xs → xs.length ≤ j → (xs.map (·.length)).sum ≤ x.length * j → 0 ≤ st → st ≤ x.length → (∀ o, op = some o → 0 ≤ o ∧ o < x.length) → stripR x (Z.drop j) st op xs = stripR x Z 0 none [] → Go ((l, W.listOf vs.toArray n) :: news)) → Go nx
theorem sq_end {h₀ : Heap} {L lr : Addr} {gl : List (Addr × Obj)} {x : Str} {t : Tok} {news : CbLed} {Z : List (Int × Str)} {j : Nat} {s₁ : Shared} {Q : Flow → Shared → Prop} {h3 : Heap} {tk3 : Nat} {m3 : Str → Option Value} {vs : List Value} {xs : List Str} {n : Nat} {st : Int} {op : Option Int} {ts top : Tok}
    (hvs : StrsAre vs xs) (hxs : xs.length ≤ j) (hsm : (xs.map (·.length)).sum ≤ x.length * j) (F : Fr h₀ L h3 m3) (N : News h₀ L h3 ((lr, W.listOf vs.toArray n) :: (news ++ gl))) (h1 : m3 (Str.ofString "start") = some (.int st ts)) (h2 : m3 (Str.ofString "open_pos") = some (opV top op)) (h3' : m3 (Str.ofString "result") = some (.ref lr)) (h4 : m3 (Str.ofString "addr") = some (.str x t))
    (hst0 : 0 ≤ st) (hst1 : st ≤ x.length) (hop : ∀ o, op = some o → 0 ≤ o ∧ o < x.length) (hk : stripR x (Z.drop (j + 1)) st op xs = stripR x Z 0 none []) :
    GenPost h₀ L gl (SqJ x t lr news Z (j + 1)) s₁ Q .next { s₁ with heap := h3, toks := tk3 } :=
  fun Go k => k h3 tk3 m3 ((lr, W.listOf vs.toArray n) :: news) F N fun Go' k' => k' st op vs xs n ts top h1 h2 h3' h4 hvs (Nat.le_succ_of_le hxs) (Nat.le_trans hsm (Nat.mul_le_mul_left _ (Nat.le_succ _))) hst0 hst1 hop hk
theorem sq_push {h₀ : Heap} {L lr : Addr} {gl : List (Addr × Obj)} {x : Str} {t : Tok} {news : CbLed} {Z : List (Int × Str)} {j : Nat} {s₁ s₃ : Shared} {Q : Flow → Shared → Prop} {h3 : Heap} {tk3 : Nat} {m3 : Str → Option Value} {o : Obj} {vs : List Value} {xs : List Str} {y : Str} {ty : Tok} {n : Nat} {st : Int}
    (F : Fr h₀ L h3 m3) (N : News h₀ L h3 ((lr, o) :: (news ++ gl))) (hs : s₃ = { s₁ with heap := h3, toks := tk3 }) (ho : o = W.listOf (vs.toArray.push (.str y ty)) (n + 1)) (h1 : ∃ ts, m3 (Str.ofString "start") = some (.int st ts)) (h2 : m3 (Str.ofString "open_pos") = some .none) (h3' : m3 (Str.ofString "result") = some (.ref lr)) (h4 : m3 (Str.ofString "addr") = some (.str x t))
    (hvs : StrsAre vs xs) (hxs : xs.length ≤ j) (hsm : (xs.map (·.length)).sum ≤ x.length * j) (hy : y.length ≤ x.length) (hst0 : 0 ≤ st) (hst1 : st ≤ x.length) (hk : stripR x (Z.drop (j + 1)) st none (xs ++ [y]) = stripR x Z 0 none []) :
    GenPost h₀ L gl (SqJ x t lr news Z (j + 1)) s₁ Q .next s₃ := by
  k_with_none
  k_with "OM" => lia
  subst ho hs
  obtain ⟨ts, h1⟩ := h1
  refine fun Go k => k h3 tk3 m3 ((lr, W.listOf (vs.toArray.push (.str y ty)) (n + 1)) :: news) F N fun Go k' => ?_
  have k'' := k' st none (vs ++ [.str y ty]) (xs ++ [y]) (n + 1) ts 0 h1 h2 h3' h4 (strs_snoc hvs) (by rw [List.length_append]; exact Nat.succ_le_succ hxs) ?_ hst0 hst1 (fun o h => nomatch h) hk
  · rw [List.push_toArray]; exact k''
  · rw [List.map_append, List.sum_append, Nat.mul_succ]
    exact Nat.add_le_add hsm (by simpa using hy)
theorem c_strip (w : World) (mean : ExcName → Option Value) (mg mb : Str → Option Value) (news : CbLed) (x : Str) (t : Tok) :
   ConG w mean mg mb 35 news 10 50 (x.length ≤ 100) [.str x t] (fun t => .str (stripQ x) t) := by
  k_with_none
  k_with "OM" => lia
  k_with "isTrue Compare" => (k_here; (first | (with_reducible show wpAny _ _ (PySem.isTrue (PySem.Expr.Compare (PySem.Expr.Name _ _) _ _ _) _ _) _ _ _) | (with_reducible show wpAny _ _ (PySem.isTrue (PySem.Expr.Compare (PySem.Expr.Constant _ _ _) _ _ _) _ _) _ _ _) | (with_reducible show wpAny _ _ (PySem.isTrue (PySem.Expr.Compare (PySem.Expr.BinOp (PySem.Expr.Name _ _) _ _ _) _ _ _) _ _) _ _ _)); (first | (with_reducible show wpAny _ _ (PySem.isTrue (PySem.Expr.Compare _ _ [(PySem.Expr.Name _ _)] _) _ _) _ _ _) | (with_reducible show wpAny _ _ (PySem.isTrue (PySem.Expr.Compare _ _ [(PySem.Expr.Constant _ _ _)] _) _ _) _ _ _) | (with_reducible show wpAny _ _ (PySem.isTrue (PySem.Expr.Compare _ _ [(PySem.Expr.BinOp (PySem.Expr.Name _ _) _ _ _)] _) _ _) _ _ _)); k_dflt (refine' cmpS ?svF ?svk ?svS ?svU ?_ ?svh; (case svF => k_asm); (case svk => rfl); (case svS => walk_at "SV"); (case svU => walk_at "SV"); (case svh => with_unfolding_all rfl); k_whole))
  k_with "spliced" => (k_here; (first | (with_reducible show wpAny _ _ (spliced (backTo _ (starEach ((PySem.Expr.Name _ _) :: _) _))) _ _ _) | (with_reducible show wpAny _ _ (spliced (backTo _ (starEach ((PySem.Expr.Constant _ _ _) :: _) _))) _ _ _) | (with_reducible show wpAny _ _ (spliced (backTo _ (starEach ((PySem.Expr.BinOp (PySem.Expr.Name _ _) _ _ _) :: _) _))) _ _ _)); k_dflt (refine' itemsS ?svF ?svk ?svS ?_; (case svF => k_asm); (case svk => rfl); (case svS => walk_at "SV"); k_whole))
  k_with "exec Assign" => (k_here; (first | (with_reducible show wpAny _ _ (exec (PySem.Stmt.Assign [_] (PySem.Expr.Name _ _) _) _) _ _ _) | (with_reducible show wpAny _ _ (exec (PySem.Stmt.Assign [_] (PySem.Expr.Constant _ _ _) _) _) _ _ _) | (with_reducible show wpAny _ _ (exec (PySem.Stmt.Assign [_] (PySem.Expr.BinOp (PySem.Expr.Name _ _) _ _ _) _) _) _ _ _)); k_dflt (refine' asgS ?svF ?svk ?svS ?_; (case svF => k_asm); (case svk => rfl); (case svS => walk_at "SV"); k_whole))
  suffices hfill : PySem.Challenge.rw_uc0065_01 = PySem.Challenge.rw_uc0065_01 → KL = KL → ConG w mean mg mb 35 news 10 50 (x.length ≤ 100) [.str x t] (fun t => .str (stripQ x) t) from hfill rfl rfl
  k_fill
  intro hrow hKL; clear hrow hKL
  unfold ConG; intro dp un gd cn cs a ccd cl outer A₀ base h₀ L m s Q E hB hF hX hN hT hkf hpre hd hu hret
  refine wpAny_call ?_
  k_dflt cell_enter
  k_steps
  · have e : stripQ x = x := by unfold stripQ; rw [if_pos (by assumption)]
    have r := hret t _ tk s.gens (by assumption) (by assumption) id
    rw [e] at r; exact r
  · rename_i lr _ l1 _ _ _
    have hq : stripR x (escO 0 false x.cps.toList) 0 none [] = stripQ x := by unfold stripQ; rw [if_neg (ne_true_of_eq_false (by assumption))]
    refine wpAny_For ?_ (fun x => rfl)
    k_steps
    refine esc_callA _ (by assumption) (by assumption) (by assumption) (by assumption) (by ktr_room) rfl (fun h1 tk1 g1 C G gn hLC hCG hG F1 N1 hn1 hg1 hgo1 => ?_)
    refine gen_loop w (Z := escO 0 false x.cps.toList) rfl (by ktr_room) (Top.nolimit (by assumption)) (by assumption) hLC hCG rfl rfl rfl F1 N1 hG hgo1
      (SqJ x t lr news (escO 0 false x.cps.toList)) ?_ ?_ ?_ ?_
    · intro j m nx hJ q
      apply hJ
      intro _ _ _ _ _ _ _ _ _ _ _ _ _ _ _ _ _ _ hq
      rcases List.mem_cons.mp hq with rfl | hq
      · exact (show lr < C from hn1 (lr, _) (List.mem_cons_self ..))
      · exact hn1 q (List.mem_cons_of_mem _ hq)
    · exact fun Go k => k 0 none [] [] 0 _ 0 rfl rfl rfl rfl .nil (Nat.zero_le _) (Nat.zero_le _) (Int.le_refl _) (Int.natCast_nonneg _) (fun o h => nomatch h) rfl
    · intro j p m₁ nx gl h tk g ti tc E' hp hJ hg hgl F2
      apply hJ
      clear hJ nx
      intro st op vs xs n ts top hm1 hm2 hm3 hm4 hvs hxs hsm hst0 hst1 hop hk N2
      rw [drop_at hp] at hk
      rw [List.cons_append] at N2
      have hlr : lr < C := hn1 (lr, _) (List.mem_cons_self ..)
      have hne9 : ∀ q ∈ news ++ gl, q.1 ≠ lr := fun q hq => (List.mem_append.mp hq).elim (fun h => Nat.ne_of_lt (l1 q h)) (fun h => Nat.ne_of_gt (Nat.lt_of_lt_of_le hlr (hgl q h)))
      replace F2 := Mine.Fr.know F2 (x := Str.ofString "addr") (v := .str x t) (by dsimp only [pcM]; rw [if_neg (by decide), if_neg (by decide)]; exact hm4)
      replace F2 := Mine.Fr.know F2 (x := Str.ofString "result") (v := .ref _) (by dsimp only [pcM]; rw [if_neg (by decide), if_neg (by decide), if_neg (by decide)]; exact hm3)
      replace F2 := Mine.Fr.know F2 (x := Str.ofString "start") (v := .int st ts) (by dsimp only [pcM]; rw [if_neg (by decide), if_neg (by decide), if_neg (by decide), if_neg (by decide)]; exact hm1)
      have hrg := escO_rng _ _ _ p (List.mem_of_getElem? hp) (fun h => nomatch h)
      have hjl : j < (escO 0 false x.cps.toList).length := (List.getElem?_eq_some_iff.mp hp).1
      have hZl := escO_len x.cps.toList 0 false
      have hxl : x.cps.toList.length = x.length := by simp [Str.length]
      rw [hxl] at hrg hZl
      have hvl : vs.toArray.size ≤ sizeLine := by
        have e1 := hvs.length
        show vs.length ≤ 2 ^ 24
        lia
      cases op with
      | none =>
        replace F2 := Mine.Fr.know F2 (x := Str.ofString "open_pos") (v := .none) (by dsimp only [pcM]; rw [if_neg (by decide), if_neg (by decide), if_neg (by decide), if_neg (by decide), if_neg (by decide)]; exact hm2)
        k_steps
        · refine sq_end (st := st) (op := some p.1) hvs hxs hsm (by assumption) (by assumption) rfl rfl rfl rfl hst0 hst1 ?_ ?_
          case refine_1 => intro o ho; cases ho; exact ⟨hrg.1, by simpa using hrg.2⟩
          case refine_2 => rw [← hk, stripR, if_pos (by assumption)]
        · refine sq_end (st := st) (op := none) (top := 0) hvs hxs hsm (by assumption) (by assumption) rfl rfl rfl rfl hst0 hst1 ?_ ?_
          case refine_1 => intro o ho; cases ho
          case refine_2 => rw [← hk, stripR, if_neg (ne_true_of_eq_false (by assumption))]
      | some o =>
        replace F2 := Mine.Fr.know F2 (x := Str.ofString "open_pos") (v := .int o top) (by dsimp only [pcM]; rw [if_neg (by decide), if_neg (by decide), if_neg (by decide), if_neg (by decide), if_neg (by decide)]; exact hm2)
        k_steps
        · refine sq_push (by assumption) (by assumption) rfl rfl ⟨_, rfl⟩ rfl rfl rfl hvs hxs hsm (by assumption) ?_ ?_ ?_
          case refine_1 => lia
          case refine_2 => have := hrg.2; simp at this; lia
          case refine_3 => rw [← hk, stripR, if_pos (by assumption)]; exact (if_neg (by assumption)).symm
        · refine sq_end (st := p.1 + 1) (op := none) (top := 0) hvs hxs hsm (by assumption) (by assumption) rfl rfl rfl rfl ?_ ?_ ?_ ?_
          case refine_1 => lia
          case refine_2 => have := hrg.2; simp at this; lia
          case refine_3 => intro o ho; cases ho
          case refine_4 => rw [← hk, stripR, if_pos (by assumption)]; exact (if_pos (by first | assumption | lia)).symm
        · refine sq_end (st := st) (op := some o) hvs hxs hsm (by assumption) (by assumption) rfl rfl rfl rfl hst0 hst1 hop ?_
          rw [← hk, stripR, if_neg (ne_true_of_eq_false (by assumption))]
    · intro h tk g m₁ nx hJ F2
      apply hJ
      clear hJ nx
      intro st op vs xs n ts top hm1 hm2 hm3 hm4 hvs hxs hsm hst0 hst1 hop hk N2 hg
      rw [List.drop_length] at hk
      replace F2 := Mine.Fr.know F2 hm4
      replace F2 := Mine.Fr.know F2 (x := Str.ofString "result") (v := .ref lr) (by rw [if_neg (by decide)]; exact hm3)
      replace F2 := Mine.Fr.know F2 (x := Str.ofString "start") (v := .int st ts) (by rw [if_neg (by decide), if_neg (by decide)]; exact hm1)
      dsimp only
      have hZl := escO_len x.cps.toList 0 false
      have hxl : x.cps.toList.length = x.length := by simp [Str.length]
      rw [hxl] at hZl
      have e1 := hvs.length
      have hvl : vs.toArray.size ≤ sizeLine := by
        show vs.length ≤ 2 ^ 24
        lia
      have hne9 : ∀ q ∈ news, q.1 ≠ lr := fun q h => Nat.ne_of_lt (l1 q h)
      have hsum : (xs.map (·.length)).sum ≤ 100 * 101 := Nat.le_trans hsm (Nat.mul_le_mul hpre (by lia))
      k_steps
      · have hs9 : (Txt.slice x (some st) none).length ≤ x.length := by assumption
        refine join_listW (ys := xs ++ [Txt.slice x (some st) none]) (News.isList (by assumption) (List.mem_cons_self ..)) (by simpa using strs_snoc hvs) (by decide) (by rw [List.map_append, List.sum_append, List.length_append]; simp; lia) (fun t9 k9 => ?_)
        k_steps
        have e : stripQ x = Txt.join (Str.ofString "") (xs ++ [Txt.slice x (some st) none]) := by rw [← hq, ← hk, stripR, if_pos (by assumption)]
        have r := hret t9 _ k9 g (by assumption) (cb_drop (by assumption) (by intro q hq; exact List.mem_cons_of_mem _ hq)) (fun a => hg (hg1 a))
        rw [e] at r; exact r
      · refine join_listW (ys := xs) (News.isList (by assumption) (List.mem_cons_self ..)) (by simpa using hvs) (by decide) (by lia) (fun t9 k9 => ?_)
        k_steps
        have e : stripQ x = Txt.join (Str.ofString "") xs := by rw [← hq, ← hk, stripR, if_neg (by assumption)]
        have r := hret t9 _ k9 g (by assumption) (cb_drop (by assumption) (by intro q hq; exact List.mem_cons_of_mem _ hq)) (fun a => hg (hg1 a))
        rw [e] at r; exact r
end Mine

end
-- GA1
section
open PySem PySem.W PySem.Spec PySem.Calls PyProof.Rows
set_option Elab.async false
set_option maxRecDepth 100000
set_option maxHeartbeats 4000000
namespace Mine
noncomputable def chk (x : Str) : Bool := chkF (escO 0 false (stripQ x).cps.toList) 0
theorem c_chk (w : World) (mean : ExcName → Option Value) (mg mb : Str → Option Value) (news : CbLed) (x : Str) (t : Tok) :
   ConG w mean mg mb 42 news 20 90 (x.length ≤ 100) [.str x t] (fun _ => .bool (chk x)) := by
  k_with_none
  k_with "isTrue Compare" => (k_here; (first | (with_reducible show wpAny _ _ (PySem.isTrue (PySem.Expr.Compare (PySem.Expr.Name _ _) _ _ _) _ _) _ _ _) | (with_reducible show wpAny _ _ (PySem.isTrue (PySem.Expr.Compare (PySem.Expr.Constant _ _ _) _ _ _) _ _) _ _ _) | (with_reducible show wpAny _ _ (PySem.isTrue (PySem.Expr.Compare (PySem.Expr.BinOp (PySem.Expr.Name _ _) _ _ _) _ _ _) _ _) _ _ _)); (first | (with_reducible show wpAny _ _ (PySem.isTrue (PySem.Expr.Compare _ _ [(PySem.Expr.Name _ _)] _) _ _) _ _ _) | (with_reducible show wpAny _ _ (PySem.isTrue (PySem.Expr.Compare _ _ [(PySem.Expr.Constant _ _ _)] _) _ _) _ _ _) | (with_reducible show wpAny _ _ (PySem.isTrue (PySem.Expr.Compare _ _ [(PySem.Expr.BinOp (PySem.Expr.Name _ _) _ _ _)] _) _ _) _ _ _)); k_dflt (refine' cmpS ?svF ?svk ?svS ?svU ?_ ?svh; (case svF => k_asm); (case svk => rfl); (case svS => walk_at "SV"); (case svU => walk_at "SV"); (case svh => with_unfolding_all rfl); k_whole))
  k_with "spliced" => (k_here; (first | (with_reducible show wpAny _ _ (spliced (backTo _ (starEach ((PySem.Expr.Name _ _) :: _) _))) _ _ _) | (with_reducible show wpAny _ _ (spliced (backTo _ (starEach ((PySem.Expr.Constant _ _ _) :: _) _))) _ _ _) | (with_reducible show wpAny _ _ (spliced (backTo _ (starEach ((PySem.Expr.BinOp (PySem.Expr.Name _ _) _ _ _) :: _) _))) _ _ _)); k_dflt (refine' itemsS ?svF ?svk ?svS ?_; (case svF => k_asm); (case svk => rfl); (case svS => walk_at "SV"); k_whole))
  k_with "exec Assign" => (k_here; (first | (with_reducible show wpAny _ _ (exec (PySem.Stmt.Assign [_] (PySem.Expr.Name _ _) _) _) _ _ _) | (with_reducible show wpAny _ _ (exec (PySem.Stmt.Assign [_] (PySem.Expr.Constant _ _ _) _) _) _ _ _) | (with_reducible show wpAny _ _ (exec (PySem.Stmt.Assign [_] (PySem.Expr.BinOp (PySem.Expr.Name _ _) _ _ _) _) _) _ _ _)); k_dflt (refine' asgS ?svF ?svk ?svS ?_; (case svF => k_asm); (case svk => rfl); (case svS => walk_at "SV"); k_whole))
  k_with "call ref" => (k_here; (with_reducible show wpAny _ _ (call (Value.ref 35) _) _ _ _); (refine' useG (c_strip _ _ _ _ _ _ _) ?k1 ?k2 ?k3 ?k4 ?k5 ?kK ?kp ?kd ?ku ?_); (case k1 => k_asm); (case k2 => k_asm); (case k3 => k_asm); (case k4 => k_asm); (case k5 => k_asm); (case kK => first | exact rfl | assumption); (case kp => assumption); (case kd => ktr_room); (case ku => ktr_units); (intro _ _ _ _ _ _ _); (try dsimp only); (try k_fold))
  suffices hfill : PySem.Challenge.rw_uc0065_01 = PySem.Challenge.rw_uc0065_01 → KL = KL → ConG w mean mg mb 42 news 20 90 (x.length ≤ 100) [.str x t] (fun _ => .bool (chk x)) from hfill rfl rfl
  k_fill
  intro hrow hKL; clear hrow hKL
  unfold ConG; intro dp un gd cn cs a ccd cl outer A₀ base h₀ L m s Q E hB hF hX hN hT hkf hpre hd hu hret
  refine wpAny_call ?_
  k_dflt cell_enter
  k_steps
  refine wpAny_For ?_ (fun x => rfl)
  k_steps
  refine esc_callA _ (by assumption) (by assumption) (by assumption) (by assumption) (by ktr_room) rfl (fun h1 tk1 g1 C G gn hLC hCG hG F1 N1 hn1 hg1 hgo1 => ?_)
  refine gen_loop w (Z := escO 0 false (stripQ x).cps.toList) rfl (by ktr_room) (Top.nolimit (by assumption)) (by assumption) hLC hCG rfl rfl rfl F1 N1 hG hgo1
    (fun j m nx => ∀ Go : CbLed → Prop, (∀ k t, m (Str.ofString "opens") = some (.int k t) → chkF ((escO 0 false (stripQ x).cps.toList).drop j) k = chk x → Go news) → Go nx) ?_ ?_ ?_ ?_
  · intro j m nx hJ q
    apply hJ
    intro _ _ _ _ hq
    exact hn1 q hq
  · exact fun Go k => k 0 _ (by simp; rfl) rfl
  · intro j p m₁ nx gl h tk g ti tc E' hp hJ hg hgl F2
    apply hJ
    clear hJ nx
    intro k t0 hm hk N2
    replace F2 := Mine.Fr.know F2 (x := Str.ofString "opens") (v := .int k t0) (by show (if _ then _ else _) = _; rw [if_neg (by decide), if_neg (by decide)]; exact hm)
    rw [drop_at hp] at hk
    k_steps
    · refine fun Go k1 => k1 _ _ _ news (by assumption) (by assumption) fun Go k2 => k2 (k + 1) _ (by simp; rfl) ?_
      rw [← hk, chkF, if_pos (by assumption)]
    · dsimp only [GenPost]
      k_steps
      have e : chk x = false := by rw [← hk, chkF, if_neg (ne_true_of_eq_false (by assumption)), if_pos (by assumption), if_pos (by assumption)]
      have r := hret 0 _ tk g (by assumption) (cb_drop (news' := news ++ gl) (by assumption) (by intro q hq; exact List.mem_append_left _ hq)) (fun a => hg (hg1 (‹AllBare s.gens → AllBare _› a)))
      rw [e] at r; exact r
    · refine fun Go k1 => k1 _ _ _ news (by assumption) (by assumption) fun Go k2 => k2 (k - 1) _ (by simp; rfl) ?_
      rw [← hk, chkF, if_neg (ne_true_of_eq_false (by assumption)), if_pos (by assumption), if_neg (by assumption)]
    · refine fun Go k1 => k1 _ _ _ news (by assumption) (by assumption) fun Go k2 => k2 (k) _ (by simp; rfl) ?_
      rw [← hk, chkF, if_neg (ne_true_of_eq_false (by assumption)), if_neg (ne_true_of_eq_false (by assumption))]
  · intro h tk g m nx hJ F2
    apply hJ
    clear hJ nx
    intro k t0 hm hk N2 hg
    rw [List.drop_length] at hk
    replace F2 := Mine.Fr.know F2 hm
    dsimp only
    k_steps
    have e : chk x = (k == 0) := by rw [← hk, chkF]; exact (Bool.beq_eq_decide_eq k 0).symm
    have r := hret 0 _ (tk + 1) g (by assumption) (by assumption) (fun a => hg (hg1 (‹AllBare s.gens → AllBare _› a)))
    rw [e] at r; exact r
end Mine

end
-- L1
section
open PySem PySem.W PySem.Spec PySem.Calls PyProof.Rows
set_option Elab.async false
set_option maxRecDepth 100000
set_option maxHeartbeats 4000000
namespace Mine
noncomputable abbrev tabsL : List (Addr × Addr) := [(69, 65), (62, 58)]
theorem law_at (w : World) {mean : ExcName → Option Value} {mg mb : Str → Option Value} {h : Heap} {lo : List Str} (T : Top qv lo mean mg mb h) (X : (KL w.params).In h) (d : DefRec) (hd : d ∈ recsOf qv) :
    d.name = Str.ofString "law" ∧ mg d.name = some (.ref 261) := by
  have hn : d.name = Str.ofString "law" := by
    have : ∀ d ∈ recsOf qv, d.name = Str.ofString "law" := by
      have e : (recsOf qv).map (·.name) = [Str.ofString "law"] := by rfl
      intro d hd
      have := List.mem_map_of_mem (f := (·.name)) hd
      rw [e] at this
      exact List.mem_singleton.mp this
    exact this d hd
  refine ⟨hn, ?_⟩
  rw [hn]
  exact mg_of X T.g (by rfl)
theorem topG (w : World) {mean : ExcName → Option Value} {mg mb : Str → Option Value} {h : Heap} (hT : TabsAt tabsL h) (T : Top qv (looseW qv looseN) mean mg mb h) (X : (KL w.params).In h) :
    Top qv looseN mean mg mb (ghostOf h tabsL) where
  g := ghost_ns hT T.g
  b := ghost_ns hT T.b
  nolimit := let ⟨mc, a, r⟩ := T.nolimit; ⟨mc, ghost_ns hT a, r⟩
  nodigits := let ⟨mc, a, r⟩ := T.nodigits; ⟨mc, ghost_ns hT a, r⟩
  fn := fun d hd => by
    obtain ⟨a, o, pm, code, doc, h1, h2, h3, h4⟩ := T.fn d hd
    refine ⟨a, o, pm, code, doc, h1, ghost_get hT h2 (fun q => by rw [q] at h3; cases h3), h3, ?_⟩
    obtain ⟨c, oc, vs, tq, hc, hoc, hdc, hq⟩ := h4
    refine ⟨c, oc, vs, tq, hc, ghost_get hT hoc (fun q => ?_), hdc, hq⟩
    rw [q] at hdc
    cases hdc
    simp at hq
  own := fun o ho => absurd (show o ∈ ([] : List OwnSpec) from by have e : ownsOf qv = [] := by rfl
                                                                  rw [e] at ho; exact ho) List.not_mem_nil
  const := fun x d e => T.const x d e
  free := fun x h1 h2 h3 h4 h5 => T.free x h1 (fun q => by
      have hs : ∀ x ∈ looseW qv looseN, x ∈ looseN ∨ x ∈ startupNames ∨ x ∈ (recsOf qv).map (·.name) := by decide +kernel
      rcases hs x q with h | h | h
      · exact h2 h
      · exact h1 h
      · exact h3 h) h3 h4 (fun q => by
      have e : (clssOf qv (looseW qv looseN)).map (·.name) = [] := by decide +kernel
      rw [e] at q; cases q)
  builtins := T.builtins
  tab := fun d hd => by
    obtain ⟨a, o, fd, c, P, h1, h2, h3, h4, h5, h6⟩ := T.tab d hd
    have hm := (law_at w T X d hd).2
    rw [h1] at hm; cases hm
    have e2 := X 261 (o261 w.params) rfl
    rw [h2] at e2; cases e2
    cases h3
    cases h4
    have e3 := X 260 (o260 w.params) rfl
    have hP : P = 258 := by
      obtain ⟨⟨o', vs, f1, f2, f3, f4⟩, _⟩ := h6
      rw [e3] at f1; cases f1
      cases f3
      have : some (Value.ref 258) = some (Value.ref P) := f4
      cases this; rfl
    subst hP
    have n1 : (260 : Addr) ∉ tabsL.map (·.2) := by decide
    have n2 : (258 : Addr) ∉ tabsL.map (·.2) := by decide
    refine ⟨261, _, _, 260, 258, h1, ghost_ne h2 (by decide), rfl, rfl, ?_, ?_⟩
    · obtain ⟨o, vs, file, tf, flags, tg, inF, text, tt, op, a, r1, r2, r3, r4, r5, r6, b, r⟩ := h5
      exact ⟨o, vs, file, tf, flags, tg, inF, text, tt, op, ghost_ne a n1, r1, r2, r3, r4, r5, r6, ghost_ne b n2, r⟩
    · obtain ⟨⟨o, vs, e, r⟩, t⟩ := h6
      exact ⟨⟨o, vs, ghost_ne e n1, r⟩, ghost_ne t n2⟩
  bmain := let ⟨bm, ob, a1, a2, a3, a4, r⟩ := T.bmain; ⟨bm, ob, a1, a2, ghost_get hT a3 (fun q => by rw [q] at a4; cases a4), a4, r⟩
  seer := fun e => by
    have x := T.seer e
    have np : ∀ {a : Addr} {mm : Str → Option Value}, h.Ns a mm → (ghostOf h tabsL).Ns a mm := fun x => ghost_ns hT x
    exact ⟨let ⟨mc, a, b⟩ := x.statics; ⟨mc, np a, b⟩, let ⟨mc, a, b⟩ := x.mods; ⟨mc, np a, b⟩, let ⟨mc, a, b⟩ := x.imp; ⟨mc, np a, b⟩,
      let ⟨mg, bm, ob, a, b, c, d, e⟩ := x.main; ⟨mg, bm, ob, np a, b, ghost_get hT c (fun q => by rw [q] at d; cases d), d, e⟩⟩
end Mine

end
-- LC
section
open PySem PySem.W PySem.Spec PySem.Calls PyProof.Rows PyProof.Rows.LCg
set_option Elab.async false
set_option maxRecDepth 100000
set_option maxHeartbeats 400000
namespace Mine
section
variable {prog : Program} {w : World} {A : Around} {E : Value → Shared → Prop} {s : Shared} {h₀ : Heap} {L : Addr} {m : Str → Option Value} {env : Env}
noncomputable abbrev testsOf (ifs : List Expr) (env : Env) : Sem Bool := forIn ifs true fun c r => if r = true then do let ok ← isTrue c env (eval c env); pure (ForInStep.yield ok) else pure (ForInStep.yield r)
theorem comp_loop {elt target iter : Expr} {ifs : List Expr} {scope : Scope} {pos : Pos} {it acc : Value} {env : Env} {R : Result → Shared → Prop} (I : Nat → Shared → Prop)
    (turn : ∀ n s (E' : Value → Shared → Prop), I n s → wpAny (model prog w) A (pyNext it) (fun r s₁ => match r with
      | none => R (.ok .next) s₁
      | some v => wpAny (model prog w) A (letOwnedTupleGo target it v) (fun _ s₁' => wpAny (model prog w) A (assign target env v) (fun _ s₂ =>
          wpAny (model prog w) A (testsOf ifs env) (fun ok s₃ => if ok = true then wpAny (model prog w) A (eval elt env) (fun x s₄ =>
              wpAny (model prog w) A (call (.builtin "list.append") [acc, x]) (fun _ s₅ => ∃ m, m < n ∧ I m s₅) E' s₄) E' s₃ else ∃ m, m < n ∧ I m s₃) E' s₂) E' s₁') E' s₁) E' s)
    (n : Nat) (h : I n s) : codeAny (model prog w) A (.compLoop (.ListComp elt [⟨target, iter, ifs, 0⟩] scope pos) 0 it acc env) R s := by
  refine codeAny_loop rfl I (fun n s hI => ?_) n h
  show wpAny _ A ((compTurn (.ListComp elt [⟨target, iter, ifs, 0⟩] scope pos) 0 it acc env).onRaise (fun x => do noteFrame x env; theTreesLotGoes x)) _ _ s
  refine wpAny_noted ?_
  rw [compTurn_list]
  refine wpAny_bind (wpAny_standAt (wpAny_bind (wpAny_mono (turn n s _ hI) (fun r s₁ h₁ => ?_) fun _ _ h' => h')))
  cases r with
  | none => exact wpAny_pure h₁
  | some v =>
    refine wpAny_bind (wpAny_mono h₁ (fun _ s₁' h₁' => ?_) fun _ _ h' => h')
    refine wpAny_bind (wpAny_mono h₁' (fun _ s₂ h₂ => wpAny_bind (wpAny_mono h₂ (fun ok s₃ h₃ => ?_) fun _ _ h' => h')) fun _ _ h' => h')
    cases ok with
    | false => exact wpAny_pure ⟨rfl, h₃⟩
    | true => exact wpAny_bind (wpAny_bind (wpAny_mono h₃ (fun x s₄ h₄ => wpAny_bind (wpAny_mono h₄ (fun _ s₅ h₅ => wpAny_pure (wpAny_pure ⟨rfl, h₅⟩)) fun _ _ h' => h')) fun _ _ h' => h'))
end
/-- how a comprehension's turn ends -/
noncomputable def CEnd (h₀ : Heap) (L : Addr) (m : Str → Option Value) (led : List (Addr × Obj)) (J : Array GenState → Prop) (s₁ s' : Shared) : Prop :=
  ∀ Go : Shared → Prop, (∀ (h' : Heap) (tk' : Nat) (g' : Array GenState), Fr h₀ L h' m → News h₀ L h' led → J g' → Go { s₁ with heap := h', toks := tk', gens := g' }) → Go s'
/-- what the assignment of a turn leaves in the comprehension's own names -/
noncomputable def AsgOk (prog : Program) (w : World) (A : Around) (target : Expr) (P : Nat → Value → Heap → Prop) (scope : Scope) (cl : List (Str × Addr)) (env : Env) (G : Nat → (Str → Option Value) → Prop) : Prop :=
  ∀ (C : Addr) (i : Nat) (v : Value) (s : Shared) (m' : Str → Option Value) (Q : Unit → Shared → Prop) (E : Value → Shared → Prop), P i v s.heap → s.heap.Ns C m' →
    (∀ (h' : Heap) (tk' : Nat) (m₂ : Str → Option Value), h'.Ns C m₂ → G i m₂ → (∀ b o, b ≠ C → s.heap.get? b = some o → h'.get? b = some o) → Q () { s with heap := h', toks := tk' }) →
    wpAny (model prog w) A (assign target (compEnvC scope cl C env) v) Q E s
noncomputable def CompG (prog : Program) (w : World) (A : Around) (h₀ : Heap) (L : Addr) (env : Env) (target elt : Expr) (ifs : List Expr) (scope : Scope) (cl : List (Str × Addr)) (Fin : Shared → List Value → Array GenState → List (Addr × Obj) → (Str → Option Value) → Prop) (it : Value) (s : Shared) : Prop :=
  ∀ Go : Prop, (∀ (I : Addr) (fp wr : List Addr) (n : Nat) (P Md : Nat → Value → Heap → Prop) (St : Nat → Heap → Prop) (m : Str → Option Value) (news : List (Addr × Obj)) (G : Nat → (Str → Option Value) → Prop) (J : Nat → List Value → Array GenState → Prop),
    it = .ref I → KTurns prog w A target I fp wr n P Md St → n ≤ sizeLine → AsgOk prog w A target P scope cl env G →
    (∀ (s : Shared) (Q : Value → Shared → Prop) (E : Value → Shared → Prop), St 0 s.heap → Q (.ref I) s → wpAny (model prog w) A (pyIter (.ref I)) Q E s) → St 0 s.heap →
    (∀ b ∈ fp, b < s.heap.objs.size ∧ b ≠ L ∧ h₀.get? b = none) → Fr h₀ L s.heap m → News h₀ L s.heap news → (∀ p ∈ news, p.1 ∉ wr) → J 0 [] s.gens →
    (∀ (i : Nat) (ys : List Value) (C : Addr) (oC : Obj) (D : Addr) (gl : List (Addr × Obj)) (h : Heap) (tk : Nat) (g : Array GenState) (m₂ : Str → Option Value) (E' : Value → Shared → Prop), i < n → J i ys g → NsObj oC m₂ → G i m₂ → Fr h₀ L h m →
      News h₀ L h ((C, oC) :: (D, lst ys) :: (news ++ gl)) → (∀ p ∈ news ++ gl, p.1 < D) → D < C →
      wpAny (model prog w) A (testsOf ifs (compEnvC scope cl C env)) (fun ok s₃ => if ok = true then wpAny (model prog w) A (eval elt (compEnvC scope cl C env)) (fun y => CEnd h₀ L m ((C, oC) :: (D, lst ys) :: (news ++ gl)) (J (i + 1) (ys ++ [y])) s) E' s₃
        else CEnd h₀ L m ((C, oC) :: (D, lst ys) :: (news ++ gl)) (J (i + 1) ys) s s₃) E' { s with heap := h, toks := tk, gens := g }) →
    (∀ ys g, J n ys g → Fin s ys g news m) → Go) → Go
section
variable {prog : Program} {w : World} {A : Around} {E : Value → Shared → Prop} {s : Shared} {h₀ : Heap} {L : Addr} {env : Env}
theorem comp_core {elt target iter : Expr} {ifs : List Expr} {scope : Scope} {cl : List (Str × Addr)} {pos : Pos} {use : Option (Value → Sem Unit)} {Q : Value → Shared → Prop} {Fin : Shared → List Value → Array GenState → List (Addr × Obj) → (Str → Option Value) → Prop} {it : Value} {s₂ : Shared}
    (hcell : ∀ z ∈ scope.names, z.2 ≠ .cell) (hkind : scope.kind = .function) (h₂ : CompG prog w A h₀ env.locals env target elt ifs scope cl Fin it s₂)
    (hfin : ∀ (D C : Addr) (ys : List Value) (h2 : Heap) (tk2 : Nat) (g : Array GenState) (m m' : Str → Option Value) (news : List (Addr × Obj)), Fin s₂ ys g news m → Fr h₀ env.locals h2 m → News h₀ env.locals h2 ((D, lst ys) :: news) →
      h2.Ns C m' → (∀ p ∈ news, p.1 < D) → D < C → h₀.get? C = none → C ≠ env.locals → compPost (model prog w) A E use Q (.ref D) C (.ok .next) { s₂ with heap := h2, toks := tk2, gens := g }) :
    wpAny (model prog w) A (newList []) (fun acc s₃ => wpAny (model prog w) A (newFunctionEnv scope env.globals cl [] env.qual none .none (some env)) (fun cenv s₄ =>
      codeAny (model prog w) A (.compStart (.ListComp elt [⟨target, iter, ifs, 0⟩] scope pos) 0 it acc { cenv with scope := relabel scope env }) (compPost (model prog w) A E use Q acc cenv.locals) s₄) E s₃) E s₂ := by
  refine h₂ _ ?_
  rintro I fp wr n P Md St m news G J rfl W hsz hasg hself hst hfp F N hnw hJ0 turn fin
  refine wpAny_newObj_type (wpAny_newFunctionEnv hcell (by intro y hy; simp at hy) (fun h₁ hns₁ hsb₁ => ?_) hkind)
  dsimp only at hns₁ hsb₁ ⊢
  generalize hH2 : s₂.heap.push { cls := .type "list", dict := none, data := .seq ([] : List Value).toArray } = H2 at hns₁ hsb₁ ⊢
  have hC : H2.objs.size = s₂.heap.objs.size + 1 := by rw [← hH2, Heap.size_push]
  generalize hDd : s₂.heap.objs.size = D at *
  generalize hCc : H2.objs.size = C at *
  have hDC : D < C := by rw [hC]; exact Nat.lt_succ_self _
  have below : ∀ b, b < D → b ≠ C ∧ b ≠ D := fun b hb => ⟨Nat.ne_of_lt (Nat.lt_trans hb hDC), Nat.ne_of_lt hb⟩
  have old : ∀ b o, s₂.heap.get? b = some o → h₁.get? b = some o := fun b o e => hsb₁.extBut b o (below b (hDd ▸ Heap.lt_size e)).1 (Heap.get?_push_of_some _ (hH2 ▸ Heap.get?_push_of_some _ e))
  have hacc : h₁.get? D = some (lst []) := hsb₁.extBut _ _ (Nat.ne_of_lt hDC) (Heap.get?_push_of_some _ (hH2 ▸ (hDd ▸ Heap.get?_push_size _ rfl)))
  have fresh : ∀ a, D ≤ a → s₂.heap.get? a = none := fun a ha => by
    cases e : s₂.heap.get? a with
    | none => rfl
    | some o' => exact absurd (hDd ▸ Heap.lt_size e) (Nat.not_lt.mpr ha)
  have fresh₀ : ∀ a, D ≤ a → h₀.get? a = none := fun a ha => by
    cases e : h₀.get? a with
    | none => rfl
    | some o' => have := F.keep a o' e; rw [fresh a ha] at this; cases this
  have hD₀ : h₀.get? D = none := fresh₀ _ (Nat.le_refl _)
  have hC₀ : h₀.get? C = none := fresh₀ _ (Nat.le_of_lt hDC)
  have hLlt : env.locals < D := hDd ▸ F.ns.lt
  have hDL : D ≠ env.locals := Ne.symm (below _ hLlt).2
  have hCL : C ≠ env.locals := Ne.symm (below _ hLlt).1
  have hlow : ∀ p ∈ news, p.1 < D := fun p hp => hDd ▸ Heap.lt_size (N p hp).1
  have hwrfp : ∀ b ∈ wr, b ∈ fp := W.sub
  have hfpD : ∀ b ∈ fp, b ≠ C ∧ b ≠ D := fun b hb => below b (hfp b hb).1
  have hLwr : env.locals ∉ wr := fun h => (hfp _ (hwrfp _ h)).2.1 rfl
  have h0wr : ∀ b o, h₀.get? b = some o → b ∉ wr := fun b o e h => by rw [(hfp _ (hwrfp _ h)).2.2] at e; cases e
  have loop : ∀ s₃ : Shared, s₃ = { s₂ with heap := h₁, toks := s₂.toks + ([] : List (Str × Value)).length } →
      codeAny (model prog w) A (.compLoop (.ListComp elt [⟨target, iter, ifs, 0⟩] scope pos) 0 (.ref I) (.ref D) (compEnvC scope cl C env))
        (compPost (model prog w) A E use Q (.ref D) C) s₃ := by
    rintro s₃ rfl
    refine comp_loop (fun k s' => ∀ Go : Nat → Shared → Prop, (∀ (h' : Heap) (tk : Nat) (g : Array GenState) (i : Nat) (ys : List Value) (m' : Str → Option Value), i ≤ n → ys.length ≤ i → St i h' → Fr h₀ env.locals h' m → h'.Ns C m' →
        News h₀ env.locals h' ((D, lst ys) :: news) → J i ys g → Go (n + 1 - i) { s₂ with heap := h', toks := tk, gens := g }) → Go k s') ?_ (n + 1) fun Go k => k h₁ _ s₂.gens 0 [] _ (Nat.zero_le _) (Nat.le_refl _) (W.frame _ _ _ hst fun b _ o e => old b o e) (F.keeps old) hns₁ (fun p hp => ?_) hJ0
    · intro k s' E' hI
      apply hI
      clear hI k s'
      intro h' tk g i ys m' hi hyl hst' F' hn' N' hJ
      by_cases hlt : i < n
      · have hlti : n + 1 - (i + 1) < n + 1 - i := by rw [Nat.add_sub_add_right]; exact Nat.lt_of_lt_of_eq (Nat.lt_succ_self _) (Nat.succ_sub hi).symm
        refine W.item i _ _ _ hlt hst' fun v h2 tk2 hMd hk2 => ?_
        refine W.go i v _ _ _ hMd fun h3 hP3 hst3 hk3 => ?_
        have k23 : ∀ b o, b ∉ wr → h'.get? b = some o → h3.get? b = some o := fun b o hb e => hk3 b o hb (hk2 b o hb e)
        have hCwr : C ∉ wr := fun h => (hfpD _ (hwrfp _ h)).1 rfl
        have hDwr : D ∉ wr := fun h => (hfpD _ (hwrfp _ h)).2 rfl
        refine hasg C i v _ _ _ _ hP3 (hn'.at' fun o e => k23 _ o hCwr e) fun h4 tk4 m4 hn4 hG4 hk4 => ?_
        obtain ⟨oC, heC, hoC⟩ := ns_obj hn4
        have k24 : ∀ b o, b ≠ C → b ∉ wr → h'.get? b = some o → h4.get? b = some o := fun b o hb hw e => hk4 b o hb (k23 b o hw e)
        have hst4 : St (i + 1) h4 := W.frame _ _ _ hst3 fun b hb o e => hk4 b o (hfpD b hb).1 e
        have F4 : Fr h₀ env.locals h4 m := ⟨F'.ns.at' fun o e => k24 _ o (Ne.symm hCL) hLwr e, fun b o e => k24 b o (fun q => by rw [q, hC₀] at e; cases e) (h0wr b o e) (F'.keep b o e), F'.above⟩
        have N4 : News h₀ env.locals h4 ((C, oC) :: (D, lst ys) :: (news ++ ledOf h4 fp)) := fun p hp => by
          rcases List.mem_cons.mp hp with rfl | hp
          · exact ⟨heC, hCL, hC₀⟩
          · rcases List.mem_cons.mp hp with rfl | hp
            · exact ⟨k24 _ _ (Nat.ne_of_lt hDC) hDwr (N' _ (List.mem_cons_self ..)).1, hDL, hD₀⟩
            · rcases List.mem_append.mp hp with hp | hp
              · exact ⟨k24 _ _ (below _ (hlow p hp)).1 (hnw p hp) (N' p (List.mem_cons_of_mem _ hp)).1, (N p hp).2⟩
              · obtain ⟨b, o⟩ := p
                obtain ⟨hb, e⟩ := mem_ledOf.mp hp
                exact ⟨e, (hfp b hb).2⟩
        refine wpAny_mono (turn i ys C oC D (ledOf h4 fp) h4 tk4 g m4 E' hlt hJ hoC hG4 F4 N4 (fun p hp => ?_) hDC) (fun ok s₃ h5 => ?_) fun _ _ e => e
        · rcases List.mem_append.mp hp with hp | hp
          · exact hlow p hp
          · obtain ⟨b, o⟩ := p
            exact (hfp b (mem_ledOf.mp hp).1).1
        · have stp : ∀ {h5 : Heap}, News h₀ env.locals h5 ((C, oC) :: (D, lst ys) :: (news ++ ledOf h4 fp)) → St (i + 1) h5 ∧ h5.get? D = some (lst ys) ∧ h5.get? C = some oC := fun {h5} N5 =>
            ⟨W.frame _ _ _ hst4 fun b hb o e => (N5 (b, o) (List.mem_cons_of_mem _ (List.mem_cons_of_mem _ (List.mem_append_right _ (mem_ledOf.mpr ⟨hb, e⟩))))).1, (N5 _ (List.mem_cons_of_mem _ (List.mem_cons_self ..))).1, (N5 _ (List.mem_cons_self ..)).1⟩
          cases ok with
          | true =>
            simp only [if_true] at h5 ⊢
            refine wpAny_mono h5 (fun y' s₄ h6 => ?_) fun _ _ e => e
            apply h6
            intro h7 tk7 g7 F7 N7 hJ7
            obtain ⟨hst7, hD7, hC7⟩ := stp N7
            refine append_at (hsz := by show ys.toArray.size ≤ sizeLine; rw [List.size_toArray]; exact Nat.le_trans (Nat.le_trans hyl hi) hsz) hD7 fun h8 hs8 hD8 => ?_
            refine ⟨n + 1 - (i + 1), hlti, fun Go k => k h8 tk7 g7 (i + 1) (ys ++ [y']) _ hlt (by rw [List.length_append, List.length_singleton]; exact Nat.succ_le_succ hyl) (W.frame _ _ _ hst7 fun b hb o e => hs8.extBut b o (hfpD b hb).2 e) (F7.change hs8 hDL hD₀)
              ((hoC.ns hC7).sameBut hs8 (Nat.ne_of_gt hDC)) (fun p hp => ?_) hJ7⟩
            rcases List.mem_cons.mp hp with rfl | hp
            · exact ⟨hD8.trans (congrArg some (lst_snoc ys y')), hDL, hD₀⟩
            · exact ⟨hs8.extBut _ _ (below _ (hlow p hp)).2 (N7 p (List.mem_cons_of_mem _ (List.mem_cons_of_mem _ (List.mem_append_left _ hp)))).1, (N p hp).2⟩
          | false =>
            simp only [Bool.false_eq_true, if_false] at h5 ⊢
            apply h5
            intro h7 tk7 g7 F7 N7 hJ7
            obtain ⟨hst7, hD7, hC7⟩ := stp N7
            refine ⟨n + 1 - (i + 1), hlti, fun Go k => k h7 tk7 g7 (i + 1) ys _ hlt (Nat.le_succ_of_le hyl) hst7 F7 (hoC.ns hC7) (fun p hp => ?_) hJ7⟩
            rcases List.mem_cons.mp hp with rfl | hp
            · exact N7 _ (List.mem_cons_of_mem _ (List.mem_cons_self ..))
            · exact N7 p (List.mem_cons_of_mem _ (List.mem_cons_of_mem _ (List.mem_append_left _ hp)))
      · obtain rfl : i = n := Nat.le_antisymm hi (Nat.not_lt.mp hlt)
        refine W.done _ _ _ hst' fun h2 tk2 hk2 => ?_
        have hDwr : D ∉ wr := fun h => (hfpD _ (hwrfp _ h)).2 rfl
        have hCwr : C ∉ wr := fun h => (hfpD _ (hwrfp _ h)).1 rfl
        have F2 : Fr h₀ env.locals h2 m := ⟨F'.ns.at' fun o e => hk2 _ o hLwr e, fun b o e => hk2 b o (h0wr b o e) (F'.keep b o e), F'.above⟩
        refine hfin D C ys h2 _ g m m' news (fin ys g hJ) F2 (fun p hp => ?_) (hn'.at' fun o e => hk2 _ o hCwr e) hlow hDC hC₀ hCL
        have hpw : p.1 ∉ wr := by
          rcases List.mem_cons.mp hp with rfl | hp
          · exact hDwr
          · exact hnw p hp
        exact ⟨hk2 _ _ hpw (N' p hp).1, (N' p hp).2⟩
    · rcases List.mem_cons.mp hp with rfl | hp
      · exact ⟨hacc, hDL, hD₀⟩
      · exact ⟨old _ _ (N p hp).1, (N p hp).2⟩
  exact codeAny_compStart_list (loop _ rfl) (hself _ _ _ (W.frame _ _ _ hst fun b _ o e => old b o e) (loop _ rfl))
theorem asg_comp {elt target iter : Expr} {ifs : List Expr} {y : Str} {py : Pos} {scope : Scope} {cl : List (Str × Addr)} {pos spos : Pos} {Q : Flow → Shared → Prop} {m₀ : Str → Option Value} (F₀ : Fr h₀ L s.heap m₀) (hLe : env.locals = L)
    (hsw : swapsWith (.ListComp elt [⟨target, iter, ifs, 0⟩] scope pos) (some (.Name y py)) spos.line env = pure true)
    (hclos : closureFor scope env = pure cl) (hcell : ∀ z ∈ scope.names, z.2 ≠ .cell) (hkind : scope.kind = .function)
    (hnames : ∀ z ∈ scope.names, z.2 = .local → scope.names.lookup z.1 = some .local)
    (hy : env.kindOf y = some .local) (hp : (env.scope.kind == .class || (env.scope.kind == .module && env.locals != env.globals)) = false)
    (hs : ∀ x, foldedSetIterable iter env x = pure x)
    (h : wpAny (model prog w) A (eval iter env) (fun x s₁ => wpAny (model prog w) A (pyIter x) (CompG prog w A h₀ L env target elt ifs scope cl (fun s₂ ys g news m =>
      ∀ (D : Addr) (h' : Heap) (tk : Nat), Fr h₀ L h' (fun z => if z = y then some (.ref D) else m z) → News h₀ L h' ((D, lst ys) :: news) → (∀ p ∈ news, p.1 < D) → Q .next { s₂ with heap := h', toks := tk, gens := g })) E s₁) E s) :
    wpAny (model prog w) A (exec (.Assign [.Name y py] (.ListComp elt [⟨target, iter, ifs, 0⟩] scope pos) spos) env) Q E s := by
  clear F₀
  subst hLe
  rw [exec_Assign_Name_used _ _ _ _ hsw]
  refine wpAny_bind (wpAny_standAt (wpAny_bind ?_))
  show wpAny _ A (do let _ ← comprehension (.ListComp elt [⟨target, iter, ifs, 0⟩] scope pos) scope env _ (newList []) false (eval iter env) (some (assign (.Name y py) env))) _ _ s
  refine wpAny_bind (wpAny_mono (wpAny_comprehension_free (use := some (assign (.Name y py) env)) (Q := fun _ s' => Q .next s') rfl hs hclos hkind hnames
    (wpAny_mono h (fun xv s₁ h₁ => wpAny_mono h₁ (fun it s₂ h₂ => comp_core hcell hkind h₂ fun D C ys h2 tk2 g m m' news hf F2 N2 hn2 hlow hDC hC₀ hCL => ?_) fun _ _ e => e) fun _ _ e => e)) (fun _ s' hq => wpAny_pure (wpAny_pure hq)) fun _ _ e => e)
  show wpAny _ A (assign (.Name y py) env (.ref D)) _ _ _
  refine wpAny_assign_Name (wpAny_storeName_local hy F2.ns (fun h3 hn3 hs3 => ?_) hp)
  have hL₀ : h₀.get? env.locals = none := Heap.get?_none_of_le F2.above
  have F3 : Fr h₀ env.locals h3 (fun z => if z = y then some (.ref D) else m z) := ⟨hn3, fun b o e => hs3.extBut b o (fun q => by rw [q, hL₀] at e; cases e) (F2.keep b o e), F2.above⟩
  refine ⟨m', hn2.sameBut hs3 hCL, fun h'' hs'' => hf D h'' _ (F3.change hs'' hCL hC₀) (fun p hp => ?_) hlow⟩
  have hpC : p.1 ≠ C := by
    rcases List.mem_cons.mp hp with rfl | hp
    · exact Nat.ne_of_lt hDC
    · exact Nat.ne_of_lt (Nat.lt_trans (hlow p hp) hDC)
  exact ⟨hs''.extBut _ _ hpC (hs3.extBut _ _ (N2 p hp).2.1 (N2 p hp).1), (N2 p hp).2⟩
theorem eval_comp {elt target iter : Expr} {ifs : List Expr} {scope : Scope} {cl : List (Str × Addr)} {pos : Pos} {Q : Value → Shared → Prop} {m₀ : Str → Option Value} (F₀ : Fr h₀ L s.heap m₀) (hLe : env.locals = L)
    (hclos : closureFor scope env = pure cl) (hcell : ∀ z ∈ scope.names, z.2 ≠ .cell) (hkind : scope.kind = .function)
    (hnames : ∀ z ∈ scope.names, z.2 = .local → scope.names.lookup z.1 = some .local)
    (hs : ∀ x, foldedSetIterable iter env x = pure x)
    (h : wpAny (model prog w) A (eval iter env) (fun x s₁ => wpAny (model prog w) A (pyIter x) (CompG prog w A h₀ L env target elt ifs scope cl (fun s₂ ys g news m =>
      ∀ (D : Addr) (h' : Heap) (tk : Nat), Fr h₀ L h' m → News h₀ L h' ((D, lst ys) :: news) → (∀ p ∈ news, p.1 < D) → Q (.ref D) { s₂ with heap := h', toks := tk, gens := g })) E s₁) E s) :
    wpAny (model prog w) A (eval (.ListComp elt [⟨target, iter, ifs, 0⟩] scope pos) env) Q E s := by
  clear F₀
  subst hLe
  rw [eval_ListComp]
  refine wpAny_comprehension_free (use := none) rfl hs hclos hkind hnames (wpAny_mono h (fun xv s₁ h₁ => wpAny_mono h₁ (fun it s₂ h₂ => comp_core hcell hkind h₂ fun D C ys h2 tk2 g m m' news hf F2 N2 hn2 hlow hDC hC₀ hCL => ?_) fun _ _ e => e) fun _ _ e => e)
  refine ⟨m', hn2, fun h'' hs'' => hf D h'' _ (F2.change hs'' hCL hC₀) (fun p hp => ?_) hlow⟩
  have hpC : p.1 ≠ C := by
    rcases List.mem_cons.mp hp with rfl | hp
    · exact Nat.ne_of_lt hDC
    · exact Nat.ne_of_lt (Nat.lt_trans (hlow p hp) hDC)
  exact ⟨hs''.extBut _ _ hpC (N2 p hp).1, (N2 p hp).2⟩
end
end Mine
namespace Mine
section
variable {prog : Program} {w : World} {A : Around} {E : Value → Shared → Prop} {s : Shared} {h₀ : Heap} {L : Addr} {env : Env}
theorem asg_name {Pv : Nat → Value → Prop} {x : Str} {px : Pos} {scope : Scope} {cl : List (Str × Addr)} (hkind : scope.kind = .function) (hx : scope.names.lookup x = some .local) :
    AsgOk prog w A (.Name x px) (fun i v _ => Pv i v) scope cl env (fun i m₂ => ∃ v, Pv i v ∧ m₂ x = some v) := by
  intro C i v s m' Q E hP hn hQ
  refine wpAny_assign_Name (wpAny_storeName_local (lookup_relabel_local hx) hn (fun h3 hn3 hs3 => ?_) (by simp [compEnvC, relabel, hkind]))
  exact hQ h3 _ _ hn3 ⟨v, hP, by simp⟩ fun b o hb e => hs3.extBut b o hb e
theorem asg_pair {Pt : Nat → Array Value → Prop} {x x₂ : Str} {px px₂ tp : Pos} {k : Nat} {scope : Scope} {cl : List (Str × Addr)} (hh : A.handled = none) (hkind : scope.kind = .function) (hx : scope.names.lookup x = some .local) (hx₂ : scope.names.lookup x₂ = some .local) (hne : x ≠ x₂)
    (hPt : ∀ i vals, Pt i vals → ∃ a b, vals = #[a, b]) :
    AsgOk prog w A (.Tuple [.Name x px, .Name x₂ px₂] k tp) (fun i v h => ∃ T vals, v = .ref T ∧ Pt i vals ∧ h.IsTuple T vals) scope cl env (fun i m₂ => ∃ a b, Pt i #[a, b] ∧ m₂ x = some a ∧ m₂ x₂ = some b) := by
  intro C i v s m' Q E hP hn hQ
  obtain ⟨T, vals, rfl, hPv, hT⟩ := hP
  obtain ⟨a, b, rfl⟩ := hPt _ _ hPv
  refine wpAny_assign_Tuple hh hT rfl rfl fun h2 hx2 => ?_
  replace hx2 : Heap.ExtBut s.heap.objs.size s.heap h2 := hx2
  have k2 : ∀ b o, s.heap.get? b = some o → h2.get? b = some o := fun b o x => hx2 b o (Nat.ne_of_lt (Heap.lt_size x)) x
  show wpAny _ _ (do holding [_] (assign (.Name _ _) _ a); do holding [] (assign (.Name _ _) _ b); pure ()) _ _ _
  refine wpAny_bind (wpAny_holding (wpAny_assign_Name (wpAny_storeName_local (lookup_relabel_local hx) (hn.at' fun o e => k2 _ o e) (fun h3 hn3 hs3 => ?_) (by simp [compEnvC, relabel, hkind]))))
  refine wpAny_bind (wpAny_holding (wpAny_assign_Name (wpAny_storeName_local (lookup_relabel_local hx₂) hn3 (fun h4 hn4 hs4 => wpAny_pure ?_) (by simp [compEnvC, relabel, hkind]))))
  exact hQ h4 _ _ hn4 ⟨a, b, hPv, by simp [hne], by simp⟩ fun b o hb e => hs4.extBut b o hb (hs3.extBut b o hb (k2 b o e))
end
end Mine

end
-- D1
section
open PySem PySem.W PySem.Spec PySem.Calls PyProof.Rows
set_option Elab.async false
set_option maxRecDepth 100000
set_option maxHeartbeats 400000
namespace Mine
theorem or_add {x y : Int} {k : Nat} (hx : 0 ≤ x) (hy : 0 ≤ y) (hy2 : y < 2 ^ k) : Builtin.bitOr (x * 2 ^ k) y = x * 2 ^ k + y := by
  obtain ⟨a, rfl⟩ := Int.eq_ofNat_of_zero_le hx
  obtain ⟨b, rfl⟩ := Int.eq_ofNat_of_zero_le hy
  have hb : b < 2 ^ k := by exact_mod_cast hy2
  rw [bitOr_and]
  have e : ((a : Int) * 2 ^ k) = ((a * 2 ^ k : Nat) : Int) := by push_cast; rfl
  rw [e, bitAnd_pp (Int.natCast_nonneg _) hy, Int.toNat_natCast, Int.toNat_natCast]
  have h1 := nat_or_add_and (a * 2 ^ k) b
  have h2 := Nat.shiftLeft_add_eq_or_of_lt hb a
  rw [Nat.shiftLeft_eq] at h2
  have h3 : a * 2 ^ k &&& b = 0 := by lia
  rw [h3]; simp
theorem and_mask {x : Int} {k : Nat} (hx : 0 ≤ x) : Builtin.bitAnd x (1 * 2 ^ k - 1) = x % 2 ^ k := by
  obtain ⟨a, rfl⟩ := Int.eq_ofNat_of_zero_le hx
  have hp : 0 < 2 ^ k := Nat.two_pow_pos k
  have e : (1 * 2 ^ k - 1 : Int) = ((2 ^ k - 1 : Nat) : Int) := by
    rw [Int.ofNat_sub hp]; push_cast; lia
  rw [e, bitAnd_pp hx (Int.natCast_nonneg _), Int.toNat_natCast, Int.toNat_natCast, Nat.and_two_pow_sub_one_eq_mod]
  push_cast; rfl
theorem bl_lt {x : Int} {k : Nat} (h0 : 0 ≤ x) (h : x < 2 ^ k) : bl x ≤ k := by
  refine intBits_le ?_
  obtain ⟨a, rfl⟩ := Int.eq_ofNat_of_zero_le h0
  exact_mod_cast h
theorem bl_up {x : Int} (h0 : 0 ≤ x) : x < 2 ^ bl x := by
  have := natAbs_lt_pow_bits x
  obtain ⟨a, rfl⟩ := Int.eq_ofNat_of_zero_le h0
  exact_mod_cast this
theorem bl_low {x : Int} (h0 : 0 < x) : 2 ^ (bl x - 1) ≤ x := by
  rcases Int.lt_or_le x (2 ^ (bl x - 1)) with h | h
  · have h1 := bl_lt (Int.le_of_lt h0) h
    have h2 : bl x ≠ 0 := by
      intro e
      have := bl_up (Int.le_of_lt h0)
      rw [e] at this; simp at this; lia
    lia
  · exact h
theorem bl_eq {x : Int} {k : Nat} (h1 : 2 ^ k ≤ x) (h2 : x < 2 ^ (k + 1)) : bl x = k + 1 := by
  have h0 : (0 : Int) < 2 ^ k := Int.pow_pos (by decide)
  have a1 := bl_lt (by lia) h2
  rcases Nat.lt_or_ge (bl x) (k + 1) with h | h
  · have h3 := bl_up (x := x) (by lia)
    have h4 : (2 : Int) ^ bl x ≤ 2 ^ k := by
      have := Nat.pow_le_pow_right (n := 2) (by decide) (show bl x ≤ k by lia)
      exact_mod_cast this
    lia
  · lia
theorem dm_uniq {a b q r : Int} (hb : 0 < b) (h : r = a - q * b) (h0 : 0 ≤ r) (h1 : r < b) : a.fdiv b = q ∧ a.fmod b = r := by
  have hq : a.fdiv b = q := by
    rw [Int.fdiv_eq_ediv_of_nonneg _ (Int.le_of_lt hb)]
    have e : a = r + b * q := by rw [h, Int.mul_comm b q]; lia
    rw [e, Int.add_mul_ediv_left _ _ (by lia), Int.ediv_eq_zero_of_lt h0 h1]; lia
  refine ⟨hq, ?_⟩
  have := Int.mul_fdiv_add_fmod a b
  rw [hq] at this
  rw [h, Int.mul_comm q b]; lia
structure P3 (a12 a3 b b1 b2 n : Int) : Prop where
  n0 : 1 ≤ n
  n1 : n ≤ 4194304
  a0 : 0 ≤ a12
  ab : a12 < b
  c0 : 0 ≤ a3
  c1 : a3 < 2 ^ n.toNat
  eb : b = b1 * 2 ^ n.toNat + b2
  d0 : 0 ≤ b2
  d1 : b2 < 2 ^ n.toNat
  eL : (bl b1 : Int) = n
structure P2 (a b n : Int) : Prop where
  n0 : 1 ≤ n
  n1 : n < 4194304
  a0 : 0 ≤ a
  b0 : 0 < b
  ab : a < b * 2 ^ n.toNat
  eL : (bl b : Int) = n
theorem pow_pos2 (k : Nat) : (0 : Int) < 2 ^ k := Int.pow_pos (by decide)
theorem P3.b1 {a12 a3 b b1 b2 n : Int} (p : P3 a12 a3 b b1 b2 n) : 0 < b1 ∧ b1 < 2 ^ n.toNat := by
  have hW := pow_pos2 n.toNat
  have h0 : 0 < b1 := by
    rcases Int.lt_or_le 0 b1 with h | h
    · exact h
    · have h2 : b1 * 2 ^ n.toNat ≤ 0 := Int.mul_nonpos_of_nonpos_of_nonneg h (Int.le_of_lt hW)
      have := p.eb; have := p.ab; have := p.a0; have := p.eL
      have hb : 0 < b := by lia
      rcases Int.lt_or_le b1 0 with h3 | h3
      · have h4 : b1 * 2 ^ n.toNat ≤ (-1) * 2 ^ n.toNat := Int.mul_le_mul_of_nonneg_right (by lia) (Int.le_of_lt hW)
        have := p.d1; lia
      · have : b1 = 0 := by lia
        subst this
        have hb0 : bl 0 = 0 := rfl
        have := p.n0; lia
  refine ⟨h0, ?_⟩
  have := bl_up (Int.le_of_lt h0)
  have e : n.toNat = bl b1 := by have := p.eL; lia
  rw [e]; exact this
theorem P3.bpos {a12 a3 b b1 b2 n : Int} (p : P3 a12 a3 b b1 b2 n) : 0 < b := by have := p.a0; have := p.ab; lia
theorem P3.top {a12 a3 b b1 b2 n : Int} (p : P3 a12 a3 b b1 b2 n) : a12.fdiv (2 ^ n.toNat) ≤ b1 := by
  have hW := pow_pos2 n.toNat
  rw [Int.fdiv_eq_ediv_of_nonneg _ (Int.le_of_lt hW)]
  have : a12 < (b1 + 1) * 2 ^ n.toNat := by
    rw [Int.add_mul, Int.one_mul]; have := p.ab; have := p.eb; have := p.d1; lia
  have := (Int.ediv_lt_iff_lt_mul hW).mpr this
  lia
/-- the first way: r at the loop's start -/
theorem way1 {a12 a3 b b1 b2 n : Int} (p : P3 a12 a3 b b1 b2 n) (h : a12.fdiv (2 ^ n.toNat) = b1) :
    Builtin.bitOr ((a12 - b1 * 2 ^ n.toNat + b1) * 2 ^ n.toNat) a3 - (1 * 2 ^ n.toNat - 1) * b2 = a12 * 2 ^ n.toNat + a3 - (1 * 2 ^ n.toNat - 1) * b ∧
    Builtin.bitOr ((a12 - b1 * 2 ^ n.toNat + b1) * 2 ^ n.toNat) a3 - (1 * 2 ^ n.toNat - 1) * b2 < b := by
  have hW := pow_pos2 n.toNat
  have hb1 := p.b1
  rw [Int.fdiv_eq_ediv_of_nonneg _ (Int.le_of_lt hW)] at h
  have h1 : b1 * 2 ^ n.toNat ≤ a12 := by rw [← h]; exact Int.ediv_mul_le _ (by lia)
  have eb := p.eb
  have ab := p.ab
  have c1 := p.c1
  rw [or_add (by lia) p.c0 p.c1]
  generalize (2 : Int) ^ n.toNat = W at *
  have key : (a12 - b1 * W + b1) * W + a3 - (1 * W - 1) * b2 = a12 * W + a3 - (1 * W - 1) * b := by subst eb; grind
  refine ⟨key, ?_⟩
  rw [key]
  have h2 : a12 * W ≤ (b - 1) * W := Int.mul_le_mul_of_nonneg_right (by lia) (Int.le_of_lt hW)
  have h3 : (b - 1) * W = b * W - W := by grind
  have h4 : (1 * W - 1) * b = b * W - b := by grind
  lia
theorem way2 {a12 a3 b b1 b2 n : Int} (p : P3 a12 a3 b b1 b2 n) :
    Builtin.bitOr (a12.fmod b1 * 2 ^ n.toNat) a3 - a12.fdiv b1 * b2 = a12 * 2 ^ n.toNat + a3 - a12.fdiv b1 * b ∧
    Builtin.bitOr (a12.fmod b1 * 2 ^ n.toNat) a3 - a12.fdiv b1 * b2 < b := by
  have hW := pow_pos2 n.toNat
  have hb1 := p.b1
  have hf := fm a12 hb1.1
  have e := Int.mul_fdiv_add_fmod a12 b1
  have hq : 0 ≤ a12.fdiv b1 := fdiv_nn p.a0 (by lia)
  have eb := p.eb
  have c1 := p.c1
  have d0 := p.d0
  rw [or_add hf.1 p.c0 p.c1]
  generalize (2 : Int) ^ n.toNat = W at *
  generalize a12.fdiv b1 = q at *
  generalize a12.fmod b1 = r at *
  have key : r * W + a3 - q * b2 = a12 * W + a3 - q * b := by subst eb; subst e; grind
  refine ⟨key, ?_⟩
  have h2 : r * W ≤ (b1 - 1) * W := Int.mul_le_mul_of_nonneg_right (by lia) (Int.le_of_lt hW)
  have h3 : (b1 - 1) * W = b1 * W - W := by grind
  have h4 : 0 ≤ q * b2 := Int.mul_nonneg hq d0
  lia
theorem turn3 {a b q r : Int} (h : r = a - q * b) (hb : r < b) (hr : r < 0) : r + b = a - (q - 1) * b ∧ r + b < b := by
  have : (q - 1) * b = q * b - b := by grind
  lia
theorem less3 {r b : Int} (hb : 0 < b) (hr : r < 0) : (-(r + b)).toNat < (-r).toNat := by lia
theorem P3.call {a12 a3 b b1 b2 n : Int} (p : P3 a12 a3 b b1 b2 n) (h : a12.fdiv (2 ^ n.toNat) ≠ b1) (hn : n < 4194304) : P2 a12 b1 n := by
  have hW := pow_pos2 n.toNat
  have h1 := p.top
  rw [Int.fdiv_eq_ediv_of_nonneg _ (Int.le_of_lt hW)] at h h1
  exact ⟨p.n0, hn, p.a0, p.b1.1, (Int.ediv_lt_iff_lt_mul hW).mp (by lia), p.eL⟩
/-- one halving, the divisor's size even -/
theorem half_sq {n h : Int} (hn : 0 ≤ h) (he : n = 2 * h) : (2 : Int) ^ n.toNat = 2 ^ h.toNat * 2 ^ h.toNat := by
  rw [← Int.pow_add]; congr 1; lia
theorem P2.call1 {a b n h : Int} (p : P2 a b n) (he : n = 2 * h) (h1 : 1 ≤ h) :
    P3 (a.fdiv (2 ^ n.toNat)) (Builtin.bitAnd (a.fdiv (2 ^ h.toNat)) (1 * 2 ^ h.toNat - 1)) b (b.fdiv (2 ^ h.toNat)) (Builtin.bitAnd b (1 * 2 ^ h.toNat - 1)) h := by
  have hW := pow_pos2 n.toNat
  have hV := pow_pos2 h.toNat
  have ha : 0 ≤ a.fdiv (2 ^ h.toNat) := fdiv_nn p.a0 (Int.le_of_lt hV)
  have hb := p.b0
  have n1 := p.n1
  rw [and_mask ha, and_mask (by lia)]
  refine ⟨h1, by lia, fdiv_nn p.a0 (Int.le_of_lt hW), ?_, Int.emod_nonneg _ (by lia), Int.emod_lt_of_pos _ hV, ?_, Int.emod_nonneg _ (by lia), Int.emod_lt_of_pos _ hV, ?_⟩
  · rw [Int.fdiv_eq_ediv_of_nonneg _ (Int.le_of_lt hW)]
    exact (Int.ediv_lt_iff_lt_mul hW).mpr p.ab
  · rw [Int.fdiv_eq_ediv_of_nonneg _ (Int.le_of_lt hV), Int.mul_comm]; exact (Int.mul_ediv_add_emod b _).symm
  · rw [Int.fdiv_eq_ediv_of_nonneg _ (Int.le_of_lt hV)]
    have eL := p.eL
    have u1 := bl_up (Int.le_of_lt hb)
    have l1 := bl_low hb
    have eh : bl b = (h.toNat - 1) + 1 + h.toNat := by lia
    have e2 : bl b - 1 = (h.toNat - 1) + h.toNat := by lia
    rw [e2, Int.pow_add] at l1
    rw [eh, Int.pow_add] at u1
    have := bl_eq (x := b / 2 ^ h.toNat) (k := h.toNat - 1) ((Int.le_ediv_iff_mul_le hV).mpr l1) ((Int.ediv_lt_iff_lt_mul hV).mpr u1)
    lia
theorem P2.call2 {a b n h r : Int} (p : P2 a b n) (he : n = 2 * h) (h1 : 1 ≤ h) (hr0 : 0 ≤ r) (hr1 : r < b) :
    P3 r (Builtin.bitAnd a (1 * 2 ^ h.toNat - 1)) b (b.fdiv (2 ^ h.toNat)) (Builtin.bitAnd b (1 * 2 ^ h.toNat - 1)) h := by
  have p1 := p.call1 he h1
  have hV := pow_pos2 h.toNat
  refine ⟨h1, p1.n1, hr0, hr1, ?_, ?_, p1.eb, p1.d0, p1.d1, p1.eL⟩
  · rw [and_mask p.a0]; exact Int.emod_nonneg _ (by lia)
  · rw [and_mask p.a0]; exact Int.emod_lt_of_pos _ hV
theorem P2.done {a b n h x r : Int} (p : P2 a b n) (he : n = 2 * h) (h1 : 1 ≤ h)
    (hx : x = a.fdiv (2 ^ n.toNat) * 2 ^ h.toNat + Builtin.bitAnd (a.fdiv (2 ^ h.toNat)) (1 * 2 ^ h.toNat - 1)) (hr : r = x.fmod b) :
    Builtin.bitOr (x.fdiv b * 2 ^ h.toNat) ((r * 2 ^ h.toNat + Builtin.bitAnd a (1 * 2 ^ h.toNat - 1)).fdiv b) = a.fdiv b ∧
    (r * 2 ^ h.toNat + Builtin.bitAnd a (1 * 2 ^ h.toNat - 1)).fmod b = a.fmod b := by
  have hW := pow_pos2 n.toNat
  have hV := pow_pos2 h.toNat
  have hsq := half_sq (by lia) he
  have hb := p.b0
  have a0 := p.a0
  have ha : 0 ≤ a.fdiv (2 ^ h.toNat) := fdiv_nn p.a0 (Int.le_of_lt hV)
  have ex : x = a / 2 ^ h.toNat := by
    rw [hx, and_mask ha, Int.fdiv_eq_ediv_of_nonneg _ (Int.le_of_lt hW), Int.fdiv_eq_ediv_of_nonneg _ (Int.le_of_lt hV), hsq, ← Int.ediv_ediv_of_nonneg (Int.le_of_lt hV), Int.mul_comm]
    exact Int.mul_ediv_add_emod _ _
  have x0 : 0 ≤ x := by rw [ex]; exact Int.ediv_nonneg a0 (Int.le_of_lt hV)
  have r01 := fm x hb
  rw [← hr] at r01
  have em := and_mask (k := h.toNat) a0
  have m0 := Int.emod_nonneg a (show (2 : Int) ^ h.toNat ≠ 0 by lia)
  have m1 := Int.emod_lt_of_pos a hV
  have ea := Int.mul_ediv_add_emod a (2 ^ h.toNat)
  rw [em]
  generalize a % 2 ^ h.toNat = m at *
  rw [← ex] at ea
  have exb := Int.mul_fdiv_add_fmod x b
  rw [← hr] at exb
  have q10 : 0 ≤ x.fdiv b := fdiv_nn x0 (Int.le_of_lt hb)
  generalize x.fdiv b = q1 at *
  have hy0 : 0 ≤ r * 2 ^ h.toNat + m := by have := Int.mul_nonneg r01.1 (Int.le_of_lt hV); lia
  have hy1 : r * 2 ^ h.toNat + m < 2 ^ h.toNat * b := by
    have h2 : r * 2 ^ h.toNat ≤ (b - 1) * 2 ^ h.toNat := Int.mul_le_mul_of_nonneg_right (by lia) (Int.le_of_lt hV)
    have h3 : (b - 1) * 2 ^ h.toNat = 2 ^ h.toNat * b - 2 ^ h.toNat := by grind
    lia
  have q20 : 0 ≤ (r * 2 ^ h.toNat + m).fdiv b := fdiv_nn hy0 (Int.le_of_lt hb)
  have q21 : (r * 2 ^ h.toNat + m).fdiv b < 2 ^ h.toNat := by
    rw [Int.fdiv_eq_ediv_of_nonneg _ (Int.le_of_lt hb)]; exact (Int.ediv_lt_iff_lt_mul hb).mpr hy1
  have ey := Int.mul_fdiv_add_fmod (r * 2 ^ h.toNat + m) b
  have s01 := fm (r * 2 ^ h.toNat + m) hb
  rw [or_add q10 q20 q21]
  generalize (r * 2 ^ h.toNat + m).fdiv b = q2 at *
  generalize (r * 2 ^ h.toNat + m).fmod b = s at *
  generalize (2 : Int) ^ h.toNat = V at *
  have := dm_uniq (a := a) (q := q1 * V + q2) (r := s) hb (by rw [← ea, ← exb]; grind) s01.1 s01.2
  exact ⟨this.1.symm, this.2.symm⟩
theorem P2.base {a b n : Int} (p : P2 a b n) (h : (bl a : Int) - n ≤ 4000) : Builtin.divisionGoesByPylong a b = false := by
  have hb := p.b0
  have eL := p.eL
  have e1 : bl b = b.natAbs.log2 + 1 := by unfold bl Builtin.Int.intBits; rw [if_neg (by simp; lia)]
  have e2 : a.natAbs.log2 ≤ bl a := by
    unfold bl Builtin.Int.intBits
    split
    · rename_i h0; have : a = 0 := by simpa using h0
      subst this; decide
    · lia
  unfold Builtin.divisionGoesByPylong
  have hb' : (b == 0) = false := by simp; lia
  simp only [hb']
  by_cases ha : (a == 0) = true
  · simp [ha]
  · simp only [ha, Bool.false_eq_true, if_false, Bool.and_eq_false_iff, decide_eq_false_iff_not]
    right
    lia
theorem P2.small {a b n : Int} (p : P2 a b n) : (bl a : Int) ≤ 2 * n := by
  have eL := p.eL
  have n0 := p.n0
  have hb := p.b0
  have u := bl_up (Int.le_of_lt hb)
  have ab := p.ab
  have en : n.toNat = bl b := by lia
  rw [en] at ab
  have : a < 2 ^ (bl b + bl b) := by
    rw [Int.pow_add]
    exact Int.lt_of_lt_of_le ab (Int.mul_le_mul_of_nonneg_right (Int.le_of_lt u) (Int.le_of_lt (pow_pos2 _)))
  have := bl_lt p.a0 this
  lia
theorem P2.odd {a b n : Int} (p : P2 a b n) (hn : n + 1 < 4194304) : P2 (a * 2 ^ (1 : Int).toNat) (b * 2 ^ (1 : Int).toNat) (n + 1) := by
  have e1 : (2 : Int) ^ (1 : Int).toNat = 2 := by decide
  rw [e1]
  have n0 := p.n0; have a0 := p.a0; have b0 := p.b0; have ab := p.ab; have eL := p.eL
  have en : (n + 1).toNat = n.toNat + 1 := by lia
  have hW := pow_pos2 n.toNat
  refine ⟨by lia, hn, by lia, by lia, ?_, ?_⟩
  · rw [en, Int.pow_succ]
    have : b * 2 * (2 ^ n.toNat * 2) = 2 * (2 * (b * 2 ^ n.toNat)) := by grind
    lia
  · have u := bl_up (Int.le_of_lt b0)
    have l := bl_low b0
    have hk : bl b = (bl b - 1) + 1 := by lia
    have := bl_eq (x := b * 2) (k := bl b) (by
      have : (2 : Int) ^ bl b = 2 ^ (bl b - 1) * 2 := by rw [← Int.pow_succ, Nat.succ_eq_add_one, ← hk]
      lia) (by rw [Int.pow_succ]; lia)
    lia
theorem odd_q {a b : Int} (hb : 0 < b) : (a * 2 ^ (1 : Int).toNat).fdiv (b * 2 ^ (1 : Int).toNat) = a.fdiv b ∧ ((a * 2 ^ (1 : Int).toNat).fmod (b * 2 ^ (1 : Int).toNat)).fdiv (2 ^ (1 : Int).toNat) = a.fmod b := by
  have e1 : (2 : Int) ^ (1 : Int).toNat = 2 := by decide
  rw [e1]
  have e := Int.mul_fdiv_add_fmod a b
  have f := fm a hb
  have := dm_uniq (a := a * 2) (b := b * 2) (q := a.fdiv b) (r := a.fmod b * 2) (by lia) (by
    have : a.fdiv b * (b * 2) = (b * a.fdiv b) * 2 := by grind
    lia) (by lia) (by lia)
  refine ⟨this.1, ?_⟩
  rw [this.2, Int.fdiv_eq_ediv_of_nonneg _ (by decide)]; lia
end Mine

end
-- D3
section
open PySem PySem.W PySem.Spec PySem.Calls PyProof.Rows
set_option Elab.async false
set_option maxRecDepth 100000
set_option maxHeartbeats 4000000
namespace Mine
noncomputable abbrev C2 (w : World) (mean : ExcName → Option Value) (mg mb : Str → Option Value) (k : Nat) : Prop :=
  ∀ (news : CbLed) (a b n : Int) (k1 k2 k3 : Tok), ConO w mean mg mb 49 news (2 * k + 1) (40 * k + 100) (P2 a b n ∧ n < 4194303 ∧ n ≤ 4000 * 2 ^ k) [.int a k1, .int b k2, .int n k3] (tup2I (a.fdiv b) (a.fmod b)) True
noncomputable abbrev C3 (w : World) (mean : ExcName → Option Value) (mg mb : Str → Option Value) (k : Nat) : Prop :=
  ∀ (news : CbLed) (a12 a3 b b1 b2 n : Int) (k1 k2 k3 k4 k5 k6 : Tok), ConO w mean mg mb 56 news (2 * k + 2) (40 * k + 120) (P3 a12 a3 b b1 b2 n ∧ n < 4194303 ∧ n ≤ 4000 * 2 ^ k) [.int a12 k1, .int a3 k2, .int b k3, .int b1 k4, .int b2 k5, .int n k6]
    (tup2I ((a12 * 2 ^ n.toNat + a3).fdiv b) ((a12 * 2 ^ n.toNat + a3).fmod b)) True
theorem sh_ok {x n : Int} {k : Nat} (h0 : 0 ≤ x) (h : x < 2 ^ k) (hk : (k : Int) + n ≤ 134217728) : (Builtin.Int.intBits x : Int) + n ≤ 2 ^ 27 := by
  have := bl_lt h0 h
  have e : (2 : Int) ^ 27 = 134217728 := by decide
  rw [e]; unfold bl at this; lia
theorem mul_ok {x y : Int} {k l : Nat} (h0 : 0 ≤ x) (h : x < 2 ^ k) (g0 : 0 ≤ y) (g : y < 2 ^ l) (hk : k + l ≤ 134217728) : IntMulOk x y := IntMulOk.of_le (bl_lt h0 h) (bl_lt g0 g) hk
theorem P3.sh_r1 {a12 a3 b b1 b2 n : Int} (p : P3 a12 a3 b b1 b2 n) (h : a12.fdiv (2 ^ n.toNat) = b1) : (Builtin.Int.intBits (a12 - b1 * 2 ^ n.toNat + b1) : Int) + n ≤ 2 ^ 27 := by
  have hW := pow_pos2 n.toNat
  have hb1 := p.b1
  rw [Int.fdiv_eq_ediv_of_nonneg _ (Int.le_of_lt hW)] at h
  have h1 : b1 * 2 ^ n.toNat ≤ a12 := by rw [← h]; exact Int.ediv_mul_le _ (by lia)
  have eb := p.eb; have ab := p.ab; have d1 := p.d1; have n1 := p.n1; have n0 := p.n0
  refine sh_ok (k := n.toNat + 1) (by lia) (by rw [Int.pow_succ]; lia) (by lia)
theorem P3.sh_r2 {a12 a3 b b1 b2 n : Int} (p : P3 a12 a3 b b1 b2 n) : (Builtin.Int.intBits (a12.fmod b1) : Int) + n ≤ 2 ^ 27 := by
  have f := fm a12 p.b1.1
  have := p.b1.2; have n1 := p.n1; have n0 := p.n0
  exact sh_ok (k := n.toNat) f.1 (by lia) (by lia)
theorem P3.sh_1 {a12 a3 b b1 b2 n : Int} (p : P3 a12 a3 b b1 b2 n) : (Builtin.Int.intBits 1 : Int) + n ≤ 2 ^ 27 := by
  have n1 := p.n1; have n0 := p.n0
  exact sh_ok (k := 1) (by decide) (by decide) (by lia)
theorem P3.sh_b1 {a12 a3 b b1 b2 n : Int} (p : P3 a12 a3 b b1 b2 n) : (Builtin.Int.intBits b1 : Int) + n ≤ 2 ^ 27 := by
  have := p.b1; have n1 := p.n1; have n0 := p.n0
  exact sh_ok (k := n.toNat) (by lia) (by lia) (by lia)
theorem P3.mul1 {a12 a3 b b1 b2 n : Int} (p : P3 a12 a3 b b1 b2 n) : IntMulOk (1 * 2 ^ n.toNat - 1) b2 := by
  have hW := pow_pos2 n.toNat
  have n1 := p.n1; have n0 := p.n0
  exact mul_ok (k := n.toNat) (l := n.toNat) (by lia) (by lia) p.d0 p.d1 (by lia)
theorem P3.mul2 {a12 a3 b b1 b2 n : Int} (p : P3 a12 a3 b b1 b2 n) : IntMulOk (a12.fdiv b1) b2 := by
  have hW := pow_pos2 n.toNat
  have n1 := p.n1; have n0 := p.n0
  have hb1 := p.b1
  have hsq : a12 < 2 ^ (n.toNat + n.toNat) := by
    have h1 : (b1 + 1) * 2 ^ n.toNat ≤ 2 ^ n.toNat * 2 ^ n.toNat := Int.mul_le_mul_of_nonneg_right (by lia) (Int.le_of_lt hW)
    have h2 : (b1 + 1) * 2 ^ n.toNat = b1 * 2 ^ n.toNat + 2 ^ n.toNat := by grind
    have := p.eb; have := p.ab; have := p.d1
    rw [Int.pow_add]; lia
  have hx : (a12.fdiv b1) ≤ a12 := by
    have := natAbs_fdiv_le a12 b1
    have := p.a0
    have := fdiv_nn p.a0 (Int.le_of_lt hb1.1)
    lia
  exact mul_ok (k := n.toNat + n.toNat) (l := n.toNat) (fdiv_nn p.a0 (by lia)) (by lia) p.d0 p.d1 (by lia)


theorem step3 (w : World) (mean : ExcName → Option Value) (mg mb : Str → Option Value) {k : Nat} (H : C2 w mean mg mb k) (news : CbLed) (a12 a3 b b1 b2 n : Int) (k1 k2 k3 k4 k5 k6 : Tok) :
   ConO w mean mg mb 56 news (2 * k + 2) (40 * k + 120) (P3 a12 a3 b b1 b2 n ∧ n < 4194303 ∧ n ≤ 4000 * 2 ^ k) [.int a12 k1, .int a3 k2, .int b k3, .int b1 k4, .int b2 k5, .int n k6] (tup2I ((a12*2^n.toNat+a3).fdiv b) ((a12*2^n.toNat+a3).fmod b)) True := by
  k_with_none
  k_with "eval BinOp" => (k_here; (first | (with_reducible show wpAny _ _ (eval (PySem.Expr.BinOp (PySem.Expr.Name _ _) _ _ _) _) _ _ _) | (with_reducible show wpAny _ _ (eval (PySem.Expr.BinOp (PySem.Expr.Constant _ _ _) _ _ _) _) _ _ _) | (with_reducible show wpAny _ _ (eval (PySem.Expr.BinOp (PySem.Expr.BinOp (PySem.Expr.Name _ _) _ _ _) _ _ _) _) _ _ _)); (first | (with_reducible show wpAny _ _ (eval (PySem.Expr.BinOp _ _ (PySem.Expr.Name _ _) _) _) _ _ _) | (with_reducible show wpAny _ _ (eval (PySem.Expr.BinOp _ _ (PySem.Expr.Constant _ _ _) _) _) _ _ _)); k_dflt (first | (refine' valS ?svF ?svk ?svS ?_; (case svF => k_asm); (case svk => rfl); (case svS => walk_at "SV"); k_whole) | (refine' binS ?svF ?svk ?svS ?svU ?_; (case svF => k_asm); (case svk => rfl); (case svS => walk_at "SV"); (case svU => walk_at "SV"); k_whole)))
  k_with "isTrue Compare" => (k_here; (first | (with_reducible show wpAny _ _ (PySem.isTrue (PySem.Expr.Compare (PySem.Expr.Name _ _) _ _ _) _ _) _ _ _) | (with_reducible show wpAny _ _ (PySem.isTrue (PySem.Expr.Compare (PySem.Expr.Constant _ _ _) _ _ _) _ _) _ _ _) | (with_reducible show wpAny _ _ (PySem.isTrue (PySem.Expr.Compare (PySem.Expr.BinOp (PySem.Expr.Name _ _) _ _ _) _ _ _) _ _) _ _ _)); (first | (with_reducible show wpAny _ _ (PySem.isTrue (PySem.Expr.Compare _ _ [(PySem.Expr.Name _ _)] _) _ _) _ _ _) | (with_reducible show wpAny _ _ (PySem.isTrue (PySem.Expr.Compare _ _ [(PySem.Expr.Constant _ _ _)] _) _ _) _ _ _) | (with_reducible show wpAny _ _ (PySem.isTrue (PySem.Expr.Compare _ _ [(PySem.Expr.BinOp (PySem.Expr.Name _ _) _ _ _)] _) _ _) _ _ _)); k_dflt (refine' cmpS ?svF ?svk ?svS ?svU ?_ ?svh; (case svF => k_asm); (case svk => rfl); (case svS => walk_at "SV"); (case svU => walk_at "SV"); (case svh => with_unfolding_all rfl); k_whole))
  k_with "spliced" => (k_here; (first | (with_reducible show wpAny _ _ (spliced (backTo _ (starEach ((PySem.Expr.Name _ _) :: _) _))) _ _ _) | (with_reducible show wpAny _ _ (spliced (backTo _ (starEach ((PySem.Expr.Constant _ _ _) :: _) _))) _ _ _) | (with_reducible show wpAny _ _ (spliced (backTo _ (starEach ((PySem.Expr.BinOp (PySem.Expr.Name _ _) _ _ _) :: _) _))) _ _ _)); k_dflt (refine' itemsS ?svF ?svk ?svS ?_; (case svF => k_asm); (case svk => rfl); (case svS => walk_at "SV"); k_whole))
  k_with "execs cons" => (k_here; (with_reducible refine wpAny_execs_cons ?_); k_fold)
  k_with "execs cons" => (k_here; (with_reducible show wpAny _ _ _ _ _ (Shared.mk _ _ _ (_ + 1 + 1) _)); refine gentok ?_; intro _; (with_reducible refine wpAny_execs_cons ?_); (try dsimp only); (try k_fold))
  k_with "execs nil" => (k_here; (with_reducible show wpAny _ _ _ _ _ (Shared.mk _ _ _ (_ + 1 + 1) _)); refine gentok ?_; intro _; (with_reducible refine wpAny_execs_nil ?_); try dsimp only)
  k_with "binaryOp LShift int int" => (k_here; refine lshift_int (by lia) (by first | exact P3.sh_r2 ‹P3 _ _ _ _ _ _› | exact P3.sh_r1 ‹P3 _ _ _ _ _ _› (by assumption) | exact P3.sh_b1 ‹P3 _ _ _ _ _ _› | exact P3.sh_1 ‹P3 _ _ _ _ _ _›) ?_)
  k_with "binaryOp RShift int int" => (k_here; refine rshift_int (by lia) ?_)
  k_with "binaryOp Mult int int" => (k_here; refine mul_int ?_ (by first | exact P3.mul1 ‹P3 _ _ _ _ _ _› | exact P3.mul2 ‹P3 _ _ _ _ _ _›))
  suffices hfill : PySem.Challenge.rw_uc0065_01 = PySem.Challenge.rw_uc0065_01 → KL = KL → ConO w mean mg mb 56 news (2 * k + 2) (40 * k + 120) (P3 a12 a3 b b1 b2 n ∧ n < 4194303 ∧ n ≤ 4000 * 2 ^ k) [.int a12 k1, .int a3 k2, .int b k3, .int b1 k4, .int b2 k5, .int n k6] (tup2I ((a12*2^n.toNat+a3).fdiv b) ((a12*2^n.toNat+a3).fmod b)) True from hfill rfl rfl
  k_fill
  intro hrow hKL; clear hrow hKL
  refine ⟨?_, trivial⟩
  intros; rename_i hp9 hd9 hu9 hret
  refine wpAny_call ?_
  k_dflt cell_enter
  refine letF ‹Fr _ _ _ _› ?_
  intro me Fe
  refine letA ?_
  intro A9

  obtain ⟨p, hn9, hk9⟩ := hp9
  have z1 := p.n0
  k_with "state" => first | exact way1 ‹P3 _ _ _ _ _ _› (by assumption) | exact way2 ‹P3 _ _ _ _ _ _› | (obtain ⟨q1, q2⟩ := ‹_ ∧ _›; exact turn3 q1 q2 (by assumption)) | exact turn3 (by assumption) (by assumption) (by assumption) | fail
  k_with "measure" => exact less3 ‹P3 _ _ _ _ _ _›.bpos (by assumption)
  k_with "exec While Compare cons nil" => k_while (fun script q r => r = a12 * 2 ^ n.toNat + a3 - q * b ∧ r < b) (fun script q r => (-r).toNat) "q" "r"
  k_steps
  · skip
    have hu := dm_uniq p.bpos (by assumption) (by lia) (by assumption)
    refine' hret _ _ _ _ _ ?zF ?zN ?zl
    case zF => assumption
    case zN => rw [hu.1, hu.2]; exact cb_drop (by assumption) (by kcj_all)
    case zl => first | assumption | exact allLt_all _ (by assumption) | exact allLt_all _ (And.right (by assumption)) | exact allLt_all _ (And.right (And.right (by assumption))) | exact allLt_all _ (And.right (And.right (And.right (by assumption)))) | exact allLt_all _ (And.right (And.right (And.right (And.right (by assumption)))))
  · (refine' useO (H _ _ _ _ _ _ _) ?k1 ?k2 ?k3 ?k4 ?k5 ?kK ?kp ?kd ?ku ?_)
    (case k1 => k_asm)
    (case k2 => k_asm)
    (case k3 => k_asm)
    (case k4 => k_asm)
    (case k5 => k_asm)
    (case kK => first | exact rfl | assumption)
    (case kp => exact ⟨P3.call p (by assumption) (by lia), hn9, hk9⟩)
    (case kd => ktr_room)
    (case ku => ktr_units)
    (intro _ t1 t2 b9 h9 tk9 F9 N9 l9)
    (try k_lt l9)
    (try dsimp only)
    (try k_fold)
    k_steps
    have hu := dm_uniq p.bpos (by assumption) (by lia) (by assumption)
    refine' hret _ _ _ _ _ ?zF ?zN ?zl
    case zF => assumption
    case zN => rw [hu.1, hu.2]; exact cb_drop (by assumption) (by kcj_all)
    case zl => first | assumption | exact allLt_all _ (by assumption) | exact allLt_all _ (And.right (by assumption)) | exact allLt_all _ (And.right (And.right (by assumption))) | exact allLt_all _ (And.right (And.right (And.right (by assumption)))) | exact allLt_all _ (And.right (And.right (And.right (And.right (by assumption)))))

end Mine
open PyProof.Rows in

end
-- D2
section
open PySem PySem.W PySem.Spec PySem.Calls PyProof.Rows
set_option Elab.async false
set_option maxRecDepth 100000
set_option maxHeartbeats 4000000
namespace Mine
theorem P2.big {a b n : Int} (p : P2 a b n) (h : ¬ (Builtin.Int.intBits a : Int) - n ≤ 4000) : 4000 < n := by
  k_with_none
  k_with "OM" => lia
  have := p.small; unfold bl at this; omega
theorem P3.q {a12 a3 b b1 b2 n : Int} (p : P3 a12 a3 b b1 b2 n) : 0 ≤ (a12 * 2 ^ n.toNat + a3).fdiv b ∧ (a12 * 2 ^ n.toNat + a3).fdiv b < 2 ^ n.toNat ∧ 0 ≤ (a12 * 2 ^ n.toNat + a3).fmod b ∧ (a12 * 2 ^ n.toNat + a3).fmod b < b := by
  have hW := pow_pos2 n.toNat
  have hb := p.bpos
  have a0 := p.a0; have ab := p.ab; have c0 := p.c0; have c1 := p.c1
  have hx : 0 ≤ a12 * 2 ^ n.toNat + a3 := by have := Int.mul_nonneg a0 (Int.le_of_lt hW); omega
  have f := fm (a12 * 2 ^ n.toNat + a3) hb
  refine ⟨fdiv_nn hx (Int.le_of_lt hb), ?_, f.1, f.2⟩
  rw [Int.fdiv_eq_ediv_of_nonneg _ (Int.le_of_lt hb)]
  refine (Int.ediv_lt_iff_lt_mul hb).mpr ?_
  have h2 : a12 * 2 ^ n.toNat ≤ (b - 1) * 2 ^ n.toNat := Int.mul_le_mul_of_nonneg_right (by omega) (Int.le_of_lt hW)
  have h3 : (b - 1) * 2 ^ n.toNat = 2 ^ n.toNat * b - 2 ^ n.toNat := by grind
  omega
theorem sh_one {n : Int} (h0 : 0 ≤ n) (h : n ≤ 4194304) : (Builtin.Int.intBits 1 : Int) + n ≤ 2 ^ 27 := sh_ok (k := 1) (by decide) (by decide) (by omega)
theorem P2.sh_a {a b n : Int} (p : P2 a b n) : (Builtin.Int.intBits a : Int) + 1 ≤ 2 ^ 27 := by
  have e : (2 : Int) ^ 27 = 134217728 := by decide
  have h1 := p.small; have h2 := p.n1
  unfold bl at h1; rw [e]; omega
theorem P2.sh_b {a b n : Int} (p : P2 a b n) : (Builtin.Int.intBits b : Int) + 1 ≤ 2 ^ 27 := by
  have e : (2 : Int) ^ 27 = 134217728 := by decide
  have h1 := p.eL; have h2 := p.n1
  unfold bl at h1; rw [e]; omega
theorem P3.sh_q {a12 a3 b b1 b2 n : Int} (p : P3 a12 a3 b b1 b2 n) : (Builtin.Int.intBits ((a12 * 2 ^ n.toNat + a3).fdiv b) : Int) + n ≤ 2 ^ 27 := by
  have n1 := p.n1; have n0 := p.n0
  exact sh_ok (k := n.toNat) p.q.1 p.q.2.1 (by omega)


theorem odd_ar {n h N x : Int} (hB : h = (n + 1) / 2) (hP : x = n % 2) (hx : x ≠ 0) (h4 : 4000 < n) (hn : n < 4194303) (hN : 4000 < n → (n + 1) / 2 ≤ N) : n + 1 = 2 * h ∧ 1 ≤ h ∧ h < 4194303 ∧ h ≤ N := by
  have := hN h4
  lia
theorem even_ar {n h N x : Int} (hA : h = n / 2) (hP : x = n % 2) (hx : x = 0) (h4 : 4000 < n) (hn : n < 4194303) (hN : 4000 < n → (n + 1) / 2 ≤ N) : n = 2 * h ∧ 1 ≤ h ∧ h < 4194303 ∧ h ≤ N := by
  have := hN h4
  lia
theorem half0 {n h : Int} (hA : h = n / 2) (hn : 0 ≤ n) (h1 : n ≤ 4194304) : 0 ≤ h ∧ h ≤ 4194304 := by lia
theorem step2 (w : World) (mean : ExcName → Option Value) (mg mb : Str → Option Value) {d u : Nat} {N : Int} (H : ∀ (news : CbLed) (a12 a3 b b1 b2 n : Int) (k1 k2 k3 k4 k5 k6 : Tok), ConO w mean mg mb 56 news d u (P3 a12 a3 b b1 b2 n ∧ n < 4194303 ∧ n ≤ N) [.int a12 k1, .int a3 k2, .int b k3, .int b1 k4, .int b2 k5, .int n k6] (tup2I ((a12 * 2 ^ n.toNat + a3).fdiv b) ((a12 * 2 ^ n.toNat + a3).fmod b)) True) (news : CbLed) (a b n : Int) (k1 k2 k3 : Tok) :
   ConO w mean mg mb 49 news (d + 1) (u + 20) (P2 a b n ∧ n < 4194303 ∧ (4000 < n → (n + 1) / 2 ≤ N)) [.int a k1, .int b k2, .int n k3] (tup2I (a.fdiv b) (a.fmod b)) True := by
  k_with_none
  k_with "OM" => lia
  k_with "eval BinOp" => (k_here; (first | (with_reducible show wpAny _ _ (eval (PySem.Expr.BinOp (PySem.Expr.Name _ _) _ _ _) _) _ _ _) | (with_reducible show wpAny _ _ (eval (PySem.Expr.BinOp (PySem.Expr.Constant _ _ _) _ _ _) _) _ _ _) | (with_reducible show wpAny _ _ (eval (PySem.Expr.BinOp (PySem.Expr.BinOp (PySem.Expr.Name _ _) _ _ _) _ _ _) _) _ _ _)); (first | (with_reducible show wpAny _ _ (eval (PySem.Expr.BinOp _ _ (PySem.Expr.Name _ _) _) _) _ _ _) | (with_reducible show wpAny _ _ (eval (PySem.Expr.BinOp _ _ (PySem.Expr.Constant _ _ _) _) _) _ _ _)); k_dflt (first | (refine' valS ?svF ?svk ?svS ?_; (case svF => k_asm); (case svk => rfl); (case svS => walk_at "SV"); k_whole) | (refine' binS ?svF ?svk ?svS ?svU ?_; (case svF => k_asm); (case svk => rfl); (case svS => walk_at "SV"); (case svU => walk_at "SV"); k_whole)))
  k_with "spliced" => (k_here; (first | (with_reducible show wpAny _ _ (spliced (backTo _ (starEach ((PySem.Expr.Name _ _) :: _) _))) _ _ _) | (with_reducible show wpAny _ _ (spliced (backTo _ (starEach ((PySem.Expr.Constant _ _ _) :: _) _))) _ _ _) | (with_reducible show wpAny _ _ (spliced (backTo _ (starEach ((PySem.Expr.BinOp (PySem.Expr.Name _ _) _ _ _) :: _) _))) _ _ _)); k_dflt (refine' itemsS ?svF ?svk ?svS ?_; (case svF => k_asm); (case svk => rfl); (case svS => walk_at "SV"); k_whole))
  k_with "le" => (k_here; first | exact p.sh_a | exact p.sh_b | exact sh_one gA.1 gA.2 | exact sh_one gB.1 gB.2 | exact c1.sh_q | exact gA0 | exact gB0)
  k_with "call builtin:divmod" => (k_here; refine divmod_N (by assumption) (by assumption) (Int.ne_of_gt zb) ?_ (.inl (p.base (by assumption))); intro _ _ _)
  k_with "storeName" => (k_here; k_dflt (refine' storeLF ?F ?N ?_ ?a ?b; (case F => k_asm); (case N => k_asm); (case a => rfl); (case b => rfl); k_whole; intro _ _ _ _; (try k_sweep)))
  k_with "execs cons" => (k_here; (with_reducible refine wpAny_execs_cons ?_); k_fold)
  k_with "execs cons" => (k_here; (with_reducible show wpAny _ _ _ _ _ (Shared.mk _ _ _ (_ + 1 + 1) _)); refine gentok ?_; intro _; (with_reducible refine wpAny_execs_cons ?_); (try dsimp only); (try k_fold))
  k_with "execs nil" => (k_here; (with_reducible show wpAny _ _ _ _ _ (Shared.mk _ _ _ (_ + 1 + 1) _)); refine gentok ?_; intro _; (with_reducible refine wpAny_execs_nil ?_); try dsimp only)
  k_with "binaryOp LShift int int" => (k_here; refine lshift_int ?_ ?_ ?_)
  k_with "binaryOp RShift int int" => (k_here; refine rshift_int ?_ ?_)
  k_with "inplaceOp LShift int int" => (k_here; refine ilshift_int ?_ ?_ ?_)
  k_with "inplaceOp RShift int int" => (k_here; refine irshift_int ?_ ?_)
  suffices hfill : PySem.Challenge.rw_uc0065_01 = PySem.Challenge.rw_uc0065_01 → KL = KL → ConO w mean mg mb 49 news (d + 1) (u + 20) (P2 a b n ∧ n < 4194303 ∧ (4000 < n → (n + 1) / 2 ≤ N)) [.int a k1, .int b k2, .int n k3] (tup2I (a.fdiv b) (a.fmod b)) True from hfill rfl rfl
  k_fill
  intro hrow hKL; clear hrow hKL
  refine ⟨?_, trivial⟩
  intros; rename_i hp9 hd9 hu9 hret
  refine wpAny_call ?_
  k_dflt cell_enter
  refine letF ‹Fr _ _ _ _› ?_
  intro me Fe
  refine letA ?_
  intro A9
  obtain ⟨p, hn9, hN9⟩ := hp9
  have z1 := p.n0
  have z2 := p.n1
  have zb := p.b0
  have hA : n.fdiv (2 ^ Int.toNat 1) = n / 2 := Int.fdiv_eq_ediv_of_nonneg _ (by decide)
  have hB : (n + 1).fdiv (2 ^ Int.toNat 1) = (n + 1) / 2 := Int.fdiv_eq_ediv_of_nonneg _ (by decide)
  have hP : Builtin.bitAnd n 1 = n % 2 := bitAnd_m1 n
  have hbig := fun h => p.big h
  have gA := half0 hA (Int.le_trans (by decide) z1) (Int.le_of_lt z2)
  have gB := half0 hB (Int.le_trans (Int.le_trans (by decide) z1) (Int.le_of_lt (Int.lt_succ n))) (Int.le_of_lt (Int.add_lt_add_right hn9 1))
  have gA0 := gA.1
  have gB0 := gB.1
  k_steps
  · have l9 := fun q hq => Heap.lt_size ((‹News _ _ _ news›) q hq).1
    refine' hret _ _ _ _ _ ?zF ?zN ?zl
    case zF => assumption
    case zN => assumption
    case zl => exact l9
  · have h4 : 4000 < n := hbig (by assumption)
    have ar := odd_ar hB hP (by assumption) h4 hn9 hN9
    have po := p.odd (Int.add_lt_add_right hn9 1)
    have c1 := P2.call1 po (h := (n + 1).fdiv (2 ^ Int.toNat 1)) ar.1 ar.2.1
    (refine' useO (H _ _ _ _ _ _ _ _ _ _ _ _ _) ?k1 ?k2 ?k3 ?k4 ?k5 ?kK ?kp ?kd ?ku ?_)
    (case k1 => k_asm)
    (case k2 => k_asm)
    (case k3 => k_asm)
    (case k4 => k_asm)
    (case k5 => k_asm)
    (case kK => first | exact rfl | assumption)
    (case kp => exact ⟨c1, ar.2.2.1, ar.2.2.2⟩)
    (case kd => ktr_room)
    (case ku => ktr_units)
    (intro _ t1 t2 b9 h9 tk9 F9 N9 l9)
    (try k_lt l9)
    (try dsimp only)
    (try k_fold)
    have c2 := P2.call2 po (h := (n + 1).fdiv (2 ^ Int.toNat 1)) ar.1 ar.2.1 c1.q.2.2.1 c1.q.2.2.2
    k_steps
    all_goals try first | exact gA0 | exact gB0 | exact ar.2.1 | omega
    (refine' useO (H _ _ _ _ _ _ _ _ _ _ _ _ _) ?k1 ?k2 ?k3 ?k4 ?k5 ?kK ?kp ?kd ?ku ?_)
    (case k1 => k_asm)
    (case k2 => k_asm)
    (case k3 => k_asm)
    (case k4 => k_asm)
    (case k5 => k_asm)
    (case kK => first | exact rfl | assumption)
    (case kp => exact ⟨c2, ar.2.2.1, ar.2.2.2⟩)
    (case kd => ktr_room)
    (case ku => ktr_units)
    (intro _ t1 t2 b9 h9 tk9 F9 N9 l9)
    (try k_lt l9)
    (try dsimp only)
    (try k_fold)
    k_steps
    all_goals try first | exact gA0 | exact gB0 | exact ar.2.1 | omega
    all_goals try first | exact gA0 | exact gB0 | exact ar.2.1 | omega
    · have hd := P2.done po (h := (n + 1).fdiv (2 ^ Int.toNat 1)) ar.1 ar.2.1 rfl rfl
      refine' hret _ _ _ _ _ ?zF ?zN ?zl
      case zF => assumption
      case zN => rw [← (odd_q zb).1, ← (odd_q zb).2, ← hd.1, ← hd.2]; exact cb_drop (by assumption) (by kcj_all)
      case zl => first | assumption | exact allLt_all _ (by assumption) | exact allLt_all _ (And.right (by assumption)) | exact allLt_all _ (And.right (And.right (by assumption))) | exact allLt_all _ (And.right (And.right (And.right (by assumption)))) | exact allLt_all _ (And.right (And.right (And.right (And.right (by assumption)))))
  · have h4 : 4000 < n := hbig (by assumption)
    have ar := even_ar hA hP (by assumption) h4 hn9 hN9
    have c1 := P2.call1 p (h := n.fdiv (2 ^ Int.toNat 1)) ar.1 ar.2.1
    (refine' useO (H _ _ _ _ _ _ _ _ _ _ _ _ _) ?k1 ?k2 ?k3 ?k4 ?k5 ?kK ?kp ?kd ?ku ?_)
    (case k1 => k_asm)
    (case k2 => k_asm)
    (case k3 => k_asm)
    (case k4 => k_asm)
    (case k5 => k_asm)
    (case kK => first | exact rfl | assumption)
    (case kp => exact ⟨c1, ar.2.2.1, ar.2.2.2⟩)
    (case kd => ktr_room)
    (case ku => ktr_units)
    (intro _ t1 t2 b9 h9 tk9 F9 N9 l9)
    (try k_lt l9)
    (try dsimp only)
    (try k_fold)
    have c2 := P2.call2 p (h := n.fdiv (2 ^ Int.toNat 1)) ar.1 ar.2.1 c1.q.2.2.1 c1.q.2.2.2
    k_steps
    all_goals try first | exact gA0 | exact gB0 | exact ar.2.1 | omega
    (refine' useO (H _ _ _ _ _ _ _ _ _ _ _ _ _) ?k1 ?k2 ?k3 ?k4 ?k5 ?kK ?kp ?kd ?ku ?_)
    (case k1 => k_asm)
    (case k2 => k_asm)
    (case k3 => k_asm)
    (case k4 => k_asm)
    (case k5 => k_asm)
    (case kK => first | exact rfl | assumption)
    (case kp => exact ⟨c2, ar.2.2.1, ar.2.2.2⟩)
    (case kd => ktr_room)
    (case ku => ktr_units)
    (intro _ t1 t2 b9 h9 tk9 F9 N9 l9)
    (try k_lt l9)
    (try dsimp only)
    (try k_fold)
    k_steps
    all_goals try first | exact gA0 | exact gB0 | exact ar.2.1 | omega
    all_goals try first | exact gA0 | exact gB0 | exact ar.2.1 | omega
    · have hd := P2.done p (h := n.fdiv (2 ^ Int.toNat 1)) ar.1 ar.2.1 rfl rfl
      refine' hret _ _ _ _ _ ?zF ?zN ?zl
      case zF => assumption
      case zN => rw [← hd.1, ← hd.2]; exact cb_drop (by assumption) (by kcj_all)
      case zl => first | assumption | exact allLt_all _ (by assumption) | exact allLt_all _ (And.right (by assumption)) | exact allLt_all _ (And.right (And.right (by assumption))) | exact allLt_all _ (And.right (And.right (And.right (by assumption)))) | exact allLt_all _ (And.right (And.right (And.right (And.right (by assumption)))))

end Mine
open PyProof.Rows in

end
-- D4
section
open PySem PySem.W PySem.Spec PySem.Calls PyProof.Rows
set_option Elab.async false
set_option maxRecDepth 100000
set_option maxHeartbeats 400000
namespace Mine
theorem ConO.mono {w : World} {mean : ExcName → Option Value} {mg mb : Str → Option Value} {news : CbLed} {f : Addr} {d u d' u' : Nat} {pre pre' : Prop} {vs : List Value} {O : Tok → Tok → Obj} {P : Prop}
    (C : ConO w mean mg mb f news d u pre vs O P) (h : pre' → pre) (hd : d ≤ d') (hu : u ≤ u') : ConO w mean mg mb f news d' u' pre' vs O P :=
  ⟨fun dp un gd cn cs a ccd cl outer A₀ base h₀ L m s Q E B F X N T hk hp e1 e2 hR => C.1 dp un gd cn cs a ccd cl outer A₀ base h₀ L m s Q E B F X N T hk (h hp) (by lia) (by lia) hR, C.2⟩
theorem C2_zero (w : World) (mean : ExcName → Option Value) (mg mb : Str → Option Value) : C2 w mean mg mb 0 := fun news a b n k1 k2 k3 =>
  (step2 w mean mg mb (d := 0) (u := 80) (N := 0) (fun news a12 a3 b b1 b2 n k1 k2 k3 k4 k5 k6 => ⟨fun _ _ _ _ _ _ _ _ _ _ _ _ _ _ _ _ _ _ _ _ _ _ _ hp _ _ _ => absurd hp.1.n0 (by have := hp.2.2; lia), trivial⟩) news a b n k1 k2 k3).mono
    (fun h => ⟨h.1, h.2.1, fun h1 => by have := h.2.2; lia⟩) (by lia) (by lia)
theorem C2_all (w : World) (mean : ExcName → Option Value) (mg mb : Str → Option Value) : ∀ k, C2 w mean mg mb k
  | 0 => C2_zero w mean mg mb
  | k + 1 => fun news a b n k1 k2 k3 =>
    (step2 w mean mg mb (N := 4000 * 2 ^ k) (fun news a12 a3 b b1 b2 n k1 k2 k3 k4 k5 k6 => step3 w mean mg mb (C2_all w mean mg mb k) news a12 a3 b b1 b2 n k1 k2 k3 k4 k5 k6) news a b n k1 k2 k3).mono
      (fun h => ⟨h.1, h.2.1, fun h1 => by have := h.2.2; rw [Int.pow_succ] at this; lia⟩) (by lia) (by lia)
theorem c_div2 (w : World) (mean : ExcName → Option Value) (mg mb : Str → Option Value) (news : CbLed) (a b n : Int) (k1 k2 k3 : Tok) :
    ConO w mean mg mb 49 news 23 540 (P2 a b n ∧ n < 4194303) [.int a k1, .int b k2, .int n k3] (tup2I (a.fdiv b) (a.fmod b)) True :=
  (C2_all w mean mg mb 11 news a b n k1 k2 k3).mono (fun h => ⟨h.1, h.2, by have := h.2; lia⟩) (by lia) (by lia)
end Mine

end
-- DV
section
open PySem PySem.W PySem.Spec PySem.Calls PyProof.Rows
set_option Elab.async false
set_option maxRecDepth 100000
set_option maxHeartbeats 400000
namespace Mine
/-- the number that a list of digits stands for, the lowest first -/
noncomputable def val (n : Int) : List Int → Int
  | [] => 0
  | d :: r => d + 2 ^ n.toNat * val n r
noncomputable def Digs (n : Int) (l : List Int) : Prop := ∀ d ∈ l, 0 ≤ d ∧ d < 2 ^ n.toNat
theorem val_append (n : Int) (b : List Int) : ∀ a : List Int, val n (a ++ b) = val n a + 2 ^ (n.toNat * a.length) * val n b
  | [] => by simp [val]
  | d :: r => by
    rw [List.cons_append, val, val, val_append n b r, List.length_cons, Nat.mul_succ, Nat.add_comm (n.toNat * r.length), Int.pow_add]
    grind
theorem val_range {n : Int} : ∀ {l : List Int}, Digs n l → 0 ≤ val n l ∧ val n l < 2 ^ (n.toNat * l.length)
  | [], _ => by simp [val]
  | d :: r, h => by
    have ih := val_range (l := r) (fun x hx => h x (List.mem_cons_of_mem _ hx))
    have hd := h d (List.mem_cons_self ..)
    have hW := pow_pos2 n.toNat
    rw [val, List.length_cons, Nat.mul_succ, Nat.add_comm (n.toNat * r.length), Int.pow_add]
    have h1 : 2 ^ n.toNat * val n r ≤ 2 ^ n.toNat * (2 ^ (n.toNat * r.length) - 1) := Int.mul_le_mul_of_nonneg_left (by lia) (Int.le_of_lt hW)
    have h2 := Int.mul_nonneg (Int.le_of_lt hW) ih.1
    have h3 : (2 : Int) ^ n.toNat * (2 ^ (n.toNat * r.length) - 1) = 2 ^ n.toNat * 2 ^ (n.toNat * r.length) - 2 ^ n.toNat := by grind
    lia
/-- the digits from Lo to Hi -/
noncomputable def cut (ds : List Int) (Lo Hi : Int) : List Int := (ds.drop Lo.toNat).take (Hi - Lo).toNat
theorem le_ex {a b : Int} (h0 : 0 ≤ a) (h : a ≤ b) : ∃ x d : Nat, (x : Int) = a ∧ ((x + d : Nat) : Int) = b := by
  k_with_none
  obtain ⟨x, rfl⟩ := Int.eq_ofNat_of_zero_le h0
  obtain ⟨d, rfl⟩ := Int.le.dest h
  exact ⟨x, d, rfl, rfl⟩
theorem sub_n {x d : Nat} : (((x + d : Nat) : Int) - (x : Int)).toNat = d := by
  rw [← Int.natCast_sub (Nat.le_add_right ..), Int.toNat_natCast, Nat.add_sub_cancel_left]
theorem cut_len {ds : List Int} {Lo Hi : Int} (h0 : 0 ≤ Lo) (h1 : Lo ≤ Hi) (h2 : Hi ≤ ds.length) : ((cut ds Lo Hi).length : Int) = Hi - Lo := by
  obtain ⟨x, d, rfl, rfl⟩ := le_ex h0 h1
  unfold cut
  rw [sub_n, List.length_take, List.length_drop, Int.toNat_natCast, Nat.min_eq_left (Nat.le_sub_of_add_le' (Int.ofNat_le.mp h2)), ← Int.natCast_sub (Nat.le_add_right ..), Nat.add_sub_cancel_left]
theorem cut_digs {n : Int} {ds : List Int} {Lo Hi : Int} (h : Digs n ds) : Digs n (cut ds Lo Hi) := fun d hd => h d (List.mem_of_mem_drop (List.mem_of_mem_take hd))
theorem cut_split {ds : List Int} {Lo M Hi : Int} (h0 : 0 ≤ Lo) (h1 : Lo ≤ M) (h2 : M ≤ Hi) : cut ds Lo Hi = cut ds Lo M ++ cut ds M Hi := by
  obtain ⟨x, d, rfl, rfl⟩ := le_ex h0 h1
  obtain ⟨y, e, he, rfl⟩ := le_ex (Int.natCast_nonneg _) h2
  obtain rfl := Int.ofNat_inj.mp he
  unfold cut
  rw [sub_n, sub_n, Nat.add_assoc, sub_n, Int.toNat_natCast, Int.toNat_natCast, List.take_add, List.drop_drop]
theorem cut_all (ds : List Int) : cut ds 0 ds.length = ds := by unfold cut; simp
theorem cut_one {ds : List Int} {Lo Hi : Int} (h0 : 0 ≤ Lo) (h1 : Lo + 1 = Hi) (h2 : Hi ≤ ds.length) : cut ds Lo Hi = [ds.getD Lo.toNat 0] := by
  unfold cut
  have e : (Hi - Lo).toNat = 1 := by lia
  have hl : Lo.toNat < ds.length := by lia
  rw [e, List.drop_eq_getElem_cons hl, List.take_succ_cons, List.take_zero, List.getD_eq_getElem?_getD, List.getElem?_eq_getElem hl]; rfl
theorem mid_of {Lo Hi : Int} (h1 : Lo + 2 ≤ Hi) : Lo < (Lo + Hi).fdiv (2 ^ Int.toNat 1) ∧ (Lo + Hi).fdiv (2 ^ Int.toNat 1) < Hi ∧ (Lo + Hi).fdiv (2 ^ Int.toNat 1) = (Lo + Hi) / 2 := by
  have : (Lo + Hi).fdiv (2 ^ Int.toNat 1) = (Lo + Hi) / 2 := Int.fdiv_eq_ediv_of_nonneg _ (by decide)
  lia
theorem sh_val {n : Int} {ds : List Int} {M Hi Lo : Int} (hd : Digs n ds) (hn : 0 < n) (h0 : 0 ≤ Lo) (h1 : Lo ≤ M) (h2 : M ≤ Hi) (h3 : Hi ≤ ds.length) (hb : n * ds.length ≤ 16777216) :
    0 ≤ (M - Lo) * n ∧ (Builtin.Int.intBits (val n (cut ds M Hi)) : Int) + (M - Lo) * n ≤ 2 ^ 27 := by
  have r := val_range (cut_digs (Lo := M) (Hi := Hi) hd)
  have hl := cut_len (ds := ds) (Lo := M) (Hi := Hi) (by lia) h2 h3
  have a1 : 0 ≤ (M - Lo) * n := Int.mul_nonneg (by lia) (by lia)
  refine ⟨a1, sh_ok (k := n.toNat * (cut ds M Hi).length) r.1 r.2 ?_⟩
  have e1 : ((n.toNat * (cut ds M Hi).length : Nat) : Int) = n * (Hi - M) := by
    rw [Int.natCast_mul, hl]; congr 1; lia
  rw [e1]
  have h4 : n * (Hi - M) + (M - Lo) * n = n * (Hi - Lo) := by grind
  have h5 : n * (Hi - Lo) ≤ n * ds.length := Int.mul_le_mul_of_nonneg_left (by lia) (by lia)
  lia
theorem val_join {n : Int} {ds : List Int} {M Hi Lo : Int} (hn : 0 < n) (h0 : 0 ≤ Lo) (h1 : Lo ≤ M) (h2 : M ≤ Hi) (h3 : Hi ≤ ds.length) :
    val n (cut ds M Hi) * 2 ^ ((M - Lo) * n).toNat + val n (cut ds Lo M) = val n (cut ds Lo Hi) := by
  have hl := cut_len (ds := ds) (Lo := Lo) (Hi := M) (by omega) h1 (by lia)
  rw [cut_split h0 h1 h2, val_append]
  have e : ((M - Lo) * n).toNat = n.toNat * (cut ds Lo M).length := by
    have : ((n.toNat * (cut ds Lo M).length : Nat) : Int) = (M - Lo) * n := by
      rw [Int.natCast_mul, hl, Int.mul_comm]; congr 1; lia
    lia
  rw [e]; grind
noncomputable abbrev In2 (w : World) (mean : ExcName → Option Value) (mg mb : Str → Option Value) (f : Addr) (LL : CbLed) (ds : List Int) (n : Int) (kk : Nat) : Prop :=
  ∀ (Lo Hi : Int) (tl th : Tok), Con w mean mg mb f LL (kk + 1) (8 * kk + 40) (0 ≤ Lo ∧ Lo < Hi ∧ Hi ≤ ds.length ∧ Hi ≤ Lo + 2 ^ kk) [.int Lo tl, .int Hi th] (fun t => .int (val n (cut ds Lo Hi)) t)
noncomputable def In2H (w : World) (mean : ExcName → Option Value) (mg mb : Str → Option Value) (f : Addr) (LL : CbLed) (ds : List Int) (n : Int) (kk : Nat) : Prop := In2 w mean mg mb f LL ds n kk
theorem In2H.use {w : World} {mean : ExcName → Option Value} {mg mb : Str → Option Value} {f : Addr} {LL : CbLed} {ds : List Int} {n : Int} {kk : Nat} (h : In2H w mean mg mb f LL ds n kk) : In2 w mean mg mb f LL ds n kk := h
/-- one bound for the ledger's unknown rest -/
noncomputable def Low (d : Addr) (l : CbLed) : Prop := ∀ p ∈ l, @LT.lt Nat _ p.1 d
theorem Low.ne {d e : Addr} {l : CbLed} (h : Low d l) (hd : @LE.le Nat _ d e) : ∀ p ∈ l, p.1 ≠ e := fun p hp => Nat.ne_of_lt (Nat.lt_of_lt_of_le (h p hp) hd)
end Mine
namespace Mine
/-- a def's table of codes: still empty, or holding the inner def's code -/
noncomputable def TabSt (P : Addr) (ln co : Nat) (qual : Str) (T : CbLed) : Prop :=
  T = [(P, tabObj #[])] ∨ ∃ (c : Addr) (oc : Obj) (vs : Array Value) (t : Tok), T = [(c, oc), (P, tabObj #[rawInt ln, rawInt co, .ref c])] ∧ oc.data = .fields vs ∧ vs[1]? = some (.str qual t) ∧ @LT.lt Nat _ P c
theorem le64 {x : Int} (h0 : -18446744073709551616 < x) (h1 : x < 18446744073709551616) : bl x ≤ 64 := intBits_le (by lia)
theorem mul64 {x y : Int} (h0 : -18446744073709551616 < x) (h1 : x < 18446744073709551616) (g0 : -18446744073709551616 < y) (g1 : y < 18446744073709551616) : IntMulOk x y :=
  IntMulOk.of_le (le64 h0 h1) (le64 g0 g1) (by decide)
end Mine
namespace Mine
theorem viaKey {w : World} {mean : ExcName → Option Value} {mg mb : Str → Option Value} {A : Around} {f L : Addr} {LL : CbLed} {g : Heap} {vs : List Value} {Q E : Value → Shared → Prop} {s : Shared} (ds : List Int) (n : Int) (k : Nat) (N : News g L s.heap LL)
    (h1 : ∀ kk, In2H w mean mg mb f LL ds n kk) (h2 : In2H w mean mg mb f LL ds n k → wpAny (model prog w) A (call (.ref f) vs) Q E s) : wpAny (model prog w) A (call (.ref f) vs) Q E s := h2 (h1 k)
end Mine
namespace Mine
theorem tab_end {g h : Heap} {L : Addr} {a x1 x2 x3 : Addr × Obj} {c P : Addr} {oc ot : Obj} {rest : CbLed} (N : News g L h (a :: (c, oc) :: x1 :: x2 :: x3 :: (P, ot) :: rest)) :
    News g L h ((c, oc) :: (P, ot) :: rest) := fun p hp => N p (by
  rcases List.mem_cons.mp hp with h | h
  · subst h; (first | ((repeat first | exact List.mem_cons_self .. | refine List.mem_append_right _ ?_ | refine List.mem_cons_of_mem _ ?_); done) | simp)
  · rcases List.mem_cons.mp h with h | h
    · subst h; (first | ((repeat first | exact List.mem_cons_self .. | refine List.mem_append_right _ ?_ | refine List.mem_cons_of_mem _ ?_); done) | simp)
    · (first | ((try rw [h]); (repeat first | exact List.mem_cons_self .. | exact h | exact List.mem_append_left _ h | refine List.mem_append_right _ ?_ | refine List.mem_cons_of_mem _ ?_); done) | simp [h]))
theorem tab_end2 {g h : Heap} {L : Addr} {a x1 x2 x3 : Addr × Obj} {rest : CbLed} (N : News g L h (a :: x1 :: x2 :: x3 :: rest)) : News g L h rest := fun p hp => N p (by (first | ((try rw [hp]); (repeat first | exact List.mem_cons_self .. | exact hp | exact List.mem_append_left _ hp | refine List.mem_append_right _ ?_ | refine List.mem_cons_of_mem _ ?_); done) | simp [hp]))
/-- the contract of a def that holds an inner def: its table T may grow -/
noncomputable abbrev ConTab (w : World) (mean : ExcName → Option Value) (mg mb : Str → Option Value) (f P : Addr) (ln co : Nat) (qual : Str) (rest : CbLed) (d u : Nat) (pre : Prop) (vs : List Value) (R : Tok → Value) : Prop :=
  ∀ (dp un : Nat) (gd : Option (List Code)) (cn : Str) (cs : Scope) (a : Addr) (ccd : Value) (cl : List (Str × Addr)) (outer : List Env) (A₀ : Around) (base h₀ : Heap) (L : Addr) (m : Str → Option Value) (s : Shared) (Q E : Value → Shared → Prop) (T : CbLed),
    TabSt P ln co qual T → PyProof.Rows.Below A₀ base outer h₀ → Fr h₀ L s.heap m → (KL w.params).In h₀ → News h₀ L s.heap (T ++ rest) → Top qv looseN mean mg mb h₀ → cs.kind = .function →
    pre → dp + d < recursionLimit → un + u < cLine →
    (∀ (t : Tok) (h' : Heap) (tk' : Nat) (T' : CbLed), TabSt P ln co qual T' → Fr h₀ L h' m → News h₀ L h' (T' ++ rest) → Q (R t) { s with heap := h', toks := tk' }) →
      wpAny (model prog w) (ktrTop dp un gd cn cs L a ccd cl outer) (call (.ref f) vs) Q E s
noncomputable def madeOf (s : Option Stmt) (qual : Str) (cells : List (Str × Addr)) (dc nm : Value) (C : Addr) (ct : Value) : Obj := match s with
  | some (.FunctionDef n a b _ _ _ sc _ _ _) => fnMade n qual a b sc cells dc nm C ct
  | _ => W.listOf #[] 0
end Mine

end
-- DW
section
open PySem PySem.W PySem.Spec PySem.Calls PyProof.Rows
set_option Elab.async false
set_option maxRecDepth 100000
set_option maxHeartbeats 400000
namespace Mine
noncomputable def digs (n : Int) : Int → Nat → List Int
  | _, 0 => []
  | x, k + 1 => x % 2 ^ n.toNat :: digs n (x / 2 ^ n.toNat) k
theorem digs_len (n : Int) : ∀ (x : Int) (k : Nat), (digs n x k).length = k
  | _, 0 => rfl
  | x, k + 1 => by rw [digs, List.length_cons, digs_len]
theorem digs_digs (n : Int) : ∀ (x : Int) (k : Nat), Digs n (digs n x k)
  | _, 0 => fun _ h => absurd h List.not_mem_nil
  | x, k + 1 => fun d hd => by
    rw [digs] at hd
    rcases List.mem_cons.mp hd with h | h
    · have hW := pow_pos2 n.toNat
      subst h; exact ⟨Int.emod_nonneg _ (by lia), Int.emod_lt_of_pos _ hW⟩
    · exact digs_digs n _ k d h
theorem val_digs (n : Int) : ∀ (k : Nat) (x : Int), 0 ≤ x → x < 2 ^ (n.toNat * k) → val n (digs n x k) = x
  | 0, x, h0, h1 => by simp at h1; simp [digs, val]; lia
  | k + 1, x, h0, h1 => by
    have hW := pow_pos2 n.toNat
    rw [digs, val, val_digs n k _ (Int.ediv_nonneg h0 (Int.le_of_lt hW))]
    · have := Int.mul_ediv_add_emod x (2 ^ n.toNat); lia
    · refine (Int.ediv_lt_iff_lt_mul hW).mpr ?_
      rw [← Int.pow_add, ← Nat.mul_succ]; exact h1
theorem digs_add (n : Int) : ∀ (i : Nat) (x : Int) (j : Nat), 0 ≤ x → digs n x (i + j) = digs n (x % 2 ^ (n.toNat * i)) i ++ digs n (x / 2 ^ (n.toNat * i)) j
  | 0, x, j, h => by simp [digs]
  | i + 1, x, j, h => by
    have hW := pow_pos2 n.toNat
    have hV := pow_pos2 (n.toNat * i)
    rw [show i + 1 + j = (i + j) + 1 by lia, digs, digs, digs_add n i _ j (Int.ediv_nonneg h (Int.le_of_lt hW)), List.cons_append]
    have e : (2 : Int) ^ (n.toNat * (i + 1)) = 2 ^ n.toNat * 2 ^ (n.toNat * i) := by rw [← Int.pow_add]; congr 1; rw [Nat.mul_succ]; lia
    have hx := Int.mul_ediv_add_emod x (2 ^ n.toNat)
    have e1 : x % 2 ^ (n.toNat * (i + 1)) % 2 ^ n.toNat = x % 2 ^ n.toNat := by
      rw [e]; exact Int.emod_emod_of_dvd x (Int.dvd_mul_right _ _)
    have e2 : x % 2 ^ (n.toNat * (i + 1)) / 2 ^ n.toNat = x / 2 ^ n.toNat % 2 ^ (n.toNat * i) := by
      rw [e]
      have q1 := Int.mul_ediv_add_emod (x / 2 ^ n.toNat) (2 ^ (n.toNat * i))
      have q2 := Int.emod_lt_of_pos x hW
      have q3 := Int.emod_nonneg x (show (2 : Int) ^ n.toNat ≠ 0 by lia)
      have q4 := Int.emod_lt_of_pos (x / 2 ^ n.toNat) hV
      have q5 := Int.emod_nonneg (x / 2 ^ n.toNat) (show (2 : Int) ^ (n.toNat * i) ≠ 0 by lia)
      generalize hr : x % 2 ^ n.toNat = r at *
      generalize ht : x / 2 ^ n.toNat % 2 ^ (n.toNat * i) = t at *
      generalize hp : x / 2 ^ n.toNat / 2 ^ (n.toNat * i) = p at *
      generalize hy : x / 2 ^ n.toNat = y at *
      generalize (2 : Int) ^ n.toNat = W at *
      generalize (2 : Int) ^ (n.toNat * i) = V at *
      have q6 : W * t + r < W * V := by
        have : W * t ≤ W * (V - 1) := Int.mul_le_mul_of_nonneg_left (by lia) (Int.le_of_lt hW)
        have : W * (V - 1) = W * V - W := by grind
        lia
      have q7 : 0 ≤ W * t + r := by have := Int.mul_nonneg (Int.le_of_lt hW) q5; lia
      have hx2 : x = (W * t + r) + (W * V) * p := by rw [← hx, ← q1]; grind
      rw [hx2, Int.add_mul_emod_self_left, Int.emod_eq_of_lt q7 q6, Int.add_comm, Int.add_mul_ediv_left _ _ (by lia), Int.ediv_eq_zero_of_lt q3 q2]; lia
    have e3 : x / 2 ^ n.toNat / 2 ^ (n.toNat * i) = x / 2 ^ (n.toNat * (i + 1)) := by rw [e, Int.ediv_ediv_of_nonneg (Int.le_of_lt hW)]
    rw [e1, e2, e3]
theorem xor_low {x : Int} {k : Nat} (hx : 0 ≤ x) : Builtin.bitXor x (x.fdiv (2 ^ k) * 2 ^ k) = x % 2 ^ k := by
  have hW := pow_pos2 k
  rw [Int.fdiv_eq_ediv_of_nonneg _ (Int.le_of_lt hW), bitXor_and]
  obtain ⟨a, rfl⟩ := Int.eq_ofNat_of_zero_le hx
  have e : ((a : Int) / 2 ^ k * 2 ^ k) = ((a / 2 ^ k * 2 ^ k : Nat) : Int) := by push_cast; rfl
  rw [e, bitAnd_pp hx (Int.natCast_nonneg _), Int.toNat_natCast, Int.toNat_natCast]
  have h1 : a &&& (a / 2 ^ k * 2 ^ k) = a / 2 ^ k * 2 ^ k := by
    rw [← Nat.shiftRight_eq_div_pow, ← Nat.shiftLeft_eq]
    apply Nat.eq_of_testBit_eq
    intro i
    simp only [Nat.testBit_and, Nat.testBit_shiftLeft, Nat.testBit_shiftRight]
    by_cases hi : i ≥ k
    · have : k + (i - k) = i := by lia
      simp [hi, this]
    · simp [hi]
  rw [h1]
  have h2 := Nat.div_add_mod a (2 ^ k)
  have h3 : ((a : Int)) % 2 ^ k = ((a % 2 ^ k : Nat) : Int) := by push_cast; rfl
  rw [h3]
  have h4 : a / 2 ^ k * 2 ^ k = 2 ^ k * (a / 2 ^ k) := Nat.mul_comm _ _
  lia
noncomputable def put (n : Int) (ns : List Int) (x Lo Hi : Int) : List Int := ns.take Lo.toNat ++ digs n x (Hi - Lo).toNat ++ ns.drop Hi.toNat
theorem put_len {n : Int} {ns : List Int} {x Lo Hi : Int} (h0 : 0 ≤ Lo) (h1 : Lo ≤ Hi) (h2 : Hi ≤ ns.length) : (put n ns x Lo Hi).length = ns.length := by
  obtain ⟨y, d, rfl, rfl⟩ := le_ex h0 h1
  have h3 := Int.ofNat_le.mp h2
  unfold put; rw [sub_n, Int.toNat_natCast, Int.toNat_natCast, List.length_append, List.length_append, digs_len, List.length_take, List.length_drop, Nat.min_eq_left (Nat.le_trans (Nat.le_add_right ..) h3), Nat.add_sub_cancel' h3]
theorem put_one {n : Int} {ns : List Int} {x Lo Hi : Int} (h0 : 0 ≤ Lo) (h1 : Lo + 1 = Hi) (h2 : Hi ≤ ns.length) (hx0 : 0 ≤ x) (hx1 : x < 2 ^ (n.toNat * (Hi - Lo).toNat)) : ns.set Lo.toNat x = put n ns x Lo Hi := by
  unfold put
  have e : (Hi - Lo).toNat = 1 := by lia
  rw [e, Nat.mul_one] at hx1
  have e2 : Hi.toNat = Lo.toNat + 1 := by lia
  rw [e, e2, digs, digs, Int.emod_eq_of_lt hx0 hx1, List.set_eq_take_append_cons_drop, if_pos (by lia), List.append_assoc]; rfl
theorem put_two {n : Int} {ns : List Int} {x Lo M Hi : Int} (h0 : 0 ≤ Lo) (h1 : Lo ≤ M) (h2 : M ≤ Hi) (h3 : Hi ≤ ns.length) (hx0 : 0 ≤ x) :
    put n (put n ns (x % 2 ^ (n.toNat * (M - Lo).toNat)) Lo M) (x / 2 ^ (n.toNat * (M - Lo).toNat)) M Hi = put n ns x Lo Hi := by
  obtain ⟨y, d, rfl, rfl⟩ := le_ex h0 h1
  obtain ⟨z, e, hz, rfl⟩ := le_ex (Int.natCast_nonneg _) h2
  obtain rfl := Int.ofNat_inj.mp hz
  have h4 := Int.ofNat_le.mp h3
  unfold put
  rw [sub_n, sub_n, Nat.add_assoc, sub_n, Int.toNat_natCast, Int.toNat_natCast, Int.toNat_natCast]
  have el : (ns.take y ++ digs n (x % 2 ^ (n.toNat * d)) d).length = y + d := by
    rw [List.length_append, digs_len, List.length_take, Nat.min_eq_left (Nat.le_trans (Nat.le_trans (Nat.le_add_right ..) (Nat.le_add_right ..)) h4)]
  rw [List.take_left' el, ← Nat.add_assoc, ← el, List.drop_append, List.drop_eq_nil_of_le (Nat.le_add_right ..), List.nil_append, Nat.add_sub_cancel_left, el, List.drop_drop, digs_add n _ _ _ hx0]
  simp only [List.append_assoc]
theorem put_all {n : Int} {ns : List Int} {x : Int} : put n ns x 0 ns.length = digs n x ns.length := by
  unfold put; simp
theorem cnt {a n : Int} (hn : 0 < n) : 0 ≤ ((bl a : Int) + n - 1).fdiv n ∧ (bl a : Int) ≤ n * ((bl a : Int) + n - 1).fdiv n ∧ n * ((bl a : Int) + n - 1).fdiv n ≤ (bl a : Int) + n - 1 ∧ (0 < bl a → 1 ≤ ((bl a : Int) + n - 1).fdiv n) ∧ (bl a = 0 → ((bl a : Int) + n - 1).fdiv n = 0) := by
  have e := Int.mul_fdiv_add_fmod ((bl a : Int) + n - 1) n
  have f := fm ((bl a : Int) + n - 1) hn
  have h0 := fdiv_nn (show 0 ≤ (bl a : Int) + n - 1 by lia) (Int.le_of_lt hn)
  refine ⟨h0, by lia, by lia, fun h => ?_, fun h => by rw [h, Int.fdiv_eq_ediv_of_nonneg _ (Int.le_of_lt hn)]; exact Int.ediv_eq_zero_of_lt (by lia) (by lia)⟩
  rcases Int.lt_or_le 0 (((bl a : Int) + n - 1).fdiv n) with h2 | h2
  · omega
  · have : ((bl a : Int) + n - 1).fdiv n = 0 := by omega
    rw [this] at e; simp at e; omega
theorem bl_pos {a : Int} (h : 0 < a) : 0 < bl a := by
  have := bl_up (Int.le_of_lt h)
  rcases Nat.eq_zero_or_pos (bl a) with h2 | h2
  · rw [h2] at this; simp at this; lia
  · exact h2
theorem lt_pow_cnt {a n : Int} (ha : 0 ≤ a) (hn : 0 < n) : a < 2 ^ (n.toNat * (((bl a : Int) + n - 1).fdiv n).toNat) := by
  have c := cnt (a := a) hn
  have : bl a ≤ n.toNat * (((bl a : Int) + n - 1).fdiv n).toNat := by
    have e : ((n.toNat * (((bl a : Int) + n - 1).fdiv n).toNat : Nat) : Int) = n * ((bl a : Int) + n - 1).fdiv n := by
      rw [Int.natCast_mul, Int.toNat_of_nonneg (Int.le_of_lt hn), Int.toNat_of_nonneg c.1]
    omega
  refine Int.lt_of_lt_of_le (bl_up ha) ?_
  have := Nat.pow_le_pow_right (n := 2) (by decide) this
  exact_mod_cast this
/-- the two halves of x at Lo .. M .. Hi -/
theorem halves {n x Lo M Hi : Int} (hn : 0 < n) (h1 : Lo ≤ M) (h2 : M ≤ Hi) (hx0 : 0 ≤ x) (hx1 : x < 2 ^ (n.toNat * (Hi - Lo).toNat)) :
    ((M - Lo) * n).toNat = n.toNat * (M - Lo).toNat ∧ 0 ≤ x % 2 ^ (n.toNat * (M - Lo).toNat) ∧ x % 2 ^ (n.toNat * (M - Lo).toNat) < 2 ^ (n.toNat * (M - Lo).toNat) ∧
    0 ≤ x / 2 ^ (n.toNat * (M - Lo).toNat) ∧ x / 2 ^ (n.toNat * (M - Lo).toNat) < 2 ^ (n.toNat * (Hi - M).toNat) := by
  have hW := pow_pos2 (n.toNat * (M - Lo).toNat)
  refine ⟨?_, Int.emod_nonneg _ (by lia), Int.emod_lt_of_pos _ hW, Int.ediv_nonneg hx0 (Int.le_of_lt hW), ?_⟩
  · have e : ((n.toNat * (M - Lo).toNat : Nat) : Int) = (M - Lo) * n := by
      rw [Int.natCast_mul, Int.toNat_of_nonneg (Int.le_of_lt hn), Int.toNat_of_nonneg (by lia), Int.mul_comm]
    lia
  · refine (Int.ediv_lt_iff_lt_mul hW).mpr ?_
    rw [← Int.pow_add, ← Nat.mul_add]
    have : (Hi - M).toNat + (M - Lo).toNat = (Hi - Lo).toNat := by lia
    rw [this]; exact hx1
end Mine

end
-- L2
section
open PySem PySem.W PySem.Spec PySem.Calls PyProof.Rows
set_option Elab.async false
set_option maxRecDepth 100000
set_option maxHeartbeats 400000
namespace Mine
noncomputable def stAt : Nat → List Stmt → Stmt
  | 0, s :: _ => s
  | n + 1, _ :: r => stAt n r
  | _, [] => .Pass default
noncomputable def asVal : Stmt → Expr
  | .Assign _ v _ => v
  | _ => .Tuple [] 0 default
noncomputable def cmpIter : Expr → Expr
  | .ListComp _ (⟨_, i, _, _⟩ :: _) _ _ => i
  | _ => .Tuple [] 0 default
noncomputable def arg0 : Expr → Expr
  | .Call _ (a :: _) _ _ => a
  | _ => .Tuple [] 0 default
noncomputable def elts : Expr → List Expr
  | .List l _ => l
  | _ => []
noncomputable abbrev firstsE : List Expr := elts (arg0 (cmpIter (asVal (stAt 0 fb25))))
/-- an expression that gives an int and changes nothing -/
noncomputable def PInt (w : World) (env : Env) (e : Expr) (k : Int) : Prop := (∀ rest, starEach (e :: rest) env = (false, eval e env) :: starEach rest env) ∧ ∀ (A : Around) (E : Value → Shared → Prop) (s : Shared) (Q : Value → Shared → Prop), (∀ t tk', Q (.int k t) { s with toks := tk' }) → wpAny (model prog w) A (eval e env) Q E s
theorem PInt.const {w : World} {env : Env} {k : Int} {kk : Nat} {p : Pos} : PInt w env (.Constant (.int k) kk p) k := ⟨fun _ => rfl, fun A E s Q h => wpAny_Constant_int (h _ _)⟩
theorem firsts_all (w : World) (env : Env) : ∃ e0 e1 e2 e3 e4 e5, firstsE = [e0, e1, e2, e3, e4, e5] ∧ PInt w env e0 7 ∧ PInt w env e1 25 ∧ PInt w env e2 7 ∧ PInt w env e3 (-2 * 3 ^ 900) ∧ PInt w env e4 (5 * 3 ^ 900 + 1) ∧ PInt w env e5 0 := by
  k_with_none
  refine ⟨_, _, _, _, _, _, rfl, .const, .const, .const, ?_, ?_, .const⟩
  · refine ⟨fun _ => rfl, ?_⟩
    intro A E s Q h
    k_steps
    exact h _ _
  · refine ⟨fun _ => rfl, ?_⟩
    intro A E s Q h
    k_steps
    exact h _ _
end Mine

end
-- SX
section
open PySem PySem.W PySem.Spec PySem.Calls PyProof.Rows
set_option Elab.async false
set_option maxRecDepth 100000
set_option maxHeartbeats 400000
namespace Mine
theorem sum_bits : ∀ (l : List Int) (m : Nat), (∀ x ∈ l, bl x ≤ m) → bl l.sum ≤ m + l.length
  | [], m, _ => by show bl 0 ≤ _; exact Nat.le_trans (by decide : bl 0 ≤ 0) (Nat.zero_le _)
  | x :: r, m, h => by
    have h1 := h x (List.mem_cons_self ..)
    have h2 := sum_bits r m fun y hy => h y (List.mem_cons_of_mem _ hy)
    rw [List.sum_cons, List.length_cons]
    refine Nat.le_trans (intBits_add_le h1 h2) ?_
    rw [Nat.max_eq_right (by lia)]; lia
theorem ints_mem : ∀ {vs : List Value} {ns : List Int} {x : Value}, IntsAre vs ns → x ∈ vs → ∃ k t, x = .int k t ∧ k ∈ ns
  | _, _, _, .cons n t r, h => by
    rcases List.mem_cons.mp h with rfl | h
    · exact ⟨n, t, rfl, List.mem_cons_self ..⟩
    · obtain ⟨k, t', h1, h2⟩ := ints_mem r h
      exact ⟨k, t', h1, List.mem_cons_of_mem _ h2⟩
theorem ints_of : ∀ (vs : List Value) (ns : List Int), (∀ x ∈ vs, ∃ k t, x = .int k t ∧ k ∈ ns) → ∃ ks, IntsAre vs ks ∧ ∀ k ∈ ks, k ∈ ns
  | [], _, _ => ⟨[], .nil, fun _ h => nomatch h⟩
  | v :: r, ns, h => by
    obtain ⟨k, t, rfl, hk⟩ := h v (List.mem_cons_self ..)
    obtain ⟨ks, h1, h2⟩ := ints_of r ns fun x hx => h x (List.mem_cons_of_mem _ hx)
    exact ⟨k :: ks, .cons k t h1, fun y hy => by
      rcases List.mem_cons.mp hy with rfl | hy
      · exact hk
      · exact h2 y hy⟩
theorem pick_ints {vs : List Value} {ns : List Int} (hi : IntsAre vs ns) (i : Nat) : ∃ ks, IntsAre (slicePick vs.toArray (some (i : Int)) none (some 6)).toList ks ∧ (∀ k ∈ ks, k ∈ ns) ∧ ks.length ≤ ns.length := by
  obtain ⟨ks, h1, h2⟩ := ints_of (slicePick vs.toArray (some (i : Int)) none (some 6)).toList ns fun x hx => by
    unfold slicePick at hx
    obtain ⟨j, _, hj⟩ := List.mem_filterMap.mp (by simpa using hx)
    exact ints_mem hi (List.mem_of_getElem? hj)
  refine ⟨ks, h1, h2, ?_⟩
  rw [← h1.length, ← hi.length]
  unfold slicePick
  show (List.filterMap _ _).length ≤ _
  refine Nat.le_trans (List.length_filterMap_le ..) ?_
  refine sliceRange_length_le _ _ _ _ (fun _ => ?_) (fun h => ?_)
  · unfold sliceBounds; simp; lia
  · unfold sliceBounds at h; simp at h
theorem sum_led {prog : Program} {w : World} {A : Around} {E : Value → Shared → Prop} {s : Shared} {l : Addr} {vs : List Value} {ns : List Int} {Q : Value → Shared → Prop} (hh : A.handled = none) (hl : s.heap.IsList l vs.toArray) (hi : IntsAre vs ns)
    (h : ∀ h' tk t', (∀ b o, s.heap.get? b = some o → h'.get? b = some o) → Q (.int ns.sum t') { s with heap := h', toks := tk }) :
    wpAny (model prog w) A (call (.builtin "sum") [.ref l]) Q E s := by
  obtain ⟨xs, hx⟩ := hi.allInts.items
  have hn : numsOf vs.toArray.toList = ns := by rw [show vs.toArray.toList = vs from rfl, hi.numsOf]
  rw [hx] at hl hn
  rw [nums_intItems] at hn
  refine sum_intListG hh hl fun h' tk t' hk => ?_
  have := h h' tk t' hk
  rw [preSum_eq, List.take_of_length_le (by simp), hn]
  exact this
theorem ints_snoc : ∀ {a : List Value} {x : List Int} {k : Int} {t : Tok}, IntsAre a x → IntsAre (a ++ [.int k t]) (x ++ [k])
  | _, _, k, t, .nil => .cons k t .nil
  | _, _, _, _, .cons n t r => .cons n t (ints_snoc r)
end Mine

end
-- L3
section
open PySem PySem.W PySem.Spec PySem.Calls PyProof.Rows PyProof.Rows.LCg
set_option Elab.async false
set_option maxRecDepth 100000
set_option maxHeartbeats 1000000
namespace Mine
noncomputable abbrev lawE (L fa : Addr) (cd : Value) : Env := envOfC (Str.ofString "law") fs25 L fa cd
noncomputable def firsts : List Int := [7, 25, 7, -2 * 3 ^ 900, 5 * 3 ^ 900 + 1, 0]
theorem firsts_eval (w : World) (env : Env) (A : Around) (E : Value → Shared → Prop) (s : Shared) (Q : List Value → Shared → Prop) (p : Pos)
    (h : ∀ (vs : List Value) (tk : Nat), IntsAre vs firsts → Q vs { s with toks := tk }) :
    wpAny (model prog w) A (spliced (backTo p (starEach firstsE env))) Q E s := by
  obtain ⟨e0, e1, e2, e3, e4, e5, he, p0, p1, p2, p3, p4, p5⟩ := firsts_all w env
  rw [he]
  refine spliced_more (p0.2 _ _ _ _ fun t0 k0 => ?_) (p0.1 _)
  refine spliced_more (p1.2 _ _ _ _ fun t1 k1 => ?_) (p1.1 _)
  refine spliced_more (p2.2 _ _ _ _ fun t2 k2 => ?_) (p2.1 _)
  refine spliced_more (p3.2 _ _ _ _ fun t3 k3 => ?_) (p3.1 _)
  refine spliced_more (p4.2 _ _ _ _ fun t4 k4 => ?_) (p4.1 _)
  refine spliced_more (p5.2 _ _ _ _ fun t5 k5 => ?_) (p5.1 _)
  refine spliced_none ?_
  exact h [.int 7 t0, .int 25 t1, .int 7 t2, .int (-2 * 3 ^ 900) t3, .int (5 * 3 ^ 900 + 1) t4, .int 0 t5] _ (.cons _ _ (.cons _ _ (.cons _ _ (.cons _ _ (.cons _ _ (.cons _ _ .nil))))))
theorem ints_get : ∀ {vs : List Value} {ns : List Int} {i : Nat} {x : Value}, IntsAre vs ns → vs[i]? = some x → ∃ k t, x = .int k t ∧ ns[i]? = some k
  | _, _, 0, _, .cons n t _, h => by cases h; exact ⟨n, t, rfl, rfl⟩
  | _, _, i + 1, _, .cons n t r, h => by
    obtain ⟨k, t', h1, h2⟩ := ints_get (i := i) r (by simpa using h)
    exact ⟨k, t', h1, by simpa using h2⟩
theorem law_s1 (w : World) {mean : ExcName → Option Value} {mg mb : Str → Option Value} {h₀ : Heap} {L fa : Addr} {cd : Value} {s : Shared} {m : Str → Option Value} {news : List (Addr × Obj)} {osc : Obj} {ax : Addr} {vs : List Value} {xs : List Int} {Q : Flow → Shared → Prop} {E : Value → Shared → Prop}
    (F : Fr h₀ L s.heap m) (X : (KL w.params).In h₀) (T : Top qv looseN mean mg mb h₀) (N : News h₀ L s.heap ((L + 1, osc) :: news)) (hsc : osc.data = .cell (some (.ref ax))) (hl : h₀.IsList ax vs.toArray) (hi : IntsAre vs xs) (hlen : xs.length ≤ 63) (hbits : ∀ x ∈ xs, bl x ≤ 1048576)
    (hQ : ∀ (D : Addr) (h' : Heap) (tk : Nat) (ys : List Value) (ns : List Int), IntsAre ys ns → ns.length = 6 → (∀ n ∈ ns, bl n ≤ 1048640) → Fr h₀ L h' (fun z => if z = Str.ofString "cells" then some (.ref D) else m z) → News h₀ L h' ((D, lst ys) :: (L + 1, osc) :: news) → (∀ p ∈ (L + 1, osc) :: news, p.1 < D) → Q .next { s with heap := h', toks := tk }) :
    PySem.Challenge.rw_uc0065_01 = PySem.Challenge.rw_uc0065_01 → KL = KL →
    wpAny (model prog w) (callerA.deeper (lawE L fa cd)) (exec (stAt 0 fb25) (lawE L fa cd)) Q E s := by
  k_with_none
  k_fill
  intro hrow hKL; clear hrow hKL
  refine asg_comp (cl := _) (F₀ := F) rfl (by with_unfolding_all rfl) (by with_unfolding_all rfl) (by decide) rfl (by decide) rfl rfl (fun _ => rfl) ?_
  show wpAny _ _ (eval (.Call (.Name _ _) [.List firstsE _] [] _) _) _ _ _
  generalize hfe : firstsE = fe
  k_steps
  subst hfe
  refine firsts_eval _ _ _ _ _ _ _ fun fs fk hfs => ?_
  k_steps
  rename_i l9 h9 F9 N9 lt9
  have hl9 := News.isList N9 (List.mem_cons_self ..)
  refine call_enumerate_list hl9 fun h10 hE10 hI10 hz10 hk10 => ?_
  refine wpAny_pyIter_enum hE10 ?_
  dsimp only at hE10 hI10 hz10 hk10 hl9 ⊢
  have hl10 : h10.IsList l9 fs.toArray := let ⟨o, e, r⟩ := hl9; ⟨o, hk10 _ _ e, r⟩
  have hl9lt : l9 < h9.objs.size := Heap.lt_size (N9 _ (List.mem_cons_self ..)).1
  have hfn : fs.toArray.size = 6 := by have := hfs.length; simpa [firsts] using this
  have fr0 : ∀ b, h9.objs.size ≤ b → h₀.get? b = none := fun b hb => by
    cases e : h₀.get? b with
    | none => rfl
    | some o => exact absurd (Heap.lt_size (F9.keep b o e)) (Nat.not_lt.mpr hb)
  refine fun Go k => k (h9.objs.size + 1) [h9.objs.size + 1, h9.objs.size, l9] [h9.objs.size + 1, h9.objs.size] fs.toArray.size _ _ _ m ((L + 1, osc) :: news) _ (fun i ys g => g = s.gens ∧ ∃ ns : List Int, IntsAre ys ns ∧ ns.length = i ∧ ∀ n ∈ ns, bl n ≤ 1048640) rfl (KTurns.ofWalksU (WalksT.enumerate rfl (h9.objs.size + 1) h9.objs.size l9 (Nat.succ_ne_self _) (Nat.ne_of_lt (Nat.lt_succ_of_lt hl9lt)) (Nat.ne_of_lt hl9lt) fs.toArray).toU) (by rw [hfn]; decide) (asg_pair rfl rfl rfl rfl (by decide) (fun i vals ⟨t, x, _, e⟩ => ⟨_, _, e⟩)) ?_ ⟨⟨_, hE10⟩, hI10, hl10⟩ ?_ (F9.keptAll hk10) (fun p hp => ⟨hk10 _ _ (N9 p (List.mem_cons_of_mem _ hp)).1, (N9 p (List.mem_cons_of_mem _ hp)).2⟩) ?_ ⟨rfl, [], .nil, rfl, (fun n h => nomatch h)⟩ ?_ ?_
  · exact fun s' Q' E' st hq => (WalksT.enumerate rfl (h9.objs.size + 1) h9.objs.size l9 (Nat.succ_ne_self _) (Nat.ne_of_lt (Nat.lt_succ_of_lt hl9lt)) (Nat.ne_of_lt hl9lt) fs.toArray).toU.self 0 s' Q' E' st hq
  · intro b hb
    simp only [List.mem_cons, List.not_mem_nil, or_false] at hb
    have hLs := F9.ns.lt
    rcases hb with rfl | rfl | rfl
    · exact ⟨by rw [hz10]; exact Nat.lt_succ_self _, Nat.ne_of_gt (Nat.lt_succ_of_lt hLs), fr0 _ (Nat.le_succ _)⟩
    · exact ⟨by rw [hz10]; exact Nat.lt_succ_of_lt (Nat.lt_succ_self _), Nat.ne_of_gt hLs, fr0 _ (Nat.le_refl _)⟩
    · exact ⟨by rw [hz10]; exact Nat.lt_succ_of_lt (Nat.lt_succ_of_lt hl9lt), (N9 _ (List.mem_cons_self ..)).2⟩
  · intro p hp hw
    have := Heap.lt_size (N9 p (List.mem_cons_of_mem _ hp)).1
    simp only [List.mem_cons, List.not_mem_nil, or_false] at hw
    rcases hw with h | h
    · rw [h] at this; exact absurd this (Nat.not_lt.mpr (Nat.le_succ _))
    · rw [h] at this; exact absurd this (Nat.lt_irrefl _)
  · rintro i ys C oC D gl h tk g m₂ E' hlt ⟨rfl, ns, hns, hnl, hnb⟩ hC ⟨a, b, ⟨t, x, hx, hab⟩, ha, hb⟩ F8 N8 hlow hDC
    cases hab
    refine wpAny_tests_nil ?_
    simp only [if_true]
    rw [List.cons_append] at N8
    obtain ⟨f, tf, rfl, hf⟩ := ints_get hfs (by simpa using hx)
    have hi6 : i < 6 := by rw [hfn] at hlt; exact hlt
    have hi0 : (0 : Int) ≤ (i : Int) := Int.natCast_nonneg i
    k_steps
    obtain ⟨ks, hks, hkm, hkl⟩ := pick_ints hi i
    refine sum_led rfl (News.isList (by assumption) (List.mem_cons_self ..)) hks fun h11 tk11 t11 hk11 => ?_
    have hfb : bl f ≤ 1500 := by
      have hall : ∀ x ∈ firsts, bl x ≤ 1500 := by decide +kernel
      exact hall f (List.mem_of_getElem? hf)
    have hsb : bl ks.sum ≤ 1048639 := Nat.le_trans (sum_bits ks 1048576 fun x hx => hbits x (hkm x hx)) (by omega)
    have hF11 : Fr h₀ L h11 m := Fr.keptAll (by assumption) hk11
    have hN11 : News h₀ L h11 ((C, oC) :: (D, lst ys) :: (L + 1, osc) :: (news ++ gl)) := fun p hp => by
      have := (by assumption : News h₀ L _ (_ :: (C, oC) :: (D, lst ys) :: (L + 1, osc) :: (news ++ gl))) p (List.mem_cons_of_mem _ hp)
      exact ⟨hk11 _ _ this.1, this.2⟩
    k_steps
    exact fun Go k => k _ _ _ hF11 hN11 ⟨rfl, ns ++ [f + ks.sum], ints_snoc hns, by simp [hnl], fun n hn => by
      rcases List.mem_append.mp hn with h | h
      · exact hnb n h
      · rw [List.mem_singleton.mp h]
        exact Nat.le_trans (intBits_add_le hfb hsb) (by decide)⟩
  · rintro ys g ⟨rfl, ns, hns, hnl, hnb⟩ D h' tk F7 N7 hlow
    exact hQ D h' tk ys ns hns (by rw [hnl, hfn]) hnb F7 N7 hlow
end Mine

end
-- LF
section
open PySem PySem.W PySem.Spec PySem.Calls PyProof.Rows PyProof.Rows.LCg
set_option Elab.async false
set_option maxRecDepth 100000
set_option maxHeartbeats 400000
namespace Mine
/-- how a turn of a for ends (generators may have moved on) -/
noncomputable def ForEnd (h₀ : Heap) (L : Addr) (gl : List (Addr × Obj)) (J : (Str → Option Value) → List (Addr × Obj) → Array GenState → Prop) (s₁ s₃ : Shared) : Prop :=
  ∀ Go : Shared → Prop, (∀ (h3 : Heap) (tk3 : Nat) (g3 : Array GenState) (m3 : Str → Option Value) (news3 : List (Addr × Obj)), Fr h₀ L h3 m3 → News h₀ L h3 (news3 ++ gl) → J m3 news3 g3 → Go { s₁ with heap := h3, toks := tk3, gens := g3 }) → Go s₃
noncomputable def ForPost (h₀ : Heap) (L : Addr) (gl : List (Addr × Obj)) (J : (Str → Option Value) → List (Addr × Obj) → Array GenState → Prop) (s₁ : Shared) (Q : Flow → Shared → Prop) (f : Flow) (s₃ : Shared) : Prop :=
  match f with
  | .ret v => Q (.ret v) s₃
  | .brk => Q .next s₃
  | _ => ForEnd h₀ L gl J s₁ s₃
noncomputable def ForInv (h₀ : Heap) (L : Addr) (s : Shared) (n : Nat) (St : Nat → Heap → Prop) (J : Nat → (Str → Option Value) → List (Addr × Obj) → Array GenState → Prop) (k : Nat) (s' : Shared) : Prop :=
  ∀ Go : Nat → Shared → Prop, (∀ (h : Heap) (tk : Nat) (g : Array GenState) (m' : Str → Option Value) (news' : List (Addr × Obj)) (i : Nat), St i h → Fr h₀ L h m' → News h₀ L h news' → J i m' news' g → i ≤ n → Go (n + 1 - i) { s with heap := h, toks := tk, gens := g }) → Go k s'
theorem for_g {prog : Program} {w : World} {A : Around} {E : Value → Shared → Prop} {s : Shared} {h₀ : Heap} {L : Addr} {env : Env} {target : Expr} {body : List Stmt} {Q : Flow → Shared → Prop} {I : Addr} {fp wr : List Addr} {n : Nat} {P Md : Nat → Value → Heap → Prop} {St : Nat → Heap → Prop} {PI : Obj → Prop} {m : Str → Option Value} {news : List (Addr × Obj)}
    (W : KTurns prog w A target I fp wr n P Md St) (hIf : I ∈ fp) (hIo : ∀ i h, St i h → ∃ o, h.get? I = some o ∧ PI o) (hst : St 0 s.heap) (hfp : ∀ b ∈ fp, b ≠ L ∧ h₀.get? b = none) (F : Fr h₀ L s.heap m) (N : News h₀ L s.heap news)
    (J : Nat → (Str → Option Value) → List (Addr × Obj) → Array GenState → Prop) (hJ : ∀ i m news g, J i m news g → ∀ p ∈ news, p.1 ∉ wr) (h0 : J 0 m news s.gens)
    (turn : ∀ (i : Nat) (v : Value) (m₁ : Str → Option Value) (news₁ gl : List (Addr × Obj)) (h : Heap) (tk : Nat) (g : Array GenState) (E' : Value → Shared → Prop), i < n → P i v h → J i m₁ news₁ g → Fr h₀ L h m₁ → News h₀ L h (news₁ ++ gl) → (∀ p ∈ gl, p.1 ∈ fp) → (∃ o, (I, o) ∈ gl ∧ PI o) →
      wpAny (model prog w) A (assign target env v) (fun _ s₂ => wpAny (model prog w) A (execs body env) (ForPost h₀ L gl (J (i + 1)) { s with heap := h, toks := tk, gens := g } Q) E' s₂) E' { s with heap := h, toks := tk, gens := g })
    (done : ∀ (h : Heap) (tk : Nat) (g : Array GenState) (m : Str → Option Value) (news : List (Addr × Obj)), J n m news g → Fr h₀ L h m → News h₀ L h news → Q .next { s with heap := h, toks := tk, gens := g }) :
    codeAny (model prog w) A (.forLoop target (.ref I) body [] env) (fun r s' => match r with | .ok f => Q f s' | .error e => cameBackBy (model prog w) A env E e s') s := by
  have hLw : L ∉ wr := fun h => (hfp _ (W.sub _ h)).1 rfl
  have h0w : ∀ b o, h₀.get? b = some o → b ∉ wr := fun b o e h => by rw [(hfp _ (W.sub _ h)).2] at e; cases e
  refine codeAny_forLoop_any (ForInv h₀ L s n St J) (fun k s' hI => ?_) (n + 1) fun Go k => k s.heap s.toks s.gens m news 0 hst F N h0 (Nat.zero_le _)
  apply hI
  clear hI k s'
  intro h tk g m' news' i hst' F' N' hJ' hi
  by_cases hlt : i < n
  · refine W.item i _ _ _ hlt hst' fun v h2 tk2 hMd hk2 => ?_
    refine W.go i v _ _ _ hMd fun h3 hP3 hst3 hk3 => ?_
    have k23 : ∀ b o, b ∉ wr → h.get? b = some o → h3.get? b = some o := fun b o hb e => hk3 b o hb (hk2 b o hb e)
    have F3 : Fr h₀ L h3 m' := ⟨F'.ns.at' fun o e => k23 _ o hLw e, fun b o e => k23 b o (h0w b o e) (F'.keep b o e), F'.above⟩
    have N3 : News h₀ L h3 (news' ++ ledOf h3 fp) := fun p hp => by
      rcases List.mem_append.mp hp with hp | hp
      · exact ⟨k23 _ _ (hJ _ _ _ _ hJ' p hp) (N' p hp).1, (N' p hp).2⟩
      · obtain ⟨b, o⟩ := p
        obtain ⟨hb, e⟩ := mem_ledOf.mp hp
        exact ⟨e, hfp b hb⟩
    refine wpAny_mono (turn i v m' news' (ledOf h3 fp) h3 _ g _ hlt hP3 hJ' F3 N3 (fun p hp => by obtain ⟨b, o⟩ := p; exact (mem_ledOf.mp hp).1) (by obtain ⟨o, e, q⟩ := hIo _ _ hst3; exact ⟨o, mem_ledOf.mpr ⟨hIf, e⟩, q⟩)) (fun _ s2 h4 => wpAny_mono h4 (fun f s3 hpost => ?_) fun _ _ x => x) fun _ _ x => x
    have nx : ForEnd h₀ L (ledOf h3 fp) (J (i + 1)) s s3 → ∃ k', k' < n + 1 - i ∧ ForInv h₀ L s n St J k' s3 := by
      intro hx
      apply hx
      intro h5 tk5 g5 m5 news5 F5 N5 hJ5
      exact ⟨n + 1 - (i + 1), by rw [Nat.add_sub_add_right]; exact Nat.lt_of_lt_of_eq (Nat.lt_succ_self _) (Nat.succ_sub hi).symm, fun Go k => k h5 tk5 g5 m5 news5 (i + 1) (W.frame _ _ _ hst3 fun b hb o e => (N5 (b, o) (List.mem_append_right _ (mem_ledOf.mpr ⟨hb, e⟩))).1) F5 (fun p hp => N5 p (List.mem_append_left _ hp)) hJ5 hlt⟩
    cases f with
    | ret v => exact hpost
    | brk => exact hpost
    | next => exact nx hpost
    | cont => exact nx hpost
  · obtain rfl : i = n := Nat.le_antisymm hi (Nat.not_lt.mp hlt)
    refine W.done _ _ _ hst' fun h2 tk2 hk2 => ?_
    show wpAny _ _ (execs [] env) _ _ _
    refine wpAny_execs_nil ?_
    exact done h2 tk2 g m' news' hJ' ⟨F'.ns.at' fun o e => hk2 _ o hLw e, fun b o e => hk2 b o (h0w b o e) (F'.keep b o e), F'.above⟩ fun p hp => ⟨hk2 _ _ (hJ _ _ _ _ hJ' p hp) (N' p hp).1, (N' p hp).2⟩
theorem turns_range {prog : Program} {w : World} {A : Around} (hh : A.handled = none) (I : Addr) (a c : Int) (n : Nat) {x : Str} {p : Pos} :
    KTurns prog w A (.Name x p) I [I] [I] n (fun i v _ => ∃ t, v = .int (a + (i : Nat) * c) t) (fun i v h => (∃ t, v = .int (a + (i : Nat) * c) t) ∧ IsRangeIter h I (a + ((i + 1 : Nat) : Nat) * c) ((n : Int) - ((i + 1 : Nat) : Nat)) c) (fun i h => IsRangeIter h I (a + (i : Nat) * c) ((n : Int) - (i : Nat)) c) :=
  KTurns.ofWalks (Walks.range hh I a c n) (fun i v s Q E st hq => by show wpAny _ _ (pure ()) _ _ _; exact wpAny_pure hq)
theorem for_range {prog : Program} {w : World} {A : Around} {E : Value → Shared → Prop} {s : Shared} {h₀ : Heap} {L : Addr} {env : Env} {x : Str} {px : Pos} {body : List Stmt} {Q : Flow → Shared → Prop} {r : Addr} {a b c : Int} {t u v : Tok} {n : Nat} {m : Str → Option Value} {news : List (Addr × Obj)}
    (hh : A.handled = none) (hr : IsRange s.heap r a b c t u v) (hsm : Builtin.Range.small a b c = true) (hn : Builtin.Range.rangeSize a b c = ((n : Nat) : Int)) (F : Fr h₀ L s.heap m) (N : News h₀ L s.heap news)
    (J : Nat → (Str → Option Value) → List (Addr × Obj) → Array GenState → Prop) (hJ : ∀ i m news g, J i m news g → ∀ p ∈ news, p.1 ≠ s.heap.objs.size) (h0 : J 0 m news s.gens)
    (turn : ∀ (i : Nat) (t : Tok) (m₁ : Str → Option Value) (news₁ gl : List (Addr × Obj)) (h : Heap) (tk : Nat) (g : Array GenState) (E' : Value → Shared → Prop), i < n → J i m₁ news₁ g → Fr h₀ L h m₁ → News h₀ L h (news₁ ++ gl) → (∀ p ∈ gl, p.1 = s.heap.objs.size) →
      wpAny (model prog w) A (assign (.Name x px) env (.int (a + (i : Nat) * c) t)) (fun _ s₂ => wpAny (model prog w) A (execs body env) (ForPost h₀ L gl (J (i + 1)) { s with heap := h, toks := tk, gens := g } Q) E' s₂) E' { s with heap := h, toks := tk, gens := g })
    (done : ∀ (h : Heap) (tk : Nat) (g : Array GenState) (m : Str → Option Value) (news : List (Addr × Obj)), J n m news g → Fr h₀ L h m → News h₀ L h news → Q .next { s with heap := h, toks := tk, gens := g }) :
    wpAny (model prog w) A (pyIter (.ref r)) (fun it s₂ => codeAny (model prog w) A (.forLoop (.Name x px) it body [] env) (fun r s' => match r with | .ok f => Q f s' | .error e => cameBackBy (model prog w) A env E e s') s₂) E s := by
  refine wpAny_pyIter_range hr hsm ?_
  have fr0 : h₀.get? s.heap.objs.size = none := by
    cases e : h₀.get? s.heap.objs.size with
    | none => rfl
    | some o => exact absurd (Heap.lt_size (F.keep _ o e)) (Nat.lt_irrefl _)
  refine for_g (PI := fun _ => True) (turns_range hh s.heap.objs.size a c n) (List.mem_singleton.mpr rfl) (fun i h st => ⟨_, st, trivial⟩) (by show IsRangeIter _ _ _ _ _; rw [hn]; simpa using Heap.get?_push_size _ rfl) (fun b hb => ?_) (F.keptAll fun b o e => Heap.get?_push_of_some _ e) (fun p hp => ⟨Heap.get?_push_of_some _ (N p hp).1, (N p hp).2⟩) J
    (fun i m news g hj p hp hw => hJ i m news g hj p hp (List.mem_singleton.mp hw)) h0 ?_ ?_
  · rw [List.mem_singleton.mp hb]; exact ⟨Nat.ne_of_gt F.ns.lt, fr0⟩
  · rintro i _ m₁ news₁ gl h tk g E' hi ⟨t, rfl⟩ hj F1 N1 hgl _
    exact turn i t m₁ news₁ gl h tk g E' hi hj F1 N1 fun p hp => List.mem_singleton.mp (hgl p hp)
  · exact done
theorem turns_list {prog : Program} {w : World} {A : Around} (hh : A.handled = none) (I ax : Addr) (hne : ax ≠ I) (items : Array Value) {x : Str} {px : Pos} :
    KTurns prog w A (.Name x px) I [I, ax] [I] items.size (fun i v _ => items[i]? = some v) (fun i v h => items[i]? = some v ∧ (h.IsListIter I ax (i + 1) ∧ h.IsList ax items)) (fun i h => h.IsListIter I ax i ∧ h.IsList ax items) :=
  KTurns.ofWalks (Walks.list hh I ax hne items) (fun i v s Q E st hq => by show wpAny _ _ (pure ()) _ _ _; exact wpAny_pure hq)
/-- a for over a list, its name one alone or a tuple of names -/
theorem for_list {prog : Program} {w : World} {A : Around} {E : Value → Shared → Prop} {s : Shared} {h₀ : Heap} {L : Addr} {env : Env} {target : Expr} {body : List Stmt} {Q : Flow → Shared → Prop} {l : Addr} {items : List Value} {m : Str → Option Value} {news : List (Addr × Obj)}
    (hh : A.handled = none) (hgo : ∀ (I : Addr) (i : Nat) (v : Value) (s : Shared) (Q : Unit → Shared → Prop) (E : Value → Shared → Prop), s.heap.IsListIter I l i → Q () s → wpAny (model prog w) A (letOwnedTupleGo target (.ref I) v) Q E s) (hl : s.heap.IsList l items.toArray) (hlL : l ≠ L) (hl0 : h₀.get? l = none) (F : Fr h₀ L s.heap m) (N : News h₀ L s.heap news)
    (J : Nat → (Str → Option Value) → List (Addr × Obj) → Array GenState → Prop) (hJ : ∀ i m news g, J i m news g → ∀ p ∈ news, p.1 ≠ s.heap.objs.size) (h0 : J 0 m news s.gens)
    (turn : ∀ (i : Nat) (v : Value) (m₁ : Str → Option Value) (news₁ gl : List (Addr × Obj)) (h : Heap) (tk : Nat) (g : Array GenState) (E' : Value → Shared → Prop), items[i]? = some v → J i m₁ news₁ g → Fr h₀ L h m₁ → News h₀ L h (news₁ ++ gl) → (∀ p ∈ gl, p.1 = s.heap.objs.size ∨ p.1 = l) → (∃ o, (s.heap.objs.size, o) ∈ gl ∧ ∃ k : Nat, o.data = .fields #[.ref l, .int k 0]) →
      wpAny (model prog w) A (assign target env v) (fun _ s₂ => wpAny (model prog w) A (execs body env) (ForPost h₀ L gl (J (i + 1)) { s with heap := h, toks := tk, gens := g } Q) E' s₂) E' { s with heap := h, toks := tk, gens := g })
    (done : ∀ (h : Heap) (tk : Nat) (g : Array GenState) (m : Str → Option Value) (news : List (Addr × Obj)), J items.length m news g → Fr h₀ L h m → News h₀ L h news → Q .next { s with heap := h, toks := tk, gens := g }) :
    wpAny (model prog w) A (pyIter (.ref l)) (fun it s₂ => codeAny (model prog w) A (.forLoop target it body [] env) (fun r s' => match r with | .ok f => Q f s' | .error e => cameBackBy (model prog w) A env E e s') s₂) E s := by
  have hlt : l < s.heap.objs.size := by obtain ⟨_, e, _⟩ := hl; exact Heap.lt_size e
  refine wpAny_pyIter_list hl ?_
  have fr0 : h₀.get? s.heap.objs.size = none := by
    cases e : h₀.get? s.heap.objs.size with
    | none => rfl
    | some o => exact absurd (Heap.lt_size (F.keep _ o e)) (Nat.lt_irrefl _)
  refine for_g (PI := fun o => ∃ k : Nat, o.data = .fields #[.ref l, .int k 0]) (KTurns.ofWalks (Walks.list hh s.heap.objs.size l (Nat.ne_of_lt hlt) items.toArray) (fun i v s Q E st hq => hgo _ i v s Q E st.1 hq)) (List.mem_cons_self ..) (fun i h st => by obtain ⟨o, e, _, q⟩ := st.1; exact ⟨o, e, i, q⟩) ⟨⟨_, Heap.get?_push_size _ rfl, rfl, rfl⟩, hl.push _⟩ (fun b hb => ?_) (F.keptAll fun b o e => Heap.get?_push_of_some _ e) (fun p hp => ⟨Heap.get?_push_of_some _ (N p hp).1, (N p hp).2⟩) J
    (fun i m news g hj p hp hw => hJ i m news g hj p hp (List.mem_singleton.mp hw)) h0 ?_ ?_
  · simp only [List.mem_cons, List.not_mem_nil, or_false] at hb
    rcases hb with rfl | rfl
    · exact ⟨Nat.ne_of_gt F.ns.lt, fr0⟩
    · exact ⟨hlL, hl0⟩
  · rintro i v m₁ news₁ gl h tk g E' hi hv hj F1 N1 hgl hI
    exact turn i v m₁ news₁ gl h tk g E' (by simpa using hv) hj F1 N1 (fun p hp => by simpa using hgl p hp) hI
  · intro h tk g m news hj
    exact done h tk g m news (by simpa using hj)
end Mine

end
-- L4
section
open PySem PySem.W PySem.Spec PySem.Calls PyProof.Rows PyProof.Rows.LCg
set_option Elab.async false
set_option maxRecDepth 100000
set_option maxHeartbeats 1000000
namespace Mine
noncomputable abbrev lawA (L fa : Addr) (cd : Value) : Around := callerA.deeper (lawE L fa cd)
noncomputable def CellIs (o : Obj) (v : Option Value) : Prop := o.data = .cell v
theorem store_cell {M : Model} {A : Around} {E : Value → Shared → Prop} {s : Shared} {h₀ : Heap} {L c : Addr} {m : Str → Option Value} {env : Env} {x : Str} {o : Obj} {v₀ : Option Value} {v : Value} {rest : List (Addr × Obj)} {Q : Unit → Shared → Prop}
    (F : Fr h₀ L s.heap m) (N : News h₀ L s.heap ((c, o) :: rest)) (hd : o.data = .cell v₀) (hne : ∀ p ∈ rest, p.1 ≠ c) (hk : env.scope.kind = .function) (hx : env.kindOf x = some .cell) (hc : env.cells.lookup x = some c)
    (h : ∀ h' o', Fr h₀ L h' m → News h₀ L h' ((c, o') :: rest) → o'.data = .cell (some v) → Q () { s with heap := h' }) : wpAny M A (storeName env x v) Q E s := by
  have hm := N (c, o) (List.mem_cons_self ..)
  refine wpAny_storeName_cell hk hx hc ⟨o, hm.1, hd⟩ fun h' hv hs => ?_
  obtain ⟨o', e', hd'⟩ := hv
  refine h h' o' (F.change hs hm.2.1 hm.2.2) (fun p hp => ?_) hd'
  rcases List.mem_cons.mp hp with rfl | hp
  · exact ⟨e', hm.2⟩
  · have := N p (List.mem_cons_of_mem _ hp)
    exact ⟨hs.extBut _ _ (hne p hp) this.1, this.2⟩
theorem law_s2 (w : World) {mean : ExcName → Option Value} {mg mb : Str → Option Value} {h₀ : Heap} {L fa : Addr} {cd : Value} {s : Shared} {m : Str → Option Value} {news : List (Addr × Obj)} {o2 : Obj} {Q : Flow → Shared → Prop} {E : Value → Shared → Prop}
    (F : Fr h₀ L s.heap m) (X : (KL w.params).In h₀) (T : Top qv looseN mean mg mb h₀) (N : News h₀ L s.heap ((L + 2, o2) :: news)) (h2 : o2.data = .cell none) (hne : ∀ p ∈ news, p.1 ≠ L + 2)
    (hQ : ∀ (h' : Heap) (tk' : Nat) (lp : Addr) (o : Obj), Fr h₀ L h' m → News h₀ L h' ((lp, W.listOf #[] 0) :: (L + 2, o) :: news) → o.data = .cell (some (.ref lp)) → (∀ p ∈ (L + 2, o) :: news, p.1 < lp) → Q .next { s with heap := h', toks := tk' }) :
    PySem.Challenge.rw_uc0065_01 = PySem.Challenge.rw_uc0065_01 → KL = KL →
    wpAny (model prog w) (lawA L fa cd) (exec (stAt 1 fb25) (lawE L fa cd)) Q E s := by
  k_with_none
  k_fill
  intro hrow hKL; clear hrow hKL
  show wpAny _ _ (exec (.Assign [.Name _ _] (.List [] _) _) _) _ _ _
  k_steps
  rename_i lp h9 F9 N9 lt9
  have hlt : L + 2 < lp ∧ AllLt lp news := lt9
  refine store_cell (c := L + 2) F9 (rest := (lp, W.listOf #[] 0) :: news) (cb_drop N9 (by intro p hp; simp only [List.mem_cons] at hp; rcases hp with h | h | h <;> (first | ((try rw [h]); (repeat first | exact List.mem_cons_self .. | exact h | exact List.mem_append_left _ h | refine List.mem_append_right _ ?_ | refine List.mem_cons_of_mem _ ?_); done) | simp [h]))) h2 (fun p hp => ?_) rfl rfl rfl fun h' o' F' N' ho' => ?_
  · rcases List.mem_cons.mp hp with rfl | hp
    · exact Nat.ne_of_gt hlt.1
    · exact hne p hp
  · refine hQ h' _ lp o' F' (cb_drop N' (by intro p hp; simp only [List.mem_cons] at hp; rcases hp with h | h | h <;> (first | ((try rw [h]); (repeat first | exact List.mem_cons_self .. | exact h | exact List.mem_append_left _ h | refine List.mem_append_right _ ?_ | refine List.mem_cons_of_mem _ ?_); done) | simp [h]))) ho' fun p hp => ?_
    rcases List.mem_cons.mp hp with rfl | hp
    · exact hlt.1
    · exact allLt_all _ hlt.2 p hp
end Mine

end
-- LG
section
open PySem PySem.W PySem.Spec PySem.Calls PyProof.Rows PyProof.Rows.LCg
set_option Elab.async false
set_option maxRecDepth 100000
set_option maxHeartbeats 400000
namespace Mine
section
variable {prog : Program} {w : World} {A : Around} {E : Value → Shared → Prop} {s : Shared} {h₀ : Heap} {L : Addr} {env : Env}
/-- a comprehension over a list -/
theorem comp_list {l : Addr} {items : List Value} {elt : Expr} {ifs : List Expr} {x : Str} {px : Pos} {scope : Scope} {cl : List (Str × Addr)} {m : Str → Option Value} {news : List (Addr × Obj)} {Fin : Shared → List Value → Array GenState → List (Addr × Obj) → (Str → Option Value) → Prop}
    (hh : A.handled = none) (hkind : scope.kind = .function) (hx : scope.names.lookup x = some .local) (hl : s.heap.IsList l items.toArray) (hlL : l ≠ L) (hl0 : h₀.get? l = none) (hsz : items.length ≤ sizeLine) (F : Fr h₀ L s.heap m) (N : News h₀ L s.heap news)
    (J : Nat → List Value → Array GenState → Prop) (h0 : J 0 [] s.gens)
    (turn : ∀ (i : Nat) (v : Value) (ys : List Value) (C : Addr) (oC : Obj) (D : Addr) (gl : List (Addr × Obj)) (h : Heap) (tk : Nat) (g : Array GenState) (m₂ : Str → Option Value) (s' : Shared) (E' : Value → Shared → Prop), items[i]? = some v → J i ys g → NsObj oC m₂ → m₂ x = some v → Fr h₀ L h m →
      News h₀ L h ((C, oC) :: (D, lst ys) :: (news ++ gl)) → (∀ p ∈ news ++ gl, p.1 < D) → D < C →
      wpAny (model prog w) A (testsOf ifs (compEnvC scope cl C env)) (fun ok s₃ => if ok = true then wpAny (model prog w) A (eval elt (compEnvC scope cl C env)) (fun y => CEnd h₀ L m ((C, oC) :: (D, lst ys) :: (news ++ gl)) (J (i + 1) (ys ++ [y])) s') E' s₃
        else CEnd h₀ L m ((C, oC) :: (D, lst ys) :: (news ++ gl)) (J (i + 1) ys) s' s₃) E' { s' with heap := h, toks := tk, gens := g })
    (fin : ∀ (s₂ : Shared) ys g, (∃ h, s₂ = { s with heap := h }) → J items.length ys g → Fin s₂ ys g news m) :
    wpAny (model prog w) A (pyIter (.ref l)) (CompG prog w A h₀ L env (.Name x px) elt ifs scope cl Fin) E s := by
  have hlt : l < s.heap.objs.size := by obtain ⟨_, e, _⟩ := hl; exact Heap.lt_size e
  have fr0 : h₀.get? s.heap.objs.size = none := by
    cases e : h₀.get? s.heap.objs.size with
    | none => rfl
    | some o => exact absurd (Heap.lt_size (F.keep _ o e)) (Nat.lt_irrefl _)
  refine wpAny_pyIter_list hl ?_
  have up : ∀ b o, s.heap.get? b = some o → (s.heap.push { cls := .type "list_iterator", data := .fields #[.ref l, .int 0 0] }).get? b = some o := fun b o e => Heap.get?_push_of_some _ e
  refine fun Go k => k s.heap.objs.size [s.heap.objs.size, l] [s.heap.objs.size] items.toArray.size _ _ _ m news _ J rfl (turns_list hh _ l (Nat.ne_of_lt hlt) items.toArray) (by simpa using hsz) (asg_name hkind hx) ?_ ⟨⟨_, Heap.get?_push_size _ rfl, rfl, rfl⟩, hl.push _⟩ ?_ (F.keptAll up) (fun p hp => ⟨up _ _ (N p hp).1, (N p hp).2⟩) ?_ h0 ?_ ?_
  · exact fun s' Q' E' st hq => (Walks.list hh _ l (Nat.ne_of_lt hlt) items.toArray).self 0 s' Q' E' st hq
  · intro b hb
    simp only [List.mem_cons, List.not_mem_nil, or_false] at hb
    rcases hb with rfl | rfl
    · exact ⟨by rw [Heap.size_push]; exact Nat.lt_succ_self _, Nat.ne_of_gt F.ns.lt, fr0⟩
    · exact ⟨by rw [Heap.size_push]; exact Nat.lt_succ_of_lt hlt, hlL, hl0⟩
  · intro p hp hw
    exact absurd (Heap.lt_size (N p hp).1) (by rw [List.mem_singleton.mp hw]; exact Nat.lt_irrefl _)
  · rintro i ys C oC D gl h tk g m₂ E' hi hj hC ⟨v, hv, hm⟩ F1 N1 hlow hDC
    exact turn i v ys C oC D gl h tk g m₂ { s with heap := s.heap.push { cls := .type "list_iterator", data := .fields #[.ref l, .int 0 0] } } E' (by simpa using hv) hj hC hm F1 N1 hlow hDC
  · intro ys g hj
    exact fin _ ys g ⟨_, rfl⟩ (by simpa using hj)
/-- a comprehension over a range -/
theorem comp_range {r : Addr} {a b c : Int} {t u v : Tok} {n : Nat} {elt : Expr} {ifs : List Expr} {x : Str} {px : Pos} {scope : Scope} {cl : List (Str × Addr)} {m : Str → Option Value} {news : List (Addr × Obj)} {Fin : Shared → List Value → Array GenState → List (Addr × Obj) → (Str → Option Value) → Prop}
    (hh : A.handled = none) (hkind : scope.kind = .function) (hx : scope.names.lookup x = some .local) (hr : IsRange s.heap r a b c t u v) (hsm : Builtin.Range.small a b c = true) (hn : Builtin.Range.rangeSize a b c = ((n : Nat) : Int)) (hsz : n ≤ sizeLine) (F : Fr h₀ L s.heap m) (N : News h₀ L s.heap news)
    (J : Nat → List Value → Array GenState → Prop) (h0 : J 0 [] s.gens)
    (turn : ∀ (i : Nat) (t : Tok) (ys : List Value) (C : Addr) (oC : Obj) (D : Addr) (gl : List (Addr × Obj)) (h : Heap) (tk : Nat) (g : Array GenState) (m₂ : Str → Option Value) (s' : Shared) (E' : Value → Shared → Prop), i < n → J i ys g → NsObj oC m₂ → m₂ x = some (.int (a + (i : Nat) * c) t) → Fr h₀ L h m →
      News h₀ L h ((C, oC) :: (D, lst ys) :: (news ++ gl)) → (∀ p ∈ news ++ gl, p.1 < D) → D < C →
      wpAny (model prog w) A (testsOf ifs (compEnvC scope cl C env)) (fun ok s₃ => if ok = true then wpAny (model prog w) A (eval elt (compEnvC scope cl C env)) (fun y => CEnd h₀ L m ((C, oC) :: (D, lst ys) :: (news ++ gl)) (J (i + 1) (ys ++ [y])) s') E' s₃
        else CEnd h₀ L m ((C, oC) :: (D, lst ys) :: (news ++ gl)) (J (i + 1) ys) s' s₃) E' { s' with heap := h, toks := tk, gens := g })
    (fin : ∀ (s₂ : Shared) ys g, (∃ h, s₂ = { s with heap := h }) → J n ys g → Fin s₂ ys g news m) :
    wpAny (model prog w) A (pyIter (.ref r)) (CompG prog w A h₀ L env (.Name x px) elt ifs scope cl Fin) E s := by
  have fr0 : h₀.get? s.heap.objs.size = none := by
    cases e : h₀.get? s.heap.objs.size with
    | none => rfl
    | some o => exact absurd (Heap.lt_size (F.keep _ o e)) (Nat.lt_irrefl _)
  refine wpAny_pyIter_range hr hsm ?_
  have up : ∀ b' o, s.heap.get? b' = some o → (s.heap.push { cls := .type "range_iterator", data := .fields #[rawInt a, rawInt (Builtin.Range.rangeSize a b c), rawInt c] }).get? b' = some o := fun b' o e => Heap.get?_push_of_some _ e
  refine fun Go k => k s.heap.objs.size [s.heap.objs.size] [s.heap.objs.size] n _ _ _ m news _ J rfl (turns_range hh _ a c n) hsz (asg_name (Pv := fun i v => ∃ t, v = .int (a + (i : Nat) * c) t) hkind hx) ?_ (by show IsRangeIter _ _ _ _ _; rw [hn]; simpa using Heap.get?_push_size _ rfl) ?_ (F.keptAll up) (fun p hp => ⟨up _ _ (N p hp).1, (N p hp).2⟩) ?_ h0 ?_ ?_
  · exact fun s' Q' E' st hq => (Walks.range hh _ a c n).self 0 s' Q' E' st hq
  · intro b' hb
    rw [List.mem_singleton.mp hb]
    exact ⟨by rw [Heap.size_push]; exact Nat.lt_succ_self _, Nat.ne_of_gt F.ns.lt, fr0⟩
  · intro p hp hw
    exact absurd (Heap.lt_size (N p hp).1) (by rw [List.mem_singleton.mp hw]; exact Nat.lt_irrefl _)
  · rintro i ys C oC D gl h tk g m₂ E' hi hj hC ⟨v, ⟨t, rfl⟩, hm⟩ F1 N1 hlow hDC
    exact turn i t ys C oC D gl h tk g m₂ { s with heap := s.heap.push { cls := .type "range_iterator", data := .fields #[rawInt a, rawInt (Builtin.Range.rangeSize a b c), rawInt c] } } E' hi hj hC hm F1 N1 hlow hDC
  · intro ys g hj
    exact fin _ ys g ⟨_, rfl⟩ hj
end
end Mine

end
-- L7
section
open PySem PySem.W PySem.Spec PySem.Calls PyProof.Rows PyProof.Rows.LCg
set_option Elab.async false
set_option maxRecDepth 100000
set_option maxHeartbeats 1000000
namespace Mine
noncomputable def forTargetX : Stmt → Expr
  | .For t _ _ _ _ => t
  | _ => .Tuple [] 0 default
noncomputable def forBodyX : Stmt → List Stmt
  | .For _ _ b _ _ => b
  | _ => []
noncomputable abbrev abBody : List Stmt := forBodyX (stAt 0 (forBodyX (stAt 4 fb25)))
noncomputable def parS (k : Nat) : Str := Txt.mul (Str.ofString "(") (k : Int) ++ Str.ofString ")"
noncomputable def rowS (a b : Nat) : Str := Txt.join (Str.ofString "") [parS a, parS b, parS (3 - a - b)]
theorem piece_len {xs : List Str} (hxs : xs.map (·.length) = List.range 6) {k : Nat} (hk : k < 6) : (xs.getD k Str.empty).length = k := by
  have h1 : (xs.map (·.length))[k]? = some k := by rw [hxs]; simp [hk]
  rw [List.getElem?_map] at h1
  obtain ⟨x, hx, e⟩ := Option.map_eq_some_iff.mp h1
  rw [List.getD_eq_getElem?_getD, hx]
  exact e
theorem law_row (w : World) {mean : ExcName → Option Value} {mg mb : Str → Option Value} {h₀ : Heap} {L fa : Addr} {cd : Value} {s : Shared} {m : Str → Option Value} {rest : List (Addr × Obj)} {o2 o3 : Obj} {v3 : Option Value} {lp : Addr} {vs : List Value} {xs : List Str} {n : Nat} {a b : Nat} {ta tb : Tok} {Q : Flow → Shared → Prop} {E : Value → Shared → Prop}
    (F : Fr h₀ L s.heap m) (X : (KL w.params).In h₀) (T : Top qv looseN mean mg mb h₀) (N : News h₀ L s.heap ((L + 3, o3) :: (L + 2, o2) :: (lp, W.listOf vs.toArray n) :: rest)) (h2 : o2.data = .cell (some (.ref lp))) (h3 : o3.data = .cell v3) (hvs : StrsAre vs xs) (hxs : xs.map (·.length) = List.range 6)
    (ha : m (Str.ofString "a") = some (.int a ta)) (hb : m (Str.ofString "b") = some (.int b tb)) (hab : a + b ≤ 3) (hne : ∀ p ∈ (L + 2, o2) :: (lp, W.listOf vs.toArray n) :: rest, p.1 ≠ L + 3)
    (hQ : ∀ (h' : Heap) (tk' : Nat) (o : Obj) (t : Tok), Fr h₀ L h' m → News h₀ L h' ((L + 3, o) :: (L + 2, o2) :: (lp, W.listOf vs.toArray n) :: rest) → o.data = .cell (some (.str (rowS a b) t)) → Q .next { s with heap := h', toks := tk' }) :
    PySem.Challenge.rw_uc0065_01 = PySem.Challenge.rw_uc0065_01 → KL = KL →
    wpAny (model prog w) (lawA L fa cd) (exec (stAt 0 abBody) (lawE L fa cd)) Q E s := by
  k_with_none
  k_with "spliced" => (k_here; (first | (with_reducible show wpAny _ _ (spliced (backTo _ (starEach ((PySem.Expr.Name _ _) :: _) _))) _ _ _) | (with_reducible show wpAny _ _ (spliced (backTo _ (starEach ((PySem.Expr.Constant _ _ _) :: _) _))) _ _ _) | (with_reducible show wpAny _ _ (spliced (backTo _ (starEach ((PySem.Expr.BinOp (PySem.Expr.Name _ _) _ _ _) :: _) _))) _ _ _)); k_dflt (refine' itemsS ?svF ?svk ?svS ?_; (case svF => k_asm); (case svk => rfl); (case svS => walk_at "SV"); k_whole))
  k_with "eval ListComp" => (k_here; k_dflt (refine eval_comp (cl := _) (F₀ := by k_asm) rfl (by with_unfolding_all rfl) (by decide) rfl (by decide) (fun _ => rfl) ?_))
  k_fill
  intro hrow hKL; clear hrow hKL
  have B := below_caller h₀
  have eF : (fun y => if y = Str.ofString "b" then some (Value.int b tb) else if y = Str.ofString "a" then some (Value.int a ta) else m y) = m := by
    funext y
    by_cases h1 : y = Str.ofString "b"
    · subst h1; simp [hb]
    · by_cases h2 : y = Str.ofString "a"
      · subst h2; simp [ha, h1]
      · simp [h1, h2]
  replace F := Mine.Fr.know F ha
  replace F := Mine.Fr.know F (x := Str.ofString "b") (v := .int b tb) (by rw [if_neg (by decide)]; exact hb)
  have hl6 : xs.length = 6 := by
    have := congrArg List.length hxs
    simpa using this
  have hv6 : vs.length = 6 := by rw [hvs.length, hl6]
  show wpAny _ _ (exec (.Assign [.Name _ _] (.Call (.Attribute _ _ _) [.ListComp _ _ _ _] [] _) _) _) _ _ _
  k_steps
  rename_i l9 h9 F9 N9 lt9
  refine comp_list (items := [.int a ta, .int b tb, .int (3 - a - b) _]) rfl rfl rfl (News.isList N9 (List.mem_cons_self ..)) (N9 _ (List.mem_cons_self ..)).2.1 (N9 _ (List.mem_cons_self ..)).2.2 (by show 3 ≤ 2 ^ 24; decide) F9 (fun p hp => N9 p (List.mem_cons_of_mem _ hp))
    (fun i ys g => g = s.gens ∧ StrsAre ys (([a, b, 3 - a - b] : List Nat).map parS |>.take i)) ⟨rfl, .nil⟩ ?_ ?_
  · rintro i v ys C oC D gl h tk g m₂ s' E' hv ⟨rfl, hys⟩ hC hm F8 N8 hlow hDC
    obtain ⟨k, t, rfl, hk3, hki⟩ : ∃ (k : Nat) (t : Tok), v = .int k t ∧ k ≤ 3 ∧ ([a, b, 3 - a - b] : List Nat)[i]? = some k := by
      match i, hv with
      | 0, h => cases h; exact ⟨a, _, rfl, by omega, rfl⟩
      | 1, h => cases h; exact ⟨b, _, rfl, by omega, rfl⟩
      | 2, h => cases h; exact ⟨3 - a - b, _, by congr 1; omega, by omega, rfl⟩
    refine wpAny_tests_nil ?_
    simp only [if_true]
    rw [List.cons_append, List.cons_append, List.cons_append] at N8
    have hpk : (xs.getD ((k : Int)).toNat Str.empty).length = k := by rw [Int.toNat_natCast]; exact piece_len hxs (by omega)
    k_steps
    refine fun Go k => k h _ _ F8 N8 ⟨rfl, ?_⟩
    rw [hpk, List.take_add_one, List.getElem?_map, hki]
    exact strs_snoc hys
  · rintro s₂ ys g ⟨hh, rfl⟩ ⟨rfl, hys⟩ D h' tk F7 N7 hlow
    have hys' : StrsAre ys [parS a, parS b, parS (3 - a - b)] := hys
    have hpl : ∀ k, k ≤ 3 → (parS k).length ≤ 4 := by decide
    k_steps
    refine join_listW (ys := [parS a, parS b, parS (3 - a - b)]) (News.isList N7 (List.mem_cons_self ..)) (by simpa using hys') (by decide) (by have h1 := hpl a (by omega); have h2 := hpl b (by omega); have h3 := hpl (3 - a - b) (by omega); simp; omega) (fun t9 k9 => ?_)
    k_steps
    refine store_cell (c := L + 3) F7 (rest := (L + 2, o2) :: (lp, W.listOf vs.toArray n) :: rest) (cb_drop N7 (by intro p hp; exact List.mem_cons_of_mem _ hp)) h3 hne rfl rfl rfl fun h8 o' F8 N8 ho' => ?_
    rw [eF] at F8
    exact hQ h8 _ o' _ F8 N8 ho'
end Mine

end
-- L8
section
open PySem PySem.W PySem.Spec PySem.Calls PyProof.Rows PyProof.Rows.LCg
set_option Elab.async false
set_option maxRecDepth 100000
set_option maxHeartbeats 1000000
namespace Mine
theorem dress_len (v : Int) : (dress v).length ≤ 5 := by
  have h := fm v (show (0 : Int) < 7 by decide)
  have : ∀ k : Fin 7, (dressT.getD k.1 Str.empty).length ≤ 5 := by decide
  exact this ⟨(v.fmod 7).toNat, by omega⟩
noncomputable def insS (a b p k : Nat) : Str := Txt.slice (rowS a b) none (some (p : Int)) ++ dress (k : Int) ++ Txt.slice (rowS a b) (some (p : Int)) none
noncomputable def good (a b : Nat) : Bool := chk (rowS a b)
theorem ins_all : ∀ a : Fin 4, ∀ b : Fin 4, a.1 + b.1 ≤ 3 → ∀ p : Fin 6, ∀ k : Fin 7, chk (insS a.1 b.1 p.1 k.1) = good a.1 b.1 := by decide +kernel
theorem ins_len : ∀ a : Fin 4, ∀ b : Fin 4, a.1 + b.1 ≤ 3 → ∀ p : Fin 6, ∀ k : Fin 7, (insS a.1 b.1 p.1 k.1).length ≤ 100 ∧ (rowS a.1 b.1).length = 6 := by decide +kernel
theorem ins_chk {a b p k : Nat} (h : a + b ≤ 3) (hp : p < 6) (hk : k < 7) : chk (insS a b p k) = good a b ∧ (insS a b p k).length ≤ 100 ∧ (rowS a b).length = 6 :=
  ⟨ins_all ⟨a, by omega⟩ ⟨b, by omega⟩ h ⟨p, hp⟩ ⟨k, hk⟩, ins_len ⟨a, by omega⟩ ⟨b, by omega⟩ h ⟨p, hp⟩ ⟨k, hk⟩⟩
theorem useDr {w : World} {mean : ExcName → Option Value} {mg mb : Str → Option Value} {news : CbLed} {v : Int} {tv : Tok} {dp un : Nat} {gd : Option (List Code)} {cn : Str} {cs : Scope} {a : Addr} {ccd : Value} {cl : List (Str × Addr)} {outer : List Env} {A₀ : Around} {base h₀ : Heap} {L : Addr} {m : Str → Option Value} {s : Shared} {Q E : Value → Shared → Prop}
    (B : PyProof.Rows.Below A₀ base outer h₀) (F : Fr h₀ L s.heap m) (X : (KL w.params).In h₀) (N : News h₀ L s.heap news) (T : Top qv looseN mean mg mb h₀) (hk : cs.kind = .function) (hd : dp + 1 < recursionLimit) (hu : un + 8 < cLine)
    (hR : ∀ (t : Tok) (h' : Heap) (tk' : Nat), Fr h₀ L h' m → News h₀ L h' news → Q (.str (dress v) t) { s with heap := h', toks := tk' }) :
    wpAny (model prog w) (ktrTop dp un gd cn cs L a ccd cl outer) (call (.ref 249) [.int v tv]) Q E s :=
  use (c_dress w mean mg mb news v tv) B F X N T hk trivial hd hu hR
theorem useChk {w : World} {mean : ExcName → Option Value} {mg mb : Str → Option Value} {news : CbLed} {x : Str} {tv : Tok} {dp un : Nat} {gd : Option (List Code)} {cn : Str} {cs : Scope} {a : Addr} {ccd : Value} {cl : List (Str × Addr)} {outer : List Env} {A₀ : Around} {base h₀ : Heap} {L : Addr} {m : Str → Option Value} {s : Shared} {Q E : Value → Shared → Prop}
    (B : PyProof.Rows.Below A₀ base outer h₀) (F : Fr h₀ L s.heap m) (X : (KL w.params).In h₀) (N : News h₀ L s.heap news) (T : Top qv looseN mean mg mb h₀) (hk : cs.kind = .function) (hp : x.length ≤ 100) (hd : dp + 20 < recursionLimit) (hu : un + 90 < cLine)
    (hR : ∀ (h' : Heap) (tk' : Nat) (g' : Array GenState), Fr h₀ L h' m → News h₀ L h' news → (AllBare s.gens → AllBare g') → Q (.bool (chk x)) { s with heap := h', toks := tk', gens := g' }) :
    wpAny (model prog w) (ktrTop dp un gd cn cs L a ccd cl outer) (call (.ref 42) [.str x tv]) Q E s :=
  useG (c_chk w mean mg mb news x tv) B F X N T hk hp hd hu fun _ h' tk' g' F' N' hg => hR h' tk' g' F' N' hg
theorem dress_mod (v : Int) : dress v = dress ((v.fmod 7).toNat : Int) := by
  have h := fm v (show (0 : Int) < 7 by decide)
  unfold dress
  congr 2
  rw [Int.toNat_of_nonneg h.1]
  have e : (v.fmod 7).fmod 7 = v.fmod 7 := by
    rw [Int.fmod_eq_emod_of_nonneg _ (by decide), Int.fmod_eq_emod_of_nonneg _ (by decide)]; omega
  rw [e]
theorem know_eq {m : Str → Option Value} {x : Str} {v : Value} (e : m x = some v) : (fun y => if y = x then some v else m y) = m := by
  funext y; by_cases h : y = x
  · subst h; simp [e]
  · simp [h]
theorem know_cons {m k : Str → Option Value} {x : Str} {v : Value} (h : k = m) (e : m x = some v) : (fun y => if y = x then some v else k y) = m := by
  subst h; exact know_eq e
theorem law_says (w : World) {mean : ExcName → Option Value} {mg mb : Str → Option Value} {h₀ : Heap} {L fa : Addr} {cd : Value} {s : Shared} {m : Str → Option Value} {rest : List (Addr × Obj)} {o3 : Obj} {a b : Nat} {tu : Int} {ta tb tt tr : Tok} {tl : List Stmt} {Q : Flow → Shared → Prop} {E : Value → Shared → Prop}
    (F : Fr h₀ L s.heap m) (X : (KL w.params).In h₀) (T : Top qv looseN mean mg mb h₀) (N : News h₀ L s.heap ((L + 3, o3) :: rest)) (h3 : o3.data = .cell (some (.str (rowS a b) tr)))
    (ha : m (Str.ofString "a") = some (.int a ta)) (hb : m (Str.ofString "b") = some (.int b tb)) (ht : m (Str.ofString "turn") = some (.int tu tt)) (hab : a + b ≤ 3)
    (hQ : ∀ (h' : Heap) (tk' : Nat) (g' : Array GenState) (m' : Str → Option Value), m' (Str.ofString "says") = some (.bool (good a b)) → (∀ z, z ≠ Str.ofString "says" → z ≠ Str.ofString "place" → m' z = m z) → Fr h₀ L h' m' → News h₀ L h' ((L + 3, o3) :: rest) → (AllBare s.gens → AllBare g') → wpAny (model prog w) (lawA L fa cd) (execs tl (lawE L fa cd)) Q E { s with heap := h', toks := tk', gens := g' }) :
    PySem.Challenge.rw_uc0065_01 = PySem.Challenge.rw_uc0065_01 → KL = KL →
    wpAny (model prog w) (lawA L fa cd) (execs (stAt 1 abBody :: stAt 2 abBody :: tl) (lawE L fa cd)) Q E s := by
  k_with_none
  k_with "eval BinOp" => (k_here; (first | (with_reducible show wpAny _ _ (eval (PySem.Expr.BinOp (PySem.Expr.Name _ _) _ _ _) _) _ _ _) | (with_reducible show wpAny _ _ (eval (PySem.Expr.BinOp (PySem.Expr.Constant _ _ _) _ _ _) _) _ _ _) | (with_reducible show wpAny _ _ (eval (PySem.Expr.BinOp (PySem.Expr.BinOp (PySem.Expr.Name _ _) _ _ _) _ _ _) _) _ _ _)); (first | (with_reducible show wpAny _ _ (eval (PySem.Expr.BinOp _ _ (PySem.Expr.Name _ _) _) _) _ _ _) | (with_reducible show wpAny _ _ (eval (PySem.Expr.BinOp _ _ (PySem.Expr.Constant _ _ _) _) _) _ _ _)); k_dflt (first | (refine' valS ?svF ?svk ?svS ?_; (case svF => k_asm); (case svk => rfl); (case svS => walk_at "SV"); k_whole) | (refine' binS ?svF ?svk ?svS ?svU ?_; (case svF => k_asm); (case svk => rfl); (case svS => walk_at "SV"); (case svU => walk_at "SV"); k_whole)))
  k_with "isTrue Compare" => (k_here; (first | (with_reducible show wpAny _ _ (PySem.isTrue (PySem.Expr.Compare (PySem.Expr.Name _ _) _ _ _) _ _) _ _ _) | (with_reducible show wpAny _ _ (PySem.isTrue (PySem.Expr.Compare (PySem.Expr.Constant _ _ _) _ _ _) _ _) _ _ _) | (with_reducible show wpAny _ _ (PySem.isTrue (PySem.Expr.Compare (PySem.Expr.BinOp (PySem.Expr.Name _ _) _ _ _) _ _ _) _ _) _ _ _)); (first | (with_reducible show wpAny _ _ (PySem.isTrue (PySem.Expr.Compare _ _ [(PySem.Expr.Name _ _)] _) _ _) _ _ _) | (with_reducible show wpAny _ _ (PySem.isTrue (PySem.Expr.Compare _ _ [(PySem.Expr.Constant _ _ _)] _) _ _) _ _ _) | (with_reducible show wpAny _ _ (PySem.isTrue (PySem.Expr.Compare _ _ [(PySem.Expr.BinOp (PySem.Expr.Name _ _) _ _ _)] _) _ _) _ _ _)); k_dflt (refine' cmpS ?svF ?svk ?svS ?svU ?_ ?svh; (case svF => k_asm); (case svk => rfl); (case svS => walk_at "SV"); (case svU => walk_at "SV"); (case svh => with_unfolding_all rfl); k_whole))
  k_with "execs cons" => (k_here; (with_reducible show wpAny _ _ _ _ _ (Shared.mk _ _ _ (_ + 1 + 1) _)); refine gentok ?_; intro _; (with_reducible refine wpAny_execs_cons ?_); try dsimp only)
  k_with "execs nil" => (k_here; (with_reducible show wpAny _ _ _ _ _ (Shared.mk _ _ _ (_ + 1 + 1) _)); refine gentok ?_; intro _; (with_reducible refine wpAny_execs_nil ?_); try dsimp only)
  k_with "call ref" => (k_here; (with_reducible show wpAny _ _ (call (Value.ref 249) _) _ _ _); k_dflt (refine' useDr ?k1 ?k2 ?k3 ?k4 ?k5 ?kK ?kd ?ku ?_); (case k1 => k_asm); (case k2 => k_asm); (case k3 => k_asm); (case k4 => k_asm); (case k5 => k_asm); (case kK => exact rfl); (case kd => ktr_room); (case ku => ktr_units); (intro _ _ _ _ _); (try dsimp only); (try k_fold))
  k_with "call ref" => (k_here; (with_reducible show wpAny _ _ (call (Value.ref 42) _) _ _ _); k_dflt (refine' useChk ?k1 ?k2 ?k3 ?k4 ?k5 ?kK ?kp ?kd ?ku ?_); (case k1 => k_asm); (case k2 => k_asm); (case k3 => k_asm); (case k4 => k_asm); (case k5 => k_asm); (case kK => exact rfl); (case kp => assumption); (case kd => ktr_room); (case ku => ktr_units); (intro _ _ _ _ _ _); (try dsimp only); (try k_fold))
  k_fill
  intro hrow hKL; clear hrow hKL
  have B := below_caller h₀
  have eK := know_cons (x := Str.ofString "turn") (v := .int tu tt) (know_cons (x := Str.ofString "b") (v := .int b tb) (know_eq ha) hb) ht
  replace F := Mine.Fr.know F ha
  replace F := Mine.Fr.know F (x := Str.ofString "b") (v := .int b tb) (by rw [if_neg (by decide)]; exact hb)
  replace F := Mine.Fr.know F (x := Str.ofString "turn") (v := .int tu tt) (by rw [if_neg (by decide), if_neg (by decide)]; exact ht)
  have hrl : (rowS a b).length = 6 := (ins_chk hab (show 0 < 6 by decide) (show 0 < 7 by decide)).2.2
  have hp6 := fm (tu.fdiv 7 + a + b) (show (0 : Int) < 6 by decide)
  have hk7 := fm (tu + 3 * a + b) (show (0 : Int) < 7 by decide)
  have hins := ins_chk hab (p := ((tu.fdiv 7 + a + b).fmod 6).toNat) (k := ((tu + 3 * a + b).fmod 7).toNat) (by omega) (by omega)
  unfold insS at hins
  rw [← dress_mod, Int.toNat_of_nonneg hp6.1] at hins
  obtain ⟨hc1, hc2, _⟩ := hins
  have hdl := dress_len (tu + 3 * a + b)
  show wpAny _ _ (execs (.Assign [.Name _ _] _ _ :: .Assign [.Name _ _] _ _ :: _) _) _ _ _
  k_steps
  rename_i F' N'
  refine hQ _ _ _ _ ?_ (fun z hz1 hz2 => ?_) F' N' (by assumption)
  · rw [← hc1]; exact if_pos rfl
  · exact (if_neg hz1).trans ((if_neg hz2).trans (congrFun eK z))
theorem law_keep (w : World) {mean : ExcName → Option Value} {mg mb : Str → Option Value} {h₀ : Heap} {L fa : Addr} {cd : Value} {s : Shared} {m : Str → Option Value} {rest : List (Addr × Obj)} {o3 : Obj} {g : Bool} {row : Str} {lk : Addr} {vk : List Value} {nk : Nat} {tr : Tok} {Q : Flow → Shared → Prop} {E : Value → Shared → Prop}
    (F : Fr h₀ L s.heap m) (X : (KL w.params).In h₀) (T : Top qv looseN mean mg mb h₀) (N : News h₀ L s.heap ((lk, W.listOf vk.toArray nk) :: (L + 3, o3) :: rest)) (h3 : o3.data = .cell (some (.str row tr)))
    (hs : m (Str.ofString "says") = some (.bool g)) (hk : m (Str.ofString "kept") = some (.ref lk)) (hne : ∀ p ∈ (L + 3, o3) :: rest, p.1 ≠ lk) (hvl : vk.toArray.size ≤ sizeLine)
    (hQ : ∀ (h' : Heap) (tk' : Nat) (n' : Nat), Fr h₀ L h' m → News h₀ L h' ((lk, W.listOf (if g = true then vk ++ [.str row tr] else vk).toArray n') :: (L + 3, o3) :: rest) → Q .next { s with heap := h', toks := tk' }) :
    PySem.Challenge.rw_uc0065_01 = PySem.Challenge.rw_uc0065_01 → KL = KL →
    wpAny (model prog w) (lawA L fa cd) (exec (stAt 3 abBody) (lawE L fa cd)) Q E s := by
  k_fill
  intro hrow hKL; clear hrow hKL
  have B := below_caller h₀
  have eK := know_cons (x := Str.ofString "kept") (v := .ref lk) (know_eq hs) hk
  replace F := Mine.Fr.know F hs
  replace F := Mine.Fr.know F (x := Str.ofString "kept") (v := .ref lk) (by rw [if_neg (by decide)]; exact hk)
  show wpAny _ _ (exec (.If _ _ [.If _ _ [] _] _) _) _ _ _
  cases g with
  | true =>
    k_steps
    refine' append_head (D := lk) (its := vk.toArray) (n := nk) (rest := (L + 3, o3) :: rest) F N hne ?_ hvl
    intro h11 F11 N11
    k_steps
    rw [eK] at F11
    exact hQ h11 _ _ F11 (by rw [if_pos rfl, ← List.push_toArray]; exact N11)
  | false =>
    k_steps
    rw [eK] at F
    exact hQ s.heap s.toks nk F (by rw [if_neg (by decide)]; exact N)
end Mine

end
-- WS
section
open PySem PySem.W PySem.Spec PySem.Calls PyProof.Rows PyProof.V
set_option Elab.async false
set_option maxRecDepth 100000
set_option maxHeartbeats 400000
namespace Mine
theorem iter_str2 {prog : Program} {w : World} {A : Around} {E : Value → Shared → Prop} {s : Shared} {x : Str} {t : Tok} {Q : Value → Shared → Prop}
    (hQ : ∀ (o : Obj) (St : Nat → Heap → Prop), (∀ A' : Around, A'.handled = none → Walks prog w A' s.heap.objs.size [s.heap.objs.size] [s.heap.objs.size] x.cps.size (SignAt x) St) → (∀ i h, St i h → ∃ oI, h.get? s.heap.objs.size = some oI) → St 0 (s.heap.push o) →
      Q (.ref s.heap.objs.size) { s with heap := s.heap.push o }) : wpAny (model prog w) A (pyIter (.str x t)) Q E s := by
  cases ha : x.cps.all (· < 128)
  · exact wpAny_pyIter_wide ha (hQ _ _ (fun A' hA => Walks.strWide hA _ x t) (fun i h q => let ⟨o, ho, _⟩ := q; ⟨o, ho⟩) ⟨_, Heap.get?_push_size _ rfl, rfl, rfl⟩)
  · exact wpAny_pyIter_ascii ha (hQ _ _ (fun A' hA => Walks.strAscii hA _ x t) (fun i h q => let ⟨o, ho, _⟩ := q; ⟨o, ho⟩) ⟨_, Heap.get?_push_size _ rfl, rfl, rfl⟩)
noncomputable def TxEnd {σ : Type} (h₀ : Heap) (L : Addr) (Led : σ → List (Addr × Obj)) (ps : σ → List (Str × Value)) (Facts : σ → Prop) (x : Str) (stored : List Str) (m₀ : Str → Option Value) (P : σ → Prop) (I : Addr) (oI : Obj) (s₁ s₂ : Shared) : Prop :=
  ∀ Go : Shared → Prop, (∀ (c : σ) (h' : Heap) (tk' : Nat) (m' : Str → Option Value), Fr h₀ L h' m' → News h₀ L h' ((I, oI) :: Led c) → (∀ p ∈ Led c, p.1 ≠ I) → Facts c → (∀ p ∈ ps c, m' p.1 = some p.2) → (∀ z, z ≠ x → (∀ p ∈ ps c, z ≠ p.1) → stored.contains z = false → m' z = m₀ z) → P c → Go { s₁ with heap := h', toks := tk' }) → Go s₂
noncomputable def TxPost {σ : Type} (h₀ : Heap) (L : Addr) (Led : σ → List (Addr × Obj)) (ps : σ → List (Str × Value)) (Facts : σ → Prop) (x : Str) (stored : List Str) (m₀ : Str → Option Value) (P : σ → Prop) (I : Addr) (oI : Obj) (s₁ : Shared) (Q : Flow → Shared → Prop) (f : Flow) (s₂ : Shared) : Prop :=
  match f with
  | .ret v => Q (.ret v) s₂
  | .brk => Q .next s₂
  | _ => TxEnd h₀ L Led ps Facts x stored m₀ P I oI s₁ s₂
/-- a for over a text whose turns may bind a name to a fresh object -/
theorem kst_textF {prog : Program} {w : World} {A : Around} {E : Value → Shared → Prop} {s : Shared} {env : Env} {h₀ : Heap} {x : Str} {body : List Stmt} {Q : Flow → Shared → Prop}
    {σ : Type} {xt : Str} {tx : Tok} {m₀ : Str → Option Value} (Led : σ → List (Addr × Obj)) (ps : σ → List (Str × Value)) (Facts : σ → Prop) (stored : List Str) (P : List Int → σ → Prop) (c₀ : σ)
    (hh : A.handled = none) (F : Fr h₀ env.locals s.heap m₀) (N : News h₀ env.locals s.heap (Led c₀)) (hf : Facts c₀) (hk : ∀ p ∈ ps c₀, m₀ p.1 = some p.2) (hp : P [] c₀)
    (turn : ∀ (c : σ) (pre post : List Int) (n : Nat) t (u : Str → Option Value) h tk (I : Addr) (oI : Obj), KStt.codes xt = pre ++ (n : Int) :: post → (∀ p ∈ Led c, p.1 ≠ I) → Facts c → P pre c →
      Fr h₀ env.locals h (fun y => if y = x then some (.str ⟨#[n]⟩ t) else kstB (fun z => if stored.contains z then u z else m₀ z) (ps c) y) → News h₀ env.locals h ((I, oI) :: Led c) →
      wpAny (model prog w) A (execs body env) (TxPost h₀ env.locals Led ps Facts x stored m₀ (P (pre ++ [(n : Int)])) I oI { s with heap := h, toks := tk } Q) E { s with heap := h, toks := tk })
    (done : ∀ (c : σ) (u : Str → Option Value) h tk, Facts c → P (KStt.codes xt) c → Fr h₀ env.locals h (fun y => if y = x then u y else kstB (fun z => if stored.contains z then u z else m₀ z) (ps c) y) → News h₀ env.locals h (Led c) → Q .next { s with heap := h, toks := tk }) :
    wpAny (model prog w) A (pyIter (.str xt tx)) (fun it s₂ => LoopAtV prog w A h₀ env x body Q E it s₂) E s := by
  refine iter_str2 fun o St hW hSt hst => ?_
  have W := hW A hh
  refine ⟨s.heap.objs.size, [s.heap.objs.size], [s.heap.objs.size], xt.cps.size, SignAt xt, St, m₀, Led c₀, (fun i m nx => KstS Led ps Facts x stored m₀ P ((KStt.codes xt).take i) m nx), rfl, W, ?_, ?_, ?_, hst, F.push _, (fun p hp => ⟨Heap.get?_push_of_some _ (N p hp).1, (N p hp).2⟩), ⟨c₀, rfl, hf, hk, fun _ _ _ _ => rfl, by simpa using hp⟩, ?_, ?_⟩
  · intro hm
    exact absurd F.ns.lt ((List.mem_singleton.mp hm) ▸ Nat.lt_irrefl _)
  · intro b' hb
    rw [List.mem_singleton.mp hb]
    exact next_is_new F
  · intro p hp hI
    exact absurd (Heap.lt_size (N p hp).1) ((List.mem_singleton.mp hI) ▸ Nat.lt_irrefl _)
  · rintro i v m₁ nx s₁ own ⟨hh', tk', rfl⟩ hin ⟨n, u, hn, rfl⟩ ⟨c, rfl, hf', h1, h2, hp'⟩ hoff hown hget hfp hSt1 F₁ N₁
    obtain ⟨oI, hoI⟩ := hSt _ _ hSt1
    have hmem : (s.heap.objs.size, oI) ∈ own := hfp _ (List.mem_singleton.mpr rfl) (next_is_new F) oI hoI
    have hn' := KStt.code_at hn
    have hs : (KStt.codes xt).take (i + 1) = (KStt.codes xt).take i ++ [(n : Int)] := by simp [List.take_add_one, hn']
    have e : KStt.codes xt = (KStt.codes xt).take i ++ (n : Int) :: (KStt.codes xt).drop (i + 1) := by
      have ht := List.take_append_drop (i + 1) (KStt.codes xt)
      rw [hs, List.append_assoc] at ht
      exact ht.symm
    have hI : ∀ p ∈ Led c, p.1 ≠ s.heap.objs.size := fun p hp q => hoff p hp (List.mem_singleton.mpr q)
    refine wpAny_mono (turn c _ _ n u m₁ hh' tk' s.heap.objs.size oI e hI hf' hp' (kst_fr h1 h2 F₁) (fun p hp => ?_)) (fun f s₂ p => ?_) fun _ _ x => x
    · rcases List.mem_cons.mp hp with hp | hp
      · subst hp; exact N₁ _ (List.mem_append_left _ hmem)
      · exact N₁ _ (List.mem_append_right _ hp)
    · have up : TxEnd h₀ env.locals Led ps Facts x stored m₀ (P ((KStt.codes xt).take i ++ [(n : Int)])) s.heap.objs.size oI { s with heap := hh', toks := tk' } s₂ →
          LoopStepU h₀ env.locals [s.heap.objs.size] own (fun m nx => KstS Led ps Facts x stored m₀ P ((KStt.codes xt).take (i + 1)) m nx) { s with heap := hh', toks := tk' } .next s₂ := by
        intro hx
        apply hx
        intro c' h' tk2 m' F' N' hI' hf9 hk9 hr9 hp9
        refine ⟨rfl, h', tk2, m', Led c', rfl, F', fun p hp => ?_, fun p hp hq => hI' p hp (List.mem_singleton.mp hq), c', rfl, hf9, hk9, hr9, by rw [hs]; exact hp9⟩
        rcases List.mem_append.mp hp with hp | hp
        · have e1 := List.mem_singleton.mp (hown p hp)
          have e2 := hget p hp
          rw [e1, hoI] at e2
          have : p = (s.heap.objs.size, oI) := by
            cases p; simp only at e1 e2; rw [e1]; cases e2; rfl
          rw [this]; exact N' _ (List.mem_cons_self ..)
        · exact N' _ (List.mem_cons_of_mem _ hp)
      cases f with
      | ret v => exact p
      | brk => exact p
      | next => exact up p
      | cont => exact up p
  · rintro h' tk m₁ nx F₁ N₁ _ ⟨c, rfl, hf', h1, h2, hp'⟩
    have hl : xt.cps.size = (KStt.codes xt).length := (KStt.codes_length xt).symm
    rw [hl, List.take_length] at hp'
    exact done c m₁ h' tk hf' hp' (kst_frOut h1 h2 F₁) N₁
end Mine
namespace Mine
noncomputable def TxBrk {σ : Type} (h₀ : Heap) (L : Addr) (Led : σ → List (Addr × Obj)) (ps : σ → List (Str × Value)) (Facts : σ → Prop) (x : Str) (stored : List Str) (m₀ : Str → Option Value) (P : σ → Prop) (s₁ s₂ : Shared) : Prop :=
  ∀ Go : Shared → Prop, (∀ (c : σ) (h' : Heap) (tk' : Nat) (m' : Str → Option Value), Fr h₀ L h' m' → News h₀ L h' (Led c) → Facts c → (∀ p ∈ ps c, m' p.1 = some p.2) → (∀ z, z ≠ x → (∀ p ∈ ps c, z ≠ p.1) → stored.contains z = false → m' z = m₀ z) → P c → Go { s₁ with heap := h', toks := tk' }) → Go s₂
noncomputable def TxPostB {σ : Type} (h₀ : Heap) (L : Addr) (Led : σ → List (Addr × Obj)) (ps : σ → List (Str × Value)) (Facts : σ → Prop) (x : Str) (stored : List Str) (m₀ : Str → Option Value) (P PB : σ → Prop) (I : Addr) (oI : Obj) (s₁ : Shared) (Q : Flow → Shared → Prop) (f : Flow) (s₂ : Shared) : Prop :=
  match f with
  | .ret v => Q (.ret v) s₂
  | .brk => TxBrk h₀ L Led ps Facts x stored m₀ PB s₁ s₂
  | _ => TxEnd h₀ L Led ps Facts x stored m₀ P I oI s₁ s₂
/-- as kst_textF; the loop's end and its breaks go on as one -/
theorem kst_textB {prog : Program} {w : World} {A : Around} {E : Value → Shared → Prop} {s : Shared} {env : Env} {h₀ : Heap} {x : Str} {body : List Stmt} {Q : Flow → Shared → Prop}
    {σ : Type} {xt : Str} {tx : Tok} {m₀ : Str → Option Value} (Led : σ → List (Addr × Obj)) (ps : σ → List (Str × Value)) (Facts : σ → Prop) (stored : List Str) (P : List Int → σ → Prop) (PE : σ → Prop) (c₀ : σ)
    (hh : A.handled = none) (F : Fr h₀ env.locals s.heap m₀) (N : News h₀ env.locals s.heap (Led c₀)) (hf : Facts c₀) (hk : ∀ p ∈ ps c₀, m₀ p.1 = some p.2) (hp : P [] c₀)
    (turn : ∀ (c : σ) (pre post : List Int) (n : Nat) t (u : Str → Option Value) h tk (I : Addr) (oI : Obj), KStt.codes xt = pre ++ (n : Int) :: post → (∀ p ∈ Led c, p.1 ≠ I) → Facts c → P pre c →
      Fr h₀ env.locals h (fun y => if y = x then some (.str ⟨#[n]⟩ t) else kstB (fun z => if stored.contains z then u z else m₀ z) (ps c) y) → News h₀ env.locals h ((I, oI) :: Led c) →
      wpAny (model prog w) A (execs body env) (TxPostB h₀ env.locals Led ps Facts x stored m₀ (P (pre ++ [(n : Int)])) PE I oI { s with heap := h, toks := tk } Q) E { s with heap := h, toks := tk })
    (hend : ∀ c, P (KStt.codes xt) c → PE c)
    (done : ∀ (c : σ) (u : Str → Option Value) h tk, Facts c → PE c → Fr h₀ env.locals h (fun y => if y = x then u y else kstB (fun z => if stored.contains z then u z else m₀ z) (ps c) y) → News h₀ env.locals h (Led c) → Q .next { s with heap := h, toks := tk }) :
    wpAny (model prog w) A (pyIter (.str xt tx)) (fun it s₂ => LoopAtV prog w A h₀ env x body Q E it s₂) E s := by
  refine kst_textF Led ps Facts stored P c₀ hh F N hf hk hp (fun c pre post n t u h tk I oI he hI hf' hp' F' N' => ?_) (fun c u h tk hf' hp' F' N' => done c u h tk hf' (hend c hp') F' N')
  refine wpAny_mono (turn c pre post n t u h tk I oI he hI hf' hp' F' N') (fun f s₂ p => ?_) fun _ _ x => x
  cases f with
  | ret v => exact p
  | brk =>
    apply p
    intro c' h' tk' m' F2 N2 hf2 hk2 hr2 hp2
    exact done c' m' h' tk' hf2 hp2 (kst_frOut hk2 hr2 F2) N2
  | next => exact p
  | cont => exact p
end Mine

end
-- W1
section
open PySem PySem.W PySem.Spec PySem.Calls PyProof.Rows
set_option Elab.async false
set_option maxRecDepth 100000
set_option maxHeartbeats 4000000
namespace Mine
/-- one bound for the ledger's unknown rest -/
noncomputable abbrev WSt := Int × Int × Int × List Int
noncomputable def growW (l : List Int) (b : Int) : List Int := if (l.length : Int) ≤ b then l ++ List.replicate (b - l.length + 1).toNat 0 else l
noncomputable def wsStep (s : WSt) (c : Int) : WSt :=
  if c = 32 then (s.1 + 1, s.2.1 + 1, s.2.2.1, s.2.2.2)
  else (0, s.2.1 + 1, s.2.2.1 + 1, (growW s.2.2.2 s.1).set s.1.toNat ((growW s.2.2.2 s.1).getD s.1.toNat 0 + 1))
noncomputable def wsF (l : List Int) : WSt := l.foldl wsStep (0, 0, 0, [])
noncomputable def WInv (pre : List Int) (b n nt : Int) (ns : List Int) : Prop := (∀ x ∈ pre, x = 32 ∨ x = 9) ∧ wsF pre = (b, n, nt, ns) ∧ 0 ≤ b ∧ b ≤ pre.length ∧ n = pre.length ∧ 0 ≤ nt ∧ nt ≤ pre.length ∧ ns.length ≤ pre.length
theorem WInv.nil : WInv [] 0 0 0 [] := ⟨fun _ h => absurd h List.not_mem_nil, rfl, by decide, by decide, rfl, by decide, by decide, by decide⟩
theorem WInv.s {pre : List Int} {b n nt : Int} {ns : List Int} {c : Nat} (h : WInv pre b n nt ns) (hc : c = 32) : WInv (pre ++ [(c : Int)]) (b + 1) (n + 1) nt ns := by
  k_with_none
  k_with "OM" => lia
  obtain ⟨h1, h2, h3, h4, h5, h6, h7, h8⟩ := h
  subst hc
  refine ⟨fun x hx => ?_, ?_, by lia, ?_, ?_, h6, ?_, ?_⟩
  · rcases List.mem_append.mp hx with hx | hx
    · exact h1 x hx
    · exact .inl (List.mem_singleton.mp hx)
  · unfold wsF at h2 ⊢; rw [List.foldl_append, h2]; rfl
  all_goals rw [List.length_append, List.length_singleton]; lia
theorem WInv.t {pre : List Int} {b n nt : Int} {ns : List Int} {c : Nat} (h : WInv pre b n nt ns) (hc : c = 9) : WInv (pre ++ [(c : Int)]) 0 (n + 1) (nt + 1) ((growW ns b).set b.toNat ((growW ns b).getD b.toNat 0 + 1)) := by
  obtain ⟨h1, h2, h3, h4, h5, h6, h7, h8⟩ := h
  subst hc
  refine ⟨fun x hx => ?_, ?_, by lia, ?_, ?_, by lia, ?_, ?_⟩
  · rcases List.mem_append.mp hx with hx | hx
    · exact h1 x hx
    · exact .inr (List.mem_singleton.mp hx)
  · unfold wsF at h2 ⊢; rw [List.foldl_append, h2]; rfl
  · rw [List.length_append, List.length_singleton]; lia
  · rw [List.length_append, List.length_singleton]; lia
  · rw [List.length_append, List.length_singleton]; lia
  · rw [List.length_append, List.length_singleton, List.length_set]; unfold growW; split
    · rw [List.length_append, List.length_replicate]; lia
    · lia
noncomputable def spanW (x : Str) : List Int := (KStt.codes x).takeWhile fun c => c == 32 || c == 9
theorem span_all {x : Str} (h : ∀ c ∈ KStt.codes x, c = 32 ∨ c = 9) : spanW x = KStt.codes x := by
  unfold spanW
  have := List.takeWhile_append_of_pos (p := fun c : Int => c == 32 || c == 9) (l₁ := KStt.codes x) (l₂ := []) (fun c hc => by rcases h c hc with h | h <;> subst h <;> rfl)
  simpa using this
theorem span_len (x : Str) : (spanW x).length ≤ x.length := by
  rw [← KStt.codes_length]; unfold spanW; exact (List.takeWhile_sublist _).length_le
theorem span_cut {x : Str} {pre post : List Int} {n : Int} (e : KStt.codes x = pre ++ n :: post) (h : ∀ c ∈ pre, c = 32 ∨ c = 9) (h1 : n ≠ 32) (h2 : n ≠ 9) : spanW x = pre := by
  unfold spanW
  rw [e, List.takeWhile_append_of_pos (fun c hc => by rcases h c hc with h | h <;> subst h <;> rfl), List.takeWhile_cons]
  simp [h1, h2]
theorem WInv.all {x : Str} {b n nt : Int} {ns : List Int} (h : WInv (KStt.codes x) b n nt ns) : WInv (spanW x) b n nt ns := by rw [span_all h.1]; exact h
theorem WInv.cut {x : Str} {pre post : List Int} {c b n nt : Int} {ns : List Int} (h : WInv pre b n nt ns) (e : KStt.codes x = pre ++ c :: post) (h1 : c ≠ 32) (h2 : c ≠ 9) : WInv (spanW x) b n nt ns := by rw [span_cut e h.1 h1 h2]; exact h
theorem ch_is {c k : Nat} {d : Str} (hd : d = ⟨#[k]⟩) (h : (⟨#[c]⟩ : Str) = d) : c = k := by subst hd; cases h; rfl
theorem ch_not {c k : Nat} {d : Str} (hd : d = ⟨#[k]⟩) (h : ¬ (⟨#[c]⟩ : Str) = d) : (c : Int) ≠ k := by
  intro e
  have : c = k := by lia
  subst this
  exact h hd.symm
theorem flat_rep (k : Nat) : (List.replicate k [(0 : Int)]).flatten = List.replicate k 0 := by
  induction k with
  | zero => rfl
  | succ k ih => rw [List.replicate_succ, List.flatten_cons, ih]; rfl
theorem grow_pos {ns : List Int} {b : Int} (h : (ns.length : Int) ≤ b) : growW ns b = ns ++ (List.replicate (b - ns.length + 1).toNat [(0 : Int)]).flatten := by
  unfold growW; rw [if_pos h, flat_rep]
theorem grow_neg {ns : List Int} {b : Int} (h : ¬ (ns.length : Int) ≤ b) : growW ns b = ns := by unfold growW; rw [if_neg h]
theorem grow_drop {g h : Heap} {L : Addr} {a b c i d : Addr × Obj} {r : CbLed} (N : News g L h (a :: b :: c :: i :: d :: r)) : News g L h (i :: a :: r) := fun p hp => N p (by
  simp only [List.mem_cons] at hp; rcases hp with h | h | h <;> (first | ((try rw [h]); (repeat first | exact List.mem_cons_self .. | exact h | exact List.mem_append_left _ h | refine List.mem_append_right _ ?_ | refine List.mem_cons_of_mem _ ?_); done) | simp [h]))
theorem tail_drop {g h : Heap} {L : Addr} {a : Addr × Obj} {r : CbLed} (N : News g L h (a :: r)) : News g L h r := fun p hp => N p (List.mem_cons_of_mem _ hp)
theorem ws_drop {g h : Heap} {L : Addr} {a b c d x y : Addr × Obj} {r : CbLed} (N : News g L h (a :: b :: c :: d :: x :: y :: r)) : News g L h ([a, b, x, y] ++ r) := fun p hp => N p (by
  simp only [List.mem_cons, List.cons_append, List.nil_append] at hp; rcases hp with h | h | h | h | h <;> (first | ((try rw [h]); (repeat first | exact List.mem_cons_self .. | exact h | exact List.mem_append_left _ h | refine List.mem_append_right _ ?_ | refine List.mem_cons_of_mem _ ?_); done) | simp [h]))
/-- a Whitespace in the ledger -/
noncomputable abbrev wsLed (P : Params) (x : Str) (k1 : Tok) (b n nt : Int) (si : Bool) (us : List Value) (X Dd Nn Tt : Addr) (t1 t2 t3 t4 t5 tb tn tnt : Tok) (cnt : Nat) : CbLed :=
  [(Nn, { cls := Value.type "tuple", data := Data.seq #[Value.ref Tt, Value.int b tb] }), (Tt, { cls := Value.type "tuple", data := Data.seq us.toArray }), (X, instObj 210 Dd),
   (Dd, dictOf [{ hash := PyData.keyHash P (Str.ofString "raw"), key := Value.str (Str.ofString "raw") t1, val := Value.str x k1 }, { hash := PyData.keyHash P (Str.ofString "n"), key := Value.str (Str.ofString "n") t2, val := Value.int n tn },
     { hash := PyData.keyHash P (Str.ofString "nt"), key := Value.str (Str.ofString "nt") t3, val := Value.int nt tnt }, { hash := PyData.keyHash P (Str.ofString "norm"), key := Value.str (Str.ofString "norm") t4, val := Value.ref Nn },
     { hash := PyData.keyHash P (Str.ofString "is_simple"), key := Value.str (Str.ofString "is_simple") t5, val := Value.bool si }] cnt)]
noncomputable abbrev ConWs (w : World) (mean : ExcName → Option Value) (mg mb : Str → Option Value) (news : CbLed) (d u : Nat) (x : Str) (k1 : Tok) : Prop :=
  (∀ (dp un : Nat) (gd : Option (List Code)) (cn : Str) (cs : Scope) (a : Addr) (ccd : Value) (cl : List (Str × Addr)) (outer : List Env) (A₀ : Around) (base h₀ : Heap) (L : Addr) (m : Str → Option Value) (s : Shared) (Q E : Value → Shared → Prop),
    PyProof.Rows.Below A₀ base outer h₀ → Fr h₀ L s.heap m → (KL w.params).In h₀ → News h₀ L s.heap news → Top qv looseN mean mg mb h₀ → cs.kind = .function →
    x.length ≤ 100 → dp + d < recursionLimit → un + u < cLine →
    (∀ (b n nt : Int) (ns : List Int) (us : List Value) (X Dd Nn Tt : Addr) (t1 t2 t3 t4 t5 tb tn tnt : Tok) (cnt : Nat) (h' : Heap) (tk' : Nat), WInv (spanW x) b n nt ns → IntsAre us ns → Fr h₀ L h' m →
      News h₀ L h' (wsLed w.params x k1 b n nt (decide ((ns.length : Int) ≤ 1)) us X Dd Nn Tt t1 t2 t3 t4 t5 tb tn tnt cnt ++ news) → (∀ p ∈ news, p.1 < Dd) → @LT.lt Nat _ Dd X → @LT.lt Nat _ X Tt → @LT.lt Nat _ Tt Nn → Q (.ref X) { s with heap := h', toks := tk' }) →
      wpAny (model prog w) (ktrTop dp un gd cn cs L a ccd cl outer) (call (.ref 210) [.str x k1]) Q E s)


theorem all10 {A B C D E F G H I J : Type} {P : A × B × C × D × E × F × G × H × I × J → Prop} (h : ∀ a b c d e f g i j k, P (a, b, c, d, e, f, g, i, j, k)) (c : A × B × C × D × E × F × G × H × I × J) : P c :=
  h c.1 c.2.1 c.2.2.1 c.2.2.2.1 c.2.2.2.2.1 c.2.2.2.2.2.1 c.2.2.2.2.2.2.1 c.2.2.2.2.2.2.2.1 c.2.2.2.2.2.2.2.2.1 c.2.2.2.2.2.2.2.2.2
theorem c_ws (w : World) (mean : ExcName → Option Value) (mg mb : Str → Option Value) (news : CbLed) (x : Str) (k1 : Tok) :
   ConWs w mean mg mb news 3 60 x k1 := by
  k_with_none
  k_with "KA" => first | (with_reducible assumption) | exact Low.ne ‹Low _ _› (by lia)
  k_with "OM" => lia
  k_with "isTrue Compare" => (k_here; (first | (with_reducible show wpAny _ _ (PySem.isTrue (PySem.Expr.Compare (PySem.Expr.Name _ _) _ _ _) _ _) _ _ _) | (with_reducible show wpAny _ _ (PySem.isTrue (PySem.Expr.Compare (PySem.Expr.Constant _ _ _) _ _ _) _ _) _ _ _) | (with_reducible show wpAny _ _ (PySem.isTrue (PySem.Expr.Compare (PySem.Expr.BinOp (PySem.Expr.Name _ _) _ _ _) _ _ _) _ _) _ _ _)); (first | (with_reducible show wpAny _ _ (PySem.isTrue (PySem.Expr.Compare _ _ [(PySem.Expr.Name _ _)] _) _ _) _ _ _) | (with_reducible show wpAny _ _ (PySem.isTrue (PySem.Expr.Compare _ _ [(PySem.Expr.Constant _ _ _)] _) _ _) _ _ _) | (with_reducible show wpAny _ _ (PySem.isTrue (PySem.Expr.Compare _ _ [(PySem.Expr.BinOp (PySem.Expr.Name _ _) _ _ _)] _) _ _) _ _ _)); k_dflt (refine' cmpS ?svF ?svk ?svS ?svU ?_ ?svh; (case svF => k_asm); (case svk => rfl); (case svS => walk_at "SV"); (case svU => walk_at "SV"); (case svh => with_unfolding_all rfl); k_whole))
  k_with "spliced" => (k_here; (first | (with_reducible show wpAny _ _ (spliced (backTo _ (starEach ((PySem.Expr.Name _ _) :: _) _))) _ _ _) | (with_reducible show wpAny _ _ (spliced (backTo _ (starEach ((PySem.Expr.Constant _ _ _) :: _) _))) _ _ _) | (with_reducible show wpAny _ _ (spliced (backTo _ (starEach ((PySem.Expr.BinOp (PySem.Expr.Name _ _) _ _ _) :: _) _))) _ _ _)); k_dflt (refine' itemsS ?svF ?svk ?svS ?_; (case svF => k_asm); (case svk => rfl); (case svS => walk_at "SV"); k_whole))
  k_with "eval Subscript" => (k_here; (first | (with_reducible show wpAny _ _ (eval (PySem.Expr.Subscript (PySem.Expr.Name _ _) (PySem.Expr.Name _ _) _) _) _ _ _) | (with_reducible show wpAny _ _ (eval (PySem.Expr.Subscript (PySem.Expr.Name _ _) (PySem.Expr.Constant _ _ _) _) _) _ _ _) | (with_reducible show wpAny _ _ (eval (PySem.Expr.Subscript (PySem.Expr.Name _ _) (PySem.Expr.BinOp (PySem.Expr.Name _ _) _ _ _) _) _) _ _ _)); k_dflt (refine' subS ?svF ?svk ?svS ?svU ?_; (case svF => k_asm); (case svk => rfl); (case svS => walk_at "SV"); (case svU => walk_at "SV"); k_whole))
  k_with "exec Assign" => (k_here; (first | (with_reducible show wpAny _ _ (exec (PySem.Stmt.Assign [_] (PySem.Expr.Name _ _) _) _) _ _ _) | (with_reducible show wpAny _ _ (exec (PySem.Stmt.Assign [_] (PySem.Expr.Constant _ _ _) _) _) _ _ _) | (with_reducible show wpAny _ _ (exec (PySem.Stmt.Assign [_] (PySem.Expr.BinOp (PySem.Expr.Name _ _) _ _ _) _) _) _ _ _)); k_dflt (refine' asgS ?svF ?svk ?svS ?_; (case svF => k_asm); (case svk => rfl); (case svS => walk_at "SV"); k_whole))
  k_with "execs cons" => (k_here; (with_reducible show wpAny _ _ _ _ _ (Shared.mk _ _ _ (_ + 1 + 1) _)); refine gentok ?_; intro _; (with_reducible refine wpAny_execs_cons ?_); try dsimp only)
  k_with "execs nil" => (k_here; (with_reducible show wpAny _ _ _ _ _ (Shared.mk _ _ _ (_ + 1 + 1) _)); refine gentok ?_; intro _; (with_reducible refine wpAny_execs_nil ?_); try dsimp only)
  k_with "call builtin:len" => (k_here; (with_reducible show wpAny _ _ (call (Value.builtin "len") [Value.ref _]) _ _ _); k_dflt (refine' kst_len ?k1 ?k2 ?k3 ?k4 ?_; (case k1 => k_asm); (case k2 => k_mem); (case k3 => exact IntsAre.length (by assumption)); (case k4 => lia)))
  k_with "call type:tuple" => (k_here; (with_reducible show wpAny _ _ (call (Value.type _) [Value.ref _]) _ _ _); k_dflt (refine' kde_tupleOf ?k1 ?k2 ?k3 ?k4 ?k5 ?_; (case k1 => k_asm); (case k2 => k_asm); (case k3 => exact News.isList (by k_asm) (by k_mem)); (case k4 => rw [List.size_toArray]; lia); (case k5 => exact rfl)); intro _ _ _ _ l1; (try k_lt l1); (try k_sweep))
  suffices hfill : PySem.Challenge.rw_uc0065_01 = PySem.Challenge.rw_uc0065_01 → KL = KL → ConWs w mean mg mb news 3 60 x k1 from hfill rfl rfl
  k_fill
  intro hrow hKL; clear hrow hKL
  unfold ConWs; intros; rename_i hp9 hd9 hu9 hret
  k_dflt (refine' call_cls ?k1 ?k2 ?k3 ?k4 ?k5 ?k6 ?_; (case k1 => k_asm); (case k2 => k_asm); (case k3 => k_asm); (case k4 => k_is); (case k5 => k_is); (case k6 => k_is); k_whole; intro x' d' h' F' N' l1 l2; (try k_lt l1); (try k_lt2 l2); (try k_sweep))
  have hLow : Low d' news := l1
  k_dflt (refine' code_def ?k1 ?k2 ?k3 ?k4 ?k5 ?kA ?kF ?kK ?k6 ?k7 ?k8 ?k9 ?kB ?_ ?c2 ?c3 ?c4 ?c5; (case kA => exact rfl); (case kF => exact rfl); (case kK => assumption); (case k1 => k_asm); (case k2 => k_asm); (case k3 => k_asm); (case k4 => k_asm); (case k5 => k_asm); (case k6 => k_is); (case k7 => k_is); (case k8 => ktr_room); (case k9 => first | exact BindsTo.of_eq rfl | exact binds_K (by k_in) rfl (by k_is) rfl rfl rfl); (case c5 => decide); (case kB => exact locs rfl); (case c2 => exact rfl); (case c3 => exact rfl); (case c4 => exact rfl); k_whole; intro g' L' h' FG' F' N' B' X' T'; (try dsimp only); (try k_lift B'); (try k_fold))
  k_steps
  rename_i lq hq1 lt1 hq2 hq3 hq4 hq5 FQ NQ tq9
  obtain ⟨R9, hR9, NR⟩ : ∃ R9, R9 = _ ∧ News g' L' hq5 ((lq, W.listOf #[] 0) :: R9) := ⟨_, rfl, NQ⟩
  have hlt : ∀ p ∈ R9, @LT.lt Nat _ p.1 lq := by rw [hR9]; exact allLt_all _ lt1
  refine' kst_textB (σ := Int × Tok × Int × Tok × Int × Tok × Addr × List Value × List Int × Nat) (fun c => (c.2.2.2.2.2.2.1, W.listOf c.2.2.2.2.2.2.2.1.toArray c.2.2.2.2.2.2.2.2.2) :: R9) (fun c => [(Str.ofString "b", .int c.1 c.2.1), (Str.ofString "n", .int c.2.2.1 c.2.2.2.1), (Str.ofString "nt", .int c.2.2.2.2.1 c.2.2.2.2.2.1), (Str.ofString "count", .ref c.2.2.2.2.2.2.1)])
    (fun c => IntsAre c.2.2.2.2.2.2.2.1 c.2.2.2.2.2.2.2.2.1 ∧ ∀ p ∈ R9, @LT.lt Nat _ p.1 c.2.2.2.2.2.2.1) [] (fun pre c => WInv pre c.1 c.2.2.1 c.2.2.2.2.1 c.2.2.2.2.2.2.2.2.1) (fun c => WInv (spanW x) c.1 c.2.2.1 c.2.2.2.2.1 c.2.2.2.2.2.2.2.2.1) (0, _, 0, _, 0, _, lq, [], [], 0) rfl FQ NR ⟨.nil, hlt⟩ ?f5 WInv.nil ?f3 (fun c h => h.all) ?f4
  case f5 =>
    intro p hp
    simp only [List.mem_cons, List.not_mem_nil, or_false] at hp
    rcases hp with hp | hp | hp | hp <;> (subst hp; exact rfl)
  case f3 =>
    apply all10
    intro b tb n tn nt tnt Dc vs ns e pre post c tc u h8 tk8 I oI he hoffI hf hp F8 N8
    dsimp only at hf hp F8 N8 hoffI
    obtain ⟨hfi, hfl⟩ := hf
    have hL9 : pre.length < 100 := by
      have e := congrArg List.length he
      rw [KStt.codes_length, List.length_append, List.length_cons] at e
      lia
    have hb9 := hp.2.2.1
    have hb8 := hp.2.2.2.1
    have hb7 := hp.2.2.2.2.2.2.2
    have hDI : @Ne Nat I Dc := Ne.symm <| hoffI _ (List.mem_cons_self ..)
    have hR8 : ∀ p ∈ R9, p.1 ≠ Dc := fun p hp => Nat.ne_of_lt (hfl p hp)
    walk1
    k_fold
    k_steps
    · refine' fun Go ko => ko (_, _, _, _, _, _, _, _, _, _) _ _ _ ?zF ?zN ?zI ⟨?zi, ?zl⟩ ?zk ?zr ?zp
      case zF => assumption
      case zN => exact id (by assumption)
      case zi => assumption
      case zk =>
        intro p hp
        simp only [List.mem_cons, List.not_mem_nil, or_false] at hp
        rcases hp with hp | hp | hp | hp <;> (subst hp; exact rfl)
      case zI =>
        intro p hp
        rcases List.mem_cons.mp hp with h | h
        · subst h; exact Ne.symm hDI
        · exact hoffI p (List.mem_cons_of_mem _ h)
      case zl => exact hfl
      case zr =>
        intro z h1 h2 h3
        simp only [List.forall_mem_cons, List.not_mem_nil, false_implies, implies_true, and_true, ne_eq] at h2
        simp [kstB, h1, h2]
      case zp => exact hp.s (ch_is (k := 32) rfl (eq_of_beq ‹(_ == Str.ofString " ") = true›))
    · refine' fun Go ko => ko (_, _, _, _, _, _, _, _, _, _) _ _ _ ?zF ?zN ?zI ⟨?zi, ?zl⟩ ?zk ?zr ?zp
      case zF => assumption
      case zN => exact grow_drop (by assumption)
      case zi => assumption
      case zk =>
        intro p hp
        simp only [List.mem_cons, List.not_mem_nil, or_false] at hp
        rcases hp with hp | hp | hp | hp <;> (subst hp; exact rfl)
      case zI =>
        intro p hp
        rcases List.mem_cons.mp hp with h | h
        · subst h; exact Nat.ne_of_gt (And.left (And.right (And.right ‹_ < _ ∧ _ < _ ∧ I < _ ∧ Dc < _ ∧ AllLt _ R9›)))
        · exact hoffI p (List.mem_cons_of_mem _ h)
      case zl => exact allLt_all _ (And.right (And.right (And.right (And.right ‹_ < _ ∧ _ < _ ∧ I < _ ∧ Dc < _ ∧ AllLt _ R9›))))
      case zr =>
        intro z h1 h2 h3
        simp only [List.forall_mem_cons, List.not_mem_nil, false_implies, implies_true, and_true, ne_eq] at h2
        simp [kstB, h1, h2]
      case zp => have q := hp.t (c := c) (ch_is (k := 9) rfl (eq_of_beq ‹(_ == Str.ofString "	") = true›)); rw [grow_pos (by assumption)] at q; exact q
    · refine' fun Go ko => ko (_, _, _, _, _, _, _, _, _, _) _ _ _ ?zF ?zN ?zI ⟨?zi, ?zl⟩ ?zk ?zr ?zp
      case zF => assumption
      case zN => exact id (by assumption)
      case zi => assumption
      case zk =>
        intro p hp
        simp only [List.mem_cons, List.not_mem_nil, or_false] at hp
        rcases hp with hp | hp | hp | hp <;> (subst hp; exact rfl)
      case zI =>
        intro p hp
        rcases List.mem_cons.mp hp with h | h
        · subst h; exact Ne.symm hDI
        · exact hoffI p (List.mem_cons_of_mem _ h)
      case zl => exact hfl
      case zr =>
        intro z h1 h2 h3
        simp only [List.forall_mem_cons, List.not_mem_nil, false_implies, implies_true, and_true, ne_eq] at h2
        simp [kstB, h1, h2]
      case zp => have q := hp.t (c := c) (ch_is (k := 9) rfl (eq_of_beq ‹(_ == Str.ofString "	") = true›)); rw [grow_neg (by assumption)] at q; exact q
    · dsimp only
      k_steps
      refine' fun Go ko => ko (b, tb, n, tn, nt, tnt, Dc, vs, ns, e) _ _ _ ?zF ?zN ⟨hfi, hfl⟩ ?zk ?zr ?zp
      case zF => assumption
      case zN => exact tail_drop (by assumption)
      case zk =>
        intro p hp
        simp only [List.mem_cons, List.not_mem_nil, or_false] at hp
        rcases hp with hp | hp | hp | hp <;> (subst hp; exact rfl)
      case zr =>
        intro z h1 h2 h3
        simp only [List.forall_mem_cons, List.not_mem_nil, false_implies, implies_true, and_true, ne_eq] at h2
        simp [kstB, h1, h2]
      case zp => exact hp.cut he (ch_not (k := 32) rfl (ne_of_beq_false ‹(_ == Str.ofString " ") = false›)) (ch_not (k := 9) rfl (ne_of_beq_false ‹(_ == Str.ofString "	") = false›))
  case f4 =>
    apply all10
    intro b tb n tn nt tnt Dc vs ns e u h8 tk8 hf hp F8 N8
    dsimp only at hf hp F8 N8
    obtain ⟨hfi, hfl⟩ := hf
    subst hR9
    have hfa := allLt_of hfl
    have hsp := span_len x
    have hb6 := hp.2.2.2.2.2.2.2
    have hb5 := hfi.length
    simp only [AllLt, and_true] at hfa
    k_steps

    refine' hret b n nt ns vs x' d' _ _ _ _ _ _ _ _ _ _ _ _ _ hp hfi ?zF ?zN ?z1 ?z2 ?z3 ?z4
    case zF => assumption
    case zN => exact ws_drop (by assumption)
    case z1 => exact hLow
    case z2 => exact l2
    case z3 => lia
    case z4 => lia

end Mine
open PyProof.Rows in

end
-- W0
section
open PySem PySem.W PySem.Spec PySem.Calls PyProof.Rows PyProof.V PySem.SeqAt
set_option Elab.async false
set_option maxRecDepth 100000
set_option maxHeartbeats 400000
namespace Mine
noncomputable abbrev normD (ns : List Int) (b : Int) : PyData := .tuple [.tuple (ns.map PyData.int), .int b]
theorem reads_norm {h : Heap} {N T : Addr} {us : List Value} {ns : List Int} {b : Int} {tb : Tok} (h1 : h.get? N = some { cls := Value.type "tuple", data := Data.seq #[Value.ref T, Value.int b tb] })
    (h2 : h.get? T = some { cls := Value.type "tuple", data := Data.seq us.toArray }) (hi : IntsAre us ns) : Reads h (.ref N) (normD ns b) [] := by
  k_with_none
  have r1 : Reads h (.ref T) (.tuple (ns.map PyData.int)) [] := .tuple h2 rfl rfl (by simpa using readsAll_of_ints hi)
  exact Reads.tuple h1 rfl rfl (ReadsAll.cons r1 (ReadsAll.cons (Reads.int b tb) .nil))
theorem shaped_norm (ns : List Int) (b : Int) : shaped (normD ns b) = true := by
  have h1 := W.depthAll_ints ns
  have h2 : PyData.depth (normD ns b) ≤ 64 := by simp only [PyData.depth, PyData.depthAll]; lia
  show (PyData.canLay0 (normD ns b) && decide (PyData.depth (normD ns b) ≤ 64)) = true
  rw [Bool.and_eq_true]
  exact ⟨by simp only [PyData.canLay0, PyData.canLayAll0, canLayAll0_ints]; rfl, decide_eq_true h2⟩
theorem eq_norm {prog : Program} {w : World} {A : Around} {E : Value → Shared → Prop} {s : Shared} {Q : Value → Shared → Prop} {N1 T1 N2 T2 : Addr} {us1 us2 : List Value} {ns1 ns2 : List Int} {b1 b2 : Int} {t1 t2 : Tok}
    (h1 : s.heap.get? N1 = some { cls := Value.type "tuple", data := Data.seq #[Value.ref T1, Value.int b1 t1] }) (g1 : s.heap.get? T1 = some { cls := Value.type "tuple", data := Data.seq us1.toArray }) (i1 : IntsAre us1 ns1)
    (h2 : s.heap.get? N2 = some { cls := Value.type "tuple", data := Data.seq #[Value.ref T2, Value.int b2 t2] }) (g2 : s.heap.get? T2 = some { cls := Value.type "tuple", data := Data.seq us2.toArray }) (i2 : IntsAre us2 ns2)
    (hu : A.units + 64 < cLine) (h : Q (.bool (decide (ns1 = ns2 ∧ b1 = b2))) s) : wpAny (model prog w) A (compareOp .Eq (.ref N1) (.ref N2)) Q E s := by
  refine eq_dataH_same (reads_norm h1 g1 i1) (reads_norm h2 g2 i2) (shaped_norm _ _) (shaped_norm _ _) hu ?_ ?_
  · simp [noMix, noMixAll, noMix_ints]
  · have : PySem.Spec.same (normD ns1 b1) (normD ns2 b2) = decide (ns1 = ns2 ∧ b1 = b2) := by
      simp only [PySem.Spec.same, PySem.Spec.sameAll, same_ints]
      by_cases e1 : ns1 = ns2 <;> by_cases e2 : b1 = b2 <;> simp [e1, e2]
    rw [this]; exact h
theorem len_tupN {prog : Program} {w : World} {A : Around} {E : Value → Shared → Prop} {s : Shared} {Q : Value → Shared → Prop} {h₀ : Heap} {L T : Addr} {news : CbLed} {us : List Value} {ns : List Int}
    (N : News h₀ L s.heap news) (hm : (T, ({ cls := Value.type "tuple", data := Data.seq us.toArray } : Obj)) ∈ news) (hi : IntsAre us ns) (hl : ns.length ≤ 1000)
    (h : Q (.int (ns.length : Nat) (s.toks + 1)) { s with toks := s.toks + 1 + 1 }) : wpAny (model prog w) A (call (.builtin "len") [.ref T]) Q E s := by
  have e : us.toArray.size = ns.length := by rw [List.size_toArray]; exact hi.length
  refine len_tuple (items := us.toArray) ⟨_, (N _ hm).1, rfl, _, rfl⟩ (by rw [e]; lia) ?_
  rw [e]; exact h
end Mine

end
-- W4
section
open PySem PySem.W PySem.Spec PySem.Calls PyProof.Rows
set_option Elab.async false
set_option maxRecDepth 100000
set_option maxHeartbeats 4000000
namespace Mine


theorem c_eq (w : World) (mean : ExcName → Option Value) (mg mb : Str → Option Value) (news : CbLed) (x1 : Str) (q1 : Tok) (b1 n1 nt1 : Int) (si1 : Bool) (us1 : List Value) (ns1 : List Int) (X1 D1 N1 T1 : Addr) (t11 t12 t13 t14 t15 tb1 tn1 tnt1 : Tok) (c1 : Nat) (x2 : Str) (q2 : Tok) (b2 n2 nt2 : Int) (si2 : Bool) (us2 : List Value) (ns2 : List Int) (X2 D2 N2 T2 : Addr) (t21 t22 t23 t24 t25 tb2 tn2 tnt2 : Tok) (c2 : Nat) (hi1 : IntsAre us1 ns1) (hi2 : IntsAre us2 ns2) :
   Con w mean mg mb 186 (wsLed w.params x1 q1 b1 n1 nt1 si1 us1 X1 D1 N1 T1 t11 t12 t13 t14 t15 tb1 tn1 tnt1 c1 ++ (wsLed w.params x2 q2 b2 n2 nt2 si2 us2 X2 D2 N2 T2 t21 t22 t23 t24 t25 tb2 tn2 tnt2 c2 ++ news)) 2 100 (True) [.ref X1, .ref X2] (fun _ => .bool (decide (ns1 = ns2 ∧ b1 = b2))) := by
  k_with_none
  k_with "execs cons" => (k_here; (with_reducible show wpAny _ _ _ _ _ (Shared.mk _ _ _ (_ + 1 + 1) _)); refine gentok ?_; intro _; (with_reducible refine wpAny_execs_cons ?_); try dsimp only)
  k_with "execs nil" => (k_here; (with_reducible show wpAny _ _ _ _ _ (Shared.mk _ _ _ (_ + 1 + 1) _)); refine gentok ?_; intro _; (with_reducible refine wpAny_execs_nil ?_); try dsimp only)
  k_with "compareOp Eq ref ref" => (k_here; k_dflt ((refine' eq_norm ?h1 ?g1 ?i1 ?h2 ?g2 ?i2 ?hu ?_); (case h1 => exact News.get (by k_asm) (by k_mem)); (case g1 => exact News.get (by k_asm) (by k_mem)); (case h2 => exact News.get (by k_asm) (by k_mem)); (case g2 => exact News.get (by k_asm) (by k_mem)); (case i1 => with_reducible assumption); (case i2 => with_reducible assumption); (case hu => ktr_units)))
  suffices hfill : PySem.Challenge.rw_uc0065_01 = PySem.Challenge.rw_uc0065_01 → KL = KL → Con w mean mg mb 186 (wsLed w.params x1 q1 b1 n1 nt1 si1 us1 X1 D1 N1 T1 t11 t12 t13 t14 t15 tb1 tn1 tnt1 c1 ++ (wsLed w.params x2 q2 b2 n2 nt2 si2 us2 X2 D2 N2 T2 t21 t22 t23 t24 t25 tb2 tn2 tnt2 c2 ++ news)) 2 100 (True) [.ref X1, .ref X2] (fun _ => .bool (decide (ns1 = ns2 ∧ b1 = b2))) from hfill rfl rfl
  k_fill
  intro hrow hKL; clear hrow hKL
  unfold Con wsLed; dsimp only [CbRet, List.cons_append, List.nil_append]; intros; rename_i hp9 hd9 hu9 hret
  refine wpAny_call ?_
  k_dflt cell_enter
  k_steps
  exact cb_retB hret rfl (by assumption) (by assumption)

end Mine
open PyProof.Rows in

end
-- W2
section
open PySem PySem.W PySem.Spec PySem.Calls PyProof.Rows
set_option Elab.async false
set_option maxRecDepth 100000
set_option maxHeartbeats 4000000
namespace Mine


theorem c_lr (w : World) (mean : ExcName → Option Value) (mg mb : Str → Option Value) (news : CbLed) (x1 : Str) (q1 : Tok) (b1 n1 nt1 : Int) (si1 : Bool) (us1 : List Value) (ns1 : List Int) (X1 D1 N1 T1 : Addr) (t11 t12 t13 t14 t15 tb1 tn1 tnt1 : Tok) (c1 : Nat) (hi1 : IntsAre us1 ns1) :
   Con w mean mg mb 172 (wsLed w.params x1 q1 b1 n1 nt1 si1 us1 X1 D1 N1 T1 t11 t12 t13 t14 t15 tb1 tn1 tnt1 c1 ++ news) 2 40 (0 ≤ b1 ∧ b1 ≤ 1000 ∧ ns1.length ≤ 1000) [.ref X1] (fun t => .int (if b1 > (ns1.length : Int) - 1 then b1 else (ns1.length : Int) - 1) t) := by
  k_with_none
  k_with "storeName" => (k_here; k_dflt (refine' storeLF ?F ?N ?_ ?a ?b; (case F => k_asm); (case N => k_asm); (case a => rfl); (case b => rfl); k_whole; intro _ _ _ _; (try k_sweep)))
  k_with "execs cons" => (k_here; (with_reducible refine wpAny_execs_cons ?_); k_fold)
  k_with "execs cons" => (k_here; (with_reducible show wpAny _ _ _ _ _ (Shared.mk _ _ _ (_ + 1 + 1) _)); refine gentok ?_; intro _; (with_reducible refine wpAny_execs_cons ?_); (try dsimp only); (try k_fold))
  k_with "execs nil" => (k_here; (with_reducible show wpAny _ _ _ _ _ (Shared.mk _ _ _ (_ + 1 + 1) _)); refine gentok ?_; intro _; (with_reducible refine wpAny_execs_nil ?_); try dsimp only)
  k_with "call builtin:len" => (k_here; (with_reducible show wpAny _ _ (call (Value.builtin "len") [Value.ref _]) _ _ _); k_dflt (refine' len_tupN ?k1 ?k2 ?k3 ?k4 ?_; (case k1 => k_asm); (case k2 => k_mem); (case k3 => with_reducible assumption); (case k4 => omega)))
  suffices hfill : PySem.Challenge.rw_uc0065_01 = PySem.Challenge.rw_uc0065_01 → KL = KL → Con w mean mg mb 172 (wsLed w.params x1 q1 b1 n1 nt1 si1 us1 X1 D1 N1 T1 t11 t12 t13 t14 t15 tb1 tn1 tnt1 c1 ++ news) 2 40 (0 ≤ b1 ∧ b1 ≤ 1000 ∧ ns1.length ≤ 1000) [.ref X1] (fun t => .int (if b1 > (ns1.length : Int) - 1 then b1 else (ns1.length : Int) - 1) t) from hfill rfl rfl
  k_fill
  intro hrow hKL; clear hrow hKL
  unfold Con wsLed; dsimp only [CbRet, List.cons_append, List.nil_append]; intros; rename_i hp9 hd9 hu9 hret
  refine wpAny_call ?_
  k_dflt cell_enter
  refine letF ‹Fr _ _ _ _› ?_
  intro me Fe
  refine letA ?_
  intro A9
  obtain ⟨hb, hl, hn⟩ := hp9
  k_steps
  exact cb_retI hret rfl (by assumption) (by assumption)

end Mine
open PyProof.Rows in

end
-- W3
section
open PySem PySem.W PySem.Spec PySem.Calls PyProof.Rows
set_option Elab.async false
set_option maxRecDepth 100000
set_option maxHeartbeats 4000000
namespace Mine
noncomputable def ilF (ts : Int) (ns pre : List Int) : Int := (pre.map fun i => i.fdiv ts * ns.getD i.toNat 0).sum
theorem getD_bd {ns : List Int} (h : ∀ n ∈ ns, 0 ≤ n ∧ n ≤ 1000) (i : Nat) : 0 ≤ ns.getD i 0 ∧ ns.getD i 0 ≤ 1000 := by
  by_cases hi : i < ns.length
  · rw [List.getD_eq_getElem?_getD, List.getElem?_eq_getElem hi]; exact h _ (List.getElem_mem hi)
  · rw [List.getD_eq_getElem?_getD, List.getElem?_eq_none (by omega)]; decide
theorem fdiv_bd {k ts : Int} (hk : 0 ≤ k) (ht : 1 ≤ ts) : 0 ≤ k.fdiv ts ∧ k.fdiv ts ≤ k := by
  have h := natAbs_fdiv_le k ts
  have h2 := fdiv_nn hk (show 0 ≤ ts by omega)
  omega
theorem il_step {ts il k : Int} {ns pre : List Int} (h : il = ilF ts ns pre) (h0 : 0 ≤ il) (h1 : il ≤ 1000000 * pre.length) (f : 0 ≤ k.fdiv ts ∧ k.fdiv ts ≤ k) (hk : k ≤ 1000) (g : 0 ≤ ns.getD k.toNat 0 ∧ ns.getD k.toNat 0 ≤ 1000) :
    il + k.fdiv ts * ns.getD k.toNat 0 = ilF ts ns (pre ++ [k]) ∧ 0 ≤ il + k.fdiv ts * ns.getD k.toNat 0 ∧ il + k.fdiv ts * ns.getD k.toNat 0 ≤ 1000000 * ((pre ++ [k]).length : Nat) := by
  have a0 := Int.mul_nonneg f.1 g.1
  have a1 : k.fdiv ts * ns.getD k.toNat 0 ≤ 1000 * 1000 := Int.mul_le_mul (by omega) g.2 g.1 (by decide)
  refine ⟨?_, by omega, ?_⟩
  · unfold ilF at h ⊢; rw [List.map_append, List.sum_append, ← h]; simp
  · rw [List.length_append, List.length_singleton]; omega


theorem c_il (w : World) (mean : ExcName → Option Value) (mg mb : Str → Option Value) (news : CbLed) (x1 : Str) (q1 : Tok) (b1 n1 nt1 : Int) (si1 : Bool) (us1 : List Value) (ns1 : List Int) (X1 D1 N1 T1 : Addr) (t11 t12 t13 t14 t15 tb1 tn1 tnt1 : Tok) (c1 : Nat) (hi1 : IntsAre us1 ns1) (hns : ∀ n ∈ ns1, 0 ≤ n ∧ n ≤ 1000) (ts : Int) (k2 : Tok) :
   Con w mean mg mb 179 (wsLed w.params x1 q1 b1 n1 nt1 si1 us1 X1 D1 N1 T1 t11 t12 t13 t14 t15 tb1 tn1 tnt1 c1 ++ news) 2 40 (0 ≤ b1 ∧ b1 ≤ 1000 ∧ ns1.length ≤ 1000 ∧ 1 ≤ ts ∧ ts ≤ 1000 ∧ 0 ≤ nt1 ∧ nt1 ≤ 1000) [.ref X1, .int ts k2] (fun t => .int (b1 + ts * (ilF ts ns1 (rangeKs ts ((ns1.length : Int) - ts).toNat) + nt1)) t) := by
  k_with_none
  k_with "eval BinOp" => (k_here; (first | (with_reducible show wpAny _ _ (eval (PySem.Expr.BinOp (PySem.Expr.Name _ _) _ _ _) _) _ _ _) | (with_reducible show wpAny _ _ (eval (PySem.Expr.BinOp (PySem.Expr.Constant _ _ _) _ _ _) _) _ _ _) | (with_reducible show wpAny _ _ (eval (PySem.Expr.BinOp (PySem.Expr.BinOp (PySem.Expr.Name _ _) _ _ _) _ _ _) _) _ _ _)); (first | (with_reducible show wpAny _ _ (eval (PySem.Expr.BinOp _ _ (PySem.Expr.Name _ _) _) _) _ _ _) | (with_reducible show wpAny _ _ (eval (PySem.Expr.BinOp _ _ (PySem.Expr.Constant _ _ _) _) _) _ _ _)); k_dflt (first | (refine' valS ?svF ?svk ?svS ?_; (case svF => k_asm); (case svk => rfl); (case svS => walk_at "SV"); k_whole) | (refine' binS ?svF ?svk ?svS ?svU ?_; (case svF => k_asm); (case svk => rfl); (case svS => walk_at "SV"); (case svU => walk_at "SV"); k_whole)))
  k_with "spliced" => (k_here; (first | (with_reducible show wpAny _ _ (spliced (backTo _ (starEach ((PySem.Expr.Name _ _) :: _) _))) _ _ _) | (with_reducible show wpAny _ _ (spliced (backTo _ (starEach ((PySem.Expr.Constant _ _ _) :: _) _))) _ _ _) | (with_reducible show wpAny _ _ (spliced (backTo _ (starEach ((PySem.Expr.BinOp (PySem.Expr.Name _ _) _ _ _) :: _) _))) _ _ _)); k_dflt (refine' itemsS ?svF ?svk ?svS ?_; (case svF => k_asm); (case svk => rfl); (case svS => walk_at "SV"); k_whole))
  k_with "eval Subscript" => (k_here; (first | (with_reducible show wpAny _ _ (eval (PySem.Expr.Subscript (PySem.Expr.Name _ _) (PySem.Expr.Name _ _) _) _) _ _ _) | (with_reducible show wpAny _ _ (eval (PySem.Expr.Subscript (PySem.Expr.Name _ _) (PySem.Expr.Constant _ _ _) _) _) _ _ _) | (with_reducible show wpAny _ _ (eval (PySem.Expr.Subscript (PySem.Expr.Name _ _) (PySem.Expr.BinOp (PySem.Expr.Name _ _) _ _ _) _) _) _ _ _)); k_dflt (refine' subS ?svF ?svk ?svS ?svU ?_; (case svF => k_asm); (case svk => rfl); (case svS => walk_at "SV"); (case svU => walk_at "SV"); k_whole))
  k_with "exec Assign" => (k_here; (first | (with_reducible show wpAny _ _ (exec (PySem.Stmt.Assign [_] (PySem.Expr.Name _ _) _) _) _ _ _) | (with_reducible show wpAny _ _ (exec (PySem.Stmt.Assign [_] (PySem.Expr.Constant _ _ _) _) _) _ _ _) | (with_reducible show wpAny _ _ (exec (PySem.Stmt.Assign [_] (PySem.Expr.BinOp (PySem.Expr.Name _ _) _ _ _) _) _) _ _ _)); k_dflt (refine' asgS ?svF ?svk ?svS ?_; (case svF => k_asm); (case svk => rfl); (case svS => walk_at "SV"); k_whole))
  k_with "execs cons" => (k_here; (with_reducible refine wpAny_execs_cons ?_); k_fold)
  k_with "execs cons" => (k_here; (with_reducible show wpAny _ _ _ _ _ (Shared.mk _ _ _ (_ + 1 + 1) _)); refine gentok ?_; intro _; (with_reducible refine wpAny_execs_cons ?_); (try dsimp only); (try k_fold))
  k_with "execs nil" => (k_here; (with_reducible show wpAny _ _ _ _ _ (Shared.mk _ _ _ (_ + 1 + 1) _)); refine gentok ?_; intro _; (with_reducible refine wpAny_execs_nil ?_); try dsimp only)
  k_with "call builtin:len" => (k_here; (with_reducible show wpAny _ _ (call (Value.builtin "len") [Value.ref _]) _ _ _); k_dflt (refine' len_tupN ?k1 ?k2 ?k3 ?k4 ?_; (case k1 => k_asm); (case k2 => k_mem); (case k3 => with_reducible assumption); (case k4 => omega)))
  k_with "binaryOp Mult int int" => (k_here; (have hg9 := getD_bd ‹∀ n ∈ _, 0 ≤ n ∧ n ≤ 1000›); (have hf9 := fun k => @fdiv_bd k _); refine mul_int ?_ (mul64 (by omega) (by omega) (by omega) (by omega)))
  suffices hfill : PySem.Challenge.rw_uc0065_01 = PySem.Challenge.rw_uc0065_01 → KL = KL → Con w mean mg mb 179 (wsLed w.params x1 q1 b1 n1 nt1 si1 us1 X1 D1 N1 T1 t11 t12 t13 t14 t15 tb1 tn1 tnt1 c1 ++ news) 2 40 (0 ≤ b1 ∧ b1 ≤ 1000 ∧ ns1.length ≤ 1000 ∧ 1 ≤ ts ∧ ts ≤ 1000 ∧ 0 ≤ nt1 ∧ nt1 ≤ 1000) [.ref X1, .int ts k2] (fun t => .int (b1 + ts * (ilF ts ns1 (rangeKs ts ((ns1.length : Int) - ts).toNat) + nt1)) t) from hfill rfl rfl
  k_fill
  intro hrow hKL; clear hrow hKL
  unfold Con wsLed; dsimp only [CbRet, List.cons_append, List.nil_append]; intros; rename_i hp9 hd9 hu9 hret
  refine wpAny_call ?_
  k_dflt cell_enter
  refine letF ‹Fr _ _ _ _› ?_
  intro me Fe
  refine letA ?_
  intro A9
  obtain ⟨hb, hl, hn, ht1, ht2, hnt0, hnt1⟩ := hp9
  k_with "state" => first | exact ⟨rfl, by decide, by decide⟩ | exact il_step (by assumption) (by assumption) (by assumption) f (by omega) g | fail
  k_with "pyIter ref" => k_state (fun pre il => il = ilF ts ns1 pre ∧ 0 ≤ il ∧ il ≤ 1000000 * pre.length) "il"
  k_steps
  · have g := getD_bd hns kN.toNat
    have f := fdiv_bd (k := kN) (ts := ts) (by omega) ht1
    refine mul_int ?_ (mul64 (by omega) (by omega) (by omega) (by omega))
    k_steps
  · subst_vars
    exact cb_retI hret rfl (by assumption) (by assumption)

end Mine
open PyProof.Rows in

end
-- W5
section
open PySem PySem.W PySem.Spec PySem.Calls PyProof.Rows
set_option Elab.async false
set_option maxRecDepth 100000
set_option maxHeartbeats 4000000
namespace Mine
theorem Con.with {w : World} {mean : ExcName → Option Value} {mg mb : Str → Option Value} {f : Addr} {LL led : CbLed} {d u : Nat} {pre : Prop} {vs : List Value} {R : Tok → Value} (h : ∀ p ∈ led, p ∈ LL) (C : Con w mean mg mb f (led ++ LL) d u pre vs R) : Con w mean mg mb f LL d u pre vs R :=
  fun dp un gd cn cs a ccd cl outer A₀ base h₀ L m s Q E B F X N T hk hp hd hu hR =>
    C dp un gd cn cs a ccd cl outer A₀ base h₀ L m s Q E B F X (fun p hp => N p ((List.mem_append.mp hp).elim (h p) id)) T hk hp hd hu (fun t h' tk' F' N' => hR t h' tk' F' (fun p hp => N' p (List.mem_append_right _ hp)))
theorem all_snoc {P : Int → Prop} {pre : List Int} {k : Int} (h : ∀ v ∈ pre, P v) (hk : P k) : ∀ v ∈ pre ++ [k], P v := fun v hv => (List.mem_append.mp hv).elim (h v) (fun q => List.mem_singleton.mp q ▸ hk)
noncomputable def lrW (b : Int) (ns : List Int) : Int := if b > (ns.length : Int) - 1 then b else (ns.length : Int) - 1
noncomputable def ilW (b nt : Int) (ns : List Int) (ts : Int) : Int := b + ts * (ilF ts ns (rangeKs ts ((ns.length : Int) - ts).toNat) + nt)
noncomputable def lessW (b1 n1 nt1 : Int) (s1 : Bool) (ns1 : List Int) (b2 n2 nt2 : Int) (s2 : Bool) (ns2 : List Int) : Bool :=
  if n1 ≥ n2 then false else if s1 && s2 then decide (nt1 ≤ nt2) else
    (rangeKs 2 ((if lrW b2 ns2 > lrW b1 ns1 then lrW b2 ns2 else lrW b1 ns1) + 1 + 1 - 2).toNat).all fun ts => decide (ilW b1 nt1 ns1 ts < ilW b2 nt2 ns2 ts)
theorem less_end {b1 n1 nt1 b2 n2 nt2 : Int} {s1 s2 : Bool} {ns1 ns2 : List Int} (h1 : ¬ n2 ≤ n1) (h2 : (s1 && s2) = false) (h : ∀ v ∈ rangeKs 2 ((if lrW b2 ns2 > lrW b1 ns1 then lrW b2 ns2 else lrW b1 ns1) + 1 + 1 - 2).toNat, ilW b1 nt1 ns1 v < ilW b2 nt2 ns2 v) :
    true = lessW b1 n1 nt1 s1 ns1 b2 n2 nt2 s2 ns2 := by
  unfold lessW
  rw [if_neg (by omega), h2, if_neg (by decide)]
  exact (List.all_eq_true.mpr fun v hv => decide_eq_true (h v hv)).symm
theorem mem_ks {n k : Nat} (h : k < n) : (2 : Int) + k ∈ rangeKs 2 n := by
  unfold rangeKs; exact List.mem_map.mpr ⟨k, List.mem_range.mpr h, by omega⟩
theorem less_brk {b1 n1 nt1 b2 n2 nt2 v : Int} {s1 s2 : Bool} {ns1 ns2 : List Int} {k : Nat} (h1 : ¬ n2 ≤ n1) (h2 : (s1 && s2) = false) (hv : v = 2 + k) (hk : k < ((if lrW b2 ns2 > lrW b1 ns1 then lrW b2 ns2 else lrW b1 ns1) + 1 + 1 - 2).toNat) (h : ilW b2 nt2 ns2 v ≤ ilW b1 nt1 ns1 v) :
    false = lessW b1 n1 nt1 s1 ns1 b2 n2 nt2 s2 ns2 := by
  unfold lessW
  rw [if_neg (by omega), h2, if_neg (by decide)]
  symm
  rw [Bool.eq_false_iff]
  intro q
  have := of_decide_eq_true (List.all_eq_true.mp q v (hv ▸ mem_ks hk))
  omega



theorem less_f {b1 n1 nt1 b2 n2 nt2 : Int} {s1 s2 : Bool} {ns1 ns2 : List Int} (h : n2 ≤ n1) : false = lessW b1 n1 nt1 s1 ns1 b2 n2 nt2 s2 ns2 := by
  unfold lessW; rw [if_pos h]
theorem less_s' {b1 n1 nt1 b2 n2 nt2 : Int} {s1 s2 : Bool} {ns1 ns2 : List Int} (h : ¬ n2 ≤ n1) (h1 : (s1 && s2) = true) : decide (nt1 ≤ nt2) = lessW b1 n1 nt1 s1 ns1 b2 n2 nt2 s2 ns2 := by
  unfold lessW; rw [if_neg h, h1]; rfl
theorem and_f1 {a b : Bool} (h : a = false) : (a && b) = false := by rw [h]; rfl
theorem and_f2 {a b : Bool} (h : b = false) : (a && b) = false := by rw [h, Bool.and_false]
theorem app_sub {α : Type} {a b c : List α} (h : ∀ p ∈ b, p ∈ c) : ∀ p ∈ a ++ b, p ∈ a ++ c := fun _ hp => (List.mem_append.mp hp).elim (List.mem_append_left _) (fun q => List.mem_append_right _ (h _ q))
theorem led_drop (A B : CbLed) {c d : CbLed} : ∀ p ∈ A ++ (B ++ c), p ∈ A ++ (B ++ (c ++ d)) := app_sub (app_sub fun _ hp => List.mem_append_left _ hp)
noncomputable def JB (v0 : Bool) (s0 : Shared) (v : Bool) (s : Shared) : Prop := v = v0 ∧ s = { s0 with toks := s.toks }
theorem jb_cut {M : Model} {A : Around} {x : Sem Bool} {Q : Bool → Shared → Prop} {E : Value → Shared → Prop} {h : Heap} {g : Array GenState} {d : Drawn} {o : OsState} {t : Nat} (v0 : Bool) (h1 : wpAny M A x (JB v0 (Shared.mk h g d t o)) E (Shared.mk h g d t o)) (h2 : ∀ t', Q v0 (Shared.mk h g d t' o)) : wpAny M A x Q E (Shared.mk h g d t o) :=
  wpAny_mono h1 (fun v s' h => by rw [h.1, h.2]; exact h2 _) (fun _ _ h => h)
theorem kp901 {k : Nat} {b : Int} (h : k < (b + 1 + 1 - 2).toNat) (hb : b ≤ 900) : k ≤ 901 := by omega
theorem c_less (w : World) (mean : ExcName → Option Value) (mg mb : Str → Option Value) (news : CbLed) (x1 : Str) (q1 : Tok) (b1 n1 nt1 : Int) (si1 : Bool) (us1 : List Value) (ns1 : List Int) (X1 D1 N1 T1 : Addr) (t11 t12 t13 t14 t15 tb1 tn1 tnt1 : Tok) (c1 : Nat) (x2 : Str) (q2 : Tok) (b2 n2 nt2 : Int) (si2 : Bool) (us2 : List Value) (ns2 : List Int) (X2 D2 N2 T2 : Addr) (t21 t22 t23 t24 t25 tb2 tn2 tnt2 : Tok) (c2 : Nat) (hi1 : IntsAre us1 ns1) (hi2 : IntsAre us2 ns2) (hns1 : ∀ n ∈ ns1, 0 ≤ n ∧ n ≤ 1000) (hns2 : ∀ n ∈ ns2, 0 ≤ n ∧ n ≤ 1000) :
   Con w mean mg mb 200 (wsLed w.params x1 q1 b1 n1 nt1 si1 us1 X1 D1 N1 T1 t11 t12 t13 t14 t15 tb1 tn1 tnt1 c1 ++ (wsLed w.params x2 q2 b2 n2 nt2 si2 us2 X2 D2 N2 T2 t21 t22 t23 t24 t25 tb2 tn2 tnt2 c2 ++ news)) 4 100 (0 ≤ b1 ∧ b1 ≤ 900 ∧ ns1.length ≤ 900 ∧ 0 ≤ b2 ∧ b2 ≤ 900 ∧ ns2.length ≤ 900 ∧ 0 ≤ nt1 ∧ nt1 ≤ 1000 ∧ 0 ≤ nt2 ∧ nt2 ≤ 1000) [.ref X1, .ref X2] (fun _ => .bool (lessW b1 n1 nt1 si1 ns1 b2 n2 nt2 si2 ns2)) := by
  k_with_none
  k_with "spliced" => (k_here; (first | (with_reducible show wpAny _ _ (spliced (backTo _ (starEach ((PySem.Expr.Name _ _) :: _) _))) _ _ _) | (with_reducible show wpAny _ _ (spliced (backTo _ (starEach ((PySem.Expr.Constant _ _ _) :: _) _))) _ _ _) | (with_reducible show wpAny _ _ (spliced (backTo _ (starEach ((PySem.Expr.BinOp (PySem.Expr.Name _ _) _ _ _) :: _) _))) _ _ _)); k_dflt (refine' itemsS ?svF ?svk ?svS ?_; (case svF => k_asm); (case svk => rfl); (case svS => walk_at "SV"); k_whole))
  k_with "isTrue BoolOp" => (k_here; (with_reducible show wpAny _ _ (PySem.isTrue (PySem.Expr.BoolOp _ [_, _] _) _ _) _ _ _); refine jb_cut (si1 && si2) ?_ (fun _ => ?_); (with_reducible refine isTrue_and ?_))
  k_with "storeName" => (k_here; k_dflt (refine' storeLF ?F ?N ?_ ?a ?b; (case F => k_asm); (case N => k_asm); (case a => rfl); (case b => rfl); k_whole; intro _ _ _ _; (try k_sweep)))
  k_with "execs cons" => (k_here; (with_reducible refine wpAny_execs_cons ?_); k_fold)
  k_with "execs cons" => (k_here; (with_reducible show wpAny _ _ _ _ _ (Shared.mk _ _ _ (_ + 1 + 1) _)); refine gentok ?_; intro _; (with_reducible refine wpAny_execs_cons ?_); (try dsimp only); (try k_fold))
  k_with "execs nil" => (k_here; (with_reducible show wpAny _ _ _ _ _ (Shared.mk _ _ _ (_ + 1 + 1) _)); refine gentok ?_; intro _; (with_reducible refine wpAny_execs_nil ?_); try dsimp only)
  suffices hfill : PySem.Challenge.rw_uc0065_01 = PySem.Challenge.rw_uc0065_01 → KL = KL → Con w mean mg mb 200 (wsLed w.params x1 q1 b1 n1 nt1 si1 us1 X1 D1 N1 T1 t11 t12 t13 t14 t15 tb1 tn1 tnt1 c1 ++ (wsLed w.params x2 q2 b2 n2 nt2 si2 us2 X2 D2 N2 T2 t21 t22 t23 t24 t25 tb2 tn2 tnt2 c2 ++ news)) 4 100 (0 ≤ b1 ∧ b1 ≤ 900 ∧ ns1.length ≤ 900 ∧ 0 ≤ b2 ∧ b2 ≤ 900 ∧ ns2.length ≤ 900 ∧ 0 ≤ nt1 ∧ nt1 ≤ 1000 ∧ 0 ≤ nt2 ∧ nt2 ≤ 1000) [.ref X1, .ref X2] (fun _ => .bool (lessW b1 n1 nt1 si1 ns1 b2 n2 nt2 si2 ns2)) from hfill rfl rfl
  k_fill
  intro hrow hKL; clear hrow hKL
  unfold Con wsLed; dsimp only [CbRet, List.cons_append, List.nil_append]; intros; rename_i hp9 hd9 hu9 hret
  refine wpAny_call ?_
  k_dflt cell_enter
  refine letF ‹Fr _ _ _ _› ?_
  intro me Fe
  refine letA ?_
  intro A9
  obtain ⟨p1, p2, p3, p4, p5, p6, p7, p8, p9, p0⟩ := hp9
  have cl1 := Con.with (LL := wsLed w.params x1 q1 b1 n1 nt1 si1 us1 X1 D1 N1 T1 t11 t12 t13 t14 t15 tb1 tn1 tnt1 c1 ++ (wsLed w.params x2 q2 b2 n2 nt2 si2 us2 X2 D2 N2 T2 t21 t22 t23 t24 t25 tb2 tn2 tnt2 c2 ++ news)) (fun p hp => List.mem_append_left _ hp) (c_lr w mean mg mb _ x1 q1 b1 n1 nt1 si1 us1 ns1 X1 D1 N1 T1 t11 t12 t13 t14 t15 tb1 tn1 tnt1 c1 hi1)
  have cl2 := Con.with (LL := wsLed w.params x1 q1 b1 n1 nt1 si1 us1 X1 D1 N1 T1 t11 t12 t13 t14 t15 tb1 tn1 tnt1 c1 ++ (wsLed w.params x2 q2 b2 n2 nt2 si2 us2 X2 D2 N2 T2 t21 t22 t23 t24 t25 tb2 tn2 tnt2 c2 ++ news)) (fun p hp => List.mem_append_right _ (List.mem_append_left _ hp)) (c_lr w mean mg mb _ x2 q2 b2 n2 nt2 si2 us2 ns2 X2 D2 N2 T2 t21 t22 t23 t24 t25 tb2 tn2 tnt2 c2 hi2)
  have cl3 := fun (nw : CbLed) ts k => Con.with (LL := wsLed w.params x1 q1 b1 n1 nt1 si1 us1 X1 D1 N1 T1 t11 t12 t13 t14 t15 tb1 tn1 tnt1 c1 ++ (wsLed w.params x2 q2 b2 n2 nt2 si2 us2 X2 D2 N2 T2 t21 t22 t23 t24 t25 tb2 tn2 tnt2 c2 ++ nw)) (fun p hp => List.mem_append_left _ hp) (c_il w mean mg mb _ x1 q1 b1 n1 nt1 si1 us1 ns1 X1 D1 N1 T1 t11 t12 t13 t14 t15 tb1 tn1 tnt1 c1 hi1 hns1 ts k)
  have cl4 := fun (nw : CbLed) ts k => Con.with (LL := wsLed w.params x1 q1 b1 n1 nt1 si1 us1 X1 D1 N1 T1 t11 t12 t13 t14 t15 tb1 tn1 tnt1 c1 ++ (wsLed w.params x2 q2 b2 n2 nt2 si2 us2 X2 D2 N2 T2 t21 t22 t23 t24 t25 tb2 tn2 tnt2 c2 ++ nw)) (fun p hp => List.mem_append_right _ (List.mem_append_left _ hp)) (c_il w mean mg mb _ x2 q2 b2 n2 nt2 si2 us2 ns2 X2 D2 N2 T2 t21 t22 t23 t24 t25 tb2 tn2 tnt2 c2 hi2 hns2 ts k)
  k_with "state" => first | exact fun _ h => absurd h List.not_mem_nil | exact all_snoc kInv (by unfold ilW; omega)
  k_with "pyIter ref" => k_search (fun pre => ∀ v ∈ pre, ilW b1 nt1 ns1 v < ilW b2 nt2 ns2 v)
  k_steps
  · exact cb_retB hret (less_f (by assumption)) (by assumption) (by assumption)
  · exact ⟨by rw [‹si1 = true›, ‹si2 = true›]; rfl, rfl⟩
  · exact ⟨(and_f2 (by assumption)).symm, rfl⟩
  · exact ⟨(and_f1 (by assumption)).symm, rfl⟩
  · exact cb_retB hret (less_s' (by assumption) (by assumption)) (by assumption) (by assumption)
  · skip
    try dsimp only [List.append_nil, List.cons_append, List.nil_append]
    refine' useD (cl1) ?k1 ?k2 ?k3 ?k4 ?k5 ?kK ?kp ?kd ?ku ?_
    case k1 => k_asm
    case k2 => k_asm
    case k3 => k_asm
    case k4 => k_asm
    case k5 => k_asm
    case kK => first | exact rfl | assumption
    case kp => exact ⟨by omega, by omega, by omega⟩
    case kd => ktr_room
    case ku => ktr_units
    intro t9 h9 tk9 F9 N9
    try dsimp only [wsLed, List.cons_append, List.nil_append] at N9
    try dsimp only
    try k_fold
    k_steps
    try dsimp only [List.append_nil, List.cons_append, List.nil_append]
    refine' useD (cl2) ?k1 ?k2 ?k3 ?k4 ?k5 ?kK ?kp ?kd ?ku ?_
    case k1 => k_asm
    case k2 => k_asm
    case k3 => k_asm
    case k4 => k_asm
    case k5 => k_asm
    case kK => first | exact rfl | assumption
    case kp => exact ⟨by omega, by omega, by omega⟩
    case kd => ktr_room
    case ku => ktr_units
    intro t9 h9 tk9 F9 N9
    try dsimp only [wsLed, List.cons_append, List.nil_append] at N9
    try dsimp only
    try k_fold
    k_steps
    · have hk8 : kPre.length ≤ 901 := by
        revert kLt
        (repeat' split) <;> first | exact fun h => kp901 h (by assumption) | exact fun h => kp901 h (by omega)
      try dsimp only [List.append_nil, List.cons_append, List.nil_append]
      refine' useD (cl3 (news ++ kOwn) _ _) ?k1 ?k2 ?k3 ?k4 ?k5 ?kK ?kp ?kd ?ku ?_
      case k1 => k_asm
      case k2 => k_asm
      case k3 => k_asm
      case k4 => k_asm
      case k5 => k_asm
      case kK => first | exact rfl | assumption
      case kp => exact ⟨by omega, by omega, by omega, by omega, by omega, by omega, by omega⟩
      case kd => ktr_room
      case ku => ktr_units
      intro t9 h9 tk9 F9 N9
      try dsimp only [wsLed, List.cons_append, List.nil_append] at N9
      try dsimp only
      try k_fold
      k_steps
      try dsimp only [List.append_nil, List.cons_append, List.nil_append]
      refine' useD (cl4 (news ++ kOwn) _ _) ?k1 ?k2 ?k3 ?k4 ?k5 ?kK ?kp ?kd ?ku ?_
      case k1 => k_asm
      case k2 => k_asm
      case k3 => k_asm
      case k4 => k_asm
      case k5 => k_asm
      case kK => first | exact rfl | assumption
      case kp => exact ⟨by omega, by omega, by omega, by omega, by omega, by omega, by omega⟩
      case kd => ktr_room
      case ku => ktr_units
      intro t9 h9 tk9 F9 N9
      try dsimp only [wsLed, List.cons_append, List.nil_append] at N9
      try dsimp only
      try k_fold
      k_steps
      exact cb_retB hret (less_brk (by assumption) (by assumption) kEq kLt (by assumption)) (by assumption) (cb_drop (by assumption) (led_drop (wsLed w.params x1 q1 b1 n1 nt1 si1 us1 X1 D1 N1 T1 t11 t12 t13 t14 t15 tb1 tn1 tnt1 c1) (wsLed w.params x2 q2 b2 n2 nt2 si2 us2 X2 D2 N2 T2 t21 t22 t23 t24 t25 tb2 tn2 tnt2 c2)))
    · exact cb_retB hret (less_end (by assumption) (by assumption) (by assumption)) (by assumption) (by assumption)
end Mine

end
-- W6
section
open PySem PySem.W PySem.Spec PySem.Calls PyProof.Rows
set_option Elab.async false
set_option maxRecDepth 100000
set_option maxHeartbeats 4000000
namespace Mine
noncomputable def valF (start x y : Int) (ns pre : List Int) : Int := pre.foldl (fun a i => a * ((i - start + 1) * x + y) ^ (ns.getD i.toNat 0).toNat) 1
noncomputable def hookF (start : Int) (ns pre : List Int) : Int := pre.foldl (fun a i => a * (i - start + 1) ^ (ns.getD i.toNat 0).toNat) 1
theorem getD_b3 {ns : List Int} (h : ∀ n ∈ ns, 0 ≤ n ∧ n ≤ 3) (i : Nat) : 0 ≤ ns.getD i 0 ∧ ns.getD i 0 ≤ 3 := by
  k_with_none
  k_with "OM" => lia
  by_cases hi : i < ns.length
  · rw [List.getD_eq_getElem?_getD, List.getElem?_eq_getElem hi]; exact h _ (List.getElem_mem hi)
  · rw [List.getD_eq_getElem?_getD, List.getElem?_eq_none (by omega)]; decide
theorem w_bds {start x y k v h : Int} {ns pre : List Int} (hns : ∀ n ∈ ns, 0 ≤ n ∧ n ≤ 3) (s0 : 0 ≤ start) (s1 : start ≤ 3) (hk : k = 0 + (pre.length : Int)) (hl : pre.length < 10) (bx : (bl x : Int) ≤ 1100000) (by' : (bl y : Int) ≤ 1100000)
    (hv : (bl v : Int) ≤ 3600100 * pre.length + 2) (hh : (bl h : Int) ≤ 20 * pre.length + 2) :
    0 ≤ ns.getD k.toNat 0 ∧ (Builtin.Int.intBits ((k - start + 1) * x + y) : Int) * ns.getD k.toNat 0 ≤ 2 ^ 27 ∧ (Builtin.Int.intBits (k - start + 1) : Int) * ns.getD k.toNat 0 ≤ 2 ^ 27 ∧
    IntMulOk h ((k - start + 1) ^ (ns.getD k.toNat 0).toNat) ∧ IntMulOk v (((k - start + 1) * x + y) ^ (ns.getD k.toNat 0).toNat) ∧ IntMulOk (k - start + 1) x ∧
    (bl (v * ((k - start + 1) * x + y) ^ (ns.getD k.toNat 0).toNat) : Int) ≤ 3600100 * ((pre ++ [k]).length : Nat) + 2 ∧ (bl (h * (k - start + 1) ^ (ns.getD k.toNat 0).toNat) : Int) ≤ 20 * ((pre ++ [k]).length : Nat) + 2 := by
  have g := getD_b3 hns k.toNat
  generalize ns.getD k.toNat 0 = c at *
  have e27 : (2 : Int) ^ 27 = 134217728 := by decide
  have a1 : bl (k - start + 1) ≤ 5 := intBits_le (by omega)
  have a2 : bl ((k - start + 1) * x) ≤ 5 + 1100000 := intBits_mul_le a1 (show Builtin.Int.intBits x ≤ 1100000 by unfold bl at bx; omega)
  have a3 : bl ((k - start + 1) * x + y) ≤ 1100006 := Nat.le_trans (intBits_add_le a2 (show bl y ≤ 1100000 by omega)) (by decide)
  have c3 : c.toNat ≤ 3 := by omega
  have a4 : bl (((k - start + 1) * x + y) ^ c.toNat) ≤ 3300019 := Nat.le_trans (intBits_pow_le a3 c.toNat) (by omega)
  have a5 : bl ((k - start + 1) ^ c.toNat) ≤ 16 := Nat.le_trans (intBits_pow_le a1 c.toNat) (by omega)
  have v1 : bl v ≤ 3600100 * pre.length + 2 := by omega
  have h1 : bl h ≤ 20 * pre.length + 2 := by omega
  have m1 : (bl ((k - start + 1) * x + y) : Int) * c ≤ 1100006 * 3 := Int.mul_le_mul (by omega) g.2 g.1 (by decide)
  have m2 : (bl (k - start + 1) : Int) * c ≤ 5 * 3 := Int.mul_le_mul (by omega) g.2 g.1 (by decide)
  unfold bl at m1 m2
  refine ⟨g.1, by rw [e27]; omega, by rw [e27]; omega, IntMulOk.of_le h1 a5 (by omega), IntMulOk.of_le v1 a4 (by omega), IntMulOk.of_le a1 (show bl x ≤ 1100000 by omega) (by decide), ?_, ?_⟩
  · have := intBits_mul_le v1 a4
    rw [List.length_append, List.length_singleton]; unfold bl; omega
  · have := intBits_mul_le h1 a5
    rw [List.length_append, List.length_singleton]; unfold bl; omega
theorem val_snoc (start x y : Int) (ns pre : List Int) (k : Int) : valF start x y ns (pre ++ [k]) = valF start x y ns pre * ((k - start + 1) * x + y) ^ (ns.getD k.toNat 0).toNat := by unfold valF; rw [List.foldl_append]; rfl
theorem hook_snoc (start : Int) (ns pre : List Int) (k : Int) : hookF start ns (pre ++ [k]) = hookF start ns pre * (k - start + 1) ^ (ns.getD k.toNat 0).toNat := by unfold hookF; rw [List.foldl_append]; rfl
theorem log_bl (y : Int) : y.natAbs.log2 ≤ bl y := by
  unfold bl Builtin.Int.intBits
  split
  · rename_i h0; have : y = 0 := by simpa using h0
    subst this; decide
  · omega
theorem six {n : Int} : bl (([1, 1, 2, 6] : List Int).getD n.toNat 0) ≤ 3 := by
  match n.toNat with
  | 0 => decide
  | 1 => decide
  | 2 => decide
  | 3 => decide
  | k + 4 => exact Nat.zero_le _


theorem c_weight (w : World) (mean : ExcName → Option Value) (mg mb : Str → Option Value) (news : CbLed) (x1 : Str) (q1 : Tok) (b1 n1 nt1 : Int) (si1 : Bool) (us1 : List Value) (ns1 : List Int) (X1 D1 N1 T1 : Addr) (t11 t12 t13 t14 t15 tb1 tn1 tnt1 : Tok) (c1 : Nat) (hi1 : IntsAre us1 ns1) (hns : ∀ n ∈ ns1, 0 ≤ n ∧ n ≤ 3) (start x y : Int) (k2 k3 k4 : Tok) :
   Con w mean mg mb 256 (wsLed w.params x1 q1 b1 n1 nt1 si1 us1 X1 D1 N1 T1 t11 t12 t13 t14 t15 tb1 tn1 tnt1 c1 ++ news) 2 60 (0 ≤ start ∧ start ≤ 3 ∧ 0 ≤ nt1 ∧ nt1 ≤ 3 ∧ ns1.length ≤ 10 ∧ (bl x : Int) ≤ 1100000 ∧ (bl y : Int) ≤ 1100000 ∧ hookF start ns1 (rangeKs 0 ((ns1.length : Int) - 0).toNat) ≠ 0) [.ref X1, .int start k2, .int x k3, .int y k4] (fun t => .int (valF start x y ns1 (rangeKs 0 ((ns1.length : Int) - 0).toNat) * (([1, 1, 2, 6] : List Int).getD nt1.toNat 0).fdiv (hookF start ns1 (rangeKs 0 ((ns1.length : Int) - 0).toNat))) t) := by
  k_with_none
  k_with "OM" => lia
  k_with "eval BinOp" => (k_here; (first | (with_reducible show wpAny _ _ (eval (PySem.Expr.BinOp (PySem.Expr.Name _ _) _ _ _) _) _ _ _) | (with_reducible show wpAny _ _ (eval (PySem.Expr.BinOp (PySem.Expr.Constant _ _ _) _ _ _) _) _ _ _) | (with_reducible show wpAny _ _ (eval (PySem.Expr.BinOp (PySem.Expr.BinOp (PySem.Expr.Name _ _) _ _ _) _ _ _) _) _ _ _)); (first | (with_reducible show wpAny _ _ (eval (PySem.Expr.BinOp _ _ (PySem.Expr.Name _ _) _) _) _ _ _) | (with_reducible show wpAny _ _ (eval (PySem.Expr.BinOp _ _ (PySem.Expr.Constant _ _ _) _) _) _ _ _)); k_dflt (first | (refine' valS ?svF ?svk ?svS ?_; (case svF => k_asm); (case svk => rfl); (case svS => walk_at "SV"); k_whole) | (refine' binS ?svF ?svk ?svS ?svU ?_; (case svF => k_asm); (case svk => rfl); (case svS => walk_at "SV"); (case svU => walk_at "SV"); k_whole)))
  k_with "spliced" => (k_here; (first | (with_reducible show wpAny _ _ (spliced (backTo _ (starEach ((PySem.Expr.Name _ _) :: _) _))) _ _ _) | (with_reducible show wpAny _ _ (spliced (backTo _ (starEach ((PySem.Expr.Constant _ _ _) :: _) _))) _ _ _) | (with_reducible show wpAny _ _ (spliced (backTo _ (starEach ((PySem.Expr.BinOp (PySem.Expr.Name _ _) _ _ _) :: _) _))) _ _ _)); k_dflt (refine' itemsS ?svF ?svk ?svS ?_; (case svF => k_asm); (case svk => rfl); (case svS => walk_at "SV"); k_whole))
  k_with "eval Subscript" => (k_here; (first | (with_reducible show wpAny _ _ (eval (PySem.Expr.Subscript (PySem.Expr.Name _ _) (PySem.Expr.Name _ _) _) _) _ _ _) | (with_reducible show wpAny _ _ (eval (PySem.Expr.Subscript (PySem.Expr.Name _ _) (PySem.Expr.Constant _ _ _) _) _) _ _ _) | (with_reducible show wpAny _ _ (eval (PySem.Expr.Subscript (PySem.Expr.Name _ _) (PySem.Expr.BinOp (PySem.Expr.Name _ _) _ _ _) _) _) _ _ _)); k_dflt (refine' subS ?svF ?svk ?svS ?svU ?_; (case svF => k_asm); (case svk => rfl); (case svS => walk_at "SV"); (case svU => walk_at "SV"); k_whole))
  k_with "execs cons" => (k_here; (with_reducible refine wpAny_execs_cons ?_); k_fold)
  k_with "execs cons" => (k_here; (with_reducible show wpAny _ _ _ _ _ (Shared.mk _ _ _ (_ + 1 + 1) _)); refine gentok ?_; intro _; (with_reducible refine wpAny_execs_cons ?_); (try dsimp only); (try k_fold))
  k_with "execs nil" => (k_here; (with_reducible show wpAny _ _ _ _ _ (Shared.mk _ _ _ (_ + 1 + 1) _)); refine gentok ?_; intro _; (with_reducible refine wpAny_execs_nil ?_); try dsimp only)
  k_with "call builtin:len" => (k_here; (with_reducible show wpAny _ _ (call (Value.builtin "len") [Value.ref _]) _ _ _); k_dflt (refine' len_tupN ?k1 ?k2 ?k3 ?k4 ?_; (case k1 => k_asm); (case k2 => k_mem); (case k3 => with_reducible assumption); (case k4 => omega)))
  k_with "binaryOp Pow int int" => (k_here; refine pow_int ?_ ?_ ?_)
  k_with "binaryOp Mult int int" => (k_here; refine mul_int ?_ ?_)
  suffices hfill : PySem.Challenge.rw_uc0065_01 = PySem.Challenge.rw_uc0065_01 → KL = KL → Con w mean mg mb 256 (wsLed w.params x1 q1 b1 n1 nt1 si1 us1 X1 D1 N1 T1 t11 t12 t13 t14 t15 tb1 tn1 tnt1 c1 ++ news) 2 60 (0 ≤ start ∧ start ≤ 3 ∧ 0 ≤ nt1 ∧ nt1 ≤ 3 ∧ ns1.length ≤ 10 ∧ (bl x : Int) ≤ 1100000 ∧ (bl y : Int) ≤ 1100000 ∧ hookF start ns1 (rangeKs 0 ((ns1.length : Int) - 0).toNat) ≠ 0) [.ref X1, .int start k2, .int x k3, .int y k4] (fun t => .int (valF start x y ns1 (rangeKs 0 ((ns1.length : Int) - 0).toNat) * (([1, 1, 2, 6] : List Int).getD nt1.toNat 0).fdiv (hookF start ns1 (rangeKs 0 ((ns1.length : Int) - 0).toNat))) t) from hfill rfl rfl
  k_fill
  intro hrow hKL; clear hrow hKL
  unfold Con wsLed; dsimp only [CbRet, List.cons_append, List.nil_append]; intros; rename_i hp9 hd9 hu9 hret
  refine wpAny_call ?_
  k_dflt cell_enter
  refine letF ‹Fr _ _ _ _› ?_
  intro me Fe
  refine letA ?_
  intro A9
  obtain ⟨p1, p2, p3, p4, p5, p6, p7, p8⟩ := hp9
  have hn9 : ns1.length ≤ 1000 := by omega
  k_with "state" => first | exact ⟨rfl, rfl, by decide, by decide⟩ | (obtain ⟨_, _, _, _, _, _, w7, w8⟩ := w_bds hns p1 p2 kEq (by omega) p6 p7 (by assumption) (by assumption); exact ⟨by rw [val_snoc, ← ‹_ = valF _ _ _ _ _›], by rw [hook_snoc, ← ‹_ = hookF _ _ _›], w7, w8⟩) | fail
  k_with "pyIter ref" => k_state (fun pre value hooks => value = valF start x y ns1 pre ∧ hooks = hookF start ns1 pre ∧ (bl value : Int) ≤ 3600100 * pre.length + 2 ∧ (bl hooks : Int) ≤ 20 * pre.length + 2) "value" "hooks"
  k_steps
  all_goals try (obtain ⟨w1, w2, w3, w4, w5, w6, w7, w8⟩ := w_bds hns p1 p2 kEq (by omega) p6 p7 (by assumption) (by assumption); first | exact w1 | exact w2 | exact w3 | exact w4 | exact w5 | exact w6)
  · have hz : (rangeKs 0 ((ns1.length : Int) - 0).toNat).length = ns1.length := by rw [rangeKs_length]; omega
    subst_vars
    have b1' : (bl (valF start x y ns1 (rangeKs 0 ((ns1.length : Int) - 0).toNat)) : Int) ≤ 3600100 * ((rangeKs 0 ((ns1.length : Int) - 0).toNat).length : Nat) + 2 := by assumption
    have b2' : (bl (hookF start ns1 (rangeKs 0 ((ns1.length : Int) - 0).toNat)) : Int) ≤ 20 * ((rangeKs 0 ((ns1.length : Int) - 0).toNat).length : Nat) + 2 := by assumption
    have b3' := log_bl (hookF start ns1 (rangeKs 0 ((ns1.length : Int) - 0).toNat))
    refine floordiv_int p8 ?_ (Or.inl (PyProof.noPylong_of_log2 (by omega)))
    k_steps
    · exact cb_retI hret rfl (by assumption) (cb_drop (by assumption) (by kcj_all))
    · exact IntMulOk.of_le (m := 36001002) (n := 3) (show bl _ ≤ _ by omega) (intBits_fdiv_le six) (by decide)

end Mine
open PyProof.Rows in

end
-- LW
section
open PySem PySem.W PySem.Spec PySem.Calls PyProof.Rows
set_option Elab.async false
set_option maxRecDepth 100000
set_option maxHeartbeats 400000
namespace Mine
noncomputable def wB (x : Str) : Int := (wsF (spanW x)).1
noncomputable def wN (x : Str) : Int := (wsF (spanW x)).2.1
noncomputable def wT (x : Str) : Int := (wsF (spanW x)).2.2.1
noncomputable def wC (x : Str) : List Int := (wsF (spanW x)).2.2.2
noncomputable def wS (x : Str) : Bool := decide (((wC x).length : Int) ≤ 1)
/-- the object Whitespace(x) stands in the ledger -/
noncomputable def WsAt (P : Params) (news : List (Addr × Obj)) (X : Addr) (x : Str) : Prop :=
  ∀ Go : Prop, (∀ (k1 : Tok) (us : List Value) (Dd Nn Tt : Addr) (t1 t2 t3 t4 t5 tb tn tnt : Tok) (cnt : Nat), IntsAre us (wC x) → 0 ≤ wB x → wB x ≤ 100 → 0 ≤ wT x → wT x ≤ 100 → (wC x).length ≤ 100 →
    (∀ p ∈ wsLed P x k1 (wB x) (wN x) (wT x) (wS x) us X Dd Nn Tt t1 t2 t3 t4 t5 tb tn tnt cnt, p ∈ news) → Go) → Go
theorem WsAt.mono {P : Params} {news news' : List (Addr × Obj)} {X : Addr} {x : Str} (h : WsAt P news X x) (hs : ∀ p ∈ news, p ∈ news') : WsAt P news' X x :=
  fun Go k => h Go fun k1 us Dd Nn Tt t1 t2 t3 t4 t5 tb tn tnt cnt h1 h2 h3 h4 h5 h6 h7 => k k1 us Dd Nn Tt t1 t2 t3 t4 t5 tb tn tnt cnt h1 h2 h3 h4 h5 h6 fun p hp => hs p (h7 p hp)
section
variable {w : World} {mean : ExcName → Option Value} {mg mb : Str → Option Value} {news : CbLed} {dp un : Nat} {gd : Option (List Code)} {cn : Str} {cs : Scope} {a : Addr} {ccd : Value} {cl : List (Str × Addr)} {outer : List Env} {A₀ : Around} {base h₀ : Heap} {L : Addr} {m : Str → Option Value} {s : Shared} {Q E : Value → Shared → Prop}
theorem useWs {x : Str} {k1 : Tok} (B : PyProof.Rows.Below A₀ base outer h₀) (F : Fr h₀ L s.heap m) (X : (KL w.params).In h₀) (N : News h₀ L s.heap news) (T : Top qv looseN mean mg mb h₀) (hk : cs.kind = .function) (hp : x.length ≤ 100) (hd : dp + 3 < recursionLimit) (hu : un + 60 < cLine)
    (hR : ∀ (Y : Addr) (W : CbLed) (h' : Heap) (tk' : Nat), WsAt w.params W Y x → (∀ q ∈ W, ∀ p ∈ news, p.1 < q.1) → Fr h₀ L h' m → News h₀ L h' (W ++ news) → Q (.ref Y) { s with heap := h', toks := tk' }) :
    wpAny (model prog w) (ktrTop dp un gd cn cs L a ccd cl outer) (call (.ref 210) [.str x k1]) Q E s := by
  k_with_none
  refine c_ws w mean mg mb news x k1 dp un gd cn cs a ccd cl outer A₀ base h₀ L m s Q E B F X N T hk hp hd hu ?_
  intro b n nt ns us Y Dd Nn Tt t1 t2 t3 t4 t5 tb tn tnt cnt h' tk' hW hus F' N' hlt h1 h2 h3
  have hl := span_len x
  have e := hW.2.1
  have eb : wB x = b := by unfold wB; rw [e]
  have en : wN x = n := by unfold wN; rw [e]
  have et : wT x = nt := by unfold wT; rw [e]
  have ec : wC x = ns := by unfold wC; rw [e]
  obtain ⟨_, _, w1, w2, w3, w4, w5, w6⟩ := hW
  subst eb en et ec
  refine hR Y _ h' tk' (fun Go k => k k1 us Dd Nn Tt t1 t2 t3 t4 t5 tb tn tnt cnt hus w1 (by lia) w4 (by lia) (by lia) fun p hp => hp) (fun q hq p hp => ?_) F' N'
  have hd : p.1 < Dd := hlt p hp
  simp only [List.mem_cons, List.not_mem_nil, or_false] at hq
  rcases hq with rfl | rfl | rfl | rfl
  · exact Nat.lt_trans hd (Nat.lt_trans h1 (Nat.lt_trans h2 h3))
  · exact Nat.lt_trans hd (Nat.lt_trans h1 h2)
  · exact Nat.lt_trans hd h1
  · exact hd
theorem useEq {X1 X2 : Addr} {x1 x2 : Str} (B : PyProof.Rows.Below A₀ base outer h₀) (F : Fr h₀ L s.heap m) (X : (KL w.params).In h₀) (N : News h₀ L s.heap news) (T : Top qv looseN mean mg mb h₀) (hk : cs.kind = .function) (hw1 : WsAt w.params news X1 x1) (hw2 : WsAt w.params news X2 x2) (hd : dp + 2 < recursionLimit) (hu : un + 100 < cLine)
    (hR : ∀ (h' : Heap) (tk' : Nat), Fr h₀ L h' m → News h₀ L h' news → Q (.bool (decide (wC x1 = wC x2 ∧ wB x1 = wB x2))) { s with heap := h', toks := tk' }) :
    wpAny (model prog w) (ktrTop dp un gd cn cs L a ccd cl outer) (call (.ref 186) [.ref X1, .ref X2]) Q E s := by
  apply hw1
  clear hw1
  intro k1 us Dd Nn Tt t1 t2 t3 t4 t5 tb tn tnt cnt h1 h2 h3 h4 h5 h6 h7
  apply hw2
  clear hw2
  intro k1' us' Dd' Nn' Tt' t1' t2' t3' t4' t5' tb' tn' tnt' cnt' g1 g2 g3 g4 g5 g6 g7
  refine useD (c_eq w mean mg mb news x1 k1 (wB x1) (wN x1) (wT x1) (wS x1) us (wC x1) X1 Dd Nn Tt t1 t2 t3 t4 t5 tb tn tnt cnt x2 k1' (wB x2) (wN x2) (wT x2) (wS x2) us' (wC x2) X2 Dd' Nn' Tt' t1' t2' t3' t4' t5' tb' tn' tnt' cnt' h1 g1) B F X (cb_drop N fun p hp => ?_) T hk trivial hd hu fun t h' tk' F' N' => hR h' tk' F' (cb_drop N' fun p hp => List.mem_append_right _ (List.mem_append_right _ hp))
  rcases List.mem_append.mp hp with hp | hp
  · exact h7 p hp
  · rcases List.mem_append.mp hp with hp | hp
    · exact g7 p hp
    · exact hp
theorem useLess {X1 X2 : Addr} {x1 x2 : Str} (B : PyProof.Rows.Below A₀ base outer h₀) (F : Fr h₀ L s.heap m) (X : (KL w.params).In h₀) (N : News h₀ L s.heap news) (T : Top qv looseN mean mg mb h₀) (hk : cs.kind = .function) (hw1 : WsAt w.params news X1 x1) (hw2 : WsAt w.params news X2 x2)
    (hb1 : ∀ n ∈ wC x1, 0 ≤ n ∧ n ≤ 1000) (hb2 : ∀ n ∈ wC x2, 0 ≤ n ∧ n ≤ 1000) (hd : dp + 4 < recursionLimit) (hu : un + 100 < cLine)
    (hR : ∀ (h' : Heap) (tk' : Nat), Fr h₀ L h' m → News h₀ L h' news → Q (.bool (lessW (wB x1) (wN x1) (wT x1) (wS x1) (wC x1) (wB x2) (wN x2) (wT x2) (wS x2) (wC x2))) { s with heap := h', toks := tk' }) :
    wpAny (model prog w) (ktrTop dp un gd cn cs L a ccd cl outer) (call (.ref 200) [.ref X1, .ref X2]) Q E s := by
  apply hw1
  clear hw1
  intro k1 us Dd Nn Tt t1 t2 t3 t4 t5 tb tn tnt cnt h1 h2 h3 h4 h5 h6 h7
  apply hw2
  clear hw2
  intro k1' us' Dd' Nn' Tt' t1' t2' t3' t4' t5' tb' tn' tnt' cnt' g1 g2 g3 g4 g5 g6 g7
  refine useD (c_less w mean mg mb news x1 k1 (wB x1) (wN x1) (wT x1) (wS x1) us (wC x1) X1 Dd Nn Tt t1 t2 t3 t4 t5 tb tn tnt cnt x2 k1' (wB x2) (wN x2) (wT x2) (wS x2) us' (wC x2) X2 Dd' Nn' Tt' t1' t2' t3' t4' t5' tb' tn' tnt' cnt' h1 g1 hb1 hb2) B F X (cb_drop N fun p hp => ?_) T hk ⟨h2, by lia, by lia, g2, by lia, by lia, h4, by lia, g4, by lia⟩ hd hu fun t h' tk' F' N' => hR h' tk' F' (cb_drop N' fun p hp => List.mem_append_right _ (List.mem_append_right _ hp))
  rcases List.mem_append.mp hp with hp | hp
  · exact h7 p hp
  · rcases List.mem_append.mp hp with hp | hp
    · exact g7 p hp
    · exact hp
noncomputable def wHook (x : Str) (st : Int) : Int := hookF st (wC x) (rangeKs 0 (((wC x).length : Int) - 0).toNat)
noncomputable def wVal (x : Str) (st u v : Int) : Int := valF st u v (wC x) (rangeKs 0 (((wC x).length : Int) - 0).toNat) * (([1, 1, 2, 6] : List Int).getD (wT x).toNat 0).fdiv (wHook x st)
theorem useWeight {X1 : Addr} {x1 : Str} {st u v : Int} {k2 k3 k4 : Tok} (B : PyProof.Rows.Below A₀ base outer h₀) (F : Fr h₀ L s.heap m) (X : (KL w.params).In h₀) (N : News h₀ L s.heap news) (T : Top qv looseN mean mg mb h₀) (hk : cs.kind = .function) (hw1 : WsAt w.params news X1 x1)
    (hb1 : ∀ n ∈ wC x1, 0 ≤ n ∧ n ≤ 3) (hp : 0 ≤ st ∧ st ≤ 3 ∧ wT x1 ≤ 3 ∧ (wC x1).length ≤ 10 ∧ (bl u : Int) ≤ 1100000 ∧ (bl v : Int) ≤ 1100000 ∧ wHook x1 st ≠ 0) (hd : dp + 2 < recursionLimit) (hu : un + 60 < cLine)
    (hR : ∀ (t : Tok) (h' : Heap) (tk' : Nat), Fr h₀ L h' m → News h₀ L h' news → Q (.int (wVal x1 st u v) t) { s with heap := h', toks := tk' }) :
    wpAny (model prog w) (ktrTop dp un gd cn cs L a ccd cl outer) (call (.ref 256) [.ref X1, .int st k2, .int u k3, .int v k4]) Q E s := by
  apply hw1
  clear hw1
  intro k1 us Dd Nn Tt t1 t2 t3 t4 t5 tb tn tnt cnt h1 h2 h3 h4 h5 h6 h7
  obtain ⟨p1, p2, p3, p4, p5, p6, p7⟩ := hp
  refine useD (c_weight w mean mg mb news x1 k1 (wB x1) (wN x1) (wT x1) (wS x1) us (wC x1) X1 Dd Nn Tt t1 t2 t3 t4 t5 tb tn tnt cnt h1 hb1 st u v k2 k3 k4) B F X (cb_drop N fun p hp => ?_) T hk ⟨p1, p2, h4, p3, p4, p5, p6, p7⟩ hd hu fun t h' tk' F' N' => hR t h' tk' F' (cb_drop N' fun p hp => List.mem_append_right _ hp)
  rcases List.mem_append.mp hp with hp | hp
  · exact h7 p hp
  · exact hp
end
end Mine

end
-- L12
section
open PySem PySem.W PySem.Spec PySem.Calls PyProof.Rows PyProof.Rows.LCg
set_option Elab.async false
set_option maxRecDepth 100000
set_option maxHeartbeats 1000000
namespace Mine

noncomputable def blS (k : Nat) : Str := Txt.mul (Str.ofString " ") (k : Int) ++ Str.ofString "\t"
noncomputable def twoS (st : Nat) : Str := Txt.mul (blS (st + 1)) 3
theorem Fr.under {h₀ h : Heap} {L : Addr} {x : Str} {v : Value} {k m : Str → Option Value} (F : Fr h₀ L h (fun y => if y = x then some v else k y)) (e : k = m) : Fr h₀ L h (fun y => if y = x then some v else m y) := e ▸ F
theorem bl_lens : ∀ k : Fin 8, (blS k.1).length ≤ 16 ∧ (Txt.mul (blS k.1) 3).length ≤ 48 := by decide
theorem law_s67 (w : World) {mean : ExcName → Option Value} {mg mb : Str → Option Value} {h₀ : Heap} {L fa : Addr} {cd : Value} {s : Shared} {m : Str → Option Value} {rest : List (Addr × Obj)} {o2 o3 : Obj} {lp lk : Addr} {vs vk : List Value} {xs kr : List Str} {n nk : Nat} {st : Nat} {tst : Tok} {tl : List Stmt} {Q : Flow → Shared → Prop} {E : Value → Shared → Prop}
    (F : Fr h₀ L s.heap m) (X : (KL w.params).In h₀) (T : Top qv looseN mean mg mb h₀) (N : News h₀ L s.heap ((lk, W.listOf vk.toArray nk) :: (L + 3, o3) :: (L + 2, o2) :: (lp, W.listOf vs.toArray n) :: rest)) (h2 : o2.data = .cell (some (.ref lp))) (hvs : StrsAre vs xs) (hxs : xs.map (·.length) = List.range 6)
    (hk : m (Str.ofString "kept") = some (.ref lk)) (hvk : StrsAre vk kr) (hkr : kr.length = 5) (hst : m (Str.ofString "start") = some (.int st tst)) (hs3 : st ≤ 3)
    (hQ : ∀ (h' : Heap) (tk' : Nat) (t : Tok), Fr h₀ L h' (fun y => if y = Str.ofString "twos" then some (.str (twoS st) t) else m y) → News h₀ L h' ((lk, W.listOf vk.toArray nk) :: (L + 3, o3) :: (L + 2, o2) :: (lp, W.listOf vs.toArray n) :: rest) → wpAny (model prog w) (lawA L fa cd) (execs tl (lawE L fa cd)) Q E { s with heap := h', toks := tk' }) :
    PySem.Challenge.rw_uc0065_01 = PySem.Challenge.rw_uc0065_01 → KL = KL →
    wpAny (model prog w) (lawA L fa cd) (execs (stAt 5 fb25 :: stAt 6 fb25 :: tl) (lawE L fa cd)) Q E s := by
  k_with_none
  k_with "eval BinOp" => (k_here; (first | (with_reducible show wpAny _ _ (eval (PySem.Expr.BinOp (PySem.Expr.Name _ _) _ _ _) _) _ _ _) | (with_reducible show wpAny _ _ (eval (PySem.Expr.BinOp (PySem.Expr.Constant _ _ _) _ _ _) _) _ _ _) | (with_reducible show wpAny _ _ (eval (PySem.Expr.BinOp (PySem.Expr.BinOp (PySem.Expr.Name _ _) _ _ _) _ _ _) _) _ _ _)); (first | (with_reducible show wpAny _ _ (eval (PySem.Expr.BinOp _ _ (PySem.Expr.Name _ _) _) _) _ _ _) | (with_reducible show wpAny _ _ (eval (PySem.Expr.BinOp _ _ (PySem.Expr.Constant _ _ _) _) _) _ _ _)); k_dflt (first | (refine' valS ?svF ?svk ?svS ?_; (case svF => k_asm); (case svk => rfl); (case svS => walk_at "SV"); k_whole) | (refine' binS ?svF ?svk ?svS ?svU ?_; (case svF => k_asm); (case svk => rfl); (case svS => walk_at "SV"); (case svU => walk_at "SV"); k_whole)))
  k_with "spliced" => (k_here; (first | (with_reducible show wpAny _ _ (spliced (backTo _ (starEach ((PySem.Expr.Name _ _) :: _) _))) _ _ _) | (with_reducible show wpAny _ _ (spliced (backTo _ (starEach ((PySem.Expr.Constant _ _ _) :: _) _))) _ _ _) | (with_reducible show wpAny _ _ (spliced (backTo _ (starEach ((PySem.Expr.BinOp (PySem.Expr.Name _ _) _ _ _) :: _) _))) _ _ _)); k_dflt (refine' itemsS ?svF ?svk ?svS ?_; (case svF => k_asm); (case svk => rfl); (case svS => walk_at "SV"); k_whole))
  k_with "execs cons" => (k_here; (with_reducible show wpAny _ _ _ _ _ (Shared.mk _ _ _ (_ + 1 + 1) _)); refine gentok ?_; intro _; (with_reducible refine wpAny_execs_cons ?_); try dsimp only)
  k_with "execs nil" => (k_here; (with_reducible show wpAny _ _ _ _ _ (Shared.mk _ _ _ (_ + 1 + 1) _)); refine gentok ?_; intro _; (with_reducible refine wpAny_execs_nil ?_); try dsimp only)
  k_with "call ref" => (k_here; (with_reducible show wpAny _ _ (call (Value.ref 210) _) _ _ _); k_dflt (refine' useWs ?k1 ?k2 ?k3 ?k4 ?k5 ?kK ?kp ?kd ?ku ?_); (case k1 => k_asm); (case k2 => k_asm); (case k3 => k_asm); (case k4 => k_asm); (case k5 => k_asm); (case kK => exact rfl); (case kp => first | assumption | lia); (case kd => ktr_room); (case ku => ktr_units); (intro _ _ _ _ _ _ _ _); (try dsimp only); (try k_fold))
  k_fill
  intro hrow hKL; clear hrow hKL
  have B := below_caller h₀
  have eK := know_cons (x := Str.ofString "start") (v := .int st tst) (know_eq hk) hst
  replace F := Mine.Fr.know F hk
  replace F := Mine.Fr.know F (x := Str.ofString "start") (v := .int st tst) (by rw [if_neg (by decide)]; exact hst)
  have hl6 : xs.length = 6 := by
    have := congrArg List.length hxs
    simpa using this
  have hv6 : vs.length = 6 := by rw [hvs.length, hl6]
  have hv5 : vk.length = 5 := by rw [hvk.length, hkr]
  have hpk : (xs.getD ((st : Int) + 1).toNat Str.empty).length = st + 1 := piece_len hxs (by lia)
  show wpAny _ _ (execs (.If _ [.Return _ _] [] _ :: .Assign [.Name _ _] _ _ :: _) _) _ _ _
  k_steps
  · exact absurd hkr (by have h := ‹((kr.length : Nat) : Int) ≠ 5›; lia)
  · rw [hpk]
    have hb1 := bl_lens ⟨st + 1, by lia⟩
    have hb2 : (Txt.mul (Str.ofString " ") ((st + 1 : Nat) : Int) ++ Str.ofString "\t").length ≤ 16 := hb1.1
    refine SB.mul (mulOk_of 16 1048576 hb2 (by lia) (by lia) (by decide) (by decide)) ?_
    intro t9 k9
    k_steps
    rename_i F' N'
    exact hQ _ _ _ (Mine.Fr.under F' eK) N'
theorem law_s8 (w : World) {mean : ExcName → Option Value} {mg mb : Str → Option Value} {h₀ : Heap} {L fa : Addr} {cd : Value} {s : Shared} {m : Str → Option Value} {nx : List (Addr × Obj)} {tw : Str} {tt : Tok} {Q : Flow → Shared → Prop} {E : Value → Shared → Prop}
    (F : Fr h₀ L s.heap m) (X : (KL w.params).In h₀) (T : Top qv looseN mean mg mb h₀) (N : News h₀ L s.heap nx) (ht : m (Str.ofString "twos") = some (.str tw tt)) (hl : tw.length ≤ 50)
    (hQ : ∀ (h' : Heap) (tk' : Nat) (Y : Addr) (W : CbLed), WsAt w.params (W ++ nx) Y (tw ++ Str.ofString "k") → (∀ q ∈ W, ∀ p ∈ nx, p.1 < q.1) → Fr h₀ L h' (fun y => if y = Str.ofString "level" then some (.ref Y) else m y) → News h₀ L h' (W ++ nx) → Q .next { s with heap := h', toks := tk' }) :
    PySem.Challenge.rw_uc0065_01 = PySem.Challenge.rw_uc0065_01 → KL = KL →
    wpAny (model prog w) (lawA L fa cd) (exec (stAt 7 fb25) (lawE L fa cd)) Q E s := by
  k_fill
  intro hrow hKL; clear hrow hKL
  have B := below_caller h₀
  have eK := know_eq ht
  replace F := Mine.Fr.know F ht
  have hlk : (tw ++ Str.ofString "k").length ≤ 100 := by
    rw [slen_append]
    have : (Str.ofString "k").length = 1 := by decide
    lia
  show wpAny _ _ (exec (.Assign [.Name _ _] _ _) _) _ _ _
  k_steps
  rename_i F' N'
  exact hQ _ _ _ _ (WsAt.mono (by assumption) fun p hp => List.mem_append_left _ hp) (by assumption) (Mine.Fr.under F' eK) N'
end Mine

end
-- L9
section
open PySem PySem.W PySem.Spec PySem.Calls PyProof.Rows PyProof.Rows.LCg
set_option Elab.async false
set_option maxRecDepth 100000
set_option maxHeartbeats 1000000
namespace Mine
noncomputable def kin (a j : Nat) : List Str := ((List.range j).filter (good a)).map (rowS a)
noncomputable def kout : Nat → List Str
  | 0 => []
  | a + 1 => kout a ++ kin a (4 - a)
theorem kin_succ (a j : Nat) : kin a (j + 1) = kin a j ++ (if good a j = true then [rowS a j] else []) := by
  unfold kin
  rw [List.range_succ, List.filter_append, List.map_append]
  congr 1
  cases h : good a j <;> simp [h]
theorem kin_len (a j : Nat) : (kin a j).length ≤ j := by
  unfold kin
  rw [List.length_map]
  exact Nat.le_trans (List.length_filter_le ..) (by first | ((repeat first | exact List.mem_cons_self .. | refine List.mem_append_right _ ?_ | refine List.mem_cons_of_mem _ ?_); done) | simp)
theorem kout_len : ∀ a, (kout a).length ≤ 4 * a
  | 0 => Nat.le_refl _
  | a + 1 => by
    show (kout a ++ kin a (4 - a)).length ≤ _
    have := kout_len a; have := kin_len a (4 - a)
    rw [List.length_append]; omega
theorem asg_local {M : Model} {A : Around} {E : Value → Shared → Prop} {s : Shared} {h₀ : Heap} {L : Addr} {m : Str → Option Value} {env : Env} {x : Str} {p : Pos} {v : Value} {news : List (Addr × Obj)} {Q : Unit → Shared → Prop} (hL : env.locals = L)
    (F : Fr h₀ L s.heap m) (N : News h₀ L s.heap news) (hx : env.kindOf x = some .local) (hcls : (env.scope.kind == .class || (env.scope.kind == .module && env.locals != env.globals)) = false)
    (h : ∀ h' tk', Fr h₀ L h' (fun y => if y = x then some v else m y) → News h₀ L h' news → Q () { s with heap := h', toks := tk' }) : wpAny M A (assign (.Name x p) env v) Q E s := by
  subst hL
  exact wpAny_assign_Name (wpAny_storeName_local hx F.ns (fun h' hn hs => h h' _ (F.set hn hs) (N.set hs)) hcls)
noncomputable def ABJ (L lc lk : Addr) (st tu : Int) (R : List (Addr × Obj)) (ks : List Str) (m : Str → Option Value) (nx : List (Addr × Obj)) : Prop :=
  m (Str.ofString "cells") = some (.ref lc) ∧ (∃ t, m (Str.ofString "start") = some (.int st t)) ∧ (∃ t, m (Str.ofString "turn") = some (.int tu t)) ∧ m (Str.ofString "kept") = some (.ref lk) ∧
    ∃ (vk : List Value) (nk : Nat) (o3 : Obj) (v3 : Option Value), nx = (lk, W.listOf vk.toArray nk) :: (L + 3, o3) :: R ∧ StrsAre vk ks ∧ o3.data = .cell v3
theorem ABJ.congr {L lc lk : Addr} {st tu : Int} {R : List (Addr × Obj)} {ks : List Str} {m m' : Str → Option Value} {nx : List (Addr × Obj)} (h : ABJ L lc lk st tu R ks m nx) (e : ∀ z ∈ [Str.ofString "cells", Str.ofString "start", Str.ofString "turn", Str.ofString "kept"], m' z = m z) : ABJ L lc lk st tu R ks m' nx := by
  obtain ⟨h1, ⟨t1, h2⟩, ⟨t2, h3⟩, h4, h5⟩ := h
  exact ⟨(e _ (by first | ((repeat first | exact List.mem_cons_self .. | refine List.mem_append_right _ ?_ | refine List.mem_cons_of_mem _ ?_); done) | simp)).trans h1, ⟨t1, (e _ (by first | ((repeat first | exact List.mem_cons_self .. | refine List.mem_append_right _ ?_ | refine List.mem_cons_of_mem _ ?_); done) | simp)).trans h2⟩, ⟨t2, (e _ (by first | ((repeat first | exact List.mem_cons_self .. | refine List.mem_append_right _ ?_ | refine List.mem_cons_of_mem _ ?_); done) | simp)).trans h3⟩, (e _ (by first | ((repeat first | exact List.mem_cons_self .. | refine List.mem_append_right _ ?_ | refine List.mem_cons_of_mem _ ?_); done) | simp)).trans h4, h5⟩
theorem law_turn (w : World) {mean : ExcName → Option Value} {mg mb : Str → Option Value} {h₀ : Heap} {L fa : Addr} {cd : Value} {s : Shared} {m : Str → Option Value} {nx gl rest : List (Addr × Obj)} {o2 : Obj} {lp lc lk : Addr} {vs : List Value} {xs : List Str} {n : Nat} {st tu : Int} {a b : Nat} {ta tb : Tok} {ks : List Str} {Q : Flow → Shared → Prop} {E : Value → Shared → Prop}
    (F : Fr h₀ L s.heap m) (X : (KL w.params).In h₀) (T : Top qv looseN mean mg mb h₀) (h2 : o2.data = .cell (some (.ref lp))) (hvs : StrsAre vs xs) (hxs : xs.map (·.length) = List.range 6)
    (N : News h₀ L s.heap (nx ++ gl)) (hj : ABJ L lc lk st tu ((L + 2, o2) :: (lp, W.listOf vs.toArray n) :: rest) ks m nx) (hks : ks.length ≤ 100)
    (hne3 : ∀ p ∈ (L + 2, o2) :: (lp, W.listOf vs.toArray n) :: rest ++ gl, p.1 ≠ L + 3) (hnek : ∀ p ∈ (L + 2, o2) :: (lp, W.listOf vs.toArray n) :: rest ++ gl, p.1 ≠ lk) (hk3 : lk ≠ L + 3)
    (ha : m (Str.ofString "a") = some (.int a ta)) (hb : m (Str.ofString "b") = some (.int b tb)) (hab : a + b ≤ 3)
    (hQ : ∀ (h' : Heap) (tk' : Nat) (g' : Array GenState) (m' : Str → Option Value) (nx' : List (Addr × Obj)), ABJ L lc lk st tu ((L + 2, o2) :: (lp, W.listOf vs.toArray n) :: rest) (ks ++ (if good a b = true then [rowS a b] else [])) m' nx' → m' (Str.ofString "a") = m (Str.ofString "a") → Fr h₀ L h' m' → News h₀ L h' (nx' ++ gl) → (AllBare s.gens → AllBare g') → Q .next { s with heap := h', toks := tk', gens := g' }) :
    wpAny (model prog w) (lawA L fa cd) (execs abBody (lawE L fa cd)) Q E s := by
  obtain ⟨hc, ⟨t1, hst⟩, ⟨t2, htu⟩, hkp, vk, nk, o3, v3, rfl, hvk, h3⟩ := hj
  show wpAny _ _ (execs (stAt 0 abBody :: stAt 1 abBody :: stAt 2 abBody :: stAt 3 abBody :: []) _) _ _ _
  refine wpAny_execs_cons ?_
  refine law_row w (n := n) (rest := rest ++ ((lk, W.listOf vk.toArray nk) :: gl)) F X T (cb_drop N ?_) h2 h3 hvs hxs ha hb hab ?_ ?_ rfl rfl
  · intro p hp; simp only [List.mem_cons, List.mem_append, List.cons_append] at hp; rcases hp with h | h | h | h | h | h <;> (first | ((try rw [h]); (repeat first | exact List.mem_cons_self .. | exact h | exact List.mem_append_left _ h | refine List.mem_append_right _ ?_ | refine List.mem_cons_of_mem _ ?_); done) | simp [h])
  · intro p hp
    simp only [List.mem_cons, List.mem_append, List.cons_append] at hp hne3
    rcases hp with h | h | h | h | h
    · exact hne3 p (.inl h)
    · exact hne3 p (.inr (.inl h))
    · exact hne3 p (.inr (.inr (.inl h)))
    · rw [h]; exact hk3
    · exact hne3 p (.inr (.inr (.inr h)))
  · intro h' tk' o t F1 N1 ho
    refine law_says w F1 X T N1 ho ha hb htu hab ?_ rfl rfl
    intro h6 tk6 g6 m6 hs6 hm6 F6 N6 hg6
    have e6 : ∀ z, z ≠ Str.ofString "says" → z ≠ Str.ofString "place" → m6 z = m z := hm6
    refine wpAny_execs_cons ?_
    refine law_keep w (lk := lk) (vk := vk) (nk := nk) (rest := (L + 2, o2) :: (lp, W.listOf vs.toArray n) :: rest ++ gl) F6 X T (cb_drop N6 ?_) ho hs6 ((e6 _ (by decide) (by decide)).trans hkp) ?_ ?_ ?_ rfl rfl
    · intro p hp; simp only [List.mem_cons, List.mem_append, List.cons_append] at hp; rcases hp with h | h | h | h | h | h <;> (first | ((try rw [h]); (repeat first | exact List.mem_cons_self .. | exact h | exact List.mem_append_left _ h | refine List.mem_append_right _ ?_ | refine List.mem_cons_of_mem _ ?_); done) | simp [h])
    · intro p hp
      rcases List.mem_cons.mp hp with rfl | hp
      · exact Ne.symm hk3
      · exact hnek p hp
    · show vk.length ≤ 2 ^ 24
      rw [hvk.length]; omega
    · intro h8 tk8 n8 F8 N8
      refine wpAny_execs_nil ?_
      refine hQ h8 tk8 g6 m6 ((lk, W.listOf (if good a b = true then vk ++ [Value.str (rowS a b) t] else vk).toArray n8) :: (L + 3, o) :: (L + 2, o2) :: (lp, W.listOf vs.toArray n) :: rest) ⟨(e6 _ (by decide) (by decide)).trans hc, ⟨t1, (e6 _ (by decide) (by decide)).trans hst⟩, ⟨t2, (e6 _ (by decide) (by decide)).trans htu⟩, (e6 _ (by decide) (by decide)).trans hkp, _, n8, o, _, rfl, ?_, ho⟩ (e6 _ (by decide) (by decide)) F8 N8 hg6
      cases good a b with
      | true => simpa using strs_snoc hvk
      | false => simpa using hvk
end Mine

end
-- L10
section
open PySem PySem.W PySem.Spec PySem.Calls PyProof.Rows PyProof.Rows.LCg
set_option Elab.async false
set_option maxRecDepth 100000
set_option maxHeartbeats 1000000
namespace Mine
theorem rng4 {a : Nat} (h : a < 4) : Builtin.Range.small 0 (4 - (a : Int)) 1 = true ∧ Builtin.Range.rangeSize 0 (4 - (a : Int)) 1 = ((4 - a : Nat) : Int) := by
  have : ∀ a : Fin 4, Builtin.Range.small 0 (4 - (a.1 : Int)) 1 = true ∧ Builtin.Range.rangeSize 0 (4 - (a.1 : Int)) 1 = ((4 - a.1 : Nat) : Int) := by decide
  exact this ⟨a, h⟩
theorem law_inner (w : World) {mean : ExcName → Option Value} {mg mb : Str → Option Value} {h₀ : Heap} {L fa : Addr} {cd : Value} {s : Shared} {m : Str → Option Value} {nx gl rest : List (Addr × Obj)} {o2 : Obj} {lp lc lk : Addr} {vs : List Value} {xs : List Str} {n : Nat} {st tu : Int} {a : Nat} {ta : Tok} {Q : Flow → Shared → Prop} {E : Value → Shared → Prop}
    (F : Fr h₀ L s.heap m) (X : (KL w.params).In h₀) (T : Top qv looseN mean mg mb h₀) (h2 : o2.data = .cell (some (.ref lp))) (hvs : StrsAre vs xs) (hxs : xs.map (·.length) = List.range 6)
    (N : News h₀ L s.heap (nx ++ gl)) (hj : ABJ L lc lk st tu ((L + 2, o2) :: (lp, W.listOf vs.toArray n) :: rest) (kout a) m nx)
    (hne3 : ∀ p ∈ (L + 2, o2) :: (lp, W.listOf vs.toArray n) :: rest ++ gl, p.1 ≠ L + 3) (hnek : ∀ p ∈ (L + 2, o2) :: (lp, W.listOf vs.toArray n) :: rest ++ gl, p.1 ≠ lk) (hk3 : lk ≠ L + 3)
    (ha : m (Str.ofString "a") = some (.int a ta)) (ha4 : a < 4)
    (hQ : ∀ (h' : Heap) (tk' : Nat) (g' : Array GenState) (m' : Str → Option Value) (nx' : List (Addr × Obj)), ABJ L lc lk st tu ((L + 2, o2) :: (lp, W.listOf vs.toArray n) :: rest) (kout (a + 1)) m' nx' → Fr h₀ L h' m' → News h₀ L h' (nx' ++ gl) → (AllBare s.gens → AllBare g') → Q .next { s with heap := h', toks := tk', gens := g' }) :
    PySem.Challenge.rw_uc0065_01 = PySem.Challenge.rw_uc0065_01 → KL = KL →
    wpAny (model prog w) (lawA L fa cd) (exec (stAt 0 (forBodyX (stAt 4 fb25))) (lawE L fa cd)) Q E s := by
  k_with_none
  k_with "eval BinOp" => (k_here; (first | (with_reducible show wpAny _ _ (eval (PySem.Expr.BinOp (PySem.Expr.Name _ _) _ _ _) _) _ _ _) | (with_reducible show wpAny _ _ (eval (PySem.Expr.BinOp (PySem.Expr.Constant _ _ _) _ _ _) _) _ _ _) | (with_reducible show wpAny _ _ (eval (PySem.Expr.BinOp (PySem.Expr.BinOp (PySem.Expr.Name _ _) _ _ _) _ _ _) _) _ _ _)); (first | (with_reducible show wpAny _ _ (eval (PySem.Expr.BinOp _ _ (PySem.Expr.Name _ _) _) _) _ _ _) | (with_reducible show wpAny _ _ (eval (PySem.Expr.BinOp _ _ (PySem.Expr.Constant _ _ _) _) _) _ _ _)); k_dflt (first | (refine' valS ?svF ?svk ?svS ?_; (case svF => k_asm); (case svk => rfl); (case svS => walk_at "SV"); k_whole) | (refine' binS ?svF ?svk ?svS ?svU ?_; (case svF => k_asm); (case svk => rfl); (case svS => walk_at "SV"); (case svU => walk_at "SV"); k_whole)))
  k_fill
  intro hrow hKL; clear hrow hKL
  have B := below_caller h₀
  have eK := know_eq ha
  replace F := Mine.Fr.know F ha
  show wpAny _ _ (exec (.For _ _ _ [] _) _) _ _ _
  refine wpAny_For ?_ (fun _ => rfl)
  k_steps
  rename_i h9 tk9 t9 u9 v9 R9 F9 N9 k9
  dsimp only at R9 F9 N9 ⊢
  rw [eK] at F9
  have hsize : ∀ p ∈ nx ++ gl, p.1 < h9.objs.size := fun p hp => Heap.lt_size (N9 p hp).1
  have hI3 : h9.objs.size ≠ L + 3 := by
    obtain ⟨_, _, _, _, vk, nk, o3, v3, rfl, _⟩ := hj
    exact Nat.ne_of_gt (hsize (L + 3, o3) (by first | ((repeat first | exact List.mem_cons_self .. | refine List.mem_append_right _ ?_ | refine List.mem_cons_of_mem _ ?_); done) | simp))
  have hIk : h9.objs.size ≠ lk := by
    obtain ⟨_, _, _, _, vk, nk, o3, v3, rfl, _⟩ := hj
    exact Nat.ne_of_gt (hsize (lk, W.listOf vk.toArray nk) (by first | ((repeat first | exact List.mem_cons_self .. | refine List.mem_append_right _ ?_ | refine List.mem_cons_of_mem _ ?_); done) | simp))
  refine for_range rfl R9 (rng4 ha4).1 (rng4 ha4).2 F9 N9
    (fun j m nx2 g => m (Str.ofString "a") = some (.int a ta) ∧ (AllBare s.gens → AllBare g) ∧ ∃ nx', nx2 = nx' ++ gl ∧ ABJ L lc lk st tu ((L + 2, o2) :: (lp, W.listOf vs.toArray n) :: rest) (kout a ++ kin a j) m nx') ?_ ⟨ha, id, nx, rfl, by simpa [kin] using hj⟩ ?_ ?_
  · rintro j m2 nx2 g ⟨_, _, nx', rfl, _, _, _, _, vk, nk, o3, v3, rfl, _⟩ p hp
    simp only [List.cons_append, List.mem_cons] at hp
    rcases hp with rfl | rfl | hp
    · exact Ne.symm hIk
    · exact Ne.symm hI3
    · obtain ⟨_, _, _, _, vk', nk', o3', v3', rfl, _⟩ := hj
      refine Nat.ne_of_lt (hsize p ?_)
      simp only [List.cons_append, List.mem_cons, List.mem_append] at hp
      rcases hp with h | h | h | h <;> (first | ((try rw [h]); (repeat first | exact List.mem_cons_self .. | exact h | exact List.mem_append_left _ h | refine List.mem_append_right _ ?_ | refine List.mem_cons_of_mem _ ?_); done) | simp [h])
  · rintro j t m2 nx2 gl2 h tk g E' hjlt ⟨ha2, hg, nx', rfl, hj2⟩ F8 N8 hgl2
    have hcast : (0 : Int) + (j : Int) * 1 = (j : Int) := by lia
    rw [hcast]
    refine asg_local rfl F8 N8 rfl rfl fun h' tk' F7 N7 => ?_
    have hsub : ∀ p ∈ (L + 2, o2) :: (lp, W.listOf vs.toArray n) :: rest ++ (gl ++ gl2), p ∈ (L + 2, o2) :: (lp, W.listOf vs.toArray n) :: rest ++ gl ∨ p ∈ gl2 := fun p hp => by
      simp only [List.cons_append, List.mem_cons, List.mem_append] at hp
      rcases hp with h | h | h | h | h <;> (first | ((try rw [h]); (repeat first | exact List.mem_cons_self .. | exact h | exact List.mem_append_left _ h | refine List.mem_append_right _ ?_ | refine List.mem_cons_of_mem _ ?_); done) | simp [h])
    refine law_turn w (ks := kout a ++ kin a j) (a := a) (b := j) (ta := ta) (tb := t) F7 X T h2 hvs hxs (gl := gl ++ gl2) (nx := nx') (cb_drop N7 (by intro p hp; simpa using hp)) (hj2.congr fun z hz => if_neg (by rintro rfl; revert hz; decide)) ?_ ?_ ?_ hk3 ((if_neg (by decide)).trans ha2) (if_pos rfl) (by lia) ?_
    · have := kout_len a; have := kin_len a j
      rw [List.length_append]; lia
    · intro p hp
      rcases hsub p hp with h | h
      · exact hne3 p h
      · rw [hgl2 p h]; exact hI3
    · intro p hp
      rcases hsub p hp with h | h
      · exact hnek p h
      · rw [hgl2 p h]; exact hIk
    · intro h6 tk6 g6 m6 nx6 hj6 ha6 F6 N6 hg6
      refine fun Go k => k h6 tk6 g6 m6 (nx6 ++ gl) F6 (cb_drop N6 (by intro p hp; simpa using hp)) ⟨ha6.trans ((if_neg (by decide)).trans ha2), fun x => hg6 (hg x), nx6, rfl, ?_⟩
      rw [kin_succ, ← List.append_assoc]; exact hj6
  · rintro h tk g m2 nx2 ⟨ha2, hg, nx', rfl, hj2⟩ F8 N8
    exact hQ h tk g m2 nx' hj2 F8 N8 hg
end Mine

end
-- L11
section
open PySem PySem.W PySem.Spec PySem.Calls PyProof.Rows PyProof.Rows.LCg
set_option Elab.async false
set_option maxRecDepth 100000
set_option maxHeartbeats 1000000
namespace Mine
theorem law_s5 (w : World) {mean : ExcName → Option Value} {mg mb : Str → Option Value} {h₀ : Heap} {L fa : Addr} {cd : Value} {s : Shared} {m : Str → Option Value} {nx rest : List (Addr × Obj)} {o2 : Obj} {lp lc lk : Addr} {vs : List Value} {xs : List Str} {n : Nat} {st tu : Int} {Q : Flow → Shared → Prop} {E : Value → Shared → Prop}
    (F : Fr h₀ L s.heap m) (X : (KL w.params).In h₀) (T : Top qv looseN mean mg mb h₀) (h2 : o2.data = .cell (some (.ref lp))) (hvs : StrsAre vs xs) (hxs : xs.map (·.length) = List.range 6)
    (N : News h₀ L s.heap nx) (hj : ABJ L lc lk st tu ((L + 2, o2) :: (lp, W.listOf vs.toArray n) :: rest) [] m nx)
    (hne3 : ∀ p ∈ (L + 2, o2) :: (lp, W.listOf vs.toArray n) :: rest, p.1 ≠ L + 3) (hnek : ∀ p ∈ (L + 2, o2) :: (lp, W.listOf vs.toArray n) :: rest, p.1 ≠ lk) (hk3 : lk ≠ L + 3)
    (hQ : ∀ (h' : Heap) (tk' : Nat) (g' : Array GenState) (m' : Str → Option Value) (nx' : List (Addr × Obj)), ABJ L lc lk st tu ((L + 2, o2) :: (lp, W.listOf vs.toArray n) :: rest) (kout 4) m' nx' → Fr h₀ L h' m' → News h₀ L h' nx' → (AllBare s.gens → AllBare g') → Q .next { s with heap := h', toks := tk', gens := g' }) :
    PySem.Challenge.rw_uc0065_01 = PySem.Challenge.rw_uc0065_01 → KL = KL →
    wpAny (model prog w) (lawA L fa cd) (exec (stAt 4 fb25) (lawE L fa cd)) Q E s := by
  k_with_none
  k_fill
  intro hrow hKL; clear hrow hKL
  have B := below_caller h₀
  show wpAny _ _ (exec (.For _ _ _ [] _) _) _ _ _
  refine wpAny_For ?_ (fun _ => rfl)
  k_steps
  rename_i h9 tk9 t9 u9 v9 R9 F9 N9 k9
  dsimp only at R9 F9 N9 ⊢
  have hsize : ∀ p ∈ nx, p.1 < h9.objs.size := fun p hp => Heap.lt_size (N9 p hp).1
  have hI3 : h9.objs.size ≠ L + 3 := by
    obtain ⟨_, _, _, _, vk, nk, o3, v3, rfl, _⟩ := hj
    exact Nat.ne_of_gt (hsize (L + 3, o3) (by simp))
  have hIk : h9.objs.size ≠ lk := by
    obtain ⟨_, _, _, _, vk, nk, o3, v3, rfl, _⟩ := hj
    exact Nat.ne_of_gt (hsize (lk, W.listOf vk.toArray nk) (by simp))
  refine for_range rfl R9 (by decide) (n := 4) (by decide) F9 N9
    (fun a m nx2 g => (AllBare s.gens → AllBare g) ∧ ABJ L lc lk st tu ((L + 2, o2) :: (lp, W.listOf vs.toArray n) :: rest) (kout a) m nx2) ?_ ⟨id, hj⟩ ?_ ?_
  · rintro j m2 nx2 g ⟨_, _, _, _, _, vk, nk, o3, v3, rfl, _⟩ p hp
    simp only [List.mem_cons] at hp
    rcases hp with rfl | rfl | hp
    · exact Ne.symm hIk
    · exact Ne.symm hI3
    · obtain ⟨_, _, _, _, vk', nk', o3', v3', rfl, _⟩ := hj
      refine Nat.ne_of_lt (hsize p ?_)
      simp only [List.mem_cons] at hp ⊢
      rcases hp with h | h | h <;> simp [h]
  · rintro a t m2 nx2 gl2 h tk g E' halt ⟨hg, hj2⟩ F8 N8 hgl2
    have hcast : (0 : Int) + (a : Int) * 1 = (a : Int) := by lia
    rw [hcast]
    refine asg_local rfl F8 N8 rfl rfl fun h' tk' F7 N7 => ?_
    have hsub : ∀ p ∈ (L + 2, o2) :: (lp, W.listOf vs.toArray n) :: rest ++ gl2, p ∈ (L + 2, o2) :: (lp, W.listOf vs.toArray n) :: rest ∨ p ∈ gl2 := fun p hp => List.mem_append.mp hp
    show wpAny _ _ (execs (stAt 0 (forBodyX (stAt 4 fb25)) :: []) _) _ _ _
    refine wpAny_execs_cons ?_
    refine law_inner w (a := a) (ta := t) F7 X T h2 hvs hxs (gl := gl2) (nx := nx2) N7 (hj2.congr fun z hz => if_neg (by rintro rfl; revert hz; decide)) ?_ ?_ hk3 (if_pos rfl) halt ?_ rfl rfl
    · intro p hp
      rcases hsub p hp with h | h
      · exact hne3 p h
      · rw [hgl2 p h]; exact hI3
    · intro p hp
      rcases hsub p hp with h | h
      · exact hnek p h
      · rw [hgl2 p h]; exact hIk
    · intro h6 tk6 g6 m6 nx6 hj6 F6 N6 hg6
      refine wpAny_execs_nil ?_
      exact fun Go k => k h6 tk6 g6 m6 nx6 F6 N6 ⟨fun x => hg6 (hg x), hj6⟩
  · rintro h tk g m2 nx2 ⟨hg, hj2⟩ F8 N8
    exact hQ h tk g m2 nx2 hj2 F8 N8 hg
end Mine

end
-- L13
section
open PySem PySem.W PySem.Spec PySem.Calls PyProof.Rows PyProof.Rows.LCg
set_option Elab.async false
set_option maxRecDepth 100000
set_option maxHeartbeats 1000000
namespace Mine

noncomputable def ifBody : Stmt → List Stmt
  | .If _ b _ _ => b
  | _ => []
theorem law_s9 (w : World) {mean : ExcName → Option Value} {mg mb : Str → Option Value} {h₀ : Heap} {L fa : Addr} {cd : Value} {s : Shared} {m : Str → Option Value} {rest : List (Addr × Obj)} {lc : Addr} {ys : List Value} {ns : List Int} {Q : Flow → Shared → Prop} {E : Value → Shared → Prop}
    (F : Fr h₀ L s.heap m) (X : (KL w.params).In h₀) (T : Top qv looseN mean mg mb h₀) (N : News h₀ L s.heap ((lc, lst ys) :: rest)) (hc : m (Str.ofString "cells") = some (.ref lc)) (hys : IntsAre ys ns) (hns : ns.length = 6)
    (hQ : ∀ (h' : Heap) (tk' : Nat) (m' : Str → Option Value) (ll : Addr), m' (Str.ofString "leads") = some (.ref ll) → (∃ t, m' (Str.ofString "low_sum") = some (.int 0 t)) → (∃ t, m' (Str.ofString "high_sum") = some (.int 0 t)) → (∃ t, m' (Str.ofString "x") = some (.int (ns.getD 3 0) t)) → (∃ t, m' (Str.ofString "y") = some (.int (ns.getD 4 0) t)) →
      (∀ z, z ∉ [Str.ofString "leads", Str.ofString "low_sum", Str.ofString "high_sum", Str.ofString "x", Str.ofString "y"] → m' z = m z) →
      Fr h₀ L h' m' → News h₀ L h' ((ll, W.listOf #[] 0) :: (lc, lst ys) :: rest) → (∀ p ∈ (lc, lst ys) :: rest, p.1 < ll) → Q .next { s with heap := h', toks := tk' }) :
    PySem.Challenge.rw_uc0065_01 = PySem.Challenge.rw_uc0065_01 → KL = KL →
    wpAny (model prog w) (lawA L fa cd) (exec (stAt 8 fb25) (lawE L fa cd)) Q E s := by
  k_with_none
  k_with "spliced" => (k_here; (first | (with_reducible show wpAny _ _ (spliced (backTo _ (starEach ((PySem.Expr.Name _ _) :: _) _))) _ _ _) | (with_reducible show wpAny _ _ (spliced (backTo _ (starEach ((PySem.Expr.Constant _ _ _) :: _) _))) _ _ _) | (with_reducible show wpAny _ _ (spliced (backTo _ (starEach ((PySem.Expr.BinOp (PySem.Expr.Name _ _) _ _ _) :: _) _))) _ _ _)); k_dflt (refine' itemsS ?svF ?svk ?svS ?_; (case svF => k_asm); (case svk => rfl); (case svS => walk_at "SV"); k_whole))
  k_with "eval Subscript" => (k_here; (first | (with_reducible show wpAny _ _ (eval (PySem.Expr.Subscript (PySem.Expr.Name _ _) (PySem.Expr.Name _ _) _) _) _ _ _) | (with_reducible show wpAny _ _ (eval (PySem.Expr.Subscript (PySem.Expr.Name _ _) (PySem.Expr.Constant _ _ _) _) _) _ _ _) | (with_reducible show wpAny _ _ (eval (PySem.Expr.Subscript (PySem.Expr.Name _ _) (PySem.Expr.BinOp (PySem.Expr.Name _ _) _ _ _) _) _) _ _ _)); k_dflt (refine' subS ?svF ?svk ?svS ?svU ?_; (case svF => k_asm); (case svk => rfl); (case svS => walk_at "SV"); (case svU => walk_at "SV"); k_whole))
  k_with "execs cons" => (k_here; (with_reducible show wpAny _ _ _ _ _ (Shared.mk _ _ _ (_ + 1 + 1) _)); refine gentok ?_; intro _; (with_reducible refine wpAny_execs_cons ?_); try dsimp only)
  k_with "execs nil" => (k_here; (with_reducible show wpAny _ _ _ _ _ (Shared.mk _ _ _ (_ + 1 + 1) _)); refine gentok ?_; intro _; (with_reducible refine wpAny_execs_nil ?_); try dsimp only)
  k_fill
  intro hrow hKL; clear hrow hKL
  have B := below_caller h₀
  have eK := know_eq hc
  replace F := Mine.Fr.know F hc
  show wpAny _ _ (exec (.Assign [.Tuple [_, _, _, _, _] _ _] (.Tuple _ _ _) _) _) _ _ _
  k_steps
  rename_i ll h9 lt9 t1 t2 D9 h8 lt8 g6 g5 g4 g3 g2 h4 F4 N4
  have hlt : lc < ll ∧ AllLt ll rest := lt9
  refine hQ h4 _ _ ll rfl ⟨_, rfl⟩ ⟨_, rfl⟩ ⟨_, rfl⟩ ⟨_, rfl⟩ (fun z hz => ?_) F4 (cb_drop N4 (by intro p hp; exact List.mem_cons_of_mem _ hp)) fun p hp => ?_
  · simp only [List.mem_cons, List.not_mem_nil, or_false, not_or] at hz
    exact (if_neg hz.2.2.2.2).trans ((if_neg hz.2.2.2.1).trans ((if_neg hz.2.2.1).trans ((if_neg hz.2.1).trans ((if_neg hz.1).trans (congrFun eK z)))))
  · rcases List.mem_cons.mp hp with rfl | hp
    · exact hlt.1
    · exact allLt_all _ hlt.2 p hp
noncomputable def rowF (r : Nat) : Str := (kout 4).getD r Str.empty
noncomputable def ends (row : Str) (i : Nat) : List Int := ((List.range ((row.length - i) / 2)).map fun (k : Nat) => (i : Int) + 2 + (k : Int) * 2).filter fun j => chk (Txt.slice row (some (i : Int)) (some j))
theorem rowF_len : ∀ r : Fin 5, (rowF r.1).length = 6 := by decide +kernel
theorem ends_ok : ∀ r : Fin 5, ∀ i : Fin 6, ∀ k : Fin 4, (Txt.slice (rowF r.1) (some (i.1 : Int)) (some ((i.1 : Int) + 2 + (k.1 : Int) * 2))).length ≤ 6 := by decide +kernel
/-- the statement ends = [..] -/
theorem law_ends (w : World) {mean : ExcName → Option Value} {mg mb : Str → Option Value} {h₀ : Heap} {L fa : Addr} {cd : Value} {s : Shared} {m : Str → Option Value} {rest : List (Addr × Obj)} {o3 o4 : Obj} {r i : Nat} {tr ti : Tok} {Q : Flow → Shared → Prop} {E : Value → Shared → Prop}
    (F : Fr h₀ L s.heap m) (X : (KL w.params).In h₀) (T : Top qv looseN mean mg mb h₀) (N : News h₀ L s.heap ((L + 3, o3) :: (L + 4, o4) :: rest)) (h3 : o3.data = .cell (some (.str (rowF r) tr))) (h4 : o4.data = .cell (some (.int i ti))) (hr : r < 5) (hi : i < 6)
    (hQ : ∀ (D : Addr) (h' : Heap) (tk' : Nat) (g' : Array GenState) (ys : List Value), IntsAre ys (ends (rowF r) i) → Fr h₀ L h' (fun y => if y = Str.ofString "ends" then some (.ref D) else m y) → News h₀ L h' ((D, lst ys) :: (L + 3, o3) :: (L + 4, o4) :: rest) → (∀ p ∈ (L + 3, o3) :: (L + 4, o4) :: rest, p.1 < D) → (AllBare s.gens → AllBare g') → Q .next { s with heap := h', toks := tk', gens := g' }) :
    PySem.Challenge.rw_uc0065_01 = PySem.Challenge.rw_uc0065_01 → KL = KL →
    wpAny (model prog w) (lawA L fa cd) (exec (stAt 0 (ifBody (stAt 0 (forBodyX (stAt 1 (forBodyX (stAt 9 fb25))))))) (lawE L fa cd)) Q E s := by
  k_with "call ref" => (k_here; (with_reducible show wpAny _ _ (call (Value.ref 42) _) _ _ _); k_dflt (refine' useChk ?k1 ?k2 ?k3 ?k4 ?k5 ?kK ?kp ?kd ?ku ?_); (case k1 => k_asm); (case k2 => k_asm); (case k3 => k_asm); (case k4 => k_asm); (case k5 => k_asm); (case kK => exact rfl); (case kp => first | assumption | omega); (case kd => ktr_room); (case ku => ktr_units); (intro _ _ _ _ _ _); (try dsimp only); (try k_fold))
  k_fill
  intro hrow hKL; clear hrow hKL
  have B := below_caller h₀
  have hrl := rowF_len ⟨r, hr⟩
  refine asg_comp (cl := _) (F₀ := F) rfl (by with_unfolding_all rfl) (by with_unfolding_all rfl) (by decide) rfl (by decide) rfl rfl (fun _ => rfl) ?_
  k_steps
  rename_i h9 tk9 t9 u9 v9 R9 F9 N9 k9
  dsimp only at R9 F9 N9 hrl ⊢
  rw [hrl] at R9
  have hrg : Builtin.Range.small ((i : Int) + 2) ((6 : Nat) + 1) 2 = true ∧ Builtin.Range.rangeSize ((i : Int) + 2) ((6 : Nat) + 1) 2 = (((6 - i) / 2 : Nat) : Int) := by
    have : ∀ i : Fin 6, Builtin.Range.small ((i.1 : Int) + 2) ((6 : Nat) + 1) 2 = true ∧ Builtin.Range.rangeSize ((i.1 : Int) + 2) ((6 : Nat) + 1) 2 = (((6 - i.1) / 2 : Nat) : Int) := by decide
    exact this ⟨i, hi⟩
  refine comp_range rfl rfl rfl R9 hrg.1 hrg.2 (by show (6 - i) / 2 ≤ 2 ^ 24; omega) F9 N9
    (fun k ys g => (AllBare s.gens → AllBare g) ∧ IntsAre ys (((List.range k).map fun (k : Nat) => (i : Int) + 2 + (k : Int) * 2).filter fun j => chk (Txt.slice (rowF r) (some (i : Int)) (some j)))) ⟨id, .nil⟩ ?_ ?_
  · rintro k t ys C oC D gl h tk g m₂ s' E' hk ⟨hg, hys⟩ hC hm F8 N8 hlow hDC
    refine wpAny_tests_one ?_
    rw [List.cons_append, List.cons_append] at N8
    k_steps
    · have hb := ‹(chk _ == true) = true›
      refine fun Go ko => ko _ _ _ (by assumption) (by assumption) ⟨fun x => (‹AllBare _ → AllBare _› : AllBare g → AllBare _) (hg x), ?_⟩
      rw [List.range_succ, List.map_append, List.filter_append]
      have e : List.filter (fun j => chk (Txt.slice (rowF r) (some (i : Int)) (some j))) (List.map (fun (k : Nat) => (i : Int) + 2 + (k : Int) * 2) [k]) = [(i : Int) + 2 + (k : Int) * 2] := by
        rw [List.map_singleton, List.filter_cons_of_pos (by simpa using hb), List.filter_nil]
      rw [e]
      exact ints_snoc hys
    · have hb := ‹(chk _ == true) = false›
      refine fun Go ko => ko _ _ _ (by assumption) (by assumption) ⟨fun x => (‹AllBare _ → AllBare _› : AllBare g → AllBare _) (hg x), ?_⟩
      rw [List.range_succ, List.map_append, List.filter_append]
      have e : List.filter (fun j => chk (Txt.slice (rowF r) (some (i : Int)) (some j))) (List.map (fun (k : Nat) => (i : Int) + 2 + (k : Int) * 2) [k]) = [] := by
        rw [List.map_singleton, List.filter_cons_of_neg (by simpa using hb), List.filter_nil]
      rw [e, List.append_nil]
      exact hys
  · rintro s₂ ys g ⟨hh, rfl⟩ ⟨hg, hys⟩ D h' tk F7 N7 hlow
    exact hQ D h' tk g ys (by unfold ends; rw [hrl]; exact hys) F7 N7 hlow hg
end Mine

end
-- L14
section
open PySem PySem.W PySem.Spec PySem.Calls PyProof.Rows PyProof.Rows.LCg
set_option Elab.async false
set_option maxRecDepth 100000
set_option maxHeartbeats 1000000
namespace Mine

noncomputable abbrev ifB : List Stmt := ifBody (stAt 0 (forBodyX (stAt 1 (forBodyX (stAt 9 fb25)))))
noncomputable def addS (lo : Str) (k : Int) : Str := (lo ++ Txt.mul (Str.ofString " ") k) ++ Str.ofString "\t"
theorem nn6 {e : Int} (h0 : 0 ≤ e) (h1 : e < 6) : e.toNat < 6 := (Int.toNat_lt h0).mpr h1
theorem nn5 {e : Int} (h1 : e < 6) : e.toNat ≤ 5 := Int.toNat_le.mpr (Int.le_of_lt_add_one h1)
theorem law_lh (w : World) {mean : ExcName → Option Value} {mg mb : Str → Option Value} {h₀ : Heap} {L fa : Addr} {cd : Value} {s : Shared} {m : Str → Option Value} {rest : List (Addr × Obj)} {o2 o4 : Obj} {lp D : Addr} {vs ys : List Value} {xs : List Str} {es : List Int} {n st i : Nat} {lo hi : Str} {tlo thi tst ti : Tok} {tl : List Stmt} {Q : Flow → Shared → Prop} {E : Value → Shared → Prop}
    (F : Fr h₀ L s.heap m) (X : (KL w.params).In h₀) (T : Top qv looseN mean mg mb h₀) (N : News h₀ L s.heap ((D, lst ys) :: (L + 4, o4) :: (L + 2, o2) :: (lp, W.listOf vs.toArray n) :: rest)) (h2 : o2.data = .cell (some (.ref lp))) (h4 : o4.data = .cell (some (.int i ti))) (hvs : StrsAre vs xs) (hxs : xs.map (·.length) = List.range 6)
    (hys : IntsAre ys es) (hel : 0 < es.length) (hel9 : es.length ≤ 6) (hst : m (Str.ofString "start") = some (.int st tst)) (hlo : m (Str.ofString "low") = some (.str lo tlo)) (hhi : m (Str.ofString "high") = some (.str hi thi)) (hen : m (Str.ofString "ends") = some (.ref D)) (hll : lo.length ≤ 40) (hhl : hi.length ≤ 40)
    (ha1 : 0 ≤ (st : Int) + (es.getD 0 0 - (i : Int)).fdiv 2 - 1) (ha2 : (st : Int) + (es.getD 0 0 - (i : Int)).fdiv 2 - 1 < 6) (hb1 : 0 ≤ (st : Int) + (es.getD (es.length - 1) 0 - (i : Int)).fdiv 2 - 1) (hb2 : (st : Int) + (es.getD (es.length - 1) 0 - (i : Int)).fdiv 2 - 1 < 6)
    (hQ : ∀ (h' : Heap) (tk' : Nat) (m' : Str → Option Value), (∃ t, m' (Str.ofString "low") = some (.str (addS lo ((st : Int) + (es.getD 0 0 - (i : Int)).fdiv 2 - 1)) t)) → (∃ t, m' (Str.ofString "high") = some (.str (addS hi ((st : Int) + (es.getD (es.length - 1) 0 - (i : Int)).fdiv 2 - 1)) t)) → (∀ z, z ≠ Str.ofString "low" → z ≠ Str.ofString "high" → m' z = m z) →
      Fr h₀ L h' m' → News h₀ L h' ((D, lst ys) :: (L + 4, o4) :: (L + 2, o2) :: (lp, W.listOf vs.toArray n) :: rest) → wpAny (model prog w) (lawA L fa cd) (execs tl (lawE L fa cd)) Q E { s with heap := h', toks := tk' }) :
    PySem.Challenge.rw_uc0065_01 = PySem.Challenge.rw_uc0065_01 → KL = KL →
    wpAny (model prog w) (lawA L fa cd) (execs (stAt 1 ifB :: stAt 2 ifB :: tl) (lawE L fa cd)) Q E s := by
  k_with_none
  k_with "execs cons" => (k_here; (with_reducible refine wpAny_execs_cons ?_); k_fold)
  k_with "execs cons" => (k_here; (with_reducible show wpAny _ _ _ _ _ (Shared.mk _ _ _ (_ + 1 + 1) _)); refine gentok ?_; intro _; (with_reducible refine wpAny_execs_cons ?_); (try dsimp only); (try k_fold))
  k_with "execs nil" => (k_here; (with_reducible show wpAny _ _ _ _ _ (Shared.mk _ _ _ (_ + 1 + 1) _)); refine gentok ?_; intro _; (with_reducible refine wpAny_execs_nil ?_); try dsimp only)
  k_fill
  intro hrow hKL; clear hrow hKL
  have B := below_caller h₀
  have eK := know_cons (x := Str.ofString "ends") (v := .ref D) (know_cons (x := Str.ofString "high") (v := .str hi thi) (know_cons (x := Str.ofString "low") (v := .str lo tlo) (know_eq hst) hlo) hhi) hen
  replace F := Mine.Fr.know F hst
  replace F := Mine.Fr.know F (x := Str.ofString "low") (v := .str lo tlo) (by rw [if_neg (by decide)]; exact hlo)
  replace F := Mine.Fr.know F (x := Str.ofString "high") (v := .str hi thi) (by rw [if_neg (by decide), if_neg (by decide)]; exact hhi)
  replace F := Mine.Fr.know F (x := Str.ofString "ends") (v := .ref D) (by rw [if_neg (by decide), if_neg (by decide), if_neg (by decide)]; exact hen)
  have hl6 : xs.length = 6 := by
    have := congrArg List.length hxs
    simpa using this
  have hv6 : vs.length = 6 := by rw [hvs.length, hl6]
  have hyl : ys.length = es.length := hys.length
  have ha1' : 0 ≤ (st : Int) + (es.getD (Int.toNat 0) 0 - (i : Int)).fdiv 2 - 1 := ha1
  have ha2' : (st : Int) + (es.getD (Int.toNat 0) 0 - (i : Int)).fdiv 2 - 1 < 6 := ha2
  have hlast : (-1 + (es.length : Int)).toNat = es.length - 1 := by omega
  have hb1' : 0 ≤ (st : Int) + (es.getD (-1 + (es.length : Int)).toNat 0 - (i : Int)).fdiv 2 - 1 := by rw [hlast]; exact hb1
  have hb2' : (st : Int) + (es.getD (-1 + (es.length : Int)).toNat 0 - (i : Int)).fdiv 2 - 1 < 6 := by rw [hlast]; exact hb2
  have hpA : (xs.getD ((st : Int) + (es.getD (Int.toNat 0) 0 - (i : Int)).fdiv 2 - 1).toNat Str.empty).length ≤ 5 := le_of_eq_of_le (piece_len hxs (nn6 ha1' ha2')) (nn5 ha2')
  have hpB : (xs.getD ((st : Int) + (es.getD (-1 + (es.length : Int)).toNat 0 - (i : Int)).fdiv 2 - 1).toNat Str.empty).length ≤ 5 := le_of_eq_of_le (piece_len hxs (nn6 hb1' hb2')) (nn5 hb2')
  clear ha1 ha2 hb1 hb2
  show wpAny _ _ (execs (.Assign [.Name _ _] _ _ :: .Assign [.Name _ _] _ _ :: _) _) _ _ _
  k_steps
  rename_i F' N'
  refine' hQ _ _ _ ⟨_, ?c1⟩ ⟨_, ?c2⟩ (fun z hz1 hz2 => ?c3) F' N'
  case c1 =>
    refine (if_neg (by decide)).trans ((if_pos rfl).trans ?_)
    rw [piece_len hxs (nn6 ha1' ha2'), Int.toNat_of_nonneg ha1']; rfl
  case c2 =>
    refine (if_pos rfl).trans ?_
    rw [piece_len hxs (nn6 hb1' hb2'), Int.toNat_of_nonneg hb1', hlast]; rfl
  case c3 => exact (if_neg hz2).trans ((if_neg hz1).trans (congrFun eK z))
end Mine

end
-- L15
section
open PySem PySem.W PySem.Spec PySem.Calls PyProof.Rows PyProof.Rows.LCg
set_option Elab.async false
set_option maxRecDepth 100000
set_option maxHeartbeats 1000000
namespace Mine

noncomputable abbrev rowB : List Stmt := forBodyX (stAt 9 fb25)
noncomputable def opn (r i : Nat) : Bool := Txt.item (rowF r) (i : Int) == Str.ofString "("
noncomputable def loI (st r i : Nat) : Int := (st : Int) + ((ends (rowF r) i).getD 0 0 - (i : Int)).fdiv 2 - 1
noncomputable def hiI (st r i : Nat) : Int := (st : Int) + ((ends (rowF r) i).getD ((ends (rowF r) i).length - 1) 0 - (i : Int)).fdiv 2 - 1
noncomputable def lowT (st r : Nat) : Nat → Str
  | 0 => Str.ofString ""
  | i + 1 => if opn r i = true then addS (lowT st r i) (loI st r i) else lowT st r i
noncomputable def highT (st r : Nat) : Nat → Str
  | 0 => Str.ofString ""
  | i + 1 => if opn r i = true then addS (highT st r i) (hiI st r i) else highT st r i
theorem opn_ok : ∀ st : Fin 4, ∀ r : Fin 5, ∀ i : Fin 6, opn r.1 i.1 = true → 0 < (ends (rowF r.1) i.1).length ∧ (ends (rowF r.1) i.1).length ≤ 6 ∧ 0 ≤ loI st.1 r.1 i.1 ∧ loI st.1 r.1 i.1 < 6 ∧ 0 ≤ hiI st.1 r.1 i.1 ∧ hiI st.1 r.1 i.1 < 6 := by decide +kernel
theorem low_len : ∀ st : Fin 4, ∀ r : Fin 5, ∀ i : Fin 7, (lowT st.1 r.1 i.1).length ≤ 40 ∧ (highT st.1 r.1 i.1).length ≤ 40 := by decide +kernel
/-- the test row[i] == '(' -/
theorem law_test (w : World) {mean : ExcName → Option Value} {mg mb : Str → Option Value} {h₀ : Heap} {L fa : Addr} {cd : Value} {s : Shared} {m : Str → Option Value} {rest : List (Addr × Obj)} {o3 o4 : Obj} {r i : Nat} {tr ti : Tok} {Q : Flow → Shared → Prop} {E : Value → Shared → Prop}
    (F : Fr h₀ L s.heap m) (X : (KL w.params).In h₀) (T : Top qv looseN mean mg mb h₀) (N : News h₀ L s.heap ((L + 3, o3) :: (L + 4, o4) :: rest)) (h3 : o3.data = .cell (some (.str (rowF r) tr))) (h4 : o4.data = .cell (some (.int i ti))) (hr : r < 5) (hi : i < 6)
    (hT : opn r i = true → ∀ tk' : Nat, wpAny (model prog w) (lawA L fa cd) (execs ifB (lawE L fa cd)) Q E { s with toks := tk' }) (hF : opn r i = false → ∀ tk' : Nat, Q .next { s with toks := tk' }) :
    PySem.Challenge.rw_uc0065_01 = PySem.Challenge.rw_uc0065_01 → KL = KL →
    wpAny (model prog w) (lawA L fa cd) (exec (stAt 0 (forBodyX (stAt 1 rowB))) (lawE L fa cd)) Q E s := by
  k_with_none
  k_with "execs cons" => (k_here; (with_reducible show wpAny _ _ _ _ _ (Shared.mk _ _ _ (_ + 1 + 1) _)); refine gentok ?_; intro _; (with_reducible refine wpAny_execs_cons ?_); try dsimp only)
  k_with "execs nil" => (k_here; (with_reducible show wpAny _ _ _ _ _ (Shared.mk _ _ _ (_ + 1 + 1) _)); refine gentok ?_; intro _; (with_reducible refine wpAny_execs_nil ?_); try dsimp only)
  k_fill
  intro hrow hKL; clear hrow hKL
  have B := below_caller h₀
  have hrl := rowF_len ⟨r, hr⟩
  dsimp only at hrl
  show wpAny _ _ (exec (.If _ ifB [] _) _) _ _ _
  generalize ifB = bv at hT ⊢
  k_steps
  · exact hT (by assumption) _
  · exact hF (by assumption) _
/-- one turn of the loop over a row's places -/
theorem law_iturn (w : World) {mean : ExcName → Option Value} {mg mb : Str → Option Value} {h₀ : Heap} {L fa : Addr} {cd : Value} {s : Shared} {m : Str → Option Value} {rest : List (Addr × Obj)} {o2 o3 o4 : Obj} {lp : Addr} {vs : List Value} {xs : List Str} {n st r i : Nat} {tr ti tst : Tok} {Q : Flow → Shared → Prop} {E : Value → Shared → Prop}
    (F : Fr h₀ L s.heap m) (X : (KL w.params).In h₀) (T : Top qv looseN mean mg mb h₀) (N : News h₀ L s.heap ((L + 3, o3) :: (L + 4, o4) :: (L + 2, o2) :: (lp, W.listOf vs.toArray n) :: rest)) (h2 : o2.data = .cell (some (.ref lp))) (h3 : o3.data = .cell (some (.str (rowF r) tr))) (h4 : o4.data = .cell (some (.int i ti))) (hvs : StrsAre vs xs) (hxs : xs.map (·.length) = List.range 6) (hr : r < 5) (hi : i < 6) (hs3 : st < 4)
    (hst : m (Str.ofString "start") = some (.int st tst)) (hlo : ∃ t, m (Str.ofString "low") = some (.str (lowT st r i) t)) (hhi : ∃ t, m (Str.ofString "high") = some (.str (highT st r i) t))
    (hQ : ∀ (h' : Heap) (tk' : Nat) (g' : Array GenState) (m' : Str → Option Value), (∃ t, m' (Str.ofString "low") = some (.str (lowT st r (i + 1)) t)) → (∃ t, m' (Str.ofString "high") = some (.str (highT st r (i + 1)) t)) → (∀ z, z ≠ Str.ofString "low" → z ≠ Str.ofString "high" → z ≠ Str.ofString "ends" → m' z = m z) →
      Fr h₀ L h' m' → News h₀ L h' ((L + 3, o3) :: (L + 4, o4) :: (L + 2, o2) :: (lp, W.listOf vs.toArray n) :: rest) → (AllBare s.gens → AllBare g') → Q .next { s with heap := h', toks := tk', gens := g' }) :
    wpAny (model prog w) (lawA L fa cd) (exec (stAt 0 (forBodyX (stAt 1 rowB))) (lawE L fa cd)) Q E s := by
  refine law_test w F X T N h3 h4 hr hi (fun ho tk => ?_) (fun ho tk => ?_) rfl rfl
  · obtain ⟨p1, p2, p3, p4, p5, p6⟩ := opn_ok ⟨st, hs3⟩ ⟨r, hr⟩ ⟨i, hi⟩ ho
    obtain ⟨q1, q2⟩ := low_len ⟨st, hs3⟩ ⟨r, hr⟩ ⟨i, by omega⟩
    obtain ⟨tlo, hlo⟩ := hlo
    obtain ⟨thi, hhi⟩ := hhi
    show wpAny _ _ (execs (stAt 0 ifB :: stAt 1 ifB :: stAt 2 ifB :: []) _) _ _ _
    refine wpAny_execs_cons ?_
    refine law_ends w (r := r) (i := i) (rest := (L + 2, o2) :: (lp, W.listOf vs.toArray n) :: rest) F X T N h3 h4 hr hi ?_ rfl rfl
    intro D h6 tk6 g6 ys hys F6 N6 hlow hg6
    refine law_lh w (D := D) (ys := ys) (es := ends (rowF r) i) (lo := lowT st r i) (hi := highT st r i) (rest := (L + 3, o3) :: rest) (n := n) F6 X T (cb_drop N6 ?_) h2 h4 hvs hxs hys p1 p2 ((if_neg (by decide)).trans hst) ((if_neg (by decide)).trans hlo) ((if_neg (by decide)).trans hhi) (if_pos rfl) q1 q2 p3 p4 p5 p6 ?_ rfl rfl
    · intro p hp; simp only [List.mem_cons] at hp; rcases hp with h | h | h | h | h | h <;> (first | ((try rw [h]); (repeat first | exact List.mem_cons_self .. | exact h | exact List.mem_append_left _ h | refine List.mem_append_right _ ?_ | refine List.mem_cons_of_mem _ ?_); done) | simp [h])
    · intro h7 tk7 m7 hl7 hh7 hm7 F7 N7
      refine wpAny_execs_nil ?_
      refine hQ h7 tk7 g6 m7 ?_ ?_ (fun z h1 h2 h3 => (hm7 z h1 h2).trans (if_neg h3)) F7 (cb_drop N7 ?_) hg6
      · rw [lowT, if_pos ho]; exact hl7
      · rw [highT, if_pos ho]; exact hh7
      · intro p hp; simp only [List.mem_cons] at hp; rcases hp with h | h | h | h | h <;> (first | ((try rw [h]); (repeat first | exact List.mem_cons_self .. | exact h | exact List.mem_append_left _ h | refine List.mem_append_right _ ?_ | refine List.mem_cons_of_mem _ ?_); done) | simp [h])
  · refine hQ s.heap tk s.gens m ?_ ?_ (fun z _ _ _ => rfl) F N id
    · rw [lowT, if_neg (ne_true_of_eq_false ho)]; exact hlo
    · rw [highT, if_neg (ne_true_of_eq_false ho)]; exact hhi
end Mine

end
-- L16
section
open PySem PySem.W PySem.Spec PySem.Calls PyProof.Rows PyProof.Rows.LCg
set_option Elab.async false
set_option maxRecDepth 100000
set_option maxHeartbeats 1000000
namespace Mine

/-- the loop over a row's places -/
theorem law_fori (w : World) {mean : ExcName → Option Value} {mg mb : Str → Option Value} {h₀ : Heap} {L fa : Addr} {cd : Value} {s : Shared} {m : Str → Option Value} {rest : List (Addr × Obj)} {o2 o3 o4 : Obj} {v4 : Option Value} {lp : Addr} {vs : List Value} {xs : List Str} {n st r : Nat} {tr tst : Tok} {Q : Flow → Shared → Prop} {E : Value → Shared → Prop}
    (F : Fr h₀ L s.heap m) (X : (KL w.params).In h₀) (T : Top qv looseN mean mg mb h₀) (N : News h₀ L s.heap ((L + 4, o4) :: (L + 3, o3) :: (L + 2, o2) :: (lp, W.listOf vs.toArray n) :: rest)) (h2 : o2.data = .cell (some (.ref lp))) (h3 : o3.data = .cell (some (.str (rowF r) tr))) (h4 : o4.data = .cell v4) (hvs : StrsAre vs xs) (hxs : xs.map (·.length) = List.range 6) (hr : r < 5) (hs3 : st < 4)
    (hne : ∀ p ∈ (L + 3, o3) :: (L + 2, o2) :: (lp, W.listOf vs.toArray n) :: rest, p.1 ≠ L + 4)
    (hst : m (Str.ofString "start") = some (.int st tst)) (hlo : ∃ t, m (Str.ofString "low") = some (.str (Str.ofString "") t)) (hhi : ∃ t, m (Str.ofString "high") = some (.str (Str.ofString "") t))
    (hQ : ∀ (h' : Heap) (tk' : Nat) (g' : Array GenState) (m' : Str → Option Value) (o4' : Obj) (v4' : Option Value), (∃ t, m' (Str.ofString "low") = some (.str (lowT st r 6) t)) → (∃ t, m' (Str.ofString "high") = some (.str (highT st r 6) t)) → (∀ z, z ≠ Str.ofString "low" → z ≠ Str.ofString "high" → z ≠ Str.ofString "ends" → m' z = m z) →
      Fr h₀ L h' m' → News h₀ L h' ((L + 4, o4') :: (L + 3, o3) :: (L + 2, o2) :: (lp, W.listOf vs.toArray n) :: rest) → o4'.data = .cell v4' → (AllBare s.gens → AllBare g') → Q .next { s with heap := h', toks := tk', gens := g' }) :
    PySem.Challenge.rw_uc0065_01 = PySem.Challenge.rw_uc0065_01 → KL = KL →
    wpAny (model prog w) (lawA L fa cd) (exec (stAt 1 rowB) (lawE L fa cd)) Q E s := by
  k_with_none
  k_with "execs cons" => (k_here; (with_reducible show wpAny _ _ _ _ _ (Shared.mk _ _ _ (_ + 1 + 1) _)); refine gentok ?_; intro _; (with_reducible refine wpAny_execs_cons ?_); try dsimp only)
  k_with "execs nil" => (k_here; (with_reducible show wpAny _ _ _ _ _ (Shared.mk _ _ _ (_ + 1 + 1) _)); refine gentok ?_; intro _; (with_reducible refine wpAny_execs_nil ?_); try dsimp only)
  k_fill
  intro hrow hKL; clear hrow hKL
  have B := below_caller h₀
  have hrl := rowF_len ⟨r, hr⟩
  dsimp only at hrl
  show wpAny _ _ (exec (.For _ _ _ [] _) _) _ _ _
  refine wpAny_For ?_ (fun _ => rfl)
  k_steps
  rename_i h9 tk9 t9 u9 v9 R9 F9 N9 k9
  dsimp only at R9 F9 N9 ⊢
  rw [hrl] at R9
  have hsize : ∀ p ∈ (L + 4, o4) :: (L + 3, o3) :: (L + 2, o2) :: (lp, W.listOf vs.toArray n) :: rest, p.1 < h9.objs.size := fun p hp => Heap.lt_size (N9 p hp).1
  refine for_range rfl R9 (n := 6) (by decide) (by decide) F9 N9
    (fun i m2 nx g => (AllBare s.gens → AllBare g) ∧ (∃ t, m2 (Str.ofString "low") = some (.str (lowT st r i) t)) ∧ (∃ t, m2 (Str.ofString "high") = some (.str (highT st r i) t)) ∧ (∀ z, z ≠ Str.ofString "low" → z ≠ Str.ofString "high" → z ≠ Str.ofString "ends" → m2 z = m z) ∧
      ∃ (o : Obj) (v : Option Value), nx = (L + 4, o) :: (L + 3, o3) :: (L + 2, o2) :: (lp, W.listOf vs.toArray n) :: rest ∧ o.data = .cell v) ?_ ⟨id, hlo, hhi, fun _ _ _ _ => rfl, o4, v4, rfl, h4⟩ ?_ ?_
  · rintro i m2 nx g ⟨_, _, _, _, o, v, rfl, _⟩ p hp
    rcases List.mem_cons.mp hp with rfl | hp
    · exact Nat.ne_of_lt (show L + 4 < _ from hsize (L + 4, o4) (List.mem_cons_self ..))
    · exact Nat.ne_of_lt (hsize p (List.mem_cons_of_mem _ hp))
  · rintro i t m2 nx gl h tk g E' hi ⟨hg, hl, hh, hm, o, v, rfl, ho⟩ F8 N8 hgl
    have hcast : (0 : Int) + (i : Int) * 1 = (i : Int) := by omega
    rw [hcast]
    have hI4 : h9.objs.size ≠ L + 4 := Nat.ne_of_gt (hsize (L + 4, o4) (List.mem_cons_self ..))
    refine wpAny_assign_Name (store_cell (c := L + 4) (rest := ((L + 3, o3) :: (L + 2, o2) :: (lp, W.listOf vs.toArray n) :: rest) ++ gl) F8 N8 ho ?_ rfl rfl rfl fun h7 o7 F7 N7 ho7 => ?_)
    · intro p hp
      rcases List.mem_append.mp hp with hp | hp
      · exact hne p hp
      · rw [hgl p hp]; exact hI4
    · show wpAny _ _ (execs (stAt 0 (forBodyX (stAt 1 rowB)) :: []) _) _ _ _
      refine wpAny_execs_cons ?_
      refine law_iturn w (n := n) (i := i) (rest := rest ++ gl) F7 X T (cb_drop N7 ?_) h2 h3 ho7 hvs hxs hr hi hs3 ((hm _ (by decide) (by decide) (by decide)).trans hst) hl hh ?_
      · intro p hp; simp only [List.mem_cons, List.mem_append, List.cons_append] at hp; rcases hp with h | h | h | h | h | h <;> (first | ((try rw [h]); (repeat first | exact List.mem_cons_self .. | exact h | exact List.mem_append_left _ h | refine List.mem_append_right _ ?_ | refine List.mem_cons_of_mem _ ?_); done) | simp [h])
      · intro h6 tk6 g6 m6 hl6 hh6 hm6 F6 N6 hg6
        refine wpAny_execs_nil ?_
        refine fun Go k => k h6 tk6 g6 m6 _ F6 (cb_drop N6 ?_) ⟨fun x => hg6 (hg x), hl6, hh6, fun z a b c => (hm6 z a b c).trans (hm z a b c), o7, _, rfl, ho7⟩
        intro p hp; simp only [List.mem_cons, List.mem_append, List.cons_append] at hp; rcases hp with h | h | h | h | h | h <;> (first | ((try rw [h]); (repeat first | exact List.mem_cons_self .. | exact h | exact List.mem_append_left _ h | refine List.mem_append_right _ ?_ | refine List.mem_cons_of_mem _ ?_); done) | simp [h])
  · rintro h tk g m2 nx ⟨hg, hl, hh, hm, o, v, rfl, ho⟩ F8 N8
    exact hQ h tk g m2 o v hl hh hm F8 N8 ho hg
end Mine

end
-- L17
section
open PySem PySem.W PySem.Spec PySem.Calls PyProof.Rows PyProof.Rows.LCg
set_option Elab.async false
set_option maxRecDepth 100000
set_option maxHeartbeats 1000000
namespace Mine
noncomputable def kTab : Str := Str.ofString "k \t"
theorem law_r2 (w : World) {mean : ExcName → Option Value} {mg mb : Str → Option Value} {h₀ : Heap} {L fa : Addr} {cd : Value} {s : Shared} {m : Str → Option Value} {nx : List (Addr × Obj)} {lo hi : Str} {tlo thi : Tok} {Q : Flow → Shared → Prop} {E : Value → Shared → Prop}
    (F : Fr h₀ L s.heap m) (X : (KL w.params).In h₀) (T : Top qv looseN mean mg mb h₀) (N : News h₀ L s.heap nx) (hlo : m (Str.ofString "low") = some (.str lo tlo)) (hhi : m (Str.ofString "high") = some (.str hi thi)) (hll : lo.length ≤ 40) (hhl : hi.length ≤ 40)
    (hQ : ∀ (h' : Heap) (tk' : Nat) (m' : Str → Option Value) (Y1 Y2 : Addr) (W : CbLed), WsAt w.params W Y1 (lo ++ kTab) → WsAt w.params W Y2 (hi ++ kTab) → (∀ q ∈ W, ∀ p ∈ nx, p.1 < q.1) → m' (Str.ofString "near") = some (.ref Y1) → m' (Str.ofString "far_off") = some (.ref Y2) → (∀ z, z ≠ Str.ofString "near" → z ≠ Str.ofString "far_off" → m' z = m z) →
      Fr h₀ L h' m' → News h₀ L h' (W ++ nx) → Q .next { s with heap := h', toks := tk' }) :
    PySem.Challenge.rw_uc0065_01 = PySem.Challenge.rw_uc0065_01 → KL = KL →
    wpAny (model prog w) (lawA L fa cd) (exec (stAt 2 rowB) (lawE L fa cd)) Q E s := by
  k_with_none
  k_with "eval BinOp" => (k_here; (first | (with_reducible show wpAny _ _ (eval (PySem.Expr.BinOp (PySem.Expr.Name _ _) _ _ _) _) _ _ _) | (with_reducible show wpAny _ _ (eval (PySem.Expr.BinOp (PySem.Expr.Constant _ _ _) _ _ _) _) _ _ _) | (with_reducible show wpAny _ _ (eval (PySem.Expr.BinOp (PySem.Expr.BinOp (PySem.Expr.Name _ _) _ _ _) _ _ _) _) _ _ _)); (first | (with_reducible show wpAny _ _ (eval (PySem.Expr.BinOp _ _ (PySem.Expr.Name _ _) _) _) _ _ _) | (with_reducible show wpAny _ _ (eval (PySem.Expr.BinOp _ _ (PySem.Expr.Constant _ _ _) _) _) _ _ _)); k_dflt (first | (refine' valS ?svF ?svk ?svS ?_; (case svF => k_asm); (case svk => rfl); (case svS => walk_at "SV"); k_whole) | (refine' binS ?svF ?svk ?svS ?svU ?_; (case svF => k_asm); (case svk => rfl); (case svS => walk_at "SV"); (case svU => walk_at "SV"); k_whole)))
  k_with "execs cons" => (k_here; (with_reducible show wpAny _ _ _ _ _ (Shared.mk _ _ _ (_ + 1 + 1) _)); refine gentok ?_; intro _; (with_reducible refine wpAny_execs_cons ?_); try dsimp only)
  k_with "execs nil" => (k_here; (with_reducible show wpAny _ _ _ _ _ (Shared.mk _ _ _ (_ + 1 + 1) _)); refine gentok ?_; intro _; (with_reducible refine wpAny_execs_nil ?_); try dsimp only)
  k_with "call ref" => (k_here; (with_reducible show wpAny _ _ (call (Value.ref 210) _) _ _ _); k_dflt (refine' useWs ?k1 ?k2 ?k3 ?k4 ?k5 ?kK ?kp ?kd ?ku ?_); (case k1 => k_asm); (case k2 => k_asm); (case k3 => k_asm); (case k4 => k_asm); (case k5 => k_asm); (case kK => exact rfl); (case kp => first | assumption | lia); (case kd => ktr_room); (case ku => ktr_units); (intro _ _ _ _ _ _ _ _); (try dsimp only); (try k_fold))
  k_with "call ref" => (k_here; (with_reducible show wpAny _ _ (call (Value.ref 42) _) _ _ _); k_dflt (refine' useChk ?k1 ?k2 ?k3 ?k4 ?k5 ?kK ?kp ?kd ?ku ?_); (case k1 => k_asm); (case k2 => k_asm); (case k3 => k_asm); (case k4 => k_asm); (case k5 => k_asm); (case kK => exact rfl); (case kp => first | assumption | lia); (case kd => ktr_room); (case ku => ktr_units); (intro _ _ _ _ _ _); (try dsimp only); (try k_fold))
  k_fill
  intro hrow hKL; clear hrow hKL
  have B := below_caller h₀
  have eK := know_cons (x := Str.ofString "high") (v := .str hi thi) (know_eq hlo) hhi
  replace F := Mine.Fr.know F hlo
  replace F := Mine.Fr.know F (x := Str.ofString "high") (v := .str hi thi) (by rw [if_neg (by decide)]; exact hhi)
  have hk1 : (lo ++ Str.ofString "k \t").length ≤ 100 := by
    rw [slen_append]
    have : (Str.ofString "k \t").length = 3 := by decide
    lia
  have hk2 : (hi ++ Str.ofString "k \t").length ≤ 100 := by
    rw [slen_append]
    have : (Str.ofString "k \t").length = 3 := by decide
    lia
  show wpAny _ _ (exec (.Assign [.Tuple [_, _] _ _] (.Tuple _ _ _) _) _) _ _ _
  k_steps
  rename_i Y1 W1 h1 tk1 hws1 hW1 qk1 ek1 t1 k1 a1 Y2 W2 h2 tk2 hws2 hW2 D9 h3 l1 g2 g1 h4 F4 N4
  refine hQ h4 _ _ Y1 Y2 (W2 ++ W1) (hws1.mono ?_) (hws2.mono ?_) ?_ (if_pos rfl) ((if_neg (by decide)).trans (if_pos rfl)) (fun z hz1 hz2 => (if_neg hz1).trans ((if_neg hz2).trans (congrFun eK z))) F4 (cb_drop N4 ?_)
  · intro p hp; exact List.mem_append_right _ hp
  · intro p hp; exact List.mem_append_left _ hp
  · intro q hq p hp
    rcases List.mem_append.mp hq with h | h
    · exact hW2 q h p (List.mem_append_right _ hp)
    · exact hW1 q h p hp
  · intro p hp
    simp only [List.mem_append] at hp
    simp only [List.mem_cons, List.mem_append]
    rcases hp with (h | h) | h <;> simp [h]
end Mine

end
-- L18
section
open PySem PySem.W PySem.Spec PySem.Calls PyProof.Rows PyProof.Rows.LCg
set_option Elab.async false
set_option maxRecDepth 100000
set_option maxHeartbeats 1000000
namespace Mine

theorem law_r3 (w : World) {mean : ExcName → Option Value} {mg mb : Str → Option Value} {h₀ : Heap} {L fa : Addr} {cd : Value} {s : Shared} {m : Str → Option Value} {nx : List (Addr × Obj)} {o3 : Obj} {row x1 x2 x3 : Str} {tr : Tok} {Y1 Y2 Y3 : Addr} {Q : Flow → Shared → Prop} {E : Value → Shared → Prop}
    (F : Fr h₀ L s.heap m) (X : (KL w.params).In h₀) (T : Top qv looseN mean mg mb h₀) (N : News h₀ L s.heap ((L + 3, o3) :: nx)) (h3 : o3.data = .cell (some (.str row tr))) (w1 : WsAt w.params nx Y1 x1) (w2 : WsAt w.params nx Y2 x2) (w3 : WsAt w.params nx Y3 x3)
    (hn : m (Str.ofString "near") = some (.ref Y1)) (hf : m (Str.ofString "far_off") = some (.ref Y2)) (hl : m (Str.ofString "level") = some (.ref Y3))
    (he1 : decide (wC x1 = wC x2 ∧ wB x1 = wB x2) = (row == Str.ofString "((()))")) (he2 : decide (wC x2 = wC x3 ∧ wB x2 = wB x3) = false)
    (hQ : ∀ (h' : Heap) (tk' : Nat), Fr h₀ L h' m → News h₀ L h' ((L + 3, o3) :: nx) → Q .next { s with heap := h', toks := tk' }) :
    PySem.Challenge.rw_uc0065_01 = PySem.Challenge.rw_uc0065_01 → KL = KL →
    wpAny (model prog w) (lawA L fa cd) (exec (stAt 3 rowB) (lawE L fa cd)) Q E s := by
  k_with_none
  k_with "spliced" => (k_here; (first | (with_reducible show wpAny _ _ (spliced (backTo _ (starEach ((PySem.Expr.Name _ _) :: _) _))) _ _ _) | (with_reducible show wpAny _ _ (spliced (backTo _ (starEach ((PySem.Expr.Constant _ _ _) :: _) _))) _ _ _) | (with_reducible show wpAny _ _ (spliced (backTo _ (starEach ((PySem.Expr.BinOp (PySem.Expr.Name _ _) _ _ _) :: _) _))) _ _ _)); k_dflt (refine' itemsS ?svF ?svk ?svS ?_; (case svF => k_asm); (case svk => rfl); (case svS => walk_at "SV"); k_whole))
  k_with "execs cons" => (k_here; (with_reducible show wpAny _ _ _ _ _ (Shared.mk _ _ _ (_ + 1 + 1) _)); refine gentok ?_; intro _; (with_reducible refine wpAny_execs_cons ?_); try dsimp only)
  k_with "execs nil" => (k_here; (with_reducible show wpAny _ _ _ _ _ (Shared.mk _ _ _ (_ + 1 + 1) _)); refine gentok ?_; intro _; (with_reducible refine wpAny_execs_nil ?_); try dsimp only)
  k_with "call ref" => (k_here; (with_reducible show wpAny _ _ (call (Value.ref 186) _) _ _ _); k_dflt (refine' useEq ?k1 ?k2 ?k3 ?k4 ?k5 ?kK ?kw1 ?kw2 ?kd ?ku ?_); (case k1 => k_asm); (case k2 => k_asm); (case k3 => k_asm); (case k4 => k_asm); (case k5 => k_asm); (case kK => exact rfl); (case kw1 => exact WsAt.mono (by assumption) (by intro p hp; simp [hp])); (case kw2 => exact WsAt.mono (by assumption) (by intro _ hp; simp [hp])); (case kd => ktr_room); (case ku => ktr_units); (intro _ _ _ _); (try dsimp only); (try k_fold))
  k_fill
  intro hrow hKL; clear hrow hKL
  have B := below_caller h₀
  have eK := know_cons (x := Str.ofString "level") (v := .ref Y3) (know_cons (x := Str.ofString "far_off") (v := .ref Y2) (know_eq hn) hf) hl
  replace F := Mine.Fr.know F hn
  replace F := Mine.Fr.know F (x := Str.ofString "far_off") (v := .ref Y2) (by rw [if_neg (by decide)]; exact hf)
  replace F := Mine.Fr.know F (x := Str.ofString "level") (v := .ref Y3) (by rw [if_neg (by decide), if_neg (by decide)]; exact hl)
  refine w1 _ ?_
  intro k1 us1 Dd1 Nn1 Tt1 t11 t12 t13 t14 t15 tb1 tn1 tnt1 cnt1 _ _ _ _ _ _ in1
  refine w2 _ ?_
  intro k2 us2 Dd2 Nn2 Tt2 t21 t22 t23 t24 t25 tb2 tn2 tnt2 cnt2 _ _ _ _ _ _ in2
  replace N := cb_drop (news := wsLed w.params x1 k1 (wB x1) (wN x1) (wT x1) (wS x1) us1 Y1 Dd1 Nn1 Tt1 t11 t12 t13 t14 t15 tb1 tn1 tnt1 cnt1 ++ (wsLed w.params x2 k2 (wB x2) (wN x2) (wT x2) (wS x2) us2 Y2 Dd2 Nn2 Tt2 t21 t22 t23 t24 t25 tb2 tn2 tnt2 cnt2 ++ ((L + 3, o3) :: nx))) N (by
    intro p hp
    rcases List.mem_append.mp hp with h | h
    · exact List.mem_cons_of_mem _ (in1 p h)
    · rcases List.mem_append.mp h with h | h
      · exact List.mem_cons_of_mem _ (in2 p h)
      · exact h)
  simp only [wsLed, List.cons_append, List.nil_append] at N
  clear in1 in2
  show wpAny _ _ (exec (.If _ [.Return _ _] [] _) _) _ _ _
  k_steps
  · exact absurd he1 (by have h := ‹(decide (wC x1 = wC x2 ∧ wB x1 = wB x2) != (row == Str.ofString "((()))")) = true›; intro e; rw [e] at h; simp at h)
  · exact absurd he2 (by have h := ‹(decide (wC x2 = wC x3 ∧ wB x2 = wB x3) != false) = true›; intro e; rw [e] at h; simp at h)
  · refine' hQ _ _ ?F ?N
    case F => rw [← eK]; assumption
    case N => exact cb_drop (by assumption) (by intro p hp; simp only [List.mem_cons] at hp ⊢; rcases hp with h | h <;> simp [h])
end Mine

end
-- L19
section
open PySem PySem.W PySem.Spec PySem.Calls PyProof.Rows PyProof.Rows.LCg
set_option Elab.async false
set_option maxRecDepth 100000
set_option maxHeartbeats 1000000
namespace Mine
theorem law_r4 (w : World) {mean : ExcName → Option Value} {mg mb : Str → Option Value} {h₀ : Heap} {L fa : Addr} {cd : Value} {s : Shared} {m : Str → Option Value} {nx : List (Addr × Obj)} {o3 : Obj} {row : Str} {tr : Tok} {Q : Flow → Shared → Prop} {E : Value → Shared → Prop}
    (F : Fr h₀ L s.heap m) (X : (KL w.params).In h₀) (T : Top qv looseN mean mg mb h₀) (N : News h₀ L s.heap ((L + 3, o3) :: nx)) (h3 : o3.data = .cell (some (.str row tr))) (hrl : row.length = 6) (hc : chk (Txt.slice row none (some (-1))) = false)
    (hQ : ∀ (h' : Heap) (tk' : Nat) (g' : Array GenState), Fr h₀ L h' m → News h₀ L h' ((L + 3, o3) :: nx) → (AllBare s.gens → AllBare g') → Q .next { s with heap := h', toks := tk', gens := g' }) :
    PySem.Challenge.rw_uc0065_01 = PySem.Challenge.rw_uc0065_01 → KL = KL →
    wpAny (model prog w) (lawA L fa cd) (exec (stAt 4 rowB) (lawE L fa cd)) Q E s := by
  k_with_none
  k_with "spliced" => (k_here; (first | (with_reducible show wpAny _ _ (spliced (backTo _ (starEach ((PySem.Expr.Name _ _) :: _) _))) _ _ _) | (with_reducible show wpAny _ _ (spliced (backTo _ (starEach ((PySem.Expr.Constant _ _ _) :: _) _))) _ _ _) | (with_reducible show wpAny _ _ (spliced (backTo _ (starEach ((PySem.Expr.BinOp (PySem.Expr.Name _ _) _ _ _) :: _) _))) _ _ _)); k_dflt (refine' itemsS ?svF ?svk ?svS ?_; (case svF => k_asm); (case svk => rfl); (case svS => walk_at "SV"); k_whole))
  k_with "execs cons" => (k_here; (with_reducible show wpAny _ _ _ _ _ (Shared.mk _ _ _ (_ + 1 + 1) _)); refine gentok ?_; intro _; (with_reducible refine wpAny_execs_cons ?_); try dsimp only)
  k_with "execs nil" => (k_here; (with_reducible show wpAny _ _ _ _ _ (Shared.mk _ _ _ (_ + 1 + 1) _)); refine gentok ?_; intro _; (with_reducible refine wpAny_execs_nil ?_); try dsimp only)
  k_with "call ref" => (k_here; (with_reducible show wpAny _ _ (call (Value.ref 42) _) _ _ _); k_dflt (refine' useChk ?k1 ?k2 ?k3 ?k4 ?k5 ?kK ?kp ?kd ?ku ?_); (case k1 => k_asm); (case k2 => k_asm); (case k3 => k_asm); (case k4 => k_asm); (case k5 => k_asm); (case kK => exact rfl); (case kp => first | assumption | omega); (case kd => ktr_room); (case ku => ktr_units); (intro _ _ _ _ _ _); (try dsimp only); (try k_fold))
  k_with "call ref" => (k_here; (with_reducible show wpAny _ _ (call (Value.ref 256) _) _ _ _); k_dflt (refine' useWeight ?k1 ?k2 ?k3 ?k4 ?k5 ?kK ?kw1 ?kb ?kp ?kd ?ku ?_); (case k1 => k_asm); (case k2 => k_asm); (case k3 => k_asm); (case k4 => k_asm); (case k5 => k_asm); (case kK => exact rfl); (case kw1 => assumption); (case kb => assumption); (case kp => assumption); (case kd => ktr_room); (case ku => ktr_units); (intro _ _ _ _ _); (try dsimp only); (try k_fold))
  k_fill
  intro hrow hKL; clear hrow hKL
  have B := below_caller h₀
  show wpAny _ _ (exec (.If _ [.Return _ _] [] _) _) _ _ _
  k_steps
  · exact absurd hc (by have h := ‹(chk (Txt.slice row none (some (-1))) != false) = true›; intro e; rw [e] at h; simp at h)
  · exact hQ _ _ _ (by assumption) (by assumption) (by assumption)
theorem law_r5 (w : World) {mean : ExcName → Option Value} {mg mb : Str → Option Value} {h₀ : Heap} {L fa : Addr} {cd : Value} {s : Shared} {m : Str → Option Value} {nx : List (Addr × Obj)} {x1 : Str} {Y1 : Addr} {ls st u v : Int} {t1 t2 t3 t4 : Tok} {Q : Flow → Shared → Prop} {E : Value → Shared → Prop}
    (F : Fr h₀ L s.heap m) (X : (KL w.params).In h₀) (T : Top qv looseN mean mg mb h₀) (N : News h₀ L s.heap nx) (w1 : WsAt w.params nx Y1 x1) (hb1 : ∀ n ∈ wC x1, 0 ≤ n ∧ n ≤ 3) (hp : 0 ≤ st ∧ st ≤ 3 ∧ wT x1 ≤ 3 ∧ (wC x1).length ≤ 10 ∧ (bl u : Int) ≤ 1100000 ∧ (bl v : Int) ≤ 1100000 ∧ wHook x1 st ≠ 0)
    (hn : m (Str.ofString "near") = some (.ref Y1)) (hs : m (Str.ofString "start") = some (.int st t1)) (hx : m (Str.ofString "x") = some (.int u t2)) (hy : m (Str.ofString "y") = some (.int v t3)) (hls : m (Str.ofString "low_sum") = some (.int ls t4))
    (hQ : ∀ (h' : Heap) (tk' : Nat) (t : Tok), Fr h₀ L h' (fun y => if y = Str.ofString "low_sum" then some (.int (ls + wVal x1 st u v) t) else m y) → News h₀ L h' nx → Q .next { s with heap := h', toks := tk' }) :
    PySem.Challenge.rw_uc0065_01 = PySem.Challenge.rw_uc0065_01 → KL = KL →
    wpAny (model prog w) (lawA L fa cd) (exec (stAt 5 rowB) (lawE L fa cd)) Q E s := by
  k_fill
  intro hrow hKL; clear hrow hKL
  have B := below_caller h₀
  have eK := know_cons (x := Str.ofString "low_sum") (v := .int ls t4) (know_cons (x := Str.ofString "y") (v := .int v t3) (know_cons (x := Str.ofString "x") (v := .int u t2) (know_cons (x := Str.ofString "start") (v := .int st t1) (know_eq hn) hs) hx) hy) hls
  rw [← eK] at F
  show wpAny _ _ (exec (.Assign [.Name _ _] _ _) _) _ _ _
  k_steps
  rename_i F' N'
  exact hQ _ _ _ (Mine.Fr.under F' eK) N'
theorem law_r6 (w : World) {mean : ExcName → Option Value} {mg mb : Str → Option Value} {h₀ : Heap} {L fa : Addr} {cd : Value} {s : Shared} {m : Str → Option Value} {nx : List (Addr × Obj)} {x1 : Str} {Y1 : Addr} {ls st u v : Int} {t1 t2 t3 t4 : Tok} {Q : Flow → Shared → Prop} {E : Value → Shared → Prop}
    (F : Fr h₀ L s.heap m) (X : (KL w.params).In h₀) (T : Top qv looseN mean mg mb h₀) (N : News h₀ L s.heap nx) (w1 : WsAt w.params nx Y1 x1) (hb1 : ∀ n ∈ wC x1, 0 ≤ n ∧ n ≤ 3) (hp : 0 ≤ st ∧ st ≤ 3 ∧ wT x1 ≤ 3 ∧ (wC x1).length ≤ 10 ∧ (bl u : Int) ≤ 1100000 ∧ (bl v : Int) ≤ 1100000 ∧ wHook x1 st ≠ 0)
    (hn : m (Str.ofString "far_off") = some (.ref Y1)) (hs : m (Str.ofString "start") = some (.int st t1)) (hx : m (Str.ofString "x") = some (.int u t2)) (hy : m (Str.ofString "y") = some (.int v t3)) (hls : m (Str.ofString "high_sum") = some (.int ls t4))
    (hQ : ∀ (h' : Heap) (tk' : Nat) (t : Tok), Fr h₀ L h' (fun y => if y = Str.ofString "high_sum" then some (.int (ls + wVal x1 st u v) t) else m y) → News h₀ L h' nx → Q .next { s with heap := h', toks := tk' }) :
    PySem.Challenge.rw_uc0065_01 = PySem.Challenge.rw_uc0065_01 → KL = KL →
    wpAny (model prog w) (lawA L fa cd) (exec (stAt 6 rowB) (lawE L fa cd)) Q E s := by
  k_fill
  intro hrow hKL; clear hrow hKL
  have B := below_caller h₀
  have eK := know_cons (x := Str.ofString "high_sum") (v := .int ls t4) (know_cons (x := Str.ofString "y") (v := .int v t3) (know_cons (x := Str.ofString "x") (v := .int u t2) (know_cons (x := Str.ofString "start") (v := .int st t1) (know_eq hn) hs) hx) hy) hls
  rw [← eK] at F
  show wpAny _ _ (exec (.Assign [.Name _ _] _ _) _) _ _ _
  k_steps
  rename_i F' N'
  exact hQ _ _ _ (Mine.Fr.under F' eK) N'
theorem law_r7 (w : World) {mean : ExcName → Option Value} {mg mb : Str → Option Value} {h₀ : Heap} {L fa : Addr} {cd : Value} {s : Shared} {m : Str → Option Value} {nx : List (Addr × Obj)} {lo hi : Str} {t1 t2 : Tok} {ll Y1 Y2 : Addr} {vl : List Value} {nl : Nat} {Q : Flow → Shared → Prop} {E : Value → Shared → Prop}
    (F : Fr h₀ L s.heap m) (X : (KL w.params).In h₀) (T : Top qv looseN mean mg mb h₀) (N : News h₀ L s.heap ((ll, W.listOf vl.toArray nl) :: nx)) (hne : ∀ p ∈ nx, p.1 ≠ ll) (hvl : vl.toArray.size ≤ sizeLine)
    (hn : m (Str.ofString "near") = some (.ref Y1)) (hf : m (Str.ofString "far_off") = some (.ref Y2)) (hlo : m (Str.ofString "low") = some (.str lo t1)) (hhi : m (Str.ofString "high") = some (.str hi t2)) (hl : m (Str.ofString "leads") = some (.ref ll))
    (hQ : ∀ (h' : Heap) (tk' : Nat) (D : Addr) (n' : Nat), Fr h₀ L h' m → News h₀ L h' ((ll, W.listOf (vl ++ [Value.ref D]).toArray n') :: (D, W.listOf #[.str lo t1, .str hi t2, .ref Y1, .ref Y2] 0) :: nx) → (∀ p ∈ (ll, W.listOf vl.toArray nl) :: nx, p.1 < D) → Q .next { s with heap := h', toks := tk' }) :
    PySem.Challenge.rw_uc0065_01 = PySem.Challenge.rw_uc0065_01 → KL = KL →
    wpAny (model prog w) (lawA L fa cd) (exec (stAt 7 rowB) (lawE L fa cd)) Q E s := by
  k_fill
  intro hrow hKL; clear hrow hKL
  have B := below_caller h₀
  have eK := know_cons (x := Str.ofString "leads") (v := .ref ll) (know_cons (x := Str.ofString "high") (v := .str hi t2) (know_cons (x := Str.ofString "low") (v := .str lo t1) (know_cons (x := Str.ofString "far_off") (v := .ref Y2) (know_eq hn) hf) hlo) hhi) hl
  rw [← eK] at F
  show wpAny _ _ (exec (.Expr _ _) _) _ _ _
  k_steps
  rename_i D h9 F9 N9 lt9
  have hlt : ll < D ∧ AllLt D nx := lt9
  refine' append_head (D := ll) (its := vl.toArray) (n := nl) (rest := (D, W.listOf #[.str lo t1, .str hi t2, .ref Y1, .ref Y2] 0) :: nx) F9 (cb_drop N9 ?aN) ?aH ?_ hvl
  case aN => intro p hp; simp only [List.mem_cons] at hp; rcases hp with h | h | h <;> (first | ((try rw [h]); (repeat first | exact List.mem_cons_self .. | exact h | exact List.mem_append_left _ h | refine List.mem_append_right _ ?_ | refine List.mem_cons_of_mem _ ?_); done) | simp [h])
  case aH =>
    intro p hp
    rcases List.mem_cons.mp hp with rfl | hp
    · exact Nat.ne_of_gt hlt.1
    · exact hne p hp
  intro h11 F11 N11
  rw [eK] at F11
  refine hQ h11 _ D _ F11 (by rw [← List.push_toArray]; exact N11) fun p hp => ?_
  rcases List.mem_cons.mp hp with rfl | hp
  · exact hlt.1
  · exact allLt_all _ hlt.2 p hp
end Mine

end
-- L20
section
open PySem PySem.W PySem.Spec PySem.Calls PyProof.Rows PyProof.Rows.LCg
set_option Elab.async false
set_option maxRecDepth 100000
set_option maxHeartbeats 1000000
namespace Mine

theorem law_r0 (w : World) {mean : ExcName → Option Value} {mg mb : Str → Option Value} {h₀ : Heap} {L fa : Addr} {cd : Value} {s : Shared} {m : Str → Option Value} {nx : List (Addr × Obj)} {Q : Flow → Shared → Prop} {E : Value → Shared → Prop}
    (F : Fr h₀ L s.heap m) (X : (KL w.params).In h₀) (T : Top qv looseN mean mg mb h₀) (N : News h₀ L s.heap nx)
    (hQ : ∀ (h' : Heap) (tk' : Nat) (m' : Str → Option Value), (∃ t, m' (Str.ofString "low") = some (.str (Str.ofString "") t)) → (∃ t, m' (Str.ofString "high") = some (.str (Str.ofString "") t)) → (∀ z, z ≠ Str.ofString "low" → z ≠ Str.ofString "high" → m' z = m z) → Fr h₀ L h' m' → News h₀ L h' nx → Q .next { s with heap := h', toks := tk' }) :
    PySem.Challenge.rw_uc0065_01 = PySem.Challenge.rw_uc0065_01 → KL = KL →
    wpAny (model prog w) (lawA L fa cd) (exec (stAt 0 rowB) (lawE L fa cd)) Q E s := by
  k_with_none
  k_with "spliced" => (k_here; (first | (with_reducible show wpAny _ _ (spliced (backTo _ (starEach ((PySem.Expr.Name _ _) :: _) _))) _ _ _) | (with_reducible show wpAny _ _ (spliced (backTo _ (starEach ((PySem.Expr.Constant _ _ _) :: _) _))) _ _ _) | (with_reducible show wpAny _ _ (spliced (backTo _ (starEach ((PySem.Expr.BinOp (PySem.Expr.Name _ _) _ _ _) :: _) _))) _ _ _)); k_dflt (refine' itemsS ?svF ?svk ?svS ?_; (case svF => k_asm); (case svk => rfl); (case svS => walk_at "SV"); k_whole))
  k_with "execs cons" => (k_here; (with_reducible show wpAny _ _ _ _ _ (Shared.mk _ _ _ (_ + 1 + 1) _)); refine gentok ?_; intro _; (with_reducible refine wpAny_execs_cons ?_); try dsimp only)
  k_with "execs nil" => (k_here; (with_reducible show wpAny _ _ _ _ _ (Shared.mk _ _ _ (_ + 1 + 1) _)); refine gentok ?_; intro _; (with_reducible refine wpAny_execs_nil ?_); try dsimp only)
  k_fill
  intro hrow hKL; clear hrow hKL
  have B := below_caller h₀
  show wpAny _ _ (exec (.Assign [.Tuple [_, _] _ _] (.Tuple _ _ _) _) _) _ _ _
  k_steps
  rename_i D9 h9 lt9 g2 g1 h4 F4 N4
  exact hQ h4 _ _ ⟨_, (if_neg (by decide)).trans (if_pos rfl)⟩ ⟨_, if_pos rfl⟩ (fun z h1 h2 => (if_neg h2).trans (if_neg h1)) F4 (cb_drop N4 fun p hp => List.mem_cons_of_mem _ hp)
/-- what a row's turn leaves in the leads -/
noncomputable def LeadAt (P : Params) (nx : List (Addr × Obj)) (st r : Nat) (v : Value) : Prop :=
  ∃ (D Y1 Y2 : Addr) (t1 t2 : Tok), v = .ref D ∧ (D, W.listOf #[.str (lowT st r 6) t1, .str (highT st r 6) t2, .ref Y1, .ref Y2] 0) ∈ nx ∧ WsAt P nx Y1 (lowT st r 6 ++ kTab) ∧ WsAt P nx Y2 (highT st r 6 ++ kTab)
theorem LeadAt.mono {P : Params} {nx nx' : List (Addr × Obj)} {st r : Nat} {v : Value} (h : LeadAt P nx st r v) (hs : ∀ p ∈ nx, p ∈ nx') : LeadAt P nx' st r v := by
  obtain ⟨D, Y1, Y2, t1, t2, h1, h2, h3, h4⟩ := h
  exact ⟨D, Y1, Y2, t1, t2, h1, hs _ h2, h3.mono hs, h4.mono hs⟩
noncomputable def lowX (st r : Nat) : Str := lowT st r 6 ++ kTab
noncomputable def highX (st r : Nat) : Str := highT st r 6 ++ kTab
theorem row_facts : ∀ st : Fin 4, ∀ r : Fin 5, decide (wC (lowX st.1 r.1) = wC (highX st.1 r.1) ∧ wB (lowX st.1 r.1) = wB (highX st.1 r.1)) = (rowF r.1 == Str.ofString "((()))") ∧
    decide (wC (highX st.1 r.1) = wC (twoS st.1 ++ Str.ofString "k") ∧ wB (highX st.1 r.1) = wB (twoS st.1 ++ Str.ofString "k")) = false ∧ chk (Txt.slice (rowF r.1) none (some (-1))) = false := by decide +kernel
theorem row_bds : ∀ st : Fin 4, ∀ r : Fin 5, (∀ n ∈ wC (lowX st.1 r.1), 0 ≤ n ∧ n ≤ 3) ∧ (∀ n ∈ wC (highX st.1 r.1), 0 ≤ n ∧ n ≤ 3) ∧ wT (lowX st.1 r.1) ≤ 3 ∧ wT (highX st.1 r.1) ≤ 3 ∧ (wC (lowX st.1 r.1)).length ≤ 10 ∧ (wC (highX st.1 r.1)).length ≤ 10 ∧ wHook (lowX st.1 r.1) st.1 ≠ 0 ∧ wHook (highX st.1 r.1) st.1 ≠ 0 := by decide +kernel
theorem WsAt.sub {P : Params} {news news' : List (Addr × Obj)} {Y : Addr} {x : Str} (h : WsAt P news Y x) (hs : ∀ p ∈ news, p ∈ news' ∨ p.2.cls = .type "list" ∨ ∃ v, p.2.data = .cell v) : WsAt P news' Y x := by
  refine fun Go k => h Go fun k1 us Dd Nn Tt t1 t2 t3 t4 t5 tb tn tnt cnt h1 h2 h3 h4 h5 h6 h7 => k k1 us Dd Nn Tt t1 t2 t3 t4 t5 tb tn tnt cnt h1 h2 h3 h4 h5 h6 fun p hp => ?_
  rcases hs p (h7 p hp) with h | h | ⟨v, h⟩
  · exact h
  · simp only [wsLed, List.mem_cons, List.not_mem_nil, or_false] at hp
    rcases hp with rfl | rfl | rfl | rfl
    · exact absurd (show Value.type "tuple" = Value.type "list" from h) (by intro e; injection e with e; exact absurd e (by decide))
    · exact absurd (show Value.type "tuple" = Value.type "list" from h) (by intro e; injection e with e; exact absurd e (by decide))
    · exact absurd h (by intro e; cases e)
    · exact absurd (show Value.type "dict" = Value.type "list" from h) (by intro e; injection e with e; exact absurd e (by decide))
  · simp only [wsLed, List.mem_cons, List.not_mem_nil, or_false] at hp
    rcases hp with rfl | rfl | rfl | rfl <;> exact absurd h (by intro e; cases e)
noncomputable abbrev keepZ : List Str := [Str.ofString "low", Str.ofString "high", Str.ofString "ends", Str.ofString "near", Str.ofString "far_off", Str.ofString "low_sum", Str.ofString "high_sum"]
theorem law_rturn (w : World) {mean : ExcName → Option Value} {mg mb : Str → Option Value} {h₀ : Heap} {L fa : Addr} {cd : Value} {s : Shared} {m : Str → Option Value} {R : List (Addr × Obj)} {o2 o3 o4 : Obj} {v4 : Option Value} {lp ll Y3 : Addr} {vs vl : List Value} {xs : List Str} {n nl st r : Nat} {ls hs u v : Int} {tr t1 t2 t3 t4 t5 : Tok} {Q : Flow → Shared → Prop} {E : Value → Shared → Prop}
    (F : Fr h₀ L s.heap m) (X : (KL w.params).In h₀) (T : Top qv looseN mean mg mb h₀) (N : News h₀ L s.heap ((ll, W.listOf vl.toArray nl) :: (L + 3, o3) :: (L + 4, o4) :: R))
    (hm2 : (L + 2, o2) ∈ R) (h2 : o2.data = .cell (some (.ref lp))) (hmp : (lp, W.listOf vs.toArray n) ∈ R) (hvs : StrsAre vs xs) (hxs : xs.map (·.length) = List.range 6) (h3 : o3.data = .cell (some (.str (rowF r) tr))) (h4 : o4.data = .cell v4) (hr : r < 5) (hs3 : st < 4)
    (hll : ∀ p ∈ (L + 3, o3) :: (L + 4, o4) :: R, p.1 ≠ ll) (hl4 : ∀ p ∈ R, p.1 ≠ L + 4) (hvl : vl.length ≤ 100) (hbu : (bl u : Int) ≤ 1100000) (hbv : (bl v : Int) ≤ 1100000)
    (hst : m (Str.ofString "start") = some (.int (st : Int) t1)) (hx : m (Str.ofString "x") = some (.int u t2)) (hy : m (Str.ofString "y") = some (.int v t3)) (hlv : m (Str.ofString "level") = some (.ref Y3)) (hw3 : WsAt w.params R Y3 (twoS st ++ Str.ofString "k")) (hld : m (Str.ofString "leads") = some (.ref ll))
    (hls : m (Str.ofString "low_sum") = some (.int ls t4)) (hhs : m (Str.ofString "high_sum") = some (.int hs t5))
    (hQ : ∀ (h' : Heap) (tk' : Nat) (g' : Array GenState) (m' : Str → Option Value) (Wn : List (Addr × Obj)) (n' : Nat) (o4' : Obj) (v4' : Option Value) (V : Value), LeadAt w.params Wn st r V → (∀ q ∈ Wn, ll < q.1 ∧ L + 3 < q.1 ∧ L + 4 < q.1 ∧ ∀ p ∈ R, p.1 < q.1) →
      (∃ t, m' (Str.ofString "low_sum") = some (.int (ls + wVal (lowX st r) st u v) t)) → (∃ t, m' (Str.ofString "high_sum") = some (.int (hs + wVal (highX st r) st u v) t)) → (∀ z, z ∉ keepZ → m' z = m z) →
      Fr h₀ L h' m' → News h₀ L h' ((ll, W.listOf (vl ++ [V]).toArray n') :: (L + 3, o3) :: (L + 4, o4') :: (Wn ++ R)) → o4'.data = .cell v4' → (AllBare s.gens → AllBare g') → Q .next { s with heap := h', toks := tk', gens := g' }) :
    wpAny (model prog w) (lawA L fa cd) (execs rowB (lawE L fa cd)) Q E s := by
  obtain ⟨f1, f2, f3⟩ := row_facts ⟨st, hs3⟩ ⟨r, hr⟩
  obtain ⟨b1, b2, b3, b4, b5, b6, b7, b8⟩ := row_bds ⟨st, hs3⟩ ⟨r, hr⟩
  have hrl := rowF_len ⟨r, hr⟩
  obtain ⟨q1, q2⟩ := low_len ⟨st, hs3⟩ ⟨r, hr⟩ ⟨6, by decide⟩
  dsimp only at f1 f2 f3 b1 b2 b3 b4 b5 b6 b7 b8 hrl q1 q2
  show wpAny _ _ (execs (stAt 0 rowB :: stAt 1 rowB :: stAt 2 rowB :: stAt 3 rowB :: stAt 4 rowB :: stAt 5 rowB :: stAt 6 rowB :: stAt 7 rowB :: []) _) _ _ _
  refine wpAny_execs_cons (law_r0 w F X T N (fun h' tk' m1 hlo1 hhi1 hm1 F1 N1 => ?_) rfl rfl)
  refine wpAny_execs_cons (law_fori w (n := n) (r := r) (st := st) (o4 := o4) (rest := (ll, W.listOf vl.toArray nl) :: R) F1 X T (cb_drop N1 ?_) h2 h3 h4 hvs hxs hr hs3 ?_ ((hm1 _ (by decide) (by decide)).trans hst) hlo1 hhi1 ?_ rfl rfl)
  · intro p hp
    simp only [List.mem_cons] at hp ⊢
    rcases hp with h | h | h | h | h | h
    · (first | ((try rw [h]); (repeat first | exact List.mem_cons_self .. | exact h | exact List.mem_append_left _ h | refine List.mem_append_right _ ?_ | refine List.mem_cons_of_mem _ ?_); done) | simp [h])
    · (first | ((try rw [h]); (repeat first | exact List.mem_cons_self .. | exact h | exact List.mem_append_left _ h | refine List.mem_append_right _ ?_ | refine List.mem_cons_of_mem _ ?_); done) | simp [h])
    · subst h; (first | ((try rw [hm2]); (repeat first | exact List.mem_cons_self .. | exact hm2 | exact List.mem_append_left _ hm2 | refine List.mem_append_right _ ?_ | refine List.mem_cons_of_mem _ ?_); done) | simp [hm2])
    · subst h; (first | ((try rw [hmp]); (repeat first | exact List.mem_cons_self .. | exact hmp | exact List.mem_append_left _ hmp | refine List.mem_append_right _ ?_ | refine List.mem_cons_of_mem _ ?_); done) | simp [hmp])
    · (first | ((try rw [h]); (repeat first | exact List.mem_cons_self .. | exact h | exact List.mem_append_left _ h | refine List.mem_append_right _ ?_ | refine List.mem_cons_of_mem _ ?_); done) | simp [h])
    · (first | ((try rw [h]); (repeat first | exact List.mem_cons_self .. | exact h | exact List.mem_append_left _ h | refine List.mem_append_right _ ?_ | refine List.mem_cons_of_mem _ ?_); done) | simp [h])
  · intro p hp
    simp only [List.mem_cons] at hp
    rcases hp with h | h | h | h | h
    · rw [h]; exact Nat.ne_of_lt (Nat.lt_succ_self _)
    · rw [h]; exact hl4 _ hm2
    · rw [h]; exact hl4 _ hmp
    · rw [h]; exact Ne.symm (hll (L + 4, o4) (by first | ((repeat first | exact List.mem_cons_self .. | refine List.mem_append_right _ ?_ | refine List.mem_cons_of_mem _ ?_); done) | simp))
    · exact hl4 p h
  intro h6 tk6 g6 m2 o4' v4' ⟨tl2, hlo2⟩ ⟨th2, hhi2⟩ hm2' F2 N2 ho4' hg2
  have N2' : News h₀ L h6 ((ll, W.listOf vl.toArray nl) :: (L + 3, o3) :: (L + 4, o4') :: R) := cb_drop N2 (by
    intro p hp
    simp only [List.mem_cons] at hp
    rcases hp with h | h | h | h <;> (first | ((try rw [h]); (repeat first | exact List.mem_cons_self .. | exact h | exact List.mem_append_left _ h | refine List.mem_append_right _ ?_ | refine List.mem_cons_of_mem _ ?_); done) | simp [h]))
  refine wpAny_execs_cons (law_r2 w F2 X T N2' hlo2 hhi2 q1 q2 ?_ rfl rfl)
  intro h7 tk7 m3 Y1 Y2 W1 ws1 ws2 hW1 hn3 hf3 hm3 F3 N3
  have e3 : ∀ z, z ≠ Str.ofString "low" → z ≠ Str.ofString "high" → z ≠ Str.ofString "ends" → z ≠ Str.ofString "near" → z ≠ Str.ofString "far_off" → m3 z = m z := fun z a b c d e => (hm3 z d e).trans ((hm2' z a b c).trans (hm1 z a b))
  refine wpAny_execs_cons (law_r3 w (nx := W1 ++ ((ll, W.listOf vl.toArray nl) :: (L + 3, o3) :: (L + 4, o4') :: R)) (x1 := lowX st r) (x2 := highX st r) (x3 := twoS st ++ Str.ofString "k") F3 X T (cb_drop N3 ?_) h3 (ws1.mono fun p hp => List.mem_append_left _ hp) (ws2.mono fun p hp => List.mem_append_left _ hp) (hw3.mono ?_) hn3 hf3 ((e3 _ (by decide) (by decide) (by decide) (by decide) (by decide)).trans hlv) f1 f2 ?_ rfl rfl)
  · intro p hp
    rcases List.mem_cons.mp hp with h | h
    · subst h; (first | ((repeat first | exact List.mem_cons_self .. | refine List.mem_append_right _ ?_ | refine List.mem_cons_of_mem _ ?_); done) | simp)
    · exact h
  · intro p hp; (first | ((try rw [hp]); (repeat first | exact List.mem_cons_self .. | exact hp | exact List.mem_append_left _ hp | refine List.mem_append_right _ ?_ | refine List.mem_cons_of_mem _ ?_); done) | simp [hp])
  intro h8 tk8 F8 N8
  refine wpAny_execs_cons (law_r4 w F8 X T N8 h3 hrl f3 ?_ rfl rfl)
  intro h9 tk9 g9 F9 N9 hg9
  refine wpAny_execs_cons (law_r5 w (x1 := lowX st r) (st := (st : Int)) (u := u) (v := v) F9 X T (cb_drop N9 fun p hp => List.mem_cons_of_mem _ hp) (ws1.mono fun p hp => List.mem_append_left _ hp) b1 ⟨Int.natCast_nonneg _, by lia, b3, b5, hbu, hbv, b7⟩ hn3 ((e3 _ (by decide) (by decide) (by decide) (by decide) (by decide)).trans hst) ((e3 _ (by decide) (by decide) (by decide) (by decide) (by decide)).trans hx) ((e3 _ (by decide) (by decide) (by decide) (by decide) (by decide)).trans hy) ((e3 _ (by decide) (by decide) (by decide) (by decide) (by decide)).trans hls) ?_ rfl rfl)
  intro h10 tk10 t10 F10 N10
  refine wpAny_execs_cons (law_r6 w (x1 := highX st r) (st := (st : Int)) (u := u) (v := v) F10 X T N10 (ws2.mono fun p hp => List.mem_append_left _ hp) b2 ⟨Int.natCast_nonneg _, by lia, b4, b6, hbu, hbv, b8⟩ ((if_neg (by decide)).trans hf3) ((if_neg (by decide)).trans ((e3 _ (by decide) (by decide) (by decide) (by decide) (by decide)).trans hst)) ((if_neg (by decide)).trans ((e3 _ (by decide) (by decide) (by decide) (by decide) (by decide)).trans hx)) ((if_neg (by decide)).trans ((e3 _ (by decide) (by decide) (by decide) (by decide) (by decide)).trans hy)) ((if_neg (by decide)).trans ((e3 _ (by decide) (by decide) (by decide) (by decide) (by decide)).trans hhs)) ?_ rfl rfl)
  intro h11 tk11 t11 F11 N11
  have hW1l : ∀ q ∈ W1, ll < q.1 ∧ L + 3 < q.1 ∧ L + 4 < q.1 ∧ ∀ p ∈ R, p.1 < q.1 := fun q hq => ⟨hW1 q hq (ll, W.listOf vl.toArray nl) (by first | ((repeat first | exact List.mem_cons_self .. | refine List.mem_append_right _ ?_ | refine List.mem_cons_of_mem _ ?_); done) | simp), hW1 q hq (L + 3, o3) (by first | ((repeat first | exact List.mem_cons_self .. | refine List.mem_append_right _ ?_ | refine List.mem_cons_of_mem _ ?_); done) | simp), hW1 q hq (L + 4, o4') (by first | ((repeat first | exact List.mem_cons_self .. | refine List.mem_append_right _ ?_ | refine List.mem_cons_of_mem _ ?_); done) | simp), fun p hp => hW1 q hq p (by (first | ((try rw [hp]); (repeat first | exact List.mem_cons_self .. | exact hp | exact List.mem_append_left _ hp | refine List.mem_append_right _ ?_ | refine List.mem_cons_of_mem _ ?_); done) | simp [hp]))⟩
  refine wpAny_execs_cons (law_r7 w (ll := ll) (vl := vl) (nl := nl) (nx := (L + 3, o3) :: (L + 4, o4') :: (W1 ++ R)) F11 X T (cb_drop N11 ?_) ?_ ?_ ((if_neg (by decide)).trans ((if_neg (by decide)).trans hn3)) ((if_neg (by decide)).trans ((if_neg (by decide)).trans hf3)) ((if_neg (by decide)).trans ((if_neg (by decide)).trans ((hm3 _ (by decide) (by decide)).trans hlo2))) ((if_neg (by decide)).trans ((if_neg (by decide)).trans ((hm3 _ (by decide) (by decide)).trans hhi2))) ((if_neg (by decide)).trans ((if_neg (by decide)).trans ((e3 _ (by decide) (by decide) (by decide) (by decide) (by decide)).trans hld))) ?_ rfl rfl)
  · intro p hp
    simp only [List.mem_cons, List.mem_append] at hp
    rcases hp with h | h | h | h | h <;> (first | ((try rw [h]); (repeat first | exact List.mem_cons_self .. | exact h | exact List.mem_append_left _ h | refine List.mem_append_right _ ?_ | refine List.mem_cons_of_mem _ ?_); done) | simp [h])
  · intro p hp
    simp only [List.mem_cons, List.mem_append] at hp
    rcases hp with h | h | h | h
    · rw [h]; exact hll (L + 3, o3) (by first | ((repeat first | exact List.mem_cons_self .. | refine List.mem_append_right _ ?_ | refine List.mem_cons_of_mem _ ?_); done) | simp)
    · rw [h]; exact hll (L + 4, o4) (by first | ((repeat first | exact List.mem_cons_self .. | refine List.mem_append_right _ ?_ | refine List.mem_cons_of_mem _ ?_); done) | simp)
    · exact Nat.ne_of_gt (hW1l p h).1
    · exact hll p (by (first | ((try rw [h]); (repeat first | exact List.mem_cons_self .. | exact h | exact List.mem_append_left _ h | refine List.mem_append_right _ ?_ | refine List.mem_cons_of_mem _ ?_); done) | simp [h]))
  · show vl.length ≤ 2 ^ 24
    lia
  intro h12 tk12 D n' F12 N12 hD
  refine wpAny_execs_nil ?_
  refine hQ h12 tk12 g9 _ ((D, W.listOf #[.str (lowT st r 6) tl2, .str (highT st r 6) th2, .ref Y1, .ref Y2] 0) :: W1) n' o4' v4' (.ref D) ⟨D, Y1, Y2, tl2, th2, rfl, List.mem_cons_self .., ws1.mono fun p hp => List.mem_cons_of_mem _ hp, ws2.mono fun p hp => List.mem_cons_of_mem _ hp⟩ ?_ ⟨_, (if_neg (by decide)).trans (if_pos rfl)⟩ ⟨_, if_pos rfl⟩ ?_ F12 (cb_drop N12 ?_) ho4' (fun x => hg9 (hg2 x))
  · intro q hq
    rcases List.mem_cons.mp hq with rfl | h
    · exact ⟨hD (ll, W.listOf vl.toArray nl) (by first | ((repeat first | exact List.mem_cons_self .. | refine List.mem_append_right _ ?_ | refine List.mem_cons_of_mem _ ?_); done) | simp), hD (L + 3, o3) (by first | ((repeat first | exact List.mem_cons_self .. | refine List.mem_append_right _ ?_ | refine List.mem_cons_of_mem _ ?_); done) | simp), hD (L + 4, o4') (by first | ((repeat first | exact List.mem_cons_self .. | refine List.mem_append_right _ ?_ | refine List.mem_cons_of_mem _ ?_); done) | simp), fun p hp => hD p (by (first | ((try rw [hp]); (repeat first | exact List.mem_cons_self .. | exact hp | exact List.mem_append_left _ hp | refine List.mem_append_right _ ?_ | refine List.mem_cons_of_mem _ ?_); done) | simp [hp]))⟩
    · exact hW1l q h
  · intro z hz
    simp only [keepZ, List.mem_cons, List.not_mem_nil, or_false, not_or] at hz
    exact (if_neg hz.2.2.2.2.2.2).trans ((if_neg hz.2.2.2.2.2.1).trans (e3 z hz.1 hz.2.1 hz.2.2.1 hz.2.2.2.1 hz.2.2.2.2.1))
  · intro p hp
    simp only [List.mem_cons, List.mem_append, List.cons_append] at hp
    rcases hp with h | h | h | h | h | h <;> (first | ((try rw [h]); (repeat first | exact List.mem_cons_self .. | exact h | exact List.mem_append_left _ h | refine List.mem_append_right _ ?_ | refine List.mem_cons_of_mem _ ?_); done) | simp [h])
end Mine

end
-- L21
section
open PySem PySem.W PySem.Spec PySem.Calls PyProof.Rows PyProof.Rows.LCg
set_option Elab.async false
set_option maxRecDepth 100000
set_option maxHeartbeats 1000000
namespace Mine

noncomputable def sumLow (st : Nat) (u v : Int) : Nat → Int
  | 0 => 0
  | r + 1 => sumLow st u v r + wVal (lowX st r) st u v
noncomputable def sumHigh (st : Nat) (u v : Int) : Nat → Int
  | 0 => 0
  | r + 1 => sumHigh st u v r + wVal (highX st r) st u v
theorem kout4_len : (kout 4).length = 5 := by decide +kernel
theorem strs_at : ∀ {vs : List Value} {xs : List Str} {i : Nat} {v : Value}, StrsAre vs xs → vs[i]? = some v → ∃ t, v = .str (xs.getD i Str.empty) t
  | _, _, 0, _, .cons y t _, h => by cases h; exact ⟨t, rfl⟩
  | _, _, i + 1, v, .cons y t r, h => by
    obtain ⟨t', e⟩ := strs_at (i := i) r (by simpa using h)
    exact ⟨t', by simpa using e⟩
theorem law_s10 (w : World) {mean : ExcName → Option Value} {mg mb : Str → Option Value} {h₀ : Heap} {L fa : Addr} {cd : Value} {s : Shared} {m : Str → Option Value} {R : List (Addr × Obj)} {o2 o3 o4 : Obj} {v3 v4 : Option Value} {lp ll lk Y3 : Addr} {vs vk : List Value} {xs : List Str} {n nk st : Nat} {u v : Int} {t1 t2 t3 t4 t5 : Tok} {Q : Flow → Shared → Prop} {E : Value → Shared → Prop}
    (F : Fr h₀ L s.heap m) (X : (KL w.params).In h₀) (T : Top qv looseN mean mg mb h₀) (N : News h₀ L s.heap ((ll, W.listOf #[] 0) :: (L + 3, o3) :: (L + 4, o4) :: R))
    (hm2 : (L + 2, o2) ∈ R) (h2 : o2.data = .cell (some (.ref lp))) (hmp : (lp, W.listOf vs.toArray n) ∈ R) (hvs : StrsAre vs xs) (hxs : xs.map (·.length) = List.range 6) (h3 : o3.data = .cell v3) (h4 : o4.data = .cell v4) (hmk : (lk, W.listOf vk.toArray nk) ∈ R) (hvk : StrsAre vk (kout 4)) (hs3 : st < 4)
    (hll : ∀ p ∈ (L + 3, o3) :: (L + 4, o4) :: R, p.1 ≠ ll) (hl4 : ∀ p ∈ R, p.1 ≠ L + 4) (hl3 : ∀ p ∈ R, p.1 ≠ L + 3) (hbu : (bl u : Int) ≤ 1100000) (hbv : (bl v : Int) ≤ 1100000)
    (hst : m (Str.ofString "start") = some (.int (st : Int) t1)) (hx : m (Str.ofString "x") = some (.int u t2)) (hy : m (Str.ofString "y") = some (.int v t3)) (hlv : m (Str.ofString "level") = some (.ref Y3)) (hw3 : WsAt w.params R Y3 (twoS st ++ Str.ofString "k")) (hld : m (Str.ofString "leads") = some (.ref ll)) (hkp : m (Str.ofString "kept") = some (.ref lk))
    (hls : m (Str.ofString "low_sum") = some (.int 0 t4)) (hhs : m (Str.ofString "high_sum") = some (.int 0 t5))
    (hQ : ∀ (h' : Heap) (tk' : Nat) (g' : Array GenState) (m' : Str → Option Value) (R' : List (Addr × Obj)) (vl : List Value) (n' : Nat), vl.length = 5 → (∀ q, q < 5 → ∃ V, vl[q]? = some V ∧ LeadAt w.params R' st q V) → (∀ p ∈ R, p ∈ R') → (∀ q ∈ R', q.1 ≠ ll) →
      (∃ t, m' (Str.ofString "low_sum") = some (.int (sumLow st u v 5) t)) → (∃ t, m' (Str.ofString "high_sum") = some (.int (sumHigh st u v 5) t)) → (∀ z, z ∉ keepZ → m' z = m z) →
      Fr h₀ L h' m' → News h₀ L h' ((ll, W.listOf vl.toArray n') :: R') → (AllBare s.gens → AllBare g') → Q .next { s with heap := h', toks := tk', gens := g' }) :
    PySem.Challenge.rw_uc0065_01 = PySem.Challenge.rw_uc0065_01 → KL = KL →
    wpAny (model prog w) (lawA L fa cd) (exec (stAt 9 fb25) (lawE L fa cd)) Q E s := by
  k_with_none
  k_with "execs cons" => (k_here; (with_reducible show wpAny _ _ _ _ _ (Shared.mk _ _ _ (_ + 1 + 1) _)); refine gentok ?_; intro _; (with_reducible refine wpAny_execs_cons ?_); try dsimp only)
  k_with "execs nil" => (k_here; (with_reducible show wpAny _ _ _ _ _ (Shared.mk _ _ _ (_ + 1 + 1) _)); refine gentok ?_; intro _; (with_reducible refine wpAny_execs_nil ?_); try dsimp only)
  k_fill
  intro hrow hKL; clear hrow hKL
  have B := below_caller h₀
  have eK := know_eq hkp
  rw [← eK] at F
  show wpAny _ _ (exec (.For _ _ _ [] _) _) _ _ _
  refine wpAny_For ?_ (fun _ => rfl)
  k_steps
  rw [eK] at F
  have hNk := N (lk, W.listOf vk.toArray nk) (by (first | ((try rw [hmk]); (repeat first | exact List.mem_cons_self .. | exact hmk | exact List.mem_append_left _ hmk | refine List.mem_append_right _ ?_ | refine List.mem_cons_of_mem _ ?_); done) | simp [hmk]))
  have hsz : ∀ p ∈ (ll, W.listOf #[] 0) :: (L + 3, o3) :: (L + 4, o4) :: R, p.1 < s.heap.objs.size := fun p hp => Heap.lt_size (N p hp).1
  have hvk5 : vk.length = 5 := by rw [hvk.length, kout4_len]
  refine for_list (l := lk) (items := vk) rfl (fun I i v s Q E st hq => by show wpAny _ _ (pure ()) _ _ _; exact wpAny_pure hq) ⟨_, hNk.1, rfl, _, rfl⟩ hNk.2.1 hNk.2.2 F N
    (fun r m2 nx g => ∀ Go : List (Addr × Obj) → Prop, (∀ (t1 t2 : Tok) (R' : List (Addr × Obj)) (vl : List Value) (nl : Nat) (a3 a4 : Obj) (w3 w4 : Option Value), (AllBare s.gens → AllBare g) → m2 (Str.ofString "low_sum") = some (.int (sumLow st u v r) t1) → m2 (Str.ofString "high_sum") = some (.int (sumHigh st u v r) t2) → (∀ z, z ∉ keepZ → m2 z = m z) →
      a3.data = .cell w3 → a4.data = .cell w4 → vl.length = r → (∀ q, q < r → ∃ V, vl[q]? = some V ∧ LeadAt w.params R' st q V) → (∀ p ∈ R, p ∈ R') →
        (∀ q ∈ R', q.1 ≠ ll ∧ q.1 ≠ L + 3 ∧ q.1 ≠ L + 4 ∧ q.1 ≠ s.heap.objs.size) → Go ((ll, W.listOf vl.toArray nl) :: (L + 3, a3) :: (L + 4, a4) :: R')) → Go nx) ?_ (fun Go k => k _ _ R [] 0 o3 o4 v3 v4 id hls hhs (fun _ _ => rfl) h3 h4 rfl (fun q h => absurd h (Nat.not_lt_zero _)) (fun p hp => hp) (fun q hq => ⟨hll q (by (first | ((try rw [hq]); (repeat first | exact List.mem_cons_self .. | exact hq | exact List.mem_append_left _ hq | refine List.mem_append_right _ ?_ | refine List.mem_cons_of_mem _ ?_); done) | simp [hq])), hl3 q hq, hl4 q hq, Nat.ne_of_lt (hsz q (by (first | ((try rw [hq]); (repeat first | exact List.mem_cons_self .. | exact hq | exact List.mem_append_left _ hq | refine List.mem_append_right _ ?_ | refine List.mem_cons_of_mem _ ?_); done) | simp [hq])))⟩)) ?_ ?_
  · intro r m2 nx g hJ p
    apply hJ
    intro _ _ R' vl nl a3 a4 w3 w4 _ _ _ _ _ _ _ _ _ hR' hp
    simp only [List.mem_cons] at hp
    rcases hp with h | h | h | h
    · rw [h]; exact Nat.ne_of_lt (show ll < _ from hsz (ll, W.listOf #[] 0) (by first | ((repeat first | exact List.mem_cons_self .. | refine List.mem_append_right _ ?_ | refine List.mem_cons_of_mem _ ?_); done) | simp))
    · rw [h]; exact Nat.ne_of_lt (show L + 3 < _ from hsz (L + 3, o3) (by first | ((repeat first | exact List.mem_cons_self .. | refine List.mem_append_right _ ?_ | refine List.mem_cons_of_mem _ ?_); done) | simp))
    · rw [h]; exact Nat.ne_of_lt (show L + 4 < _ from hsz (L + 4, o4) (by first | ((repeat first | exact List.mem_cons_self .. | refine List.mem_append_right _ ?_ | refine List.mem_cons_of_mem _ ?_); done) | simp))
    · exact (hR' p h).2.2.2
  · intro r vv m2 nx gl h tk g E' hv hJ F8
    apply hJ
    clear hJ nx
    rintro tl th R' vl nl a3 a4 w3 w4 hg hl2 hh2 hm2' ha3 ha4 hvl hle hRR hR' N8 hgl ⟨oI, hI, _⟩
    have hr5 : r < 5 := by
      have := (List.getElem?_eq_some_iff.mp hv).1
      lia
    obtain ⟨tr, rfl⟩ := strs_at hvk hv
    have e2 : ∀ z, z ∉ keepZ → m2 z = m z := hm2'
    have hlk : lk ≠ L + 3 ∧ lk ≠ L + 4 ∧ lk ≠ ll := ⟨hl3 _ hmk, hl4 _ hmk, hll (lk, W.listOf vk.toArray nk) (by (first | ((try rw [hmk]); (repeat first | exact List.mem_cons_self .. | exact hmk | exact List.mem_append_left _ hmk | refine List.mem_append_right _ ?_ | refine List.mem_cons_of_mem _ ?_); done) | simp [hmk]))⟩
    have hIne : s.heap.objs.size ≠ L + 3 ∧ s.heap.objs.size ≠ L + 4 ∧ s.heap.objs.size ≠ ll := ⟨Nat.ne_of_gt (hsz (L + 3, o3) (by first | ((repeat first | exact List.mem_cons_self .. | refine List.mem_append_right _ ?_ | refine List.mem_cons_of_mem _ ?_); done) | simp)), Nat.ne_of_gt (hsz (L + 4, o4) (by first | ((repeat first | exact List.mem_cons_self .. | refine List.mem_append_right _ ?_ | refine List.mem_cons_of_mem _ ?_); done) | simp)), Nat.ne_of_gt (hsz (ll, W.listOf #[] 0) (by first | ((repeat first | exact List.mem_cons_self .. | refine List.mem_append_right _ ?_ | refine List.mem_cons_of_mem _ ?_); done) | simp))⟩
    have hglne : ∀ p ∈ gl, p.1 ≠ L + 3 ∧ p.1 ≠ L + 4 ∧ p.1 ≠ ll := fun p hp => by
      rcases hgl p hp with h | h
      · rw [h]; exact hIne
      · rw [h]; exact hlk
    have h34 : L + 4 ≠ L + 3 := Nat.ne_of_gt (Nat.lt_succ_self _)
    have hll3 : ll ≠ L + 3 := Ne.symm (hll (L + 3, o3) (by first | ((repeat first | exact List.mem_cons_self .. | refine List.mem_append_right _ ?_ | refine List.mem_cons_of_mem _ ?_); done) | simp))
    have hll4 : ll ≠ L + 4 := Ne.symm (hll (L + 4, o4) (by first | ((repeat first | exact List.mem_cons_self .. | refine List.mem_append_right _ ?_ | refine List.mem_cons_of_mem _ ?_); done) | simp))
    refine wpAny_assign_Name (store_cell (c := L + 3) (o := a3) (v₀ := w3) (rest := (ll, W.listOf vl.toArray nl) :: (L + 4, a4) :: (R' ++ gl)) F8 (cb_drop N8 ?_) ha3 ?_ rfl rfl rfl fun h7 o7 F7 N7 ho7 => ?_)
    · intro p hp
      simp only [List.mem_cons, List.mem_append, List.cons_append] at hp
      rcases hp with h | h | h | h | h <;> (first | ((try rw [h]); (repeat first | exact List.mem_cons_self .. | exact h | exact List.mem_append_left _ h | refine List.mem_append_right _ ?_ | refine List.mem_cons_of_mem _ ?_); done) | simp [h])
    · intro p hp
      simp only [List.mem_cons, List.mem_append] at hp
      rcases hp with h | h | h | h
      · rw [h]; exact hll3
      · rw [h]; exact h34
      · exact (hR' p h).2.1
      · exact (hglne p h).1
    refine law_rturn w (r := r) (st := st) (n := n) (lp := lp) (R := R' ++ gl) (ll := ll) (vl := vl) (nl := nl) (Y3 := Y3) F7 X T (cb_drop N7 ?_) (List.mem_append_left _ (hRR _ hm2)) h2 (List.mem_append_left _ (hRR _ hmp)) hvs hxs ho7 ha4 hr5 hs3 ?_ ?_ (by lia) hbu hbv ((e2 _ (by decide)).trans hst) ((e2 _ (by decide)).trans hx) ((e2 _ (by decide)).trans hy) ((e2 _ (by decide)).trans hlv) (hw3.mono fun p hp => List.mem_append_left _ (hRR p hp)) ((e2 _ (by decide)).trans hld) hl2 hh2 ?_
    · intro p hp
      simp only [List.mem_cons, List.mem_append] at hp
      rcases hp with h | h | h | h | h <;> (first | ((try rw [h]); (repeat first | exact List.mem_cons_self .. | exact h | exact List.mem_append_left _ h | refine List.mem_append_right _ ?_ | refine List.mem_cons_of_mem _ ?_); done) | simp [h])
    · intro p hp
      simp only [List.mem_cons, List.mem_append] at hp
      rcases hp with h | h | h | h
      · rw [h]; exact Ne.symm hll3
      · rw [h]; exact Ne.symm hll4
      · exact (hR' p h).1
      · exact (hglne p h).2.2
    · intro p hp
      rcases List.mem_append.mp hp with h | h
      · exact (hR' p h).2.2.1
      · exact (hglne p h).2.1
    rintro h6 tk6 g6 m6 Wn n6 o6 v6 V hV hWn ⟨_, hl6⟩ ⟨_, hh6⟩ hm6 F6 N6 ho6 hg6
    refine fun Go k => k h6 tk6 g6 m6 ((ll, W.listOf (vl ++ [V]).toArray n6) :: (L + 3, o7) :: (L + 4, o6) :: (Wn ++ R')) F6 (cb_drop N6 ?_) fun Go k => k _ _ (Wn ++ R') (vl ++ [V]) n6 o7 o6 _ _ (fun x => hg6 (hg x)) hl6 hh6 (fun z hz => (hm6 z hz).trans (e2 z hz)) ho7 ho6 (by (first | ((try rw [hvl]); (repeat first | exact List.mem_cons_self .. | exact hvl | exact List.mem_append_left _ hvl | refine List.mem_append_right _ ?_ | refine List.mem_cons_of_mem _ ?_); done) | simp [hvl])) ?_ (fun p hp => List.mem_append_right _ (hRR p hp)) ?_
    · intro p hp
      simp only [List.mem_cons, List.mem_append, List.cons_append] at hp
      rcases hp with h | h | h | (h | h) | h <;> (first | ((try rw [h]); (repeat first | exact List.mem_cons_self .. | exact h | exact List.mem_append_left _ h | refine List.mem_append_right _ ?_ | refine List.mem_cons_of_mem _ ?_); done) | simp [h])
    · intro q hq
      rcases Nat.lt_or_ge q r with h | h
      · obtain ⟨V', e, hV'⟩ := hle q h
        exact ⟨V', by rw [List.getElem?_append_left (by lia)]; exact e, hV'.mono fun p hp => List.mem_append_right _ hp⟩
      · obtain rfl : q = r := by lia
        exact ⟨V, by rw [List.getElem?_append_right (by lia)]; simp [hvl], hV.mono fun p hp => List.mem_append_left _ hp⟩
    · intro q hq
      rcases List.mem_append.mp hq with h | h
      · obtain ⟨c1, c2, c3, c4⟩ := hWn q h
        exact ⟨Nat.ne_of_gt c1, Nat.ne_of_gt c2, Nat.ne_of_gt c3, Nat.ne_of_gt (c4 (s.heap.objs.size, oI) (List.mem_append_right _ hI))⟩
      · exact hR' q h
  · intro h tk g m2 nx hJ F8
    apply hJ
    clear hJ nx
    intro t1 t2 R' vl nl a3 a4 w3 w4 hg hl2 hh2 hm2' ha3 ha4 hvl hle hRR hR' N8
    rw [hvk5] at hl2 hh2 hvl hle
    exact hQ h tk g m2 R' vl nl hvl hle hRR (fun q hq => (hR' q hq).1) ⟨_, hl2⟩ ⟨_, hh2⟩ hm2' F8 (cb_drop N8 (by intro p hp; simp only [List.mem_cons] at hp; rcases hp with h | h <;> (first | ((try rw [h]); (repeat first | exact List.mem_cons_self .. | exact h | exact List.mem_append_left _ h | refine List.mem_append_right _ ?_ | refine List.mem_cons_of_mem _ ?_); done) | simp [h]))) hg
end Mine

end
-- L22
section
open PySem PySem.W PySem.Spec PySem.Calls PyProof.Rows PyProof.Rows.LCg
set_option Elab.async false
set_option maxRecDepth 100000
set_option maxHeartbeats 1000000
namespace Mine

theorem law_s11 (w : World) {mean : ExcName → Option Value} {mg mb : Str → Option Value} {h₀ : Heap} {L fa : Addr} {cd : Value} {s : Shared} {m : Str → Option Value} {rest : List (Addr × Obj)} {lc : Addr} {ys : List Value} {ns : List Int} {Q : Flow → Shared → Prop} {E : Value → Shared → Prop}
    (F : Fr h₀ L s.heap m) (X : (KL w.params).In h₀) (T : Top qv looseN mean mg mb h₀) (N : News h₀ L s.heap ((lc, lst ys) :: rest)) (hc : m (Str.ofString "cells") = some (.ref lc)) (hys : IntsAre ys ns) (hns : ns.length = 6)
    (hQ : ∀ (h' : Heap) (tk' : Nat) (m' : Str → Option Value), (∃ t, m' (Str.ofString "which") = some (.int ((ns.getD 2 0).fmod 5) t)) → (∃ t, m' (Str.ofString "side") = some (.int (1 - 2 * (((ns.getD 2 0).fdiv 5).fmod 2)) t)) →
      (∀ z, z ∉ [Str.ofString "which", Str.ofString "side"] → m' z = m z) →
      Fr h₀ L h' m' → News h₀ L h' ((lc, lst ys) :: rest) → Q .next { s with heap := h', toks := tk' }) :
    PySem.Challenge.rw_uc0065_01 = PySem.Challenge.rw_uc0065_01 → KL = KL →
    wpAny (model prog w) (lawA L fa cd) (exec (stAt 10 fb25) (lawE L fa cd)) Q E s := by
  k_with_none
  k_with "eval Subscript" => (k_here; (first | (with_reducible show wpAny _ _ (eval (PySem.Expr.Subscript (PySem.Expr.Name _ _) (PySem.Expr.Name _ _) _) _) _ _ _) | (with_reducible show wpAny _ _ (eval (PySem.Expr.Subscript (PySem.Expr.Name _ _) (PySem.Expr.Constant _ _ _) _) _) _ _ _) | (with_reducible show wpAny _ _ (eval (PySem.Expr.Subscript (PySem.Expr.Name _ _) (PySem.Expr.BinOp (PySem.Expr.Name _ _) _ _ _) _) _) _ _ _)); k_dflt (refine' subS ?svF ?svk ?svS ?svU ?_; (case svF => k_asm); (case svk => rfl); (case svS => walk_at "SV"); (case svU => walk_at "SV"); k_whole))
  k_with "execs cons" => (k_here; (with_reducible show wpAny _ _ _ _ _ (Shared.mk _ _ _ (_ + 1 + 1) _)); refine gentok ?_; intro _; (with_reducible refine wpAny_execs_cons ?_); try dsimp only)
  k_with "execs nil" => (k_here; (with_reducible show wpAny _ _ _ _ _ (Shared.mk _ _ _ (_ + 1 + 1) _)); refine gentok ?_; intro _; (with_reducible refine wpAny_execs_nil ?_); try dsimp only)
  k_fill
  intro hrow hKL; clear hrow hKL
  have B := below_caller h₀
  have eK := know_eq hc
  replace F := Mine.Fr.know F hc
  show wpAny _ _ (exec (.Assign [.Tuple [_, _] _ _] (.Tuple _ _ _) _) _) _ _ _
  k_steps
  rename_i D9 h9 l1 g2 g1 h4 F4 N4
  refine hQ h4 _ _ ⟨_, rfl⟩ ⟨_, rfl⟩ (fun z hz => ?_) F4 (cb_drop N4 (by intro p hp; exact List.mem_cons_of_mem _ hp))
  simp only [List.mem_cons, List.not_mem_nil, or_false, not_or] at hz
  exact (if_neg hz.1).trans ((if_neg hz.2).trans (congrFun eK z))

theorem law_s12 (w : World) {mean : ExcName → Option Value} {mg mb : Str → Option Value} {h₀ : Heap} {L fa : Addr} {cd : Value} {s : Shared} {m : Str → Option Value} {rest : List (Addr × Obj)} {ll D Y1 Y2 : Addr} {vl : List Value} {n q : Nat} {lo hi : Str} {t1 t2 tw : Tok} {Q : Flow → Shared → Prop} {E : Value → Shared → Prop}
    (F : Fr h₀ L s.heap m) (X : (KL w.params).In h₀) (T : Top qv looseN mean mg mb h₀) (N : News h₀ L s.heap ((ll, W.listOf vl.toArray n) :: (D, W.listOf #[.str lo t1, .str hi t2, .ref Y1, .ref Y2] 0) :: rest)) (hl : m (Str.ofString "leads") = some (.ref ll)) (hw : m (Str.ofString "which") = some (.int ((q : Nat) : Int) tw)) (hq : q < 5) (hv : vl.toArray[((q : Nat) : Int).toNat]? = some (.ref D))
    (hQ : ∀ (h' : Heap) (tk' : Nat) (m' : Str → Option Value), (∃ t, m' (Str.ofString "low") = some (.str lo t)) → (∃ t, m' (Str.ofString "high") = some (.str hi t)) → m' (Str.ofString "near") = some (.ref Y1) → m' (Str.ofString "far_off") = some (.ref Y2) →
      (∀ z, z ∉ [Str.ofString "low", Str.ofString "high", Str.ofString "near", Str.ofString "far_off"] → m' z = m z) →
      Fr h₀ L h' m' → News h₀ L h' ((ll, W.listOf vl.toArray n) :: (D, W.listOf #[.str lo t1, .str hi t2, .ref Y1, .ref Y2] 0) :: rest) → Q .next { s with heap := h', toks := tk' }) :
    PySem.Challenge.rw_uc0065_01 = PySem.Challenge.rw_uc0065_01 → KL = KL →
    wpAny (model prog w) (lawA L fa cd) (exec (stAt 11 fb25) (lawE L fa cd)) Q E s := by
  k_with "subscriptTail" => (k_here; (with_reducible show wpAny _ _ (subscriptTail _ _ (Value.ref _) (Value.int _ _)) _ _ _); k_dflt (refine' item_listR ?k1 ?k2 ?k3 ?k4 ?_ ?k5); (case k1 => is_list); (case k2 => exact Int.natCast_nonneg _); (case k3 => omega); (case k4 => assumption); (case k5 => with_unfolding_all rfl); (try dsimp only))
  k_fill
  intro hrow hKL; clear hrow hKL
  have B := below_caller h₀
  have eK := know_cons (x := Str.ofString "which") (v := .int ((q : Nat) : Int) tw) (know_eq hl) hw
  replace F := Mine.Fr.know F hl
  replace F := Mine.Fr.know F (x := Str.ofString "which") (v := .int ((q : Nat) : Int) tw) (by rw [if_neg (by decide)]; exact hw)
  show wpAny _ _ (exec (.Assign [.Tuple [_, _, _, _] _ _] (.Subscript _ _ _) _) _) _ _ _
  k_steps
  rename_i g5 g4 g3 g2 h4 F4 N4
  refine hQ h4 _ _ ⟨_, rfl⟩ ⟨_, rfl⟩ rfl rfl (fun z hz => ?_) F4 N4
  simp only [List.mem_cons, List.not_mem_nil, or_false, not_or] at hz
  exact (if_neg hz.2.2.2).trans ((if_neg hz.2.2.1).trans ((if_neg hz.2.1).trans ((if_neg hz.1).trans (congrFun eK z))))

end Mine

end
-- L23
section
open PySem PySem.W PySem.Spec PySem.Calls PyProof.Rows PyProof.Rows.LCg
set_option Elab.async false
set_option maxRecDepth 100000
set_option maxHeartbeats 1000000
namespace Mine

noncomputable def kSp : Str := Str.ofString " k"
theorem law_s13 (w : World) {mean : ExcName → Option Value} {mg mb : Str → Option Value} {h₀ : Heap} {L fa : Addr} {cd : Value} {s : Shared} {m : Str → Option Value} {nx : List (Addr × Obj)} {lo hi : Str} {tlo thi : Tok} {Q : Flow → Shared → Prop} {E : Value → Shared → Prop}
    (F : Fr h₀ L s.heap m) (X : (KL w.params).In h₀) (T : Top qv looseN mean mg mb h₀) (N : News h₀ L s.heap nx) (hlo : m (Str.ofString "low") = some (.str lo tlo)) (hhi : m (Str.ofString "high") = some (.str hi thi)) (hll : lo.length ≤ 40) (hhl : hi.length ≤ 40)
    (hQ : ∀ (h' : Heap) (tk' : Nat) (m' : Str → Option Value) (Y1 Y2 : Addr) (W : CbLed), WsAt w.params W Y1 (lo ++ kSp) → WsAt w.params W Y2 (hi ++ kSp) → (∀ q ∈ W, ∀ p ∈ nx, p.1 < q.1) → m' (Str.ofString "nearer") = some (.ref Y1) → m' (Str.ofString "farther") = some (.ref Y2) → (∀ z, z ≠ Str.ofString "nearer" → z ≠ Str.ofString "farther" → m' z = m z) →
      Fr h₀ L h' m' → News h₀ L h' (W ++ nx) → Q .next { s with heap := h', toks := tk' }) :
    PySem.Challenge.rw_uc0065_01 = PySem.Challenge.rw_uc0065_01 → KL = KL →
    wpAny (model prog w) (lawA L fa cd) (exec (stAt 12 fb25) (lawE L fa cd)) Q E s := by
  k_with_none
  k_with "eval BinOp" => (k_here; (first | (with_reducible show wpAny _ _ (eval (PySem.Expr.BinOp (PySem.Expr.Name _ _) _ _ _) _) _ _ _) | (with_reducible show wpAny _ _ (eval (PySem.Expr.BinOp (PySem.Expr.Constant _ _ _) _ _ _) _) _ _ _) | (with_reducible show wpAny _ _ (eval (PySem.Expr.BinOp (PySem.Expr.BinOp (PySem.Expr.Name _ _) _ _ _) _ _ _) _) _ _ _)); (first | (with_reducible show wpAny _ _ (eval (PySem.Expr.BinOp _ _ (PySem.Expr.Name _ _) _) _) _ _ _) | (with_reducible show wpAny _ _ (eval (PySem.Expr.BinOp _ _ (PySem.Expr.Constant _ _ _) _) _) _ _ _)); k_dflt (first | (refine' valS ?svF ?svk ?svS ?_; (case svF => k_asm); (case svk => rfl); (case svS => walk_at "SV"); k_whole) | (refine' binS ?svF ?svk ?svS ?svU ?_; (case svF => k_asm); (case svk => rfl); (case svS => walk_at "SV"); (case svU => walk_at "SV"); k_whole)))
  k_with "spliced" => (k_here; (first | (with_reducible show wpAny _ _ (spliced (backTo _ (starEach ((PySem.Expr.Name _ _) :: _) _))) _ _ _) | (with_reducible show wpAny _ _ (spliced (backTo _ (starEach ((PySem.Expr.Constant _ _ _) :: _) _))) _ _ _) | (with_reducible show wpAny _ _ (spliced (backTo _ (starEach ((PySem.Expr.BinOp (PySem.Expr.Name _ _) _ _ _) :: _) _))) _ _ _)); k_dflt (refine' itemsS ?svF ?svk ?svS ?_; (case svF => k_asm); (case svk => rfl); (case svS => walk_at "SV"); k_whole))
  k_with "eval Subscript" => (k_here; (first | (with_reducible show wpAny _ _ (eval (PySem.Expr.Subscript (PySem.Expr.Name _ _) (PySem.Expr.Name _ _) _) _) _ _ _) | (with_reducible show wpAny _ _ (eval (PySem.Expr.Subscript (PySem.Expr.Name _ _) (PySem.Expr.Constant _ _ _) _) _) _ _ _) | (with_reducible show wpAny _ _ (eval (PySem.Expr.Subscript (PySem.Expr.Name _ _) (PySem.Expr.BinOp (PySem.Expr.Name _ _) _ _ _) _) _) _ _ _)); k_dflt (refine' subS ?svF ?svk ?svS ?svU ?_; (case svF => k_asm); (case svk => rfl); (case svS => walk_at "SV"); (case svU => walk_at "SV"); k_whole))
  k_with "execs cons" => (k_here; (with_reducible show wpAny _ _ _ _ _ (Shared.mk _ _ _ (_ + 1 + 1) _)); refine gentok ?_; intro _; (with_reducible refine wpAny_execs_cons ?_); try dsimp only)
  k_with "execs nil" => (k_here; (with_reducible show wpAny _ _ _ _ _ (Shared.mk _ _ _ (_ + 1 + 1) _)); refine gentok ?_; intro _; (with_reducible refine wpAny_execs_nil ?_); try dsimp only)
  k_with "call ref" => (k_here; (with_reducible show wpAny _ _ (call (Value.ref 210) _) _ _ _); k_dflt (refine' useWs ?k1 ?k2 ?k3 ?k4 ?k5 ?kK ?kp ?kd ?ku ?_); (case k1 => k_asm); (case k2 => k_asm); (case k3 => k_asm); (case k4 => k_asm); (case k5 => k_asm); (case kK => exact rfl); (case kp => first | assumption | lia); (case kd => ktr_room); (case ku => ktr_units); (intro _ _ _ _ _ _ _ _); (try dsimp only); (try k_fold))
  k_fill
  intro hrow hKL; clear hrow hKL
  have B := below_caller h₀
  have eK := know_cons (x := Str.ofString "high") (v := .str hi thi) (know_eq hlo) hhi
  replace F := Mine.Fr.know F hlo
  replace F := Mine.Fr.know F (x := Str.ofString "high") (v := .str hi thi) (by rw [if_neg (by decide)]; exact hhi)
  have hk1 : (lo ++ Str.ofString " k").length ≤ 100 := by
    rw [slen_append]
    have : (Str.ofString " k").length = 2 := by decide
    lia
  have hk2 : (hi ++ Str.ofString " k").length ≤ 100 := by
    rw [slen_append]
    have : (Str.ofString " k").length = 2 := by decide
    lia
  show wpAny _ _ (exec (.Assign [.Tuple [_, _] _ _] (.Tuple _ _ _) _) _) _ _ _
  k_steps
  rename_i Y1 W1 h1 tk1 hws1 hW1 qk1 ek1 t1 k1 a1 Y2 W2 h2 tk2 hws2 hW2 D9 h3 l1 g2 g1 h4 F4 N4
  refine hQ h4 _ _ Y1 Y2 (W2 ++ W1) (hws1.mono ?_) (hws2.mono ?_) ?_ (if_pos rfl) ((if_neg (by decide)).trans (if_pos rfl)) (fun z hz1 hz2 => (if_neg hz1).trans ((if_neg hz2).trans (congrFun eK z))) F4 (cb_drop N4 ?_)
  · intro p hp; exact List.mem_append_right _ hp
  · intro p hp; exact List.mem_append_left _ hp
  · intro q hq p hp
    rcases List.mem_append.mp hq with h | h
    · exact hW2 q h p (List.mem_append_right _ hp)
    · exact hW1 q h p hp
  · intro p hp
    simp only [List.mem_append] at hp
    simp only [List.mem_cons, List.mem_append]
    rcases hp with (h | h) | h <;> simp [h]
theorem law_s14 (w : World) {mean : ExcName → Option Value} {mg mb : Str → Option Value} {h₀ : Heap} {L fa : Addr} {cd : Value} {s : Shared} {m : Str → Option Value} {nx : List (Addr × Obj)} {ll D1 D2 Ya Yb Y1' Y2' : Addr} {vl : List Value} {n : Nat} {l1 i1 l2 i2 xf xr x1 x2 : Str} {t11 t12 t21 t22 : Tok} {Yf Yr : Addr} {Q : Flow → Shared → Prop} {E : Value → Shared → Prop}
    (F : Fr h₀ L s.heap m) (X : (KL w.params).In h₀) (T : Top qv looseN mean mg mb h₀) (N : News h₀ L s.heap nx) (hl : m (Str.ofString "leads") = some (.ref ll)) (hml : (ll, W.listOf vl.toArray n) ∈ nx)
    (hv1 : vl.toArray[Int.toNat 1]? = some (.ref D1)) (hv2 : vl.toArray[Int.toNat 2]? = some (.ref D2)) (hm1 : (D1, W.listOf #[.str l1 t11, .str i1 t12, .ref Ya, .ref Y1'] 0) ∈ nx) (hm2 : (D2, W.listOf #[.str l2 t21, .str i2 t22, .ref Yb, .ref Y2'] 0) ∈ nx)
    (hf : m (Str.ofString "far_off") = some (.ref Yf)) (hr : m (Str.ofString "farther") = some (.ref Yr)) (w1 : WsAt w.params nx Yf xf) (w2 : WsAt w.params nx Yr xr) (w3 : WsAt w.params nx Ya x1) (w4 : WsAt w.params nx Yb x2)
    (he1 : decide (wC xf = wC xr ∧ wB xf = wB xr) = false) (he2 : decide (wC x1 = wC x2 ∧ wB x1 = wB x2) = true)
    (hQ : ∀ (h' : Heap) (tk' : Nat), Fr h₀ L h' m → News h₀ L h' nx → Q .next { s with heap := h', toks := tk' }) :
    PySem.Challenge.rw_uc0065_01 = PySem.Challenge.rw_uc0065_01 → KL = KL →
    wpAny (model prog w) (lawA L fa cd) (exec (stAt 13 fb25) (lawE L fa cd)) Q E s := by
  k_with "subscriptTail" => (k_here; (with_reducible show wpAny _ _ (subscriptTail _ _ (Value.ref _) (Value.int _ _)) _ _ _); k_dflt (refine' item_listR ?k1 ?k2 ?k3 ?k4 ?_ ?k5); (case k1 => is_list); (case k2 => decide); (case k3 => decide); (case k4 => assumption); (case k5 => with_unfolding_all rfl); (try dsimp only))
  k_with "call ref" => (k_here; (with_reducible show wpAny _ _ (call (Value.ref 186) _) _ _ _); k_dflt (refine' useEq ?k1 ?k2 ?k3 ?k4 ?k5 ?kK ?kw1 ?kw2 ?kd ?ku ?_); (case k1 => k_asm); (case k2 => k_asm); (case k3 => k_asm); (case k4 => k_asm); (case k5 => k_asm); (case kK => exact rfl); (case kw1 => exact WsAt.mono (by assumption) (by intro p hp; simp [hp])); (case kw2 => exact WsAt.mono (by assumption) (by intro _ hp; simp [hp])); (case kd => ktr_room); (case ku => ktr_units); (intro _ _ _ _); (try dsimp only); (try k_fold))
  k_fill
  intro hrow hKL; clear hrow hKL
  have B := below_caller h₀
  have eK := know_cons (x := Str.ofString "farther") (v := .ref Yr) (know_cons (x := Str.ofString "far_off") (v := .ref Yf) (know_eq hl) hf) hr
  replace F := Mine.Fr.know F hl
  replace F := Mine.Fr.know F (x := Str.ofString "far_off") (v := .ref Yf) (by rw [if_neg (by decide)]; exact hf)
  replace F := Mine.Fr.know F (x := Str.ofString "farther") (v := .ref Yr) (by rw [if_neg (by decide), if_neg (by decide)]; exact hr)
  refine w1 _ ?_
  intro k1 us1 Dd1 Nn1 Tt1 a11 a12 a13 a14 a15 tb1 tn1 tnt1 cnt1 _ _ _ _ _ _ in1
  refine w3 _ ?_
  intro k2 us2 Dd2 Nn2 Tt2 a21 a22 a23 a24 a25 tb2 tn2 tnt2 cnt2 _ _ _ _ _ _ in2
  replace N := cb_drop (news := wsLed w.params xf k1 (wB xf) (wN xf) (wT xf) (wS xf) us1 Yf Dd1 Nn1 Tt1 a11 a12 a13 a14 a15 tb1 tn1 tnt1 cnt1 ++ (wsLed w.params x1 k2 (wB x1) (wN x1) (wT x1) (wS x1) us2 Ya Dd2 Nn2 Tt2 a21 a22 a23 a24 a25 tb2 tn2 tnt2 cnt2 ++ ((ll, W.listOf vl.toArray n) :: (D1, W.listOf #[.str l1 t11, .str i1 t12, .ref Ya, .ref Y1'] 0) :: (D2, W.listOf #[.str l2 t21, .str i2 t22, .ref Yb, .ref Y2'] 0) :: nx))) N (by
    intro p hp
    rcases List.mem_append.mp hp with h | h
    · exact in1 p h
    · rcases List.mem_append.mp h with h | h
      · exact in2 p h
      · simp only [List.mem_cons] at h
        rcases h with h | h | h | h
        · subst h; exact hml
        · subst h; exact hm1
        · subst h; exact hm2
        · exact h)
  simp only [wsLed, List.cons_append, List.nil_append] at N
  clear in1 in2
  show wpAny _ _ (exec (.If _ [.Return _ _] [] _) _) _ _ _
  k_steps
  · exact absurd he1 (by have h := ‹(decide (wC xf = wC xr ∧ wB xf = wB xr) != false) = true›; intro e; rw [e] at h; simp at h)
  · exact absurd he2 (by have h := ‹(decide (wC x1 = wC x2 ∧ wB x1 = wB x2) != true) = true›; intro e; rw [e] at h; simp at h)
  · refine' hQ _ _ ?F ?N
    case F => rw [← eK]; assumption
    case N => exact cb_drop (by assumption) (by intro p hp; simp [hp])

end Mine

end
-- L24
section
open PySem PySem.W PySem.Spec PySem.Calls PyProof.Rows PyProof.Rows.LCg
set_option Elab.async false
set_option maxRecDepth 100000
set_option maxHeartbeats 1000000
namespace Mine

theorem item_at {w : World} {A : Around} {E : Value → Shared → Prop} {s : Shared} {value slice : Expr} {l : Addr} {vs : List Value} {n : Nat} {k : Int} {u : Tok} {x : Value} {Q : Value → Shared → Prop} {nx news : CbLed} {g : Heap} {L : Addr} (hm : (l, W.listOf vs.toArray n) ∈ nx) (hx : vs.toArray[k.toNat]? = some x) (N : News g L s.heap news) (hs : ∀ p ∈ nx, p ∈ news)
    (h0 : 0 ≤ k) (hfit : k < 2 ^ 63) (h : Q x s) (hg : subscripted slice false (.ref l) (.int k u) = operate [.ref l, .int k u] (getItem (.ref l) (.int k u))) :
    wpAny (model prog w) A (subscriptTail value slice (.ref l) (.int k u)) Q E s := item_listR (N.isList (hs _ hm)) h0 hfit hx h hg
noncomputable def lessX (x y : Str) : Bool := lessW (wB x) (wN x) (wT x) (wS x) (wC x) (wB y) (wN y) (wT y) (wS y) (wC y)
noncomputable def okX (x : Str) : Prop := ∀ n ∈ wC x, 0 ≤ n ∧ n ≤ 1000
/-- one of the loop's trios -/
noncomputable def TrioAt (P : Params) (nx : List (Addr × Obj)) (v : Value) : Prop :=
  ∃ (D a b : Addr) (xa xb : Str), v = .ref D ∧ (D, W.listOf #[.ref a, .ref b, .bool (lessX xa xb)] 0) ∈ nx ∧ WsAt P nx a xa ∧ WsAt P nx b xb ∧ okX xa ∧ okX xb
noncomputable def forIter : Stmt → Expr
  | .For _ i _ _ _ => i
  | _ => default
noncomputable def b21 : Str := Txt.mul (Str.ofString " ") 21
theorem law_trios (w : World) {mean : ExcName → Option Value} {mg mb : Str → Option Value} {h₀ : Heap} {L fa : Addr} {cd : Value} {s : Shared} {m : Str → Option Value} {nx : List (Addr × Obj)} {Y1 Y2 Y3 Y4 Y5 lk : Addr} {x1 x2 x3 x4 x5 tw : Str} {vk : List Value} {nk q : Nat} {tq tt : Tok} {Q : Value → Shared → Prop} {E : Value → Shared → Prop}
    (F : Fr h₀ L s.heap m) (X : (KL w.params).In h₀) (T : Top qv looseN mean mg mb h₀) (N : News h₀ L s.heap nx)
    (h1 : m (Str.ofString "near") = some (.ref Y1)) (h2 : m (Str.ofString "far_off") = some (.ref Y2)) (h3 : m (Str.ofString "nearer") = some (.ref Y3)) (h4 : m (Str.ofString "farther") = some (.ref Y4)) (h5 : m (Str.ofString "level") = some (.ref Y5)) (h6 : m (Str.ofString "kept") = some (.ref lk)) (h7 : m (Str.ofString "which") = some (.int ((q : Nat) : Int) tq)) (h8 : m (Str.ofString "twos") = some (.str tw tt))
    (w1 : WsAt w.params nx Y1 x1) (w2 : WsAt w.params nx Y2 x2) (w3 : WsAt w.params nx Y3 x3) (w4 : WsAt w.params nx Y4 x4) (w5 : WsAt w.params nx Y5 x5) (hmk : (lk, W.listOf vk.toArray nk) ∈ nx) (hvk : StrsAre vk (kout 4)) (hq : q < 5) (htw : tw.length ≤ 50)
    (k1 : okX x1) (k2 : okX x2) (k3 : okX x3) (k4 : okX x4) (k5 : okX x5) (k6 : okX b21) (k7 : okX (tw ++ kSp))
    (e1 : lessX x1 x3 = true) (e2 : lessX x1 x4 = true) (e3 : lessX x1 x2 = false) (e4 : lessX x1 x5 = false) (e5 : lessX x1 b21 = false) (e6 : lessX x2 x3 = (rowF q == Str.ofString "((()))")) (e7 : lessX x2 (tw ++ kSp) = false)
    (hQ : ∀ (h' : Heap) (tk' : Nat) (l : Addr) (vs : List Value) (nx' : List (Addr × Obj)), (∀ v ∈ vs, TrioAt w.params nx' v) → (∀ p ∈ nx, p ∈ nx') → (∀ p ∈ nx', p.1 < l) → Fr h₀ L h' m → News h₀ L h' ((l, W.listOf vs.toArray 0) :: nx') → Q (.ref l) { s with heap := h', toks := tk' }) :
    PySem.Challenge.rw_uc0065_01 = PySem.Challenge.rw_uc0065_01 → KL = KL →
    wpAny (model prog w) (lawA L fa cd) (eval (forIter (stAt 14 fb25)) (lawE L fa cd)) Q E s := by
  k_with_none
  k_with "OM" => lia
  k_with "eval BinOp" => (k_here; (first | (with_reducible show wpAny _ _ (eval (PySem.Expr.BinOp (PySem.Expr.Name _ _) _ _ _) _) _ _ _) | (with_reducible show wpAny _ _ (eval (PySem.Expr.BinOp (PySem.Expr.Constant _ _ _) _ _ _) _) _ _ _) | (with_reducible show wpAny _ _ (eval (PySem.Expr.BinOp (PySem.Expr.BinOp (PySem.Expr.Name _ _) _ _ _) _ _ _) _) _ _ _)); (first | (with_reducible show wpAny _ _ (eval (PySem.Expr.BinOp _ _ (PySem.Expr.Name _ _) _) _) _ _ _) | (with_reducible show wpAny _ _ (eval (PySem.Expr.BinOp _ _ (PySem.Expr.Constant _ _ _) _) _) _ _ _)); k_dflt (first | (refine' valS ?svF ?svk ?svS ?_; (case svF => k_asm); (case svk => rfl); (case svS => walk_at "SV"); k_whole) | (refine' binS ?svF ?svk ?svS ?svU ?_; (case svF => k_asm); (case svk => rfl); (case svS => walk_at "SV"); (case svU => walk_at "SV"); k_whole)))
  k_with "spliced" => (k_here; (first | (with_reducible show wpAny _ _ (spliced (backTo _ (starEach ((PySem.Expr.Name _ _) :: _) _))) _ _ _) | (with_reducible show wpAny _ _ (spliced (backTo _ (starEach ((PySem.Expr.Constant _ _ _) :: _) _))) _ _ _) | (with_reducible show wpAny _ _ (spliced (backTo _ (starEach ((PySem.Expr.BinOp (PySem.Expr.Name _ _) _ _ _) :: _) _))) _ _ _)); k_dflt (refine' itemsS ?svF ?svk ?svS ?_; (case svF => k_asm); (case svk => rfl); (case svS => walk_at "SV"); k_whole))
  k_with "eval Subscript" => (k_here; (first | (with_reducible show wpAny _ _ (eval (PySem.Expr.Subscript (PySem.Expr.Name _ _) (PySem.Expr.Name _ _) _) _) _ _ _) | (with_reducible show wpAny _ _ (eval (PySem.Expr.Subscript (PySem.Expr.Name _ _) (PySem.Expr.Constant _ _ _) _) _) _ _ _) | (with_reducible show wpAny _ _ (eval (PySem.Expr.Subscript (PySem.Expr.Name _ _) (PySem.Expr.BinOp (PySem.Expr.Name _ _) _ _ _) _) _) _ _ _)); k_dflt (refine' subS ?svF ?svk ?svS ?svU ?_; (case svF => k_asm); (case svk => rfl); (case svS => walk_at "SV"); (case svU => walk_at "SV"); k_whole))
  k_with "storeName" => (k_here; k_dflt (refine' storeLF ?F ?N ?_ ?a ?b; (case F => k_asm); (case N => k_asm); (case a => rfl); (case b => rfl); k_whole; intro _ _ _ _; (try k_sweep)))
  k_with "execs cons" => (k_here; (with_reducible refine wpAny_execs_cons ?_); k_fold)
  k_with "execs cons" => (k_here; (with_reducible show wpAny _ _ _ _ _ (Shared.mk _ _ _ (_ + 1 + 1) _)); refine gentok ?_; intro _; (with_reducible refine wpAny_execs_cons ?_); (try dsimp only); (try k_fold))
  k_with "execs nil" => (k_here; (with_reducible show wpAny _ _ _ _ _ (Shared.mk _ _ _ (_ + 1 + 1) _)); refine gentok ?_; intro _; (with_reducible refine wpAny_execs_nil ?_); try dsimp only)
  k_with "call ref" => (k_here; (with_reducible show wpAny _ _ (call (Value.ref 210) _) _ _ _); k_dflt (refine' useWs ?k1 ?k2 ?k3 ?k4 ?k5 ?kK ?kp ?kd ?ku ?_); (case k1 => k_asm); (case k2 => k_asm); (case k3 => k_asm); (case k4 => k_asm); (case k5 => k_asm); (case kK => exact rfl); (case kp => first | assumption | omega); (case kd => ktr_room); (case ku => ktr_units); (intro _ _ _ _ _ _ _ _); (try dsimp only); (try k_fold))
  k_with "eval List" => (k_here; (with_reducible show wpAny _ _ _ _ _ (Shared.mk _ _ _ (_ + 1) _)); refine gentok ?_; intro _; dsimp only)
  k_with "subscriptTail" => (k_here; (with_reducible show wpAny _ _ (subscriptTail _ _ (Value.ref _) (Value.int _ _)) _ _ _); k_dflt (refine' item_at ?k1 ?k2 ?k3 ?k4 ?k5 ?k6 ?_ ?k7); (case k1 => assumption); (case k2 => assumption); (case k3 => k_asm); (case k4 => intro _ hp; (repeat first | exact hp | exact List.mem_append_left _ hp | refine List.mem_append_right _ ?_ | refine List.mem_cons_of_mem _ ?_)); (case k5 => exact Int.natCast_nonneg _); (case k6 => omega); (case k7 => with_unfolding_all rfl); (try dsimp only))
  k_fill
  intro hrow hKL; clear hrow hKL
  have B := below_caller h₀
  have eK := know_cons (x := Str.ofString "twos") (v := .str tw tt) (know_cons (x := Str.ofString "which") (v := .int ((q : Nat) : Int) tq) (know_cons (x := Str.ofString "kept") (v := .ref lk) (know_cons (x := Str.ofString "level") (v := .ref Y5) (know_cons (x := Str.ofString "farther") (v := .ref Y4) (know_cons (x := Str.ofString "nearer") (v := .ref Y3) (know_cons (x := Str.ofString "far_off") (v := .ref Y2) (know_eq h1) h2) h3) h4) h5) h6) h7) h8
  rw [← eK] at F
  obtain ⟨tkr, hit⟩ : ∃ t, vk.toArray[((q : Nat) : Int).toNat]? = some (.str (rowF q) t) := by
    have hlt : q < vk.length := by rw [hvk.length, kout4_len]; exact hq
    obtain ⟨t, e⟩ := strs_at hvk (List.getElem?_eq_getElem hlt)
    exact ⟨t, by rw [Int.toNat_natCast, List.getElem?_toArray, List.getElem?_eq_getElem hlt, e]; rfl⟩
  have hb21 : (Txt.mul (Str.ofString " ") 21).length ≤ 100 := by decide
  have htk : (tw ++ Str.ofString " k").length ≤ 100 := by
    rw [slen_append]
    have : (Str.ofString " k").length = 2 := by decide
    omega
  show wpAny _ _ (eval (.List [_, _, _, _, _, _, _] _) _) _ _ _
  k_steps
  rename WsAt _ _ _ (Txt.mul _ _) => wa
  rename WsAt _ _ _ (_ ++ _) => wb
  rename_i D0 g0 F0 N0 b0
  refine hQ g0 _ D0 _ _ ?_ ?_ ?_ (eK ▸ F0) N0
  · intro v hv
    simp only [List.mem_cons, List.not_mem_nil, or_false] at hv
    rcases hv with rfl | rfl | rfl | rfl | rfl | rfl | rfl
    · exact ⟨_, Y1, Y3, x1, x3, rfl, by rw [e1]; (repeat first | exact List.mem_cons_self .. | refine List.mem_append_right _ ?_ | refine List.mem_cons_of_mem _ ?_), w1.mono (by intro p hp; (repeat first | exact hp | exact List.mem_append_left _ hp | refine List.mem_append_right _ ?_ | refine List.mem_cons_of_mem _ ?_)), w3.mono (by intro p hp; (repeat first | exact hp | exact List.mem_append_left _ hp | refine List.mem_append_right _ ?_ | refine List.mem_cons_of_mem _ ?_)), k1, k3⟩
    · exact ⟨_, Y1, Y4, x1, x4, rfl, by rw [e2]; (repeat first | exact List.mem_cons_self .. | refine List.mem_append_right _ ?_ | refine List.mem_cons_of_mem _ ?_), w1.mono (by intro p hp; (repeat first | exact hp | exact List.mem_append_left _ hp | refine List.mem_append_right _ ?_ | refine List.mem_cons_of_mem _ ?_)), w4.mono (by intro p hp; (repeat first | exact hp | exact List.mem_append_left _ hp | refine List.mem_append_right _ ?_ | refine List.mem_cons_of_mem _ ?_)), k1, k4⟩
    · exact ⟨_, Y1, Y2, x1, x2, rfl, by rw [e3]; (repeat first | exact List.mem_cons_self .. | refine List.mem_append_right _ ?_ | refine List.mem_cons_of_mem _ ?_), w1.mono (by intro p hp; (repeat first | exact hp | exact List.mem_append_left _ hp | refine List.mem_append_right _ ?_ | refine List.mem_cons_of_mem _ ?_)), w2.mono (by intro p hp; (repeat first | exact hp | exact List.mem_append_left _ hp | refine List.mem_append_right _ ?_ | refine List.mem_cons_of_mem _ ?_)), k1, k2⟩
    · exact ⟨_, Y1, Y5, x1, x5, rfl, by rw [e4]; (repeat first | exact List.mem_cons_self .. | refine List.mem_append_right _ ?_ | refine List.mem_cons_of_mem _ ?_), w1.mono (by intro p hp; (repeat first | exact hp | exact List.mem_append_left _ hp | refine List.mem_append_right _ ?_ | refine List.mem_cons_of_mem _ ?_)), w5.mono (by intro p hp; (repeat first | exact hp | exact List.mem_append_left _ hp | refine List.mem_append_right _ ?_ | refine List.mem_cons_of_mem _ ?_)), k1, k5⟩
    · refine ⟨_, Y1, _, x1, b21, rfl, ?m, w1.mono (by intro p hp; (repeat first | exact hp | exact List.mem_append_left _ hp | refine List.mem_append_right _ ?_ | refine List.mem_cons_of_mem _ ?_)), WsAt.mono wa (by intro p hp; (repeat first | exact hp | exact List.mem_append_left _ hp | refine List.mem_append_right _ ?_ | refine List.mem_cons_of_mem _ ?_)), k1, k6⟩
      case m => rw [e5]; (repeat first | exact List.mem_cons_self .. | refine List.mem_append_right _ ?_ | refine List.mem_cons_of_mem _ ?_)
    · exact ⟨_, Y2, Y3, x2, x3, rfl, by rw [e6]; (repeat first | exact List.mem_cons_self .. | refine List.mem_append_right _ ?_ | refine List.mem_cons_of_mem _ ?_), w2.mono (by intro p hp; (repeat first | exact hp | exact List.mem_append_left _ hp | refine List.mem_append_right _ ?_ | refine List.mem_cons_of_mem _ ?_)), w3.mono (by intro p hp; (repeat first | exact hp | exact List.mem_append_left _ hp | refine List.mem_append_right _ ?_ | refine List.mem_cons_of_mem _ ?_)), k2, k3⟩
    · refine ⟨_, Y2, _, x2, tw ++ kSp, rfl, ?m, w2.mono (by intro p hp; (repeat first | exact hp | exact List.mem_append_left _ hp | refine List.mem_append_right _ ?_ | refine List.mem_cons_of_mem _ ?_)), WsAt.mono wb (by intro p hp; (repeat first | exact hp | exact List.mem_append_left _ hp | refine List.mem_append_right _ ?_ | refine List.mem_cons_of_mem _ ?_)), k2, k7⟩
      case m => rw [e7]; (repeat first | exact List.mem_cons_self .. | refine List.mem_append_right _ ?_ | refine List.mem_cons_of_mem _ ?_)
  · intro p hp; (repeat first | exact hp | exact List.mem_append_left _ hp | refine List.mem_append_right _ ?_ | refine List.mem_cons_of_mem _ ?_)
  · intro p hp
    rcases List.mem_cons.mp hp with rfl | hp
    · exact b0.1
    · exact allLt_all _ b0.2 p hp

end Mine

end
-- L25
section
open PySem PySem.W PySem.Spec PySem.Calls PyProof.Rows PyProof.Rows.LCg
set_option Elab.async false
set_option maxRecDepth 100000
set_option maxHeartbeats 1000000
namespace Mine

theorem law_less (w : World) {mean : ExcName → Option Value} {mg mb : Str → Option Value} {h₀ : Heap} {L fa : Addr} {cd : Value} {s : Shared} {m : Str → Option Value} {nx : List (Addr × Obj)} {Ya Yb : Addr} {xa xb : Str} {Q : Flow → Shared → Prop} {E : Value → Shared → Prop}
    (F : Fr h₀ L s.heap m) (X : (KL w.params).In h₀) (T : Top qv looseN mean mg mb h₀) (N : News h₀ L s.heap nx) (h1 : m (Str.ofString "one") = some (.ref Ya)) (h2 : m (Str.ofString "two") = some (.ref Yb)) (h3 : m (Str.ofString "due") = some (.bool (lessX xa xb)))
    (w1 : WsAt w.params nx Ya xa) (w2 : WsAt w.params nx Yb xb) (k1 : ∀ n ∈ wC xa, 0 ≤ n ∧ n ≤ 1000) (k2 : ∀ n ∈ wC xb, 0 ≤ n ∧ n ≤ 1000)
    (hQ : ∀ (h' : Heap) (tk' : Nat), Fr h₀ L h' m → News h₀ L h' nx → Q .next { s with heap := h', toks := tk' }) :
    PySem.Challenge.rw_uc0065_01 = PySem.Challenge.rw_uc0065_01 → KL = KL →
    wpAny (model prog w) (lawA L fa cd) (execs (forBodyX (stAt 14 fb25)) (lawE L fa cd)) Q E s := by
  k_with_none
  k_with "execs cons" => (k_here; (with_reducible refine wpAny_execs_cons ?_); k_fold)
  k_with "execs cons" => (k_here; (with_reducible show wpAny _ _ _ _ _ (Shared.mk _ _ _ (_ + 1 + 1) _)); refine gentok ?_; intro _; (with_reducible refine wpAny_execs_cons ?_); (try dsimp only); (try k_fold))
  k_with "execs nil" => (k_here; (with_reducible show wpAny _ _ _ _ _ (Shared.mk _ _ _ (_ + 1 + 1) _)); refine gentok ?_; intro _; (with_reducible refine wpAny_execs_nil ?_); try dsimp only)
  k_with "call ref" => (k_here; (with_reducible show wpAny _ _ (call (Value.ref 200) _) _ _ _); k_dflt (refine' useLess ?k1 ?k2 ?k3 ?k4 ?k5 ?kK ?kw1 ?kw2 ?kb1 ?kb2 ?kd ?ku ?_); (case k1 => k_asm); (case k2 => k_asm); (case k3 => k_asm); (case k4 => k_asm); (case k5 => k_asm); (case kK => exact rfl); (case kw1 => exact WsAt.mono (by assumption) (by intro p hp; simp [hp])); (case kw2 => exact WsAt.mono (by assumption) (by intro _ hp; simp [hp])); (case kb1 => assumption); (case kb2 => assumption); (case kd => ktr_room); (case ku => ktr_units); (intro _ _ _ _); (try dsimp only); (try k_fold))
  k_fill
  intro hrow hKL; clear hrow hKL
  have B := below_caller h₀
  have eK := know_cons (x := Str.ofString "due") (v := .bool (lessX xa xb)) (know_cons (x := Str.ofString "two") (v := .ref Yb) (know_eq h1) h2) h3
  rw [← eK] at F
  refine w1 _ ?_
  intro r1 us1 Dd1 Nn1 Tt1 a11 a12 a13 a14 a15 tb1 tn1 tnt1 cnt1 _ _ _ _ _ _ in1
  replace N := cb_drop (news := wsLed w.params xa r1 (wB xa) (wN xa) (wT xa) (wS xa) us1 Ya Dd1 Nn1 Tt1 a11 a12 a13 a14 a15 tb1 tn1 tnt1 cnt1 ++ nx) N (by
    intro p hp
    rcases List.mem_append.mp hp with h | h
    · exact in1 p h
    · exact h)
  simp only [wsLed, List.cons_append, List.nil_append] at N
  clear in1
  show wpAny _ _ (execs [.If _ [.Return _ _] [] _] _) _ _ _
  k_steps
  · exact absurd ‹(lessW (wB xa) (wN xa) (wT xa) (wS xa) (wC xa) (wB xb) (wN xb) (wT xb) (wS xb) (wC xb) != lessX xa xb) = true› (by unfold lessX; simp)
  · refine' hQ _ _ ?F ?N
    case F => rw [← eK]; assumption
    case N => exact cb_drop (by assumption) (by intro p hp; simp [hp])
noncomputable def forTgtX : Stmt → Expr
  | .For t _ _ _ _ => t
  | _ => default
theorem law_s15 (w : World) {mean : ExcName → Option Value} {mg mb : Str → Option Value} {h₀ : Heap} {L fa : Addr} {cd : Value} {s : Shared} {m : Str → Option Value} {nx : List (Addr × Obj)} {Y1 Y2 Y3 Y4 Y5 lk : Addr} {x1 x2 x3 x4 x5 tw : Str} {vk : List Value} {nk q : Nat} {tq tt : Tok} {Q : Flow → Shared → Prop} {E : Value → Shared → Prop}
    (F : Fr h₀ L s.heap m) (X : (KL w.params).In h₀) (T : Top qv looseN mean mg mb h₀) (N : News h₀ L s.heap nx)
    (h1 : m (Str.ofString "near") = some (.ref Y1)) (h2 : m (Str.ofString "far_off") = some (.ref Y2)) (h3 : m (Str.ofString "nearer") = some (.ref Y3)) (h4 : m (Str.ofString "farther") = some (.ref Y4)) (h5 : m (Str.ofString "level") = some (.ref Y5)) (h6 : m (Str.ofString "kept") = some (.ref lk)) (h7 : m (Str.ofString "which") = some (.int ((q : Nat) : Int) tq)) (h8 : m (Str.ofString "twos") = some (.str tw tt))
    (w1 : WsAt w.params nx Y1 x1) (w2 : WsAt w.params nx Y2 x2) (w3 : WsAt w.params nx Y3 x3) (w4 : WsAt w.params nx Y4 x4) (w5 : WsAt w.params nx Y5 x5) (hmk : (lk, W.listOf vk.toArray nk) ∈ nx) (hvk : StrsAre vk (kout 4)) (hq : q < 5) (htw : tw.length ≤ 50)
    (k1 : okX x1) (k2 : okX x2) (k3 : okX x3) (k4 : okX x4) (k5 : okX x5) (k6 : okX b21) (k7 : okX (tw ++ kSp))
    (e1 : lessX x1 x3 = true) (e2 : lessX x1 x4 = true) (e3 : lessX x1 x2 = false) (e4 : lessX x1 x5 = false) (e5 : lessX x1 b21 = false) (e6 : lessX x2 x3 = (rowF q == Str.ofString "((()))")) (e7 : lessX x2 (tw ++ kSp) = false)
    (hQ : ∀ (h' : Heap) (tk' : Nat) (m' : Str → Option Value) (nx' : List (Addr × Obj)), (∀ z, z ∉ [Str.ofString "one", Str.ofString "two", Str.ofString "due"] → m' z = m z) → (∀ p ∈ nx, p ∈ nx') → Fr h₀ L h' m' → News h₀ L h' nx' → Q .next { s with heap := h', toks := tk' }) :
    PySem.Challenge.rw_uc0065_01 = PySem.Challenge.rw_uc0065_01 → KL = KL →
    wpAny (model prog w) (lawA L fa cd) (exec (stAt 14 fb25) (lawE L fa cd)) Q E s := by
  k_fill
  intro hrow hKL; clear hrow hKL
  have B := below_caller h₀
  show wpAny _ _ (exec (.For (forTgtX (stAt 14 fb25)) (forIter (stAt 14 fb25)) (forBodyX (stAt 14 fb25)) [] _) _) _ _ _
  refine wpAny_For ?_ (fun _ => rfl)
  refine law_trios w F X T N h1 h2 h3 h4 h5 h6 h7 h8 w1 w2 w3 w4 w5 hmk hvk hq htw k1 k2 k3 k4 k5 k6 k7 e1 e2 e3 e4 e5 e6 e7 (fun h' tk' l vs nx' hvs hsub hlt F1 N1 => ?_) rfl rfl
  have hl := N1 (l, W.listOf vs.toArray 0) (List.mem_cons_self ..)
  have hsz : ∀ p ∈ (l, W.listOf vs.toArray 0) :: nx', p.1 < h'.objs.size := fun p hp => Heap.lt_size (N1 p hp).1
  refine for_list (l := l) (items := vs) rfl (fun I i v s Q E st hq => ?_) ⟨_, hl.1, rfl, _, rfl⟩ hl.2.1 hl.2.2 F1 N1
    (fun r m2 nx2 g => g = s.gens ∧ nx2 = (l, W.listOf vs.toArray 0) :: nx' ∧ ∀ z, z ∉ [Str.ofString "one", Str.ofString "two", Str.ofString "due"] → m2 z = m z) ?_ ⟨rfl, rfl, fun _ _ => rfl⟩ ?_ ?_
  · cases v with
    | ref T => exact wpAny_letOwnedTupleGo_listiter st hq
    | _ => exact wpAny_pure hq
  · rintro r m2 nx2 g ⟨rfl, rfl, _⟩ p hp
    exact Nat.ne_of_lt (hsz p hp)
  · rintro r v m2 nx2 gl h tk g E' hv ⟨rfl, rfl, hm2⟩ F8 N8 hgl hI
    obtain ⟨D, Ya, Yb, xa, xb, rfl, hD, wa, wb, ka, kb⟩ := hvs v (List.mem_of_getElem? hv)
    have N9 := cb_drop (news := (D, W.listOf #[.ref Ya, .ref Yb, .bool (lessX xa xb)] 0) :: (((l, W.listOf vs.toArray 0) :: nx') ++ gl)) N8 (by
      intro p hp
      rcases List.mem_cons.mp hp with h | h
      · subst h; simp [hD]
      · exact h)
    show wpAny _ _ (assign (.Tuple [.Name _ _, .Name _ _, .Name _ _] _ _) _ _) _ _ _
    generalize hbd : forBodyX (stAt 14 fb25) = bd
    k_steps
    rename_i g4 g3 g2 h4 F4 N4
    subst hbd
    refine law_less w (Ya := Ya) (Yb := Yb) (xa := xa) (xb := xb) F4 X T N4 rfl rfl rfl (wa.mono ?_) (wb.mono ?_) ka kb (fun h9 tk9 F9 N9 => ?_) rfl rfl
    · intro p hp; simp [hp]
    · intro p hp; simp [hp]
    · refine fun Go k => k h9 tk9 _ _ ((l, W.listOf vs.toArray 0) :: nx') F9 (cb_drop N9 (by intro p hp; simp only [List.mem_cons, List.mem_append] at hp ⊢; rcases hp with (h | h) | h <;> simp [h])) ⟨rfl, rfl, fun z hz => ?_⟩
      have hz' := hz
      simp only [List.mem_cons, List.not_mem_nil, or_false, not_or] at hz'
      exact (if_neg hz'.2.2).trans ((if_neg hz'.2.1).trans ((if_neg hz'.1).trans (hm2 z hz)))
  · rintro h tk g m2 nx2 ⟨rfl, rfl, hm2⟩ F8 N8
    exact hQ h tk m2 _ hm2 (fun p hp => List.mem_cons_of_mem _ (hsub p hp)) F8 N8
end Mine

end
-- L26
section
open PySem PySem.W PySem.Spec PySem.Calls PyProof.Rows PyProof.Rows.LCg
set_option Elab.async false
set_option maxRecDepth 100000
set_option maxHeartbeats 1000000
namespace Mine


noncomputable def long1 (c : Int) : Int := (2 ^ Int.toNat 4101 : Int).fdiv 3 + if c < 0 then -c else c
theorem law_s16 (w : World) {mean : ExcName → Option Value} {mg mb : Str → Option Value} {h₀ : Heap} {L fa : Addr} {cd : Value} {s : Shared} {m : Str → Option Value} {rest : List (Addr × Obj)} {lc : Addr} {ys : List Value} {ns : List Int} {Q : Flow → Shared → Prop} {E : Value → Shared → Prop}
    (F : Fr h₀ L s.heap m) (X : (KL w.params).In h₀) (T : Top qv looseN mean mg mb h₀) (N : News h₀ L s.heap ((lc, lst ys) :: rest)) (hc : m (Str.ofString "cells") = some (.ref lc)) (hys : IntsAre ys ns) (hns : ns.length = 6)
    (hQ : ∀ (h' : Heap) (tk' : Nat) (t : Tok), Fr h₀ L h' (fun y => if y = Str.ofString "long_one" then some (.int (long1 (ns.getD 5 0)) t) else m y) → News h₀ L h' ((lc, lst ys) :: rest) → Q .next { s with heap := h', toks := tk' }) :
    PySem.Challenge.rw_uc0065_01 = PySem.Challenge.rw_uc0065_01 → KL = KL →
    wpAny (model prog w) (lawA L fa cd) (exec (stAt 15 fb25) (lawE L fa cd)) Q E s := by
  k_with_none
  k_with "eval BinOp" => (k_here; (first | (with_reducible show wpAny _ _ (eval (PySem.Expr.BinOp (PySem.Expr.Name _ _) _ _ _) _) _ _ _) | (with_reducible show wpAny _ _ (eval (PySem.Expr.BinOp (PySem.Expr.Constant _ _ _) _ _ _) _) _ _ _) | (with_reducible show wpAny _ _ (eval (PySem.Expr.BinOp (PySem.Expr.BinOp (PySem.Expr.Name _ _) _ _ _) _ _ _) _) _ _ _)); (first | (with_reducible show wpAny _ _ (eval (PySem.Expr.BinOp _ _ (PySem.Expr.Name _ _) _) _) _ _ _) | (with_reducible show wpAny _ _ (eval (PySem.Expr.BinOp _ _ (PySem.Expr.Constant _ _ _) _) _) _ _ _)); k_dflt (first | (refine' valS ?svF ?svk ?svS ?_; (case svF => k_asm); (case svk => rfl); (case svS => walk_at "SV"); k_whole) | (refine' binS ?svF ?svk ?svS ?svU ?_; (case svF => k_asm); (case svk => rfl); (case svS => walk_at "SV"); (case svU => walk_at "SV"); k_whole)))
  k_with "eval Subscript" => (k_here; (first | (with_reducible show wpAny _ _ (eval (PySem.Expr.Subscript (PySem.Expr.Name _ _) (PySem.Expr.Name _ _) _) _) _ _ _) | (with_reducible show wpAny _ _ (eval (PySem.Expr.Subscript (PySem.Expr.Name _ _) (PySem.Expr.Constant _ _ _) _) _) _ _ _) | (with_reducible show wpAny _ _ (eval (PySem.Expr.Subscript (PySem.Expr.Name _ _) (PySem.Expr.BinOp (PySem.Expr.Name _ _) _ _ _) _) _) _ _ _)); k_dflt (refine' subS ?svF ?svk ?svS ?svU ?_; (case svF => k_asm); (case svk => rfl); (case svS => walk_at "SV"); (case svU => walk_at "SV"); k_whole))
  k_with "execs cons" => (k_here; (with_reducible show wpAny _ _ _ _ _ (Shared.mk _ _ _ (_ + 1 + 1) _)); refine gentok ?_; intro _; (with_reducible refine wpAny_execs_cons ?_); try dsimp only)
  k_with "execs nil" => (k_here; (with_reducible show wpAny _ _ _ _ _ (Shared.mk _ _ _ (_ + 1 + 1) _)); refine gentok ?_; intro _; (with_reducible refine wpAny_execs_nil ?_); try dsimp only)
  k_fill
  intro hrow hKL; clear hrow hKL
  have B := below_caller h₀
  have eK := know_eq hc
  replace F := Mine.Fr.know F hc
  show wpAny _ _ (exec (.Assign [.Name _ _] _ _) _) _ _ _
  k_steps
  rename_i F' N'
  exact hQ _ _ _ (Mine.Fr.under F' eK) N'
end Mine

end
-- D7
section
open PySem PySem.W PySem.Spec PySem.Calls PyProof.Rows
set_option Elab.async false
set_option maxRecDepth 100000
set_option maxHeartbeats 4000000
namespace Mine
noncomputable def In3H (w : World) (mean : ExcName → Option Value) (mg mb : Str → Option Value) (f D : Addr) (rest : CbLed) (n : Int) (kk : Nat) : Prop :=
  ∀ (x Lo Hi : Int) (tx tl th : Tok) (dp un : Nat) (gd : Option (List Code)) (cn : Str) (cs : Scope) (a : Addr) (ccd : Value) (cl : List (Str × Addr)) (outer : List Env) (A₀ : Around) (base h₀ : Heap) (L : Addr) (m : Str → Option Value) (s : Shared) (Q E : Value → Shared → Prop) (vs : List Value) (ns : List Int) (e : Nat),
    PyProof.Rows.Below A₀ base outer h₀ → Fr h₀ L s.heap m → (KL w.params).In h₀ → News h₀ L s.heap ((D, W.listOf vs.toArray e) :: rest) → Top qv looseN mean mg mb h₀ → cs.kind = .function → IntsAre vs ns →
    (0 ≤ Lo ∧ Lo < Hi ∧ Hi ≤ ns.length ∧ Hi ≤ Lo + 2 ^ kk ∧ n * ns.length ≤ 16777216 ∧ ns.length ≤ 1000000) → (0 ≤ x ∧ x < 2 ^ (n.toNat * (Hi - Lo).toNat)) → dp + (kk + 1) < recursionLimit → un + (8 * kk + 40) < cLine →
    (∀ (vs' : List Value) (e' : Nat) (h' : Heap) (tk' : Nat), IntsAre vs' (put n ns x Lo Hi) → Fr h₀ L h' m → News h₀ L h' ((D, W.listOf vs'.toArray e') :: rest) → Q .none { s with heap := h', toks := tk' }) →
      wpAny (model prog w) (ktrTop dp un gd cn cs L a ccd cl outer) (call (.ref f) [.int x tx, .int Lo tl, .int Hi th]) Q E s
theorem In3H.use {w : World} {mean : ExcName → Option Value} {mg mb : Str → Option Value} {f D : Addr} {rest : CbLed} {n : Int} {kk : Nat} (H : In3H w mean mg mb f D rest n kk) {x Lo Hi : Int} {tx tl th : Tok} {dp un : Nat} {gd : Option (List Code)} {cn : Str} {cs : Scope} {a : Addr} {ccd : Value} {cl : List (Str × Addr)} {outer : List Env} {A₀ : Around} {base h₀ : Heap} {L : Addr} {m : Str → Option Value} {s : Shared} {Q E : Value → Shared → Prop} {vs : List Value} {ns : List Int} {e : Nat}
    (B : PyProof.Rows.Below A₀ base outer h₀) (F : Fr h₀ L s.heap m) (X : (KL w.params).In h₀) (N : News h₀ L s.heap ((D, W.listOf vs.toArray e) :: rest)) (T : Top qv looseN mean mg mb h₀) (hk : cs.kind = .function) (hi : IntsAre vs ns)
    (hp : 0 ≤ Lo ∧ Lo < Hi ∧ Hi ≤ ns.length ∧ Hi ≤ Lo + 2 ^ kk ∧ n * ns.length ≤ 16777216 ∧ ns.length ≤ 1000000) (hx : 0 ≤ x ∧ x < 2 ^ (n.toNat * (Hi - Lo).toNat)) (hd : dp + (kk + 1) < recursionLimit) (hu : un + (8 * kk + 40) < cLine)
    (hR : ∀ (vs' : List Value) (e' : Nat) (h' : Heap) (tk' : Nat), IntsAre vs' (put n ns x Lo Hi) → Fr h₀ L h' m → News h₀ L h' ((D, W.listOf vs'.toArray e') :: rest) → Q .none { s with heap := h', toks := tk' }) :
      wpAny (model prog w) (ktrTop dp un gd cn cs L a ccd cl outer) (call (.ref f) [.int x tx, .int Lo tl, .int Hi th]) Q E s :=
  H x Lo Hi tx tl th dp un gd cn cs a ccd cl outer A₀ base h₀ L m s Q E vs ns e B F X N T hk hi hp hx hd hu hR
theorem swapD2 {g h : Heap} {L : Addr} {a b d : Addr × Obj} {r : CbLed} (N : News g L h (a :: b :: d :: r)) : News g L h (d :: a :: b :: r) := fun p hp => N p (by
  simp only [List.mem_cons] at hp; rcases hp with h | h | h | h <;> (first | ((try rw [h]); (repeat first | exact List.mem_cons_self .. | exact h | exact List.mem_append_left _ h | refine List.mem_append_right _ ?_ | refine List.mem_cons_of_mem _ ?_); done) | simp [h]))
theorem swapD1 {g h : Heap} {L : Addr} {a d l c1 c2 c3 e : Addr × Obj} {r : CbLed} (N : News g L h (a :: d :: l :: c1 :: c2 :: c3 :: e :: r)) : News g L h (d :: a :: e :: l :: c1 :: c2 :: c3 :: r) := fun p hp => N p (by
  simp only [List.mem_cons] at hp; rcases hp with h | h | h | h | h | h | h | h <;> (first | ((try rw [h]); (repeat first | exact List.mem_cons_self .. | exact h | exact List.mem_append_left _ h | refine List.mem_append_right _ ?_ | refine List.mem_cons_of_mem _ ?_); done) | simp [h]))
theorem low_up {a d e : Addr} {o : Obj} {r : CbLed} (h : Low a r) (h1 : @LT.lt Nat _ e d) (h2 : @LE.le Nat _ a d) : Low d ((e, o) :: r) := fun p hp => by
  rcases List.mem_cons.mp hp with q | q
  · rw [q]; exact h1
  · exact Nat.lt_of_lt_of_le (h p q) h2
theorem tab_end3 {g h : Heap} {L : Addr} {d a b x1 x2 x3 x4 e : Addr × Obj} {rest : CbLed} (N : News g L h (d :: a :: b :: x1 :: x2 :: x3 :: x4 :: e :: rest)) : News g L h (d :: ([b, e] ++ rest)) := fun p hp => N p (by
  simp only [List.mem_cons, List.cons_append, List.nil_append] at hp; rcases hp with h | h | h | h <;> (first | ((try rw [h]); (repeat first | exact List.mem_cons_self .. | exact h | exact List.mem_append_left _ h | refine List.mem_append_right _ ?_ | refine List.mem_cons_of_mem _ ?_); done) | simp [h]))
theorem tab_end4 {g h : Heap} {L : Addr} {d a x1 x2 x3 x4 : Addr × Obj} {rest : CbLed} (N : News g L h (d :: a :: x1 :: x2 :: x3 :: x4 :: rest)) : News g L h (d :: rest) := fun p hp => N p (by
  simp only [List.mem_cons] at hp; rcases hp with h | h <;> (first | ((try rw [h]); (repeat first | exact List.mem_cons_self .. | exact h | exact List.mem_append_left _ h | refine List.mem_append_right _ ?_ | refine List.mem_cons_of_mem _ ?_); done) | simp [h]))
theorem viaKey3 {w : World} {mean : ExcName → Option Value} {mg mb : Str → Option Value} {A : Around} {f L D : Addr} {LL rest : CbLed} {g : Heap} {us : List Value} {vs : List Value} {e : Nat} {Q E : Value → Shared → Prop} {s : Shared} (n : Int) (k : Nat) (_N : News g L s.heap LL)
    (sw : News g L s.heap LL → News g L s.heap ((D, W.listOf vs.toArray e) :: rest)) (N : News g L s.heap LL)
    (h1 : ∀ kk, In3H w mean mg mb f D rest n kk) (h2 : In3H w mean mg mb f D rest n k → News g L s.heap ((D, W.listOf vs.toArray e) :: rest) → wpAny (model prog w) A (call (.ref f) us) Q E s) : wpAny (model prog w) A (call (.ref f) us) Q E s := h2 (h1 k) (sw N)
theorem lt_cnt {x : Int} {n i j : Nat} (h : x < 2 ^ (n * i)) (e : i = j) : x < 2 ^ (n * j) := e ▸ h
theorem mulk {n a b c : Int} (e : a = b) (h : n * b ≤ c) : n * a ≤ c := e ▸ h
theorem put_fin {n x : Int} {ns : List Int} {N : Nat} (e : ns.length = N) : put n ns x 0 (N : Int) = digs n x N := by subst e; exact put_all
theorem nil_fin {n : Int} {ds : List Int} (h : ds.length = 0) : Digs n ds ∧ val n ds = 0 := by
  k_with_none
  k_with "OM" => lia
  have := List.eq_nil_of_length_eq_zero h; subst this; exact ⟨fun _ h => absurd h List.not_mem_nil, rfl⟩
/-- what the two inner calls want and give -/
theorem halves2 {n x Lo M Hi : Int} {ns : List Int} (hn : 0 < n) (h0 : 0 ≤ Lo) (h1 : Lo ≤ M) (h2 : M ≤ Hi) (h3 : Hi ≤ ns.length) (hx0 : 0 ≤ x) (hx1 : x < 2 ^ (n.toNat * (Hi - Lo).toNat)) (hb : n * ns.length ≤ 16777216) :
    (0 ≤ (M - Lo) * n) ∧ ((Builtin.Int.intBits (x.fdiv (2 ^ ((M - Lo) * n).toNat)) : Int) + (M - Lo) * n ≤ 2 ^ 27) ∧
    (0 ≤ Builtin.bitXor x (x.fdiv (2 ^ ((M - Lo) * n).toNat) * 2 ^ ((M - Lo) * n).toNat) ∧ Builtin.bitXor x (x.fdiv (2 ^ ((M - Lo) * n).toNat) * 2 ^ ((M - Lo) * n).toNat) < 2 ^ (n.toNat * (M - Lo).toNat)) ∧
    (0 ≤ x.fdiv (2 ^ ((M - Lo) * n).toNat) ∧ x.fdiv (2 ^ ((M - Lo) * n).toNat) < 2 ^ (n.toNat * (Hi - M).toNat)) ∧
    put n (put n ns (Builtin.bitXor x (x.fdiv (2 ^ ((M - Lo) * n).toNat) * 2 ^ ((M - Lo) * n).toNat)) Lo M) (x.fdiv (2 ^ ((M - Lo) * n).toNat)) M Hi = put n ns x Lo Hi ∧
    (put n ns (Builtin.bitXor x (x.fdiv (2 ^ ((M - Lo) * n).toNat) * 2 ^ ((M - Lo) * n).toNat)) Lo M).length = ns.length := by
  have hv := halves hn h1 h2 hx0 hx1
  have hW := pow_pos2 ((M - Lo) * n).toNat
  have e1 : x.fdiv (2 ^ ((M - Lo) * n).toNat) = x / 2 ^ (n.toNat * (M - Lo).toNat) := by rw [Int.fdiv_eq_ediv_of_nonneg _ (Int.le_of_lt hW), hv.1]
  have e2 := xor_low (k := ((M - Lo) * n).toNat) hx0
  rw [e2, e1, hv.1]
  have hs : 0 ≤ (M - Lo) * n := Int.mul_nonneg (by lia) (by lia)
  refine ⟨hs, ?_, ⟨hv.2.1, hv.2.2.1⟩, ⟨hv.2.2.2.1, hv.2.2.2.2⟩, put_two h0 h1 h2 h3 hx0, put_len h0 h1 (by lia)⟩
  · refine sh_ok hv.2.2.2.1 hv.2.2.2.2 ?_
    have e3 : ((n.toNat * (Hi - M).toNat : Nat) : Int) = n * (Hi - M) := by
      rw [Int.natCast_mul, Int.toNat_of_nonneg (Int.le_of_lt hn), Int.toNat_of_nonneg (by lia)]
    rw [e3]
    have h4 : n * (Hi - M) + (M - Lo) * n = n * (Hi - Lo) := by grind
    have h5 : n * (Hi - Lo) ≤ n * ns.length := Int.mul_le_mul_of_nonneg_left (by lia) (by lia)
    lia
/-- a list of digits is handed back -/
noncomputable abbrev ConTabL (w : World) (mean : ExcName → Option Value) (mg mb : Str → Option Value) (f P : Addr) (ln co : Nat) (qual : Str) (rest : CbLed) (d u : Nat) (pre : Prop) (vs : List Value) (n x : Int) (k : Int) : Prop :=
  ∀ (dp un : Nat) (gd : Option (List Code)) (cn : Str) (cs : Scope) (a : Addr) (ccd : Value) (cl : List (Str × Addr)) (outer : List Env) (A₀ : Around) (base h₀ : Heap) (L : Addr) (m : Str → Option Value) (s : Shared) (Q E : Value → Shared → Prop) (T : CbLed),
    TabSt P ln co qual T → PyProof.Rows.Below A₀ base outer h₀ → Fr h₀ L s.heap m → (KL w.params).In h₀ → News h₀ L s.heap (T ++ rest) → Top qv looseN mean mg mb h₀ → cs.kind = .function →
    pre → dp + d < recursionLimit → un + u < cLine →
    (∀ (b : Addr) (us : List Value) (ds : List Int) (e : Nat) (h' : Heap) (tk' : Nat) (T' : CbLed), TabSt P ln co qual T' → IntsAre us ds → Digs n ds → val n ds = x → (ds.length : Int) = k → Fr h₀ L h' m → News h₀ L h' ((b, W.listOf us.toArray e) :: (T' ++ rest)) → (∀ p ∈ rest, p.1 < b) → Q (.ref b) { s with heap := h', toks := tk' }) →
      wpAny (model prog w) (ktrTop dp un gd cn cs L a ccd cl outer) (call (.ref f) vs) Q E s




theorem i2d_inner (w : World) (mean : ExcName → Option Value) (mg mb : Str → Option Value) {n : Int} {k2 : Tok} {L' f C D l : Addr} {oc oI oA oN oX : Obj} {vs : Array Value} {t : Tok} {dc nm ct : Value} {qual : Str} {R : CbLed}
    {g : Heap} (hC : CodeHd g 62 58) (hn0 : 0 < n) (hn1 : n ≤ 4194304) (d1 : oc.data = Data.fields vs) (d2 : vs[1]? = some (.str qual t)) (dI : oI.data = .cell (some (.ref f))) (dA : oA.data = .cell (some (.ref D))) (dN : oN.data = .cell (some (.int n k2)))
    (q1 : @LT.lt Nat _ D f) (q2 : @Ne Nat D C) (q3 : @LT.lt Nat _ l D) (q4 : @LT.lt Nat _ (L' + 1 + 1 + 1) D) (q5 : @LT.lt Nat _ (L' + 1 + 1) D) (q6 : @LT.lt Nat _ (L' + 1) D) (hR : Low D R) : PySem.Challenge.rw_uc0065_01 = PySem.Challenge.rw_uc0065_01 → KL = KL → ∀ kk, In3H w mean mg mb f D ((f, madeOf fb6[1]? qual [(Str.ofString "n", L' + 1), (Str.ofString "inner", L' + 1 + 1 + 1), (Str.ofString "a_digits", L' + 1 + 1)] dc nm C ct) :: (C, oc) :: (l, oX) :: (L' + 1 + 1 + 1, oI) :: (L' + 1 + 1, oA) :: (L' + 1, oN) :: R) n kk := by
  k_with_none
  k_with "KA" => first | (with_reducible assumption) | exact Low.ne ‹Low _ _› (by lia)
  k_with "OM" => lia
  k_with "eval BinOp" => (k_here; (first | (with_reducible show wpAny _ _ (eval (PySem.Expr.BinOp (PySem.Expr.Name _ _) _ _ _) _) _ _ _) | (with_reducible show wpAny _ _ (eval (PySem.Expr.BinOp (PySem.Expr.Constant _ _ _) _ _ _) _) _ _ _) | (with_reducible show wpAny _ _ (eval (PySem.Expr.BinOp (PySem.Expr.BinOp (PySem.Expr.Name _ _) _ _ _) _ _ _) _) _ _ _)); (first | (with_reducible show wpAny _ _ (eval (PySem.Expr.BinOp _ _ (PySem.Expr.Name _ _) _) _) _ _ _) | (with_reducible show wpAny _ _ (eval (PySem.Expr.BinOp _ _ (PySem.Expr.Constant _ _ _) _) _) _ _ _)); k_dflt (first | (refine' valS ?svF ?svk ?svS ?_; (case svF => k_asm); (case svk => rfl); (case svS => walk_at "SV"); k_whole) | (refine' binS ?svF ?svk ?svS ?svU ?_; (case svF => k_asm); (case svk => rfl); (case svS => walk_at "SV"); (case svU => walk_at "SV"); k_whole)))
  k_with "isTrue Compare" => (k_here; (first | (with_reducible show wpAny _ _ (PySem.isTrue (PySem.Expr.Compare (PySem.Expr.Name _ _) _ _ _) _ _) _ _ _) | (with_reducible show wpAny _ _ (PySem.isTrue (PySem.Expr.Compare (PySem.Expr.Constant _ _ _) _ _ _) _ _) _ _ _) | (with_reducible show wpAny _ _ (PySem.isTrue (PySem.Expr.Compare (PySem.Expr.BinOp (PySem.Expr.Name _ _) _ _ _) _ _ _) _ _) _ _ _)); (first | (with_reducible show wpAny _ _ (PySem.isTrue (PySem.Expr.Compare _ _ [(PySem.Expr.Name _ _)] _) _ _) _ _ _) | (with_reducible show wpAny _ _ (PySem.isTrue (PySem.Expr.Compare _ _ [(PySem.Expr.Constant _ _ _)] _) _ _) _ _ _) | (with_reducible show wpAny _ _ (PySem.isTrue (PySem.Expr.Compare _ _ [(PySem.Expr.BinOp (PySem.Expr.Name _ _) _ _ _)] _) _ _) _ _ _)); k_dflt (refine' cmpS ?svF ?svk ?svS ?svU ?_ ?svh; (case svF => k_asm); (case svk => rfl); (case svS => walk_at "SV"); (case svU => walk_at "SV"); (case svh => with_unfolding_all rfl); k_whole))
  k_with "storeName" => (k_here; k_dflt (refine' storeLF ?F ?N ?_ ?a ?b; (case F => k_asm); (case N => k_asm); (case a => rfl); (case b => rfl); k_whole; intro _ _ _ _; (try k_sweep)))
  k_with "execs cons" => (k_here; (with_reducible refine wpAny_execs_cons ?_); k_fold)
  k_with "execs cons" => (k_here; (with_reducible show wpAny _ _ _ _ _ (Shared.mk _ _ _ (_ + 1 + 1) _)); refine gentok ?_; intro _; (with_reducible refine wpAny_execs_cons ?_); (try dsimp only); (try k_fold))
  k_with "execs nil" => (k_here; (with_reducible show wpAny _ _ _ _ _ (Shared.mk _ _ _ (_ + 1 + 1) _)); refine gentok ?_; intro _; (with_reducible refine wpAny_execs_nil ?_); try dsimp only)
  k_with "binaryOp Mult ref int" => (k_here; (refine KM.mul (by k_asm) (by k_asm) (by is_list) (by l_ints) (by lia) (by lia) (by simp only [List.length_cons, List.length_nil]; lia) ?_); (intro _ _ _ _ l1 _ _ _ _ e2 e3); (try k_lt l1); (try simp only [List.length_cons, List.length_nil] at e3); (have e4 := e3 (by lia)); (clear e2 e3))
  k_with "binaryOp FloorDiv int int" => (k_here; refine floordiv_1 (by simp; lia) (by rw [Bool.not_eq_true]; exact PyProof.noPylong_small (by lia)) ?_)
  k_with "binaryOp Mult int int" => (k_here; refine mul_int ?_ (mul64 (by lia) (by lia) (by lia) (by lia)))
  k_with "binaryOp RShift int int" => (k_here; refine rshift_int (by first | assumption | lia) ?_)
  k_with "binaryOp LShift int int" => (k_here; refine lshift_int (by assumption) (by assumption) ?_)
  k_with "call ref" => (k_here; (with_reducible show wpAny _ _ (call (Value.ref _) [Value.int _ _, Value.int _ _, Value.int _ _]) _ _ _); k_dflt (refine' In3H.use ‹In3H _ _ _ _ _ _ _ _ _› ?k1 ?k2 ?k3 ?k4 ?k5 ?kK ?ki ?kp ?kx ?kd ?ku ?_); (case k1 => k_asm); (case k2 => k_asm); (case k3 => k_asm); (case k4 => k_asm); (case k5 => k_asm); (case kK => first | exact rfl | assumption); (case ki => with_reducible assumption); (case kp => refine ⟨?_, ?_, ?_, ?_, ?_, ?_⟩ <;> first | lia | (refine mulk ?_ ‹_ * ((List.length _ : Nat) : Int) ≤ 16777216›; lia)); (case kx => assumption); (case kd => ktr_room); (case ku => ktr_units); (intro _ _ _ _ _ _ _); (try dsimp only); (try k_fold))
  k_fill
  intro hrow hKL; clear hrow hKL
  have h0 : In3H w mean mg mb f D ((f, madeOf fb6[1]? qual [(Str.ofString "n", L' + 1), (Str.ofString "inner", L' + 1 + 1 + 1), (Str.ofString "a_digits", L' + 1 + 1)] dc nm C ct) :: (C, oc) :: (l, oX) :: (L' + 1 + 1 + 1, oI) :: (L' + 1 + 1, oA) :: (L' + 1, oN) :: R) n 0 := by
    show In3H w mean mg mb f D ((f, fnMade _ _ _ _ _ _ _ _ _ _) :: (C, oc) :: (l, oX) :: (L' + 1 + 1 + 1, oI) :: (L' + 1 + 1, oA) :: (L' + 1, oN) :: R) n 0
    intro x Lo Hi tx tl th; intros; rename_i hi8 hp8 hx8 hd8 hu8 hret8
    obtain ⟨q0, q1, q2, q3, q5, q6⟩ := hp8
    have q4 : Lo + 1 = Hi := by lia
    have q4b : (Lo + 1 == Hi) = true := beq_iff_eq.mpr q4
    refine wpAny_call ?_
    k_dflt (refine' code_nest ?k1 ?k2 ?k3 ?k4 ?k5 ?kA ?kF ?kK ?k6 ?k7 ?k8 ?k9 ?kB ?_ ?c2 ?c3 ?c4 ?c5; (case kA => exact rfl); (case kF => exact rfl); (case kK => assumption); (case k1 => k_asm); (case k2 => k_asm); (case k3 => k_asm); (case k4 => k_asm); (case k5 => k_asm); (case k6 => k_mem); (case k7 => exact codeRec_news (by k_asm) (by k_mem) (by assumption) (by assumption)); (case k8 => ktr_room); (case k9 => exact BindsTo.of_eq rfl); (case c5 => decide); (case kB => exact locs rfl); (case c2 => exact rfl); (case c3 => exact rfl); (case c4 => exact rfl); k_whole; intro g9 L9 h9 FG9 F9 N9 B9 X9 T9; (try dsimp only); (try k_lift B9); (try k_fold))
    k_steps
    all_goals first
      | (exfalso; lia)
      | exact hret8 _ _ _ _ (by rw [← put_one q0 q4 q2 hx8.1 hx8.2]; assumption) (by assumption) (by assumption)
  show ∀ kk, In3H w mean mg mb f D ((f, fnMade _ _ _ _ _ _ _ _ _ _) :: (C, oc) :: (l, oX) :: (L' + 1 + 1 + 1, oI) :: (L' + 1 + 1, oA) :: (L' + 1, oN) :: R) n kk
  intro kk
  induction kk with
  | zero => exact h0
  | succ kk ih =>
    intro x Lo Hi tx tl th; intros; rename_i hi8 hp8 hx8 hd8 hu8 hret8
    obtain ⟨q0, q1, q2, q3, q5, q6⟩ := hp8
    rw [Int.pow_succ] at q3
    by_cases q4 : Lo + 1 = Hi
    · exact h0 x Lo Hi tx tl th _ _ _ _ _ _ _ _ _ _ _ _ _ _ _ _ _ _ _ _ (by assumption) (by assumption) (by assumption) (by assumption) (by assumption) (by assumption) hi8 ⟨q0, q1, q2, by lia, q5, q6⟩ hx8 (by lia) (by lia) hret8
    · have q4b : (Lo + 1 == Hi) = false := beq_eq_false_iff_ne.mpr q4
      have hm := mid_of (show Lo + 2 ≤ Hi by lia)
      obtain ⟨hv1, hv2, hv3, hv4, hv5, hv6⟩ := halves2 (M := (Lo + Hi).fdiv (2 ^ Int.toNat 1)) hn0 q0 (by lia) (by lia) q2 hx8.1 hx8.2 q5
      refine wpAny_call ?_
      k_dflt (refine' code_nest ?k1 ?k2 ?k3 ?k4 ?k5 ?kA ?kF ?kK ?k6 ?k7 ?k8 ?k9 ?kB ?_ ?c2 ?c3 ?c4 ?c5; (case kA => exact rfl); (case kF => exact rfl); (case kK => assumption); (case k1 => k_asm); (case k2 => k_asm); (case k3 => k_asm); (case k4 => k_asm); (case k5 => k_asm); (case k6 => k_mem); (case k7 => exact codeRec_news (by k_asm) (by k_mem) (by assumption) (by assumption)); (case k8 => ktr_room); (case k9 => exact BindsTo.of_eq rfl); (case c5 => decide); (case kB => exact locs rfl); (case c2 => exact rfl); (case c3 => exact rfl); (case c4 => exact rfl); k_whole; intro g9 L9 h9 FG9 F9 N9 B9 X9 T9; (try dsimp only); (try k_lift B9); (try k_fold))
      k_steps
      all_goals first
        | (exfalso; lia)
        | exact hret8 _ _ _ _ (by rw [← hv5]; assumption) (by assumption) (by assumption)
theorem c_i2d (w : World) (mean : ExcName → Option Value) (mg mb : Str → Option Value) (news : CbLed) (hT : ∀ p ∈ news, p.1 ≠ 58) (av n : Int) (k1 k2 : Tok) :
   ConTabL w mean mg mb 63 58 78 4 (z "_int2digits.<locals>.inner") (news) 30 300 (0 ≤ av ∧ 0 < n ∧ n ≤ 4194304 ∧ ((bl av : Int) + n - 1).fdiv n ≤ 1000000 ∧ (bl av : Int) ≤ 12000000) [.int av k1, .int n k2] (n) (av) (((bl av : Int) + n - 1).fdiv n) := by
  suffices hfill : PySem.Challenge.rw_uc0065_01 = PySem.Challenge.rw_uc0065_01 → KL = KL → ConTabL w mean mg mb 63 58 78 4 (z "_int2digits.<locals>.inner") (news) 30 300 (0 ≤ av ∧ 0 < n ∧ n ≤ 4194304 ∧ ((bl av : Int) + n - 1).fdiv n ≤ 1000000 ∧ (bl av : Int) ≤ 12000000) [.int av k1, .int n k2] (n) (av) (((bl av : Int) + n - 1).fdiv n) from hfill rfl rfl
  k_fill
  intro hrow hKL; clear hrow hKL
  unfold ConTabL; intro dp un gd cn cs a ccd cl outer A₀ base h₀ L m s Q E T hTS hB9 hF9 hX9 hN9 hTop9 hk9 hp9 hd9 hu9 hret
  obtain ⟨ha0, hn0, hn1, hab, hbb⟩ := hp9
  rcases hTS with hTS | ⟨c8, oc8, vs8, t8, hTS, e81, e82, e83⟩
  · subst hTS
    simp only [List.cons_append, List.nil_append] at hN9
    refine wpAny_call ?_
    k_dflt (refine' code_defC ?k1 ?k2 ?k3 ?k4 ?k5 ?kA ?kF ?kK ?k6 ?k7 ?k8 ?k9 ?kB ?kD ?_ ?c2 ?c3 ?c4; (case kA => exact rfl); (case kF => exact rfl); (case kK => assumption); (case k1 => k_asm); (case k2 => k_asm); (case k3 => k_asm); (case k4 => k_asm); (case k5 => k_asm); (case k6 => k_is); (case k7 => k_is); (case k8 => ktr_room); (case k9 => exact BindsTo.of_eq rfl); (case kB => exact rfl); (case kD => decide +kernel); (case c2 => exact rfl); (case c3 => exact rfl); (case c4 => exact rfl); k_whole; intro g' L' h' tk' cells' FG' F' N' Y' B' X' T' l1; (try k_lt l1); k_cells Y'; (try simp only [List.cons_append, List.nil_append] at N'); (try dsimp only); (try k_lift B'); (try k_fold))
    have hC := codeHd_of_K (c := 62) (P := 58) X' rfl
    have hLow : Low _ news := allLt_all _ (And.right l1)
    have hc9 := cnt (a := av) hn0
    have hk1 := lt_pow_cnt ha0 hn0
    simp only [bl] at hbb hab hc9 hk1
    have hp9 : ∀ _ : Unit, av ≠ 0 → 1 ≤ ((Builtin.Int.intBits av : Int) + n - 1).fdiv n := fun _ h => hc9.2.2.2.1 (bl_pos (by lia))
    have hz9 : ∀ _ : Unit, av = 0 → ((Builtin.Int.intBits av : Int) + n - 1).fdiv n = 0 := fun _ h => hc9.2.2.2.2 (by subst h; rfl)
    obtain ⟨hq0, hq1, hq2, -, -⟩ := hc9
    k_steps
    · have h1q := hp9 () (by assumption)
      refine viaKey3 (mean := mean) (mg := mg) (mb := mb) n 20 (by k_asm) swapD2 (by k_asm) ?_ ?_
      · exact i2d_inner w mean mg mb hC hn0 hn1 (by assumption) (by assumption) (by assumption) (by assumption) (by assumption) (by lia) (by lia) (by lia) (by lia) (by lia) (by lia) (low_up hLow (by lia) (by lia)) rfl rfl
      · intro key2 N2
        k_dflt (refine' In3H.use key2 ?k1 ?k2 ?k3 N2 ?k5 ?kK ?ki ?kp ?kx ?kd ?ku ?_)
        case k1 => k_asm
        case k2 => k_asm
        case k3 => k_asm
        case k5 => k_asm
        case kK => first | exact rfl | assumption
        case ki => with_reducible assumption
        case kp => exact ⟨by lia, by lia, by lia, by lia, mulk (b := ((Builtin.Int.intBits av : Int) + n - 1).fdiv n) (by lia) (by lia), by lia⟩
        case kx => exact ⟨ha0, lt_cnt hk1 (by lia)⟩
        case kd => ktr_room
        case ku => ktr_units
        intro vs9 e9 h9 tk9 i9 F9 N9
        try dsimp only
        try k_fold
        k_steps
        refine' hret _ _ _ _ _ _ [_, _] (.inr ⟨_, _, _, _, rfl, ?e1, ?e2, ?e3⟩) ?i1 (digs_digs n av _) (val_digs n _ av ha0 (lt_cnt hk1 ?i2)) ?i3 ?zF ?zN ?zl
        case i1 =>
          rw [put_fin] at i9
          · exact i9
          · assumption
        case zN => exact tab_end3 (by assumption)
        case zF => assumption
        case i2 => lia
        case i3 => rw [digs_len]; show _ = ((Builtin.Int.intBits av : Int) + n - 1).fdiv n; lia
        case e1 => assumption
        case e2 => assumption
        case e3 => lia
        case zl => first | assumption | exact allLt_all _ (by assumption) | exact allLt_all _ (And.right (by assumption)) | exact allLt_all _ (And.right (And.right (by assumption))) | exact allLt_all _ (And.right (And.right (And.right (by assumption)))) | exact allLt_all _ (And.right (And.right (And.right (And.right (by assumption))))) | exact allLt_all _ (And.right (And.right (And.right (And.right (And.right (by assumption)))))) | exact allLt_all _ (And.right (And.right (And.right (And.right (And.right (And.right (by assumption))))))) | exact allLt_all _ (And.right (And.right (And.right (And.right (And.right (And.right (And.right (by assumption)))))))) | exact allLt_all _ (And.right (And.right (And.right (And.right (And.right (And.right (And.right (And.right (by assumption))))))))) | exact allLt_all _ (And.right (And.right (And.right (And.right (And.right (And.right (And.right (And.right (And.right (by assumption))))))))))
    · have hb0 := hz9 () (by assumption)
      refine' hret _ _ _ _ _ _ [_, _] (.inr ⟨_, _, _, _, rfl, ?e1, ?e2, ?e3⟩) ?i1 (nil_fin ?i2).1 ?i4 ?i3 ?zF ?zN ?zl
      case zN => exact tab_end3 (swapD2 (by assumption))
      case zF => assumption
      case i1 => with_reducible assumption
      case i2 => lia
      case i3 => show _ = ((Builtin.Int.intBits av : Int) + n - 1).fdiv n; lia
      case i4 => rw [(nil_fin (by lia)).2]; lia
      case e1 => assumption
      case e2 => assumption
      case e3 => lia
      case zl => first | assumption | exact allLt_all _ (by assumption) | exact allLt_all _ (And.right (by assumption)) | exact allLt_all _ (And.right (And.right (by assumption))) | exact allLt_all _ (And.right (And.right (And.right (by assumption)))) | exact allLt_all _ (And.right (And.right (And.right (And.right (by assumption))))) | exact allLt_all _ (And.right (And.right (And.right (And.right (And.right (by assumption)))))) | exact allLt_all _ (And.right (And.right (And.right (And.right (And.right (And.right (by assumption))))))) | exact allLt_all _ (And.right (And.right (And.right (And.right (And.right (And.right (And.right (by assumption)))))))) | exact allLt_all _ (And.right (And.right (And.right (And.right (And.right (And.right (And.right (And.right (by assumption))))))))) | exact allLt_all _ (And.right (And.right (And.right (And.right (And.right (And.right (And.right (And.right (And.right (by assumption))))))))))
  · subst hTS
    simp only [List.cons_append, List.nil_append] at hN9
    refine wpAny_call ?_
    k_dflt (refine' code_defC ?k1 ?k2 ?k3 ?k4 ?k5 ?kA ?kF ?kK ?k6 ?k7 ?k8 ?k9 ?kB ?kD ?_ ?c2 ?c3 ?c4; (case kA => exact rfl); (case kF => exact rfl); (case kK => assumption); (case k1 => k_asm); (case k2 => k_asm); (case k3 => k_asm); (case k4 => k_asm); (case k5 => k_asm); (case k6 => k_is); (case k7 => k_is); (case k8 => ktr_room); (case k9 => exact BindsTo.of_eq rfl); (case kB => exact rfl); (case kD => decide +kernel); (case c2 => exact rfl); (case c3 => exact rfl); (case c4 => exact rfl); k_whole; intro g' L' h' tk' cells' FG' F' N' Y' B' X' T' l1; (try k_lt l1); k_cells Y'; (try simp only [List.cons_append, List.nil_append] at N'); (try dsimp only); (try k_lift B'); (try k_fold))
    have hC := codeHd_of_K (c := 62) (P := 58) X' rfl
    have hLow : Low _ news := allLt_all _ (And.right (And.right l1))
    have hc9 := cnt (a := av) hn0
    have hk1 := lt_pow_cnt ha0 hn0
    simp only [bl] at hbb hab hc9 hk1
    have hp9 : ∀ _ : Unit, av ≠ 0 → 1 ≤ ((Builtin.Int.intBits av : Int) + n - 1).fdiv n := fun _ h => hc9.2.2.2.1 (bl_pos (by lia))
    have hz9 : ∀ _ : Unit, av = 0 → ((Builtin.Int.intBits av : Int) + n - 1).fdiv n = 0 := fun _ h => hc9.2.2.2.2 (by subst h; rfl)
    obtain ⟨hq0, hq1, hq2, -, -⟩ := hc9
    k_steps
    · have h1q := hp9 () (by assumption)
      refine viaKey3 (mean := mean) (mg := mg) (mb := mb) n 20 (by k_asm) swapD1 (by k_asm) ?_ ?_
      · exact i2d_inner w mean mg mb hC hn0 hn1 (by assumption) (by assumption) (by assumption) (by assumption) (by assumption) (by lia) (by lia) (by lia) (by lia) (by lia) (by lia) (low_up hLow (by lia) (by lia)) rfl rfl
      · intro key2 N2
        k_dflt (refine' In3H.use key2 ?k1 ?k2 ?k3 N2 ?k5 ?kK ?ki ?kp ?kx ?kd ?ku ?_)
        case k1 => k_asm
        case k2 => k_asm
        case k3 => k_asm
        case k5 => k_asm
        case kK => first | exact rfl | assumption
        case ki => with_reducible assumption
        case kp => exact ⟨by lia, by lia, by lia, by lia, mulk (b := ((Builtin.Int.intBits av : Int) + n - 1).fdiv n) (by lia) (by lia), by lia⟩
        case kx => exact ⟨ha0, lt_cnt hk1 (by lia)⟩
        case kd => ktr_room
        case ku => ktr_units
        intro vs9 e9 h9 tk9 i9 F9 N9
        try dsimp only
        try k_fold
        k_steps
        refine' hret _ _ _ _ _ _ [_, _] (.inr ⟨_, _, _, _, rfl, e81, e82, e83⟩) ?i1 (digs_digs n av _) (val_digs n _ av ha0 (lt_cnt hk1 ?i2)) ?i3 ?zF ?zN ?zl
        case i1 =>
          rw [put_fin] at i9
          · exact i9
          · assumption
        case zN => exact tab_end3 (by assumption)
        case zF => assumption
        case i2 => lia
        case i3 => rw [digs_len]; show _ = ((Builtin.Int.intBits av : Int) + n - 1).fdiv n; lia
        case zl => first | assumption | exact allLt_all _ (by assumption) | exact allLt_all _ (And.right (by assumption)) | exact allLt_all _ (And.right (And.right (by assumption))) | exact allLt_all _ (And.right (And.right (And.right (by assumption)))) | exact allLt_all _ (And.right (And.right (And.right (And.right (by assumption))))) | exact allLt_all _ (And.right (And.right (And.right (And.right (And.right (by assumption)))))) | exact allLt_all _ (And.right (And.right (And.right (And.right (And.right (And.right (by assumption))))))) | exact allLt_all _ (And.right (And.right (And.right (And.right (And.right (And.right (And.right (by assumption)))))))) | exact allLt_all _ (And.right (And.right (And.right (And.right (And.right (And.right (And.right (And.right (by assumption))))))))) | exact allLt_all _ (And.right (And.right (And.right (And.right (And.right (And.right (And.right (And.right (And.right (by assumption))))))))))
    · have hb0 := hz9 () (by assumption)
      refine' hret _ _ _ _ _ _ [_, _] (.inr ⟨_, _, _, _, rfl, e81, e82, e83⟩) ?i1 (nil_fin ?i2).1 ?i4 ?i3 ?zF ?zN ?zl
      case zN => exact tab_end3 (swapD1 (by assumption))
      case zF => assumption
      case i1 => with_reducible assumption
      case i2 => lia
      case i3 => show _ = ((Builtin.Int.intBits av : Int) + n - 1).fdiv n; lia
      case i4 => rw [(nil_fin (by lia)).2]; lia
      case zl => first | assumption | exact allLt_all _ (by assumption) | exact allLt_all _ (And.right (by assumption)) | exact allLt_all _ (And.right (And.right (by assumption))) | exact allLt_all _ (And.right (And.right (And.right (by assumption)))) | exact allLt_all _ (And.right (And.right (And.right (And.right (by assumption))))) | exact allLt_all _ (And.right (And.right (And.right (And.right (And.right (by assumption)))))) | exact allLt_all _ (And.right (And.right (And.right (And.right (And.right (And.right (by assumption))))))) | exact allLt_all _ (And.right (And.right (And.right (And.right (And.right (And.right (And.right (by assumption)))))))) | exact allLt_all _ (And.right (And.right (And.right (And.right (And.right (And.right (And.right (And.right (by assumption))))))))) | exact allLt_all _ (And.right (And.right (And.right (And.right (And.right (And.right (And.right (And.right (And.right (by assumption))))))))))

end Mine
open PyProof.Rows in

end
-- KR
section
open PySem PySem.W PySem.Spec PySem.Calls PyProof.Rows PyProof.V
set_option Elab.async false
set_option maxRecDepth 100000
set_option maxHeartbeats 400000
namespace Mine
theorem ints_at : ∀ {vs : List Value} {ns : List Int}, IntsAre vs ns → ∀ (i : Nat) (v : Value), vs[i]? = some v → ∃ n t, v = .int n t ∧ ns[i]? = some n
  | _, _, .nil, i, v, h => by simp at h
  | _, _, .cons n t _, 0, v, h => ⟨n, t, by simpa using h.symm, rfl⟩
  | _, _, .cons _ _ r, i + 1, v, h => ints_at r i v h
/-- a for over a list turned round, with an invariant -/
theorem kst_rev {prog : Program} {w : World} {A : Around} {E : Value → Shared → Prop} {s : Shared} {env : Env} {h₀ : Heap} {x : Str} {body : List Stmt} {Q : Flow → Shared → Prop}
    {σ : Type} {I l : Addr} {vs : List Value} {ns : List Int} {nn : Nat} {m₀ : Str → Option Value} (Led : σ → List (Addr × Obj)) (ps : σ → List (Str × Value)) (Facts : σ → Prop) (stored : List Str) (P : List Int → σ → Prop) (c₀ : σ)
    (hh : A.handled = none) (hi : IntsAre vs ns) (F : Fr h₀ env.locals s.heap m₀) (N : News h₀ env.locals s.heap ((I, revObj l ((vs.length : Int) - 1)) :: (l, listOf vs.toArray nn) :: Led c₀)) (hne : l ≠ I) (hoffI : ∀ q ∈ Led c₀, q.1 ≠ I) (hoffl : ∀ q ∈ Led c₀, q.1 ≠ l) (hf : Facts c₀) (hk : ∀ p ∈ ps c₀, m₀ p.1 = some p.2) (hp : P [] c₀)
    (turn : ∀ (c : σ) pre post n t (u : Str → Option Value) h tk own, ns.reverse = pre ++ n :: post → OwnOff own ((Led c₀).map (·.1)) → Facts c → P pre c →
      Fr h₀ env.locals h (fun y => if y = x then some (.int n t) else kstB (fun z => if stored.contains z then u z else m₀ z) (ps c) y) → News h₀ env.locals h (Led c ++ own) →
      wpAny (model prog w) A (execs body env) (InvPostN h₀ env.locals (KstS Led ps Facts x stored m₀ P (pre ++ [n])) own ((Led c₀).map (·.1)) { s with heap := h, toks := tk } Q) E { s with heap := h, toks := tk })
    (done : ∀ (c : σ) (u : Str → Option Value) h tk, Facts c → P ns.reverse c → Fr h₀ env.locals h (fun y => if y = x then u y else kstB (fun z => if stored.contains z then u z else m₀ z) (ps c) y) → News h₀ env.locals h (Led c) → Q .next { s with heap := h, toks := tk }) :
    wpAny (model prog w) A (pyIter (.ref I)) (fun it s₂ => LoopAtV prog w A h₀ env x body Q E it s₂) E s := by
  k_with_none
  have NI := N _ (List.mem_cons_self ..)
  have Nl := N _ (List.mem_cons_of_mem _ (List.mem_cons_self ..))
  have hri : s.heap.IsRevIter I l ((vs.length : Int) - 1) := ⟨_, NI.1, rfl, rfl⟩
  have hls : s.heap.IsList l vs.toArray := ⟨_, Nl.1, rfl, nn, rfl⟩
  refine wpAny_pyIter_revIter hri ?_
  have W := Walks.listRev (prog := prog) (w := w) hh I l hne vs.toArray
  have hlen : vs.toArray.size = ns.length := by simp [hi.length]
  have hlen2 : (vs.length : Int) = ns.length := by rw [hi.length]
  rw [hlen] at W
  refine loop_invN (fun i m nx => KstS Led ps Facts x stored m₀ P (ns.reverse.take i) m nx) W ?_ ?_ ?_ ?_ ⟨Nat.zero_le _, by simpa [hlen2] using hri, hls⟩ F (fun p hp => N p (List.mem_cons_of_mem _ (List.mem_cons_of_mem _ hp))) ⟨c₀, rfl, hf, hk, fun _ _ _ _ => rfl, by simpa using hp⟩ ?_ ?_
  · intro hm
    rcases List.mem_cons.mp hm with e | hm
    · exact NI.2.1 e.symm
    · exact Nl.2.1 (List.mem_singleton.mp hm).symm
  · intro b hb
    rw [List.mem_singleton.mp hb]
    exact NI.2.2
  · intro p hp hI
    exact hoffI p hp (List.mem_singleton.mp hI)
  · intro p hp hI
    rcases List.mem_cons.mp hI with e | hm
    · exact hoffI p hp e
    · exact hoffl p hp (List.mem_singleton.mp hm)
  · rintro i v m₁ nx h tk own hin hP hadr hoff ⟨c, rfl, hf', h1, h2, hp'⟩ F₁ N₁
    have hP' : vs[ns.length - 1 - i]? = some v := by simpa using hP
    obtain ⟨n, t, rfl, hn⟩ := ints_at hi _ _ hP'
    have hr : ns.reverse[i]? = some n := by rw [List.getElem?_reverse hin]; exact hn
    have hs : ns.reverse.take (i + 1) = ns.reverse.take i ++ [n] := by simp [List.take_add_one, hr]
    have e : ns.reverse = ns.reverse.take i ++ n :: ns.reverse.drop (i + 1) := by
      have ht := List.take_append_drop (i + 1) ns.reverse
      rw [hs, List.append_assoc] at ht
      exact ht.symm
    rw [hs]
    exact turn c _ _ n t m₁ h tk own e hoff hf' hp' (kst_fr h1 h2 F₁) N₁
  · rintro m₁ nx h tk ⟨c, rfl, hf', h1, h2, hp'⟩ F₁ N₁
    rw [List.take_of_length_le (by simp)] at hp'
    exact done c m₁ h tk hf' hp' (kst_frOut h1 h2 F₁) N₁
end Mine

end
-- D6
section
open PySem PySem.W PySem.Spec PySem.Calls PyProof.Rows
set_option Elab.async false
set_option maxRecDepth 100000
set_option maxHeartbeats 4000000
namespace Mine





theorem d2i_inner (w : World) (mean : ExcName → Option Value) (mg mb : Str → Option Value) {n : Int} {k2 : Tok} {L' f C D : Addr} {oc oI oA oN oT : Obj} {cvs : Array Value} {t : Tok} {dc nm ct : Value} {qual : Str} {v0 : Value} {vs : List Value} {ds : List Int} {e : Nat} {R : CbLed}
    {g : Heap} (hC : CodeHd g 69 65) (hds : IntsAre (v0 :: vs) ds) (hD9 : Digs n ds) (hn0 : 0 < n) (hn1 : n ≤ 4194304) (hnb : n * ds.length ≤ 16777216) (hlb : ds.length ≤ 1000000) (d1 : oc.data = Data.fields cvs) (d2 : cvs[1]? = some (.str qual t)) (dI : oI.data = .cell (some (.ref f))) (dA : oA.data = .cell (some (.ref D))) (dN : oN.data = .cell (some (.int n k2))) : PySem.Challenge.rw_uc0065_01 = PySem.Challenge.rw_uc0065_01 → KL = KL → ∀ kk, In2H w mean mg mb f ((f, madeOf fb7[0]? qual [(Str.ofString "n", L' + 1 + 1), (Str.ofString "inner", L' + 1 + 1 + 1), (Str.ofString "digits", L' + 1)] dc nm C ct) :: (C, oc) :: (L' + 1 + 1 + 1, oI) :: (L' + 1 + 1, oN) :: (L' + 1, oA) :: (65, oT) :: (D, W.listOf (v0 :: vs).toArray e) :: R) ds n kk := by
  k_with_none
  k_with "KA" => first | (with_reducible assumption) | exact Low.ne ‹Low _ _› (by lia)
  k_with "OM" => lia
  k_with "eval BinOp" => (k_here; (first | (with_reducible show wpAny _ _ (eval (PySem.Expr.BinOp (PySem.Expr.Name _ _) _ _ _) _) _ _ _) | (with_reducible show wpAny _ _ (eval (PySem.Expr.BinOp (PySem.Expr.Constant _ _ _) _ _ _) _) _ _ _) | (with_reducible show wpAny _ _ (eval (PySem.Expr.BinOp (PySem.Expr.BinOp (PySem.Expr.Name _ _) _ _ _) _ _ _) _) _ _ _)); (first | (with_reducible show wpAny _ _ (eval (PySem.Expr.BinOp _ _ (PySem.Expr.Name _ _) _) _) _ _ _) | (with_reducible show wpAny _ _ (eval (PySem.Expr.BinOp _ _ (PySem.Expr.Constant _ _ _) _) _) _ _ _)); k_dflt (first | (refine' valS ?svF ?svk ?svS ?_; (case svF => k_asm); (case svk => rfl); (case svS => walk_at "SV"); k_whole) | (refine' binS ?svF ?svk ?svS ?svU ?_; (case svF => k_asm); (case svk => rfl); (case svS => walk_at "SV"); (case svU => walk_at "SV"); k_whole)))
  k_with "isTrue Compare" => (k_here; (first | (with_reducible show wpAny _ _ (PySem.isTrue (PySem.Expr.Compare (PySem.Expr.Name _ _) _ _ _) _ _) _ _ _) | (with_reducible show wpAny _ _ (PySem.isTrue (PySem.Expr.Compare (PySem.Expr.Constant _ _ _) _ _ _) _ _) _ _ _) | (with_reducible show wpAny _ _ (PySem.isTrue (PySem.Expr.Compare (PySem.Expr.BinOp (PySem.Expr.Name _ _) _ _ _) _ _ _) _ _) _ _ _)); (first | (with_reducible show wpAny _ _ (PySem.isTrue (PySem.Expr.Compare _ _ [(PySem.Expr.Name _ _)] _) _ _) _ _ _) | (with_reducible show wpAny _ _ (PySem.isTrue (PySem.Expr.Compare _ _ [(PySem.Expr.Constant _ _ _)] _) _ _) _ _ _) | (with_reducible show wpAny _ _ (PySem.isTrue (PySem.Expr.Compare _ _ [(PySem.Expr.BinOp (PySem.Expr.Name _ _) _ _ _)] _) _ _) _ _ _)); k_dflt (refine' cmpS ?svF ?svk ?svS ?svU ?_ ?svh; (case svF => k_asm); (case svk => rfl); (case svS => walk_at "SV"); (case svU => walk_at "SV"); (case svh => with_unfolding_all rfl); k_whole))
  k_with "storeName" => (k_here; k_dflt (refine' storeLF ?F ?N ?_ ?a ?b; (case F => k_asm); (case N => k_asm); (case a => rfl); (case b => rfl); k_whole; intro _ _ _ _; (try k_sweep)))
  k_with "execs cons" => (k_here; (with_reducible refine wpAny_execs_cons ?_); k_fold)
  k_with "execs cons" => (k_here; (with_reducible show wpAny _ _ _ _ _ (Shared.mk _ _ _ (_ + 1 + 1) _)); refine gentok ?_; intro _; (with_reducible refine wpAny_execs_cons ?_); (try dsimp only); (try k_fold))
  k_with "execs nil" => (k_here; (with_reducible show wpAny _ _ _ _ _ (Shared.mk _ _ _ (_ + 1 + 1) _)); refine gentok ?_; intro _; (with_reducible refine wpAny_execs_nil ?_); try dsimp only)
  k_with "subscriptTail Name Name ref int" => (k_here; (with_unfolding_all refine' item_anyK ?k1 ?k2 ?k3 ?k4 ?k5 ?_ ?k6; (case k1 => is_list); (case k2 => with_reducible assumption); (case k3 => lia); (case k4 => lia); (case k5 => lia); (case k6 => with_unfolding_all rfl); k_whole); intro _)
  k_with "binaryOp Mult int int" => (k_here; refine mul_int ?_ (mul64 (by lia) (by lia) (by lia) (by lia)))
  k_with "binaryOp LShift int int" => (k_here; refine lshift_int (And.left ‹(0 : Int) ≤ _ ∧ _ ≤ (2 : Int) ^ 27›) (And.right ‹(0 : Int) ≤ _ ∧ _ ≤ (2 : Int) ^ 27›) ?_)
  k_with "binaryOp RShift int int" => (k_here; refine rshift_int (by lia) ?_)
  k_with "call ref" => (k_here; (with_reducible show wpAny _ _ (call (Value.ref _) [Value.int _ _, Value.int _ _]) _ _ _); k_dflt (refine' useD (In2H.use ‹In2H _ _ _ _ _ _ _ _ _› _ _ _ _) ?k1 ?k2 ?k3 ?k4 ?k5 ?kK ?kp ?kd ?ku ?_); (case k1 => k_asm); (case k2 => k_asm); (case k3 => k_asm); (case k4 => k_asm); (case k5 => k_asm); (case kK => first | exact rfl | assumption); (case kp => refine ⟨?_, ?_, ?_, ?_⟩ <;> lia); (case kd => ktr_room); (case ku => ktr_units); (intro _ _ _ _ _); (try dsimp only); (try k_fold))
  k_fill
  intro hrow hKL; clear hrow hKL
  have hlen9 : ds.length = vs.length + 1 := hds.length.symm
  have h0 : In2H w mean mg mb f ((f, madeOf fb7[0]? qual [(Str.ofString "n", L' + 1 + 1), (Str.ofString "inner", L' + 1 + 1 + 1), (Str.ofString "digits", L' + 1)] dc nm C ct) :: (C, oc) :: (L' + 1 + 1 + 1, oI) :: (L' + 1 + 1, oN) :: (L' + 1, oA) :: (65, oT) :: (D, W.listOf (v0 :: vs).toArray e) :: R) ds n 0 := by
    show In2H w mean mg mb f ((f, fnMade _ _ _ _ _ _ _ _ _ _) :: (C, oc) :: (L' + 1 + 1 + 1, oI) :: (L' + 1 + 1, oN) :: (L' + 1, oA) :: (65, oT) :: (D, W.listOf (v0 :: vs).toArray e) :: R) ds n 0
    intro Lo Hi tl th; unfold Con; dsimp only [CbRet]; intros; rename_i hp8 hd8 hu8 hret8
    obtain ⟨q0, q1, q2, q3⟩ := hp8
    have q4 : Lo + 1 = Hi := by lia
    have q4b : (Lo + 1 == Hi) = true := beq_iff_eq.mpr q4
    refine wpAny_call ?_
    k_dflt (refine' code_nest ?k1 ?k2 ?k3 ?k4 ?k5 ?kA ?kF ?kK ?k6 ?k7 ?k8 ?k9 ?kB ?_ ?c2 ?c3 ?c4 ?c5; (case kA => exact rfl); (case kF => exact rfl); (case kK => assumption); (case k1 => k_asm); (case k2 => k_asm); (case k3 => k_asm); (case k4 => k_asm); (case k5 => k_asm); (case k6 => k_mem); (case k7 => exact codeRec_news (by k_asm) (by k_mem) (by assumption) (by assumption)); (case k8 => ktr_room); (case k9 => exact BindsTo.of_eq rfl); (case c5 => decide); (case kB => exact locs rfl); (case c2 => exact rfl); (case c3 => exact rfl); (case c4 => exact rfl); k_whole; intro g9 L9 h9 FG9 F9 N9 B9 X9 T9; (try dsimp only); (try k_lift B9); (try k_fold))
    k_steps
    all_goals first
      | (exfalso; lia)
      | exact cb_retI hret8 (by rw [cut_one q0 q4 q2]; simp [val]) (by assumption) (by assumption)
  show ∀ kk, In2H w mean mg mb f ((f, fnMade _ _ _ _ _ _ _ _ _ _) :: (C, oc) :: (L' + 1 + 1 + 1, oI) :: (L' + 1 + 1, oN) :: (L' + 1, oA) :: (65, oT) :: (D, W.listOf (v0 :: vs).toArray e) :: R) ds n kk
  intro kk
  induction kk with
  | zero => exact h0
  | succ kk ih =>
    intro Lo Hi tl th; unfold Con; dsimp only [CbRet]; intros; rename_i hp8 hd8 hu8 hret8
    obtain ⟨q0, q1, q2, q3⟩ := hp8
    rw [Int.pow_succ] at q3
    by_cases q4 : Lo + 1 = Hi
    · exact h0 Lo Hi tl th _ _ _ _ _ _ _ _ _ _ _ _ _ _ _ _ _ (by assumption) (by assumption) (by assumption) (by assumption) (by assumption) (by assumption) ⟨q0, q1, q2, by lia⟩ (by lia) (by lia) hret8
    · have q4b : (Lo + 1 == Hi) = false := beq_eq_false_iff_ne.mpr q4
      have hm := mid_of (show Lo + 2 ≤ Hi by lia)
      have hs := sh_val (M := (Lo + Hi).fdiv (2 ^ Int.toNat 1)) hD9 hn0 q0 (by lia) (by lia) q2 hnb
      have hj := val_join (n := n) (M := (Lo + Hi).fdiv (2 ^ Int.toNat 1)) hn0 q0 (by lia) (by lia) q2
      refine wpAny_call ?_
      k_dflt (refine' code_nest ?k1 ?k2 ?k3 ?k4 ?k5 ?kA ?kF ?kK ?k6 ?k7 ?k8 ?k9 ?kB ?_ ?c2 ?c3 ?c4 ?c5; (case kA => exact rfl); (case kF => exact rfl); (case kK => assumption); (case k1 => k_asm); (case k2 => k_asm); (case k3 => k_asm); (case k4 => k_asm); (case k5 => k_asm); (case k6 => k_mem); (case k7 => exact codeRec_news (by k_asm) (by k_mem) (by assumption) (by assumption)); (case k8 => ktr_room); (case k9 => exact BindsTo.of_eq rfl); (case c5 => decide); (case kB => exact locs rfl); (case c2 => exact rfl); (case c3 => exact rfl); (case c4 => exact rfl); k_whole; intro g9 L9 h9 FG9 F9 N9 B9 X9 T9; (try dsimp only); (try k_lift B9); (try k_fold))
      k_steps
      all_goals first
        | (exfalso; lia)
        | (refine' cb_retI hret8 ?e1 ?e2 ?e3; (case e1 => exact hj); (case e2 => assumption); (case e3 => assumption))
theorem sub_in {α : Type} {f e a b c : α} {r : List α} : ∀ p ∈ f :: e :: a :: b :: c :: r, p ∈ f :: a :: b :: c :: e :: r := fun p hp => by
  simp only [List.mem_cons] at hp; rcases hp with h | h | h | h | h | h <;> (first | ((try rw [h]); (repeat first | exact List.mem_cons_self .. | exact h | exact List.mem_append_left _ h | refine List.mem_append_right _ ?_ | refine List.mem_cons_of_mem _ ?_); done) | simp [h])
theorem sub_out {α : Type} {f e a b c : α} {r : List α} : ∀ p ∈ f :: a :: b :: c :: e :: r, p ∈ f :: e :: a :: b :: c :: r := fun p hp => by
  simp only [List.mem_cons] at hp; rcases hp with h | h | h | h | h | h <;> (first | ((try rw [h]); (repeat first | exact List.mem_cons_self .. | exact h | exact List.mem_append_left _ h | refine List.mem_append_right _ ?_ | refine List.mem_cons_of_mem _ ?_); done) | simp [h])
theorem In2H.perm {w : World} {mean : ExcName → Option Value} {mg mb : Str → Option Value} {f : Addr} {LL LL' : CbLed} {ds : List Int} {n : Int} {kk : Nat} (h1 : ∀ p ∈ LL', p ∈ LL) (h2 : ∀ p ∈ LL, p ∈ LL') (H : In2H w mean mg mb f LL' ds n kk) : In2H w mean mg mb f LL ds n kk :=
  fun Lo Hi tl th dp un gd cn cs a ccd cl outer A₀ base h₀ L m s Q E B F X N T hk hp hd hu hR =>
    H Lo Hi tl th dp un gd cn cs a ccd cl outer A₀ base h₀ L m s Q E B F X (fun p hp => N p (h1 p hp)) T hk hp hd hu (fun t h' tk' F' N' => hR t h' tk' F' (fun p hp => N' p (h2 p hp)))
theorem c_d2i (w : World) (mean : ExcName → Option Value) (mg mb : Str → Option Value) (news : CbLed) (hT : ∀ p ∈ news, p.1 ≠ 65) (D : Addr) (hD : @LT.lt Nat _ 65 D) (v0 : Value) (vs : List Value) (ds : List Int) (hds : IntsAre (v0 :: vs) ds) (e : Nat) (n : Int) (hD9 : Digs n ds) (k2 : Tok) :
   ConTab w mean mg mb 70 65 93 4 (z "_digits2int.<locals>.inner") ((D, W.listOf (v0 :: vs).toArray e) :: news) 30 300 (0 < n ∧ n ≤ 4194304 ∧ n * ds.length ≤ 16777216 ∧ ds.length ≤ 1000000) [.ref D, .int n k2] (fun t => .int (val n ds) t) := by
  suffices hfill : PySem.Challenge.rw_uc0065_01 = PySem.Challenge.rw_uc0065_01 → KL = KL → ConTab w mean mg mb 70 65 93 4 (z "_digits2int.<locals>.inner") ((D, W.listOf (v0 :: vs).toArray e) :: news) 30 300 (0 < n ∧ n ≤ 4194304 ∧ n * ds.length ≤ 16777216 ∧ ds.length ≤ 1000000) [.ref D, .int n k2] (fun t => .int (val n ds) t) from hfill rfl rfl
  k_fill
  intro hrow hKL; clear hrow hKL
  unfold ConTab; intro dp un gd cn cs a ccd cl outer A₀ base h₀ L m s Q E T hTS hB9 hF9 hX9 hN9 hTop9 hk9 hp9 hd9 hu9 hret
  obtain ⟨hn0, hn1, hnb, hlb⟩ := hp9
  rcases hTS with hTS | ⟨c8, oc8, vs8, t8, hTS, e81, e82, e83⟩
  · subst hTS
    simp only [List.cons_append, List.nil_append] at hN9
    refine wpAny_call ?_
    k_dflt (refine' code_defC ?k1 ?k2 ?k3 ?k4 ?k5 ?kA ?kF ?kK ?k6 ?k7 ?k8 ?k9 ?kB ?kD ?_ ?c2 ?c3 ?c4; (case kA => exact rfl); (case kF => exact rfl); (case kK => assumption); (case k1 => k_asm); (case k2 => k_asm); (case k3 => k_asm); (case k4 => k_asm); (case k5 => k_asm); (case k6 => k_is); (case k7 => k_is); (case k8 => ktr_room); (case k9 => exact BindsTo.of_eq rfl); (case kB => exact rfl); (case kD => decide +kernel); (case c2 => exact rfl); (case c3 => exact rfl); (case c4 => exact rfl); k_whole; intro g' L' h' tk' cells' FG' F' N' Y' B' X' T' l1; (try k_lt l1); k_cells Y'; (try simp only [List.cons_append, List.nil_append] at N'); (try dsimp only); (try k_lift B'); (try k_fold))
    have hC := codeHd_of_K (c := 69) (P := 65) X' rfl
    have hLow : Low _ news := allLt_all _ (And.right (And.right l1))
    have hpos : decide (0 < ds.length) = true := decide_eq_true (by rw [← hds.length]; exact Nat.succ_pos _)
    k_steps
    have hlen9 : ds.length = vs.length + 1 := hds.length.symm
    refine viaKey (mean := mean) (mg := mg) (mb := mb) ds n 20 (by k_asm) ?_ ?_
    · exact d2i_inner w mean mg mb hC hds hD9 hn0 hn1 hnb hlb (by assumption) (by assumption) (by assumption) (by assumption) (by assumption) rfl rfl
    · intro key2
      k_steps
      all_goals first
        | (exfalso; lia)
        | (rw [cut_all]; (refine' hret _ _ _ [_, _] (.inr ⟨_, _, _, _, rfl, ?e1, ?e2, ?e3⟩) ?zF ?zN; (case zN => exact tab_end (by assumption)); (case zF => assumption); (case e1 => assumption); (case e2 => assumption); (case e3 => lia)))
  · subst hTS
    simp only [List.cons_append, List.nil_append] at hN9
    refine wpAny_call ?_
    k_dflt (refine' code_defC ?k1 ?k2 ?k3 ?k4 ?k5 ?kA ?kF ?kK ?k6 ?k7 ?k8 ?k9 ?kB ?kD ?_ ?c2 ?c3 ?c4; (case kA => exact rfl); (case kF => exact rfl); (case kK => assumption); (case k1 => k_asm); (case k2 => k_asm); (case k3 => k_asm); (case k4 => k_asm); (case k5 => k_asm); (case k6 => k_is); (case k7 => k_is); (case k8 => ktr_room); (case k9 => exact BindsTo.of_eq rfl); (case kB => exact rfl); (case kD => decide +kernel); (case c2 => exact rfl); (case c3 => exact rfl); (case c4 => exact rfl); k_whole; intro g' L' h' tk' cells' FG' F' N' Y' B' X' T' l1; (try k_lt l1); k_cells Y'; (try simp only [List.cons_append, List.nil_append] at N'); (try dsimp only); (try k_lift B'); (try k_fold))
    have hC := codeHd_of_K (c := 69) (P := 65) X' rfl
    have hLow : Low _ news := allLt_all _ (And.right (And.right (And.right l1)))
    have hpos : decide (0 < ds.length) = true := decide_eq_true (by rw [← hds.length]; exact Nat.succ_pos _)
    k_steps
    have hlen9 : ds.length = vs.length + 1 := hds.length.symm
    refine viaKey (mean := mean) (mg := mg) (mb := mb) ds n 20 (by k_asm) ?_ ?_
    · exact fun kk => In2H.perm sub_in sub_out (d2i_inner w mean mg mb hC hds hD9 hn0 hn1 hnb hlb (by assumption) (by assumption) (by assumption) (by assumption) (by assumption) rfl rfl kk)
    · intro key2
      k_steps
      all_goals first
        | (exfalso; lia)
        | (rw [cut_all]; exact hret _ _ _ [_, _] (.inr ⟨_, _, _, _, rfl, e81, e82, e83⟩) (by assumption) (tab_end2 (by assumption)))

end Mine
open PyProof.Rows in

end
-- D6b
section
open PySem PySem.W PySem.Spec PySem.Calls PyProof.Rows
set_option Elab.async false
set_option maxRecDepth 100000
set_option maxHeartbeats 4000000
namespace Mine



theorem c_d2i0 (w : World) (mean : ExcName → Option Value) (mg mb : Str → Option Value) (news : CbLed) (hT : ∀ p ∈ news, p.1 ≠ 65) (D : Addr) (hD : @LT.lt Nat _ 65 D) (e : Nat) (n : Int) (k2 : Tok) :
   ConTab w mean mg mb 70 65 93 4 (z "_digits2int.<locals>.inner") ((D, W.listOf #[] e) :: news) 30 300 (0 < n) [.ref D, .int n k2] (fun t => .int 0 t) := by
  k_with_none
  k_with "KA" => first | (with_reducible assumption) | exact Low.ne ‹Low _ _› (by lia)
  k_with "storeName" => (k_here; k_dflt (refine' storeLF ?F ?N ?_ ?a ?b; (case F => k_asm); (case N => k_asm); (case a => rfl); (case b => rfl); k_whole; intro _ _ _ _; (try k_sweep)))
  k_with "execs cons" => (k_here; (with_reducible refine wpAny_execs_cons ?_); k_fold)
  k_with "execs cons" => (k_here; (with_reducible show wpAny _ _ _ _ _ (Shared.mk _ _ _ (_ + 1 + 1) _)); refine gentok ?_; intro _; (with_reducible refine wpAny_execs_cons ?_); (try dsimp only); (try k_fold))
  k_with "execs nil" => (k_here; (with_reducible show wpAny _ _ _ _ _ (Shared.mk _ _ _ (_ + 1 + 1) _)); refine gentok ?_; intro _; (with_reducible refine wpAny_execs_nil ?_); try dsimp only)
  suffices hfill : PySem.Challenge.rw_uc0065_01 = PySem.Challenge.rw_uc0065_01 → KL = KL → ConTab w mean mg mb 70 65 93 4 (z "_digits2int.<locals>.inner") ((D, W.listOf #[] e) :: news) 30 300 (0 < n) [.ref D, .int n k2] (fun t => .int 0 t) from hfill rfl rfl
  k_fill
  intro hrow hKL; clear hrow hKL
  unfold ConTab; intro dp un gd cn cs a ccd cl outer A₀ base h₀ L m s Q E T hTS hB9 hF9 hX9 hN9 hTop9 hk9 hp9 hd9 hu9 hret
  have hn0 := hp9
  rcases hTS with hTS | ⟨c8, oc8, vs8, t8, hTS, e81, e82, e83⟩
  · subst hTS
    simp only [List.cons_append, List.nil_append] at hN9
    refine wpAny_call ?_
    k_dflt (refine' code_defC ?k1 ?k2 ?k3 ?k4 ?k5 ?kA ?kF ?kK ?k6 ?k7 ?k8 ?k9 ?kB ?kD ?_ ?c2 ?c3 ?c4; (case kA => exact rfl); (case kF => exact rfl); (case kK => assumption); (case k1 => k_asm); (case k2 => k_asm); (case k3 => k_asm); (case k4 => k_asm); (case k5 => k_asm); (case k6 => k_is); (case k7 => k_is); (case k8 => ktr_room); (case k9 => exact BindsTo.of_eq rfl); (case kB => exact rfl); (case kD => decide +kernel); (case c2 => exact rfl); (case c3 => exact rfl); (case c4 => exact rfl); k_whole; intro g' L' h' tk' cells' FG' F' N' Y' B' X' T' l1; (try k_lt l1); k_cells Y'; (try simp only [List.cons_append, List.nil_append] at N'); (try dsimp only); (try k_lift B'); (try k_fold))
    have hC := codeHd_of_K (c := 69) (P := 65) X' rfl
    have hLow : Low _ news := allLt_all _ (And.right (And.right l1))
    k_steps
    (refine' hret _ _ _ [_, _] (.inr ⟨_, _, _, _, rfl, ?e1, ?e2, ?e3⟩) ?zF ?zN; (case zN => exact tab_end (by assumption)); (case zF => assumption); (case e1 => assumption); (case e2 => assumption); (case e3 => omega))
  · subst hTS
    simp only [List.cons_append, List.nil_append] at hN9
    refine wpAny_call ?_
    k_dflt (refine' code_defC ?k1 ?k2 ?k3 ?k4 ?k5 ?kA ?kF ?kK ?k6 ?k7 ?k8 ?k9 ?kB ?kD ?_ ?c2 ?c3 ?c4; (case kA => exact rfl); (case kF => exact rfl); (case kK => assumption); (case k1 => k_asm); (case k2 => k_asm); (case k3 => k_asm); (case k4 => k_asm); (case k5 => k_asm); (case k6 => k_is); (case k7 => k_is); (case k8 => ktr_room); (case k9 => exact BindsTo.of_eq rfl); (case kB => exact rfl); (case kD => decide +kernel); (case c2 => exact rfl); (case c3 => exact rfl); (case c4 => exact rfl); k_whole; intro g' L' h' tk' cells' FG' F' N' Y' B' X' T' l1; (try k_lt l1); k_cells Y'; (try simp only [List.cons_append, List.nil_append] at N'); (try dsimp only); (try k_lift B'); (try k_fold))
    have hC := codeHd_of_K (c := 69) (P := 65) X' rfl
    have hLow : Low _ news := allLt_all _ (And.right (And.right (And.right l1)))
    k_steps
    exact hret _ _ _ [_, _] (.inr ⟨_, _, _, _, rfl, e81, e82, e83⟩) (by assumption) (tab_end2 (by assumption))

end Mine
open PyProof.Rows in

end
-- D8
section
open PySem PySem.W PySem.Spec PySem.Calls PyProof.Rows
set_option Elab.async false
set_option maxRecDepth 100000
set_option maxHeartbeats 4000000
namespace Mine
/-- both tables are carried -/
noncomputable abbrev ConT2 (w : World) (mean : ExcName → Option Value) (mg mb : Str → Option Value) (f : Addr) (news : CbLed) (d u : Nat) (pre : Prop) (vs : List Value) (x y : Int) : Prop :=
  ∀ (dp un : Nat) (gd : Option (List Code)) (cn : Str) (cs : Scope) (a : Addr) (ccd : Value) (cl : List (Str × Addr)) (outer : List Env) (A₀ : Around) (base h₀ : Heap) (L : Addr) (m : Str → Option Value) (s : Shared) (Q E : Value → Shared → Prop) (T1 T2 : CbLed),
    TabSt 58 78 4 (z "_int2digits.<locals>.inner") T1 → TabSt 65 93 4 (z "_digits2int.<locals>.inner") T2 → PyProof.Rows.Below A₀ base outer h₀ → Fr h₀ L s.heap m → (KL w.params).In h₀ → News h₀ L s.heap (T1 ++ (T2 ++ news)) → Top qv looseN mean mg mb h₀ → cs.kind = .function →
    pre → dp + d < recursionLimit → un + u < cLine →
    (∀ (t1 t2 : Tok) (b : Addr) (h' : Heap) (tk' : Nat) (T1' T2' : CbLed), TabSt 58 78 4 (z "_int2digits.<locals>.inner") T1' → TabSt 65 93 4 (z "_digits2int.<locals>.inner") T2' → Fr h₀ L h' m → News h₀ L h' ((b, tup2I x y t1 t2) :: (T1' ++ (T2' ++ news))) → (∀ p ∈ news, p.1 < b) → Q (.ref b) { s with heap := h', toks := tk' }) →
      wpAny (model prog w) (ktrTop dp un gd cn cs L a ccd cl outer) (call (.ref f) vs) Q E s
theorem tab_ne {P x : Addr} {ln co : Nat} {qual : Str} {T r : CbLed} (h : TabSt P ln co qual T) (hx : @LT.lt Nat _ x P) (hr : ∀ p ∈ r, p.1 ≠ x) : ∀ p ∈ T ++ r, p.1 ≠ x := fun p hp => by
  rcases List.mem_append.mp hp with hp | hp
  · rcases h with h | ⟨c, oc, vs, t, h, _, _, h3⟩
    · subst h; cases hp with
      | head => exact Nat.ne_of_gt hx
      | tail _ h => cases h
    · subst h; cases hp with
      | head => exact Nat.ne_of_gt (Nat.lt_trans hx h3)
      | tail _ h => cases h with
        | head => exact Nat.ne_of_gt hx
        | tail _ h => cases h
  · exact hr p hp
theorem tab_off {P b : Addr} {ln co : Nat} {qual : Str} {T r : CbLed} {g h : Heap} {L : Addr} {its : Array Value} {k : Nat} (h1 : TabSt P ln co qual T) (N : News g L h (T ++ r)) (hb : h.get? b = some (W.listOf its k)) : ∀ q ∈ T, q.1 ≠ b := fun q hq e => by
  have hq' := (N q (List.mem_append_left _ hq)).1
  rw [e, hb] at hq'
  have e2 := Option.some.inj hq'
  rcases h1 with h1 | ⟨c, oc, vs, t, h1, h2, _, _⟩
  · subst h1; cases hq with
    | head => cases e2
    | tail _ h => cases h
  · subst h1; cases hq with
    | head => simp only at e2; rw [← e2] at h2; cases h2
    | tail _ h => cases h with
      | head => cases e2
      | tail _ h => cases h
theorem swap23 {g h : Heap} {L : Addr} {a b c : Addr × Obj} {r : CbLed} (N : News g L h (a :: b :: c :: r)) : News g L h (a :: c :: b :: r) := fun p hp => N p (by
  simp only [List.mem_cons] at hp; rcases hp with h | h | h | h <;> (first | ((try rw [h]); (repeat first | exact List.mem_cons_self .. | exact h | exact List.mem_append_left _ h | refine List.mem_append_right _ ?_ | refine List.mem_cons_of_mem _ ?_); done) | simp [h]))
noncomputable def DInv (n bv : Int) (pre : List Int) (r : Int) (qs : List Int) : Prop :=
  0 ≤ r ∧ r < bv ∧ r = (val n pre.reverse).fmod bv ∧ val n qs.reverse = (val n pre.reverse).fdiv bv ∧ Digs n qs ∧ qs.length = pre.length
theorem DInv.step {n bv d r : Int} {pre qs : List Int} (hb : 0 < bv) (h : DInv n bv pre r qs) (h0 : 0 ≤ d) (h1 : d < 2 ^ n.toNat) :
    DInv n bv (pre ++ [d]) ((r * 2 ^ n.toNat + d).fmod bv) (qs ++ [(r * 2 ^ n.toNat + d).fdiv bv]) ∧ 0 ≤ r * 2 ^ n.toNat + d ∧ r * 2 ^ n.toNat + d < bv * 2 ^ n.toNat := by
  k_with_none
  k_with "OM" => lia
  obtain ⟨q0, q1, q2, q3, q4, q5⟩ := h
  have hW := pow_pos2 n.toNat
  have x0 : 0 ≤ r * 2 ^ n.toNat + d := by have := Int.mul_nonneg q0 (Int.le_of_lt hW); lia
  have x1 : r * 2 ^ n.toNat + d < bv * 2 ^ n.toNat := by
    have h2 : r * 2 ^ n.toNat ≤ (bv - 1) * 2 ^ n.toNat := Int.mul_le_mul_of_nonneg_right (by lia) (Int.le_of_lt hW)
    have h3 : (bv - 1) * 2 ^ n.toNat = bv * 2 ^ n.toNat - 2 ^ n.toNat := by grind
    lia
  have f := fm (r * 2 ^ n.toNat + d) hb
  have e1 := Int.mul_fdiv_add_fmod (val n pre.reverse) bv
  have e2 := Int.mul_fdiv_add_fmod (r * 2 ^ n.toNat + d) bv
  have y0 := fdiv_nn x0 (Int.le_of_lt hb)
  have y1 : (r * 2 ^ n.toNat + d).fdiv bv < 2 ^ n.toNat := by
    rw [Int.fdiv_eq_ediv_of_nonneg _ (Int.le_of_lt hb)]
    exact (Int.ediv_lt_iff_lt_mul hb).mpr (by rw [Int.mul_comm (2 ^ n.toNat) bv]; exact x1)
  have key := dm_uniq (a := val n (pre ++ [d]).reverse) (b := bv) (q := (r * 2 ^ n.toNat + d).fdiv bv + 2 ^ n.toNat * val n qs.reverse) (r := (r * 2 ^ n.toNat + d).fmod bv) hb (by
    rw [List.reverse_append, List.reverse_singleton, List.singleton_append, val, q3]
    rw [← q2] at e1
    generalize (val n pre.reverse).fdiv bv = a at *
    generalize (r * 2 ^ n.toNat + d).fdiv bv = b at *
    generalize (r * 2 ^ n.toNat + d).fmod bv = c at *
    generalize (2 : Int) ^ n.toNat = W at *
    rw [← e1]
    grind) f.1 f.2
  refine ⟨⟨f.1, f.2, key.2.symm, ?_, ?_, by simp [q5]⟩, x0, x1⟩
  · rw [key.1, List.reverse_append, List.reverse_singleton, List.singleton_append, val]
  · intro x hx
    rcases List.mem_append.mp hx with hx | hx
    · exact q4 x hx
    · rw [List.mem_singleton.mp hx]; exact ⟨y0, y1⟩
theorem DInv.zero {n bv : Int} (hb : 0 < bv) : DInv n bv [] 0 [] := ⟨Int.le_refl 0, hb, by simp [val], by simp [val], fun _ h => absurd h List.not_mem_nil, rfl⟩
theorem val_rev (n : Int) (l : List Int) : val n l.reverse.reverse = val n l := by rw [List.reverse_reverse]
theorem tab_mem {P : Addr} {ln co : Nat} {qual : Str} {T : CbLed} (h : TabSt P ln co qual T) : ∃ ps, (P, tabObj ps) ∈ T ∧ ∀ x, ps[1]? = some x → ∀ q t, x ≠ .str q t := by
  rcases h with h | ⟨c, oc, vs, t, h, _, _, _⟩
  · exact ⟨#[], by rw [h]; exact List.mem_cons_self .., fun x hx => by simp at hx⟩
  · refine ⟨#[rawInt ln, rawInt co, .ref c], by rw [h]; simp, fun x hx q t e => ?_⟩
    subst e; simp [rawInt] at hx
theorem tab_tab {P P' : Addr} {ln co ln' co' : Nat} {qual qual' : Str} {T T' r : CbLed} {g h : Heap} {L : Addr} (h1 : TabSt P ln co qual T) (h2 : TabSt P' ln' co' qual' T') (hP : P ≠ P') (N : News g L h (T ++ (T' ++ r))) : ∀ q ∈ T, q.1 ≠ P' := fun q hq e => by
  obtain ⟨ps, hm, hps⟩ := tab_mem h2
  have n1 := (N _ (List.mem_append_right _ (List.mem_append_left _ hm))).1
  have n2 := (N q (List.mem_append_left _ hq)).1
  rw [e] at n2
  have e2 := Option.some.inj (n1.symm.trans n2)
  rcases h1 with h1 | ⟨c, oc, vs, t, h1, h3, h4, _⟩
  · subst h1; cases hq with
    | head => exact hP e
    | tail _ h => cases h
  · subst h1; cases hq with
    | head =>
      simp only at e2
      rw [← e2] at h3
      have : ps = vs := by cases h3; rfl
      subst this
      exact hps _ h4 _ _ rfl
    | tail _ h => cases h with
      | head => exact hP e
      | tail _ h => cases h
theorem ints_append : ∀ {a b : List Value} {x y : List Int}, IntsAre a x → IntsAre b y → IntsAre (a ++ b) (x ++ y)
  | _, _, _, _, .nil, h => h
  | _, _, _, _, .cons n t r, h => .cons n t (ints_append r h)
theorem ints_rev : ∀ {a : List Value} {x : List Int}, IntsAre a x → IntsAre a.reverse x.reverse
  | _, _, .nil => .nil
  | _, _, .cons n t r => by rw [List.reverse_cons, List.reverse_cons]; exact ints_append (ints_rev r) (.cons n t .nil)
theorem digs_rev {n : Int} {l : List Int} (h : Digs n l) : Digs n l.reverse := fun d hd => h d (List.mem_reverse.mp hd)


theorem c_dpos (w : World) (mean : ExcName → Option Value) (mg mb : Str → Option Value) (news : CbLed) (h58 : ∀ p ∈ news, p.1 ≠ 58) (h65 : ∀ p ∈ news, p.1 ≠ 65) (av bv : Int) (k1 k2 : Tok) :
   ConT2 w mean mg mb 77 news 60 700 (0 ≤ av ∧ 0 < bv ∧ (1000 : Int) ≤ bl bv ∧ (bl bv : Int) < 4194303 ∧ (bl av : Int) ≤ 12000000 ∧ ((bl av : Int) + bl bv - 1).fdiv (bl bv) ≤ 1000000) [.int av k1, .int bv k2] (av.fdiv bv) (av.fmod bv) := by
  k_with_none
  k_with "KA" => first | (with_reducible assumption) | exact Low.ne ‹Low _ _› (by lia)
  k_with "OM" => lia
  k_with "eval BinOp" => (k_here; (first | (with_reducible show wpAny _ _ (eval (PySem.Expr.BinOp (PySem.Expr.Name _ _) _ _ _) _) _ _ _) | (with_reducible show wpAny _ _ (eval (PySem.Expr.BinOp (PySem.Expr.Constant _ _ _) _ _ _) _) _ _ _) | (with_reducible show wpAny _ _ (eval (PySem.Expr.BinOp (PySem.Expr.BinOp (PySem.Expr.Name _ _) _ _ _) _ _ _) _) _ _ _)); (first | (with_reducible show wpAny _ _ (eval (PySem.Expr.BinOp _ _ (PySem.Expr.Name _ _) _) _) _ _ _) | (with_reducible show wpAny _ _ (eval (PySem.Expr.BinOp _ _ (PySem.Expr.Constant _ _ _) _) _) _ _ _)); k_dflt (first | (refine' valS ?svF ?svk ?svS ?_; (case svF => k_asm); (case svk => rfl); (case svS => walk_at "SV"); k_whole) | (refine' binS ?svF ?svk ?svS ?svU ?_; (case svF => k_asm); (case svk => rfl); (case svS => walk_at "SV"); (case svU => walk_at "SV"); k_whole)))
  k_with "exec Assign" => (k_here; (first | (with_reducible show wpAny _ _ (exec (PySem.Stmt.Assign [_] (PySem.Expr.Name _ _) _) _) _ _ _) | (with_reducible show wpAny _ _ (exec (PySem.Stmt.Assign [_] (PySem.Expr.Constant _ _ _) _) _) _ _ _) | (with_reducible show wpAny _ _ (exec (PySem.Stmt.Assign [_] (PySem.Expr.BinOp (PySem.Expr.Name _ _) _ _ _) _) _) _ _ _)); k_dflt (refine' asgS ?svF ?svk ?svS ?_; (case svF => k_asm); (case svk => rfl); (case svS => walk_at "SV"); k_whole))
  k_with "execs cons" => (k_here; (with_reducible refine wpAny_execs_cons ?_); k_fold)
  k_with "execs cons" => (k_here; (with_reducible show wpAny _ _ _ _ _ (Shared.mk _ _ _ (_ + 1 + 1) _)); refine gentok ?_; intro _; (with_reducible refine wpAny_execs_cons ?_); (try dsimp only); (try k_fold))
  k_with "execs nil" => (k_here; (with_reducible show wpAny _ _ _ _ _ (Shared.mk _ _ _ (_ + 1 + 1) _)); refine gentok ?_; intro _; (with_reducible refine wpAny_execs_nil ?_); try dsimp only)
  k_with "binaryOp LShift int int" => (k_here; refine lshift_int (by lia) (by assumption) ?_)
  suffices hfill : PySem.Challenge.rw_uc0065_01 = PySem.Challenge.rw_uc0065_01 → KL = KL → ConT2 w mean mg mb 77 news 60 700 (0 ≤ av ∧ 0 < bv ∧ (1000 : Int) ≤ bl bv ∧ (bl bv : Int) < 4194303 ∧ (bl av : Int) ≤ 12000000 ∧ ((bl av : Int) + bl bv - 1).fdiv (bl bv) ≤ 1000000) [.int av k1, .int bv k2] (av.fdiv bv) (av.fmod bv) from hfill rfl rfl
  k_fill
  intro hrow hKL; clear hrow hKL
  unfold ConT2; intro dp un gd cn cs a ccd cl outer A₀ base h₀ L m s Q E T1 T2 hT1 hT2 hB9 hF9 hX9 hN9 hTop9 hk9 hp9 hd9 hu9 hret
  obtain ⟨ha0, hb0, hn0, hn1, hab, hk⟩ := hp9
  have hT := tab_ne hT2 (x := 58) (by decide) h58
  generalize hR0 : T1 ++ (T2 ++ news) = R0 at hN9
  refine wpAny_call ?_
  k_dflt cell_enter
  refine letF ‹Fr _ _ _ _› ?_
  intro me Fe
  refine letA ?_
  intro A9
  k_steps
  subst hR0
  refine' c_i2d w mean mg mb (T2 ++ news) hT av (bl bv) _ _ _ _ _ _ _ _ _ _ _ _ _ _ _ _ _ _ _ T1 hT1 ?k1 ?k2 ?k3 ?k4 ?k5 ?kK ?kp ?kd ?ku ?_
  case k1 => k_asm
  case k2 => k_asm
  case k3 => k_asm
  case k4 => k_asm
  case k5 => k_asm
  case kK => first | exact rfl | assumption
  case kp => exact ⟨ha0, by lia, by lia, hk, hab⟩
  case kd => ktr_room
  case ku => ktr_units
  intro b9 us9 ds9 e9 h9 tk9 T1' hT1' i9 d9 v9 c9 F9 N9 l9
  generalize hR1 : T1' ++ (T2 ++ news) = R1 at N9
  try dsimp only
  try k_fold
  k_steps
  rename_i lq hq1 lt1 hq2 Dq hq3 FQ NQ lt2
  refine' kst_rev (σ := Int × Tok × List Value × List Int × Nat) (l := b9) (vs := us9) (ns := ds9) (nn := e9) (fun c => (lq, W.listOf c.2.2.1.toArray c.2.2.2.2) :: R1) (fun c => [(Str.ofString "r", .int c.1 c.2.1), (Str.ofString "q_digits", .ref lq)]) (fun c => IntsAre c.2.2.1 c.2.2.2.1) [Str.ofString "q_digit"] (fun pre c => DInv (bl bv) bv pre c.1 c.2.2.2.1) (0, _, [], [], 0) rfl i9 FQ (swap23 NQ) (Nat.ne_of_lt lt2.2.1) ?f1 ?f2 .nil ?f5 (DInv.zero hb0) ?f3 ?f4
  case f5 =>
    intro p hp
    rcases List.mem_cons.mp hp with hp | hp
    · subst hp; exact rfl
    · rw [List.mem_singleton.mp hp]; exact rfl
  case f1 =>
    intro q hq
    rcases List.mem_cons.mp hq with hq | hq
    · subst hq; exact Nat.ne_of_lt lt2.1
    · exact Nat.ne_of_lt (allLt_all _ lt2.2.2 q hq)
  case f2 =>
    intro q hq
    rcases List.mem_cons.mp hq with hq | hq
    · subst hq; exact Nat.ne_of_gt lt1.1
    · rw [← hR1] at hq
      rcases List.mem_append.mp hq with hq | hq
      · exact tab_off hT1' (cb_drop NQ (fun p hp => by rw [hR1] at hp; simp [hp])) (NQ (b9, W.listOf us9.toArray e9) (by first | ((repeat first | exact List.mem_cons_self .. | refine List.mem_append_right _ ?_ | refine List.mem_cons_of_mem _ ?_); done) | simp)).1 q hq
      · exact Nat.ne_of_lt (l9 q hq)
  case f3 =>
    rintro ⟨r, tr, vq, qs, nq⟩ pre post dg tdg u h8 tk8 own he hoff hf hp F8 N8
    dsimp only at hf hp F8 N8
    have hdg := d9 dg (List.mem_reverse.mp (he ▸ List.mem_append_right _ (List.mem_cons_self ..)))
    have hst := hp.step hb0 hdg.1 hdg.2
    have hP2 : P2 (r * 2 ^ ((bl bv : Nat) : Int).toNat + dg) bv (bl bv) := ⟨by lia, by lia, hst.2.1, hb0, hst.2.2, rfl⟩
    have hsh : (Builtin.Int.intBits r : Int) + ((Builtin.Int.intBits bv : Nat) : Int) ≤ 2 ^ 27 := sh_ok (k := bl bv) hp.1 (Int.lt_trans hp.2.1 (bl_up (Int.le_of_lt hb0))) (by unfold bl at hn1 ⊢; lia)
    simp only [List.cons_append] at N8
    have hq9 : ∀ p ∈ R1 ++ own, p.1 ≠ lq := fun p hp => (List.mem_append.mp hp).elim (fun h => Nat.ne_of_lt (allLt_all _ lt1.2 p h)) (fun h => hoff.ne (List.mem_cons_self ..) p h)
    have hvl : vq.length ≤ 1000000 := by
      have e1 := hf.length
      have e2 := hp.2.2.2.2.2
      have e3 := congrArg List.length he
      rw [List.length_reverse, List.length_append, List.length_cons] at e3
      lia
    k_with "state" => exact hst.1
    k_steps
    (refine' useO (c_div2 w mean mg mb _ _ _ _ _ _ _) ?k1 ?k2 ?k3 ?k4 ?k5 ?kK ?kp ?kd ?ku ?_)
    (case k1 => k_asm)
    (case k2 => k_asm)
    (case k3 => k_asm)
    (case k4 => k_asm)
    (case k5 => k_asm)
    (case kK => first | exact rfl | assumption)
    (case kp => exact ⟨hP2, hn1⟩)
    (case kd => ktr_room)
    (case ku => ktr_units)
    (intro _ t1 t2 b9 h9 tk9 F9 N9 l9)
    (try k_lt l9)
    (try dsimp only)
    (try k_fold)
    k_steps
    refine' kst_end (_, _, vq ++ [.int ((r * 2 ^ ((bl bv : Nat) : Int).toNat + dg).fdiv bv) t1], qs ++ [_], nq + 1) ?zF ?zN ?hn ?ho rfl ?hf ?hk ?hr ?hp
    case zF => assumption
    case zN => assumption
    case hp => exact hst.1
    case hk =>
      intro p hp
      rcases List.mem_cons.mp hp with hp | hp
      · subst hp; exact rfl
      · rw [List.mem_singleton.mp hp]; exact rfl
    case hn =>
      intro p hp
      rcases List.mem_cons.mp hp with h | h
      · subst h
        dsimp only
        rw [← List.push_toArray]
        exact List.mem_cons_of_mem _ (List.mem_cons_self ..)
      · exact List.mem_cons_of_mem _ (List.mem_cons_of_mem _ (List.mem_append_left _ h))
    case ho => (intro p hp; (first | ((try rw [hp]); (repeat first | exact List.mem_cons_self .. | exact hp | exact List.mem_append_left _ hp | refine List.mem_append_right _ ?_ | refine List.mem_cons_of_mem _ ?_); done) | simp [hp]))
    case hf => exact ints_append hf (.cons _ _ .nil)
    case hr =>
      intro z h1 h2 h3
      simp only [List.forall_mem_cons, List.not_mem_nil, false_implies, implies_true, and_true, ne_eq] at h2
      have h4 : ¬ z = Str.ofString "q_digit" := by simpa using h3
      exact (if_neg h2.1).trans <| (if_neg h4).trans <| (if_neg h1).trans <| (if_neg h2.1).trans <| (if_neg h2.2).trans <| if_neg (ne_true_of_eq_false h3)
  case f4 =>
    rintro ⟨r, tr, vq, qs, nq⟩ u h8 tk8 hf hp F8 N8
    dsimp only at hf hp F8 N8
    obtain ⟨p0, p1, p2, p3, p4, p5⟩ := hp
    rw [List.reverse_reverse, v9] at p2 p3
    k_steps
    refine kl_reverse (l := vq.reverse) (by k_asm) (by k_asm) (by first | ((repeat first | exact List.mem_cons_self .. | refine List.mem_append_right _ ?_ | refine List.mem_cons_of_mem _ ?_); done) | simp) (Upd.head (fun p hp => Nat.ne_of_lt (allLt_all _ lt1.2 p hp))) ?z ?_
    case z => have := hf.length; rw [List.toList_toArray, this, p5, List.length_reverse]; rw [sizeLine_eq]; lia
    intro h7 F7 N7
    k_steps
    have hiR := ints_rev hf
    have hdR := digs_rev p4
    have hcn := cnt (a := av) (n := bl bv) (by lia)
    have hlR : qs.reverse.length = ds9.length := by rw [List.length_reverse, p5, List.length_reverse]
    have hnR : (bl bv : Int) * qs.reverse.length ≤ 16777216 := mulk (b := ((bl av : Int) + bl bv - 1).fdiv (bl bv)) (by rw [hlR]; exact c9) (by lia)
    obtain ⟨ps, hps, _⟩ := tab_mem hT2
    have h65q : @LT.lt Nat _ 65 lq := by
      have := allLt_all _ lt1.2 _ (show (65, tabObj ps) ∈ R1 by rw [← hR1]; simp [hps])
      exact this
    have hT9 : ∀ p ∈ T1' ++ news, p.1 ≠ 65 := fun p hp => (List.mem_append.mp hp).elim (fun h => tab_tab hT1' hT2 (by decide) (cb_drop N7 (fun p hp => by rw [hR1] at hp; simp [hp])) p h) (fun h => h65 p h)
    have N70 : ∀ (g : Heap) (L : Addr) (o : Obj), News g L h7 ((lq, o) :: R1) → News g L h7 (T2 ++ ((lq, o) :: (T1' ++ news))) := fun g L o N => cb_drop N (fun p hp => by rw [← hR1]; simp only [List.mem_append, List.mem_cons] at hp; rcases hp with h | h | h | h <;> (first | ((try rw [h]); (repeat first | exact List.mem_cons_self .. | exact h | exact List.mem_append_left _ h | refine List.mem_append_right _ ?_ | refine List.mem_cons_of_mem _ ?_); done) | simp [h]))
    cases hv : vq.reverse with
    | nil =>
      rw [hv] at hiR N7
      have hq0 : av.fdiv bv = 0 := by
        have e1 := hiR.length
        rw [← p3, List.eq_nil_of_length_eq_zero e1.symm]; rfl
      refine' c_d2i0 w mean mg mb _ hT9 lq h65q nq _ _ _ _ _ _ _ _ _ _ _ _ _ _ _ _ _ _ _ T2 hT2 ?k1 ?k2 ?k3 ?k4 ?k5 ?kK ?kp ?kd ?ku ?_
      case k1 => k_asm
      case k2 => k_asm
      case k3 => k_asm
      case k4 => exact N70 _ _ _ N7
      case k5 => k_asm
      case kK => first | exact rfl | assumption
      case kp => show (0 : Int) < (bl bv : Int); lia
      case kd => ktr_room
      case ku => ktr_units
      intro t70 h70 tk70 T2' hT2' F70 N70
      try dsimp only
      try k_fold
      k_steps
      refine' hret t70 tr _ _ _ T1' T2' hT1' hT2' ?zF ?zN ?zl
      case zF => assumption
      case zN => rw [hq0, ← p2]; exact cb_drop (by assumption) (by intro p hp; simp only [List.mem_append, List.mem_cons] at hp; rcases hp with h | h | h | h <;> (first | ((try rw [h]); (repeat first | exact List.mem_cons_self .. | exact h | exact List.mem_append_left _ h | refine List.mem_append_right _ ?_ | refine List.mem_cons_of_mem _ ?_); done) | simp [h]))
      case zl =>
        intro p hp
        exact (by assumption : ∀ p ∈ T2' ++ ((lq, W.listOf #[] nq) :: (T1' ++ news)), @LT.lt Nat _ p.1 _) p (by (first | ((try rw [hp]); (repeat first | exact List.mem_cons_self .. | exact hp | exact List.mem_append_left _ hp | refine List.mem_append_right _ ?_ | refine List.mem_cons_of_mem _ ?_); done) | simp [hp]))
    | cons v0 vs0 =>
      rw [hv] at hiR N7
      refine' c_d2i w mean mg mb _ hT9 lq h65q v0 vs0 _ hiR nq _ hdR _ _ _ _ _ _ _ _ _ _ _ _ _ _ _ _ _ _ T2 hT2 ?k1 ?k2 ?k3 ?k4 ?k5 ?kK ?kp ?kd ?ku ?_
      case k1 => k_asm
      case k2 => k_asm
      case k3 => k_asm
      case k4 => exact N70 _ _ _ N7
      case k5 => k_asm
      case kK => first | exact rfl | assumption
      case kp => exact ⟨by lia, by lia, hnR, by lia⟩
      case kd => ktr_room
      case ku => ktr_units
      intro t70 h70 tk70 T2' hT2' F70 N70
      try dsimp only
      try k_fold
      k_steps
      refine' hret t70 tr _ _ _ T1' T2' hT1' hT2' ?zF ?zN ?zl
      case zF => assumption
      case zN => rw [← p3, ← p2]; exact cb_drop (by assumption) (by intro p hp; simp only [List.mem_append, List.mem_cons] at hp; rcases hp with h | h | h | h <;> (first | ((try rw [h]); (repeat first | exact List.mem_cons_self .. | exact h | exact List.mem_append_left _ h | refine List.mem_append_right _ ?_ | refine List.mem_cons_of_mem _ ?_); done) | simp [h]))
      case zl =>
        intro p hp
        exact (by assumption : ∀ p ∈ T2' ++ ((lq, W.listOf (v0 :: vs0).toArray nq) :: (T1' ++ news)), @LT.lt Nat _ p.1 _) p (by (first | ((try rw [hp]); (repeat first | exact List.mem_cons_self .. | exact hp | exact List.mem_append_left _ hp | refine List.mem_append_right _ ?_ | refine List.mem_cons_of_mem _ ?_); done) | simp [hp]))

end Mine
open PyProof.Rows in

end
-- D9
section
open PySem PySem.W PySem.Spec PySem.Calls PyProof.Rows
set_option Elab.async false
set_option maxRecDepth 100000
set_option maxHeartbeats 4000000
namespace Mine
theorem bl_neg (b : Int) : bl (-b) = bl b := by unfold bl Builtin.Int.intBits; simp
theorem bl_not {a : Int} (h : a < 0) : bl (Builtin.bitNot a) ≤ bl a := by
  k_with_none
  refine intBits_le ?_
  have := natAbs_lt_pow_bits a
  unfold Builtin.bitNot
  unfold bl; omega
theorem cnt_ok {a b : Int} (h1 : (1000 : Int) ≤ bl b) (h2 : (bl a : Int) ≤ 12000000) : ((bl a : Int) + bl b - 1).fdiv (bl b) ≤ 1000000 := by
  have c := cnt (a := a) (n := bl b) (by omega)
  rcases Int.lt_or_le 1000000 (((bl a : Int) + bl b - 1).fdiv (bl b)) with h | h
  · have := Int.mul_le_mul h1 (Int.le_of_lt h) (by decide) (by omega)
    have : (bl b : Int) * 1000001 ≤ (bl b : Int) * ((bl a : Int) + bl b - 1).fdiv (bl b) := Int.mul_le_mul_of_nonneg_left (by omega) (by omega)
    omega
  · exact h
theorem not_dm {a b : Int} (hb : 0 < b) : Builtin.bitNot ((Builtin.bitNot a).fdiv b) = a.fdiv b ∧ b + Builtin.bitNot ((Builtin.bitNot a).fmod b) = a.fmod b := by
  have e := Int.mul_fdiv_add_fmod (Builtin.bitNot a) b
  have f := fm (Builtin.bitNot a) hb
  unfold Builtin.bitNot at *
  have := dm_uniq (a := a) (q := -(-a - 1).fdiv b - 1) (r := b + (-(-a - 1).fmod b - 1)) hb (by
    have : (-(-a - 1).fdiv b - 1) * b = -(b * (-a - 1).fdiv b) - b := by grind
    omega) (by omega) (by omega)
  exact ⟨this.1.symm, this.2.symm⟩
theorem neg_dm (a b : Int) : (-a).fdiv (-b) = a.fdiv b ∧ -((-a).fmod (-b)) = a.fmod b := by
  refine ⟨Int.neg_fdiv_neg a b, ?_⟩
  have e := Int.mul_fdiv_add_fmod (-a) (-b)
  have e2 := Int.mul_fdiv_add_fmod a b
  rw [Int.neg_fdiv_neg] at e
  have : -b * a.fdiv b = -(b * a.fdiv b) := Int.neg_mul ..
  omega
theorem drop2 {g h : Heap} {L : Addr} {a b : Addr × Obj} {r : CbLed} (N : News g L h (a :: b :: r)) : News g L h (a :: r) := fun p hp => N p (by
  rcases List.mem_cons.mp hp with h | h
  · rw [h]; exact List.mem_cons_self ..
  · exact List.mem_cons_of_mem _ (List.mem_cons_of_mem _ h))



theorem c_idm0 (w : World) (mean : ExcName → Option Value) (mg mb : Str → Option Value) (news : CbLed) (h58 : ∀ p ∈ news, p.1 ≠ 58) (h65 : ∀ p ∈ news, p.1 ≠ 65) (av bv : Int) (k1 k2 : Tok) :
   ConT2 w mean mg mb 84 news 61 720 (0 ≤ av ∧ 0 < bv ∧ (1000 : Int) ≤ bl bv ∧ (bl bv : Int) < 4194303 ∧ (bl av : Int) ≤ 12000000) [.int av k1, .int bv k2] (av.fdiv bv) (av.fmod bv) := by
  k_with_none
  k_with "KA" => first | (with_reducible assumption) | exact Low.ne ‹Low _ _› (by lia)
  k_with "isTrue Compare" => (k_here; (first | (with_reducible show wpAny _ _ (PySem.isTrue (PySem.Expr.Compare (PySem.Expr.Name _ _) _ _ _) _ _) _ _ _) | (with_reducible show wpAny _ _ (PySem.isTrue (PySem.Expr.Compare (PySem.Expr.Constant _ _ _) _ _ _) _ _) _ _ _) | (with_reducible show wpAny _ _ (PySem.isTrue (PySem.Expr.Compare (PySem.Expr.BinOp (PySem.Expr.Name _ _) _ _ _) _ _ _) _ _) _ _ _)); (first | (with_reducible show wpAny _ _ (PySem.isTrue (PySem.Expr.Compare _ _ [(PySem.Expr.Name _ _)] _) _ _) _ _ _) | (with_reducible show wpAny _ _ (PySem.isTrue (PySem.Expr.Compare _ _ [(PySem.Expr.Constant _ _ _)] _) _ _) _ _ _) | (with_reducible show wpAny _ _ (PySem.isTrue (PySem.Expr.Compare _ _ [(PySem.Expr.BinOp (PySem.Expr.Name _ _) _ _ _)] _) _ _) _ _ _)); k_dflt (refine' cmpS ?svF ?svk ?svS ?svU ?_ ?svh; (case svF => k_asm); (case svk => rfl); (case svS => walk_at "SV"); (case svU => walk_at "SV"); (case svh => with_unfolding_all rfl); k_whole))
  k_with "spliced" => (k_here; (first | (with_reducible show wpAny _ _ (spliced (backTo _ (starEach ((PySem.Expr.Name _ _) :: _) _))) _ _ _) | (with_reducible show wpAny _ _ (spliced (backTo _ (starEach ((PySem.Expr.Constant _ _ _) :: _) _))) _ _ _) | (with_reducible show wpAny _ _ (spliced (backTo _ (starEach ((PySem.Expr.BinOp (PySem.Expr.Name _ _) _ _ _) :: _) _))) _ _ _)); k_dflt (refine' itemsS ?svF ?svk ?svS ?_; (case svF => k_asm); (case svk => rfl); (case svS => walk_at "SV"); k_whole))
  k_with "storeName" => (k_here; k_dflt (refine' storeLF ?F ?N ?_ ?a ?b; (case F => k_asm); (case N => k_asm); (case a => rfl); (case b => rfl); k_whole; intro _ _ _ _; (try k_sweep)))
  k_with "execs cons" => (k_here; (with_reducible refine wpAny_execs_cons ?_); k_fold)
  k_with "execs cons" => (k_here; (with_reducible show wpAny _ _ _ _ _ (Shared.mk _ _ _ (_ + 1 + 1) _)); refine gentok ?_; intro _; (with_reducible refine wpAny_execs_cons ?_); (try dsimp only); (try k_fold))
  k_with "execs nil" => (k_here; (with_reducible show wpAny _ _ _ _ _ (Shared.mk _ _ _ (_ + 1 + 1) _)); refine gentok ?_; intro _; (with_reducible refine wpAny_execs_nil ?_); try dsimp only)
  suffices hfill : PySem.Challenge.rw_uc0065_01 = PySem.Challenge.rw_uc0065_01 → KL = KL → ConT2 w mean mg mb 84 news 61 720 (0 ≤ av ∧ 0 < bv ∧ (1000 : Int) ≤ bl bv ∧ (bl bv : Int) < 4194303 ∧ (bl av : Int) ≤ 12000000) [.int av k1, .int bv k2] (av.fdiv bv) (av.fmod bv) from hfill rfl rfl
  k_fill
  intro hrow hKL; clear hrow hKL
  unfold ConT2; intro dp un gd cn cs a ccd cl outer A₀ base h₀ L m s Q E T1 T2 hT1 hT2 hB9 hF9 hX9 hN9 hTop9 hk9 hp9 hd9 hu9 hret
  obtain ⟨ha0, hb0, hn0, hn1, hab⟩ := hp9
  refine wpAny_call ?_
  k_dflt cell_enter
  refine letF ‹Fr _ _ _ _› ?_
  intro me Fe
  refine letA ?_
  intro A9
  k_steps
  all_goals try (exfalso; omega)
  refine' c_dpos w mean mg mb _ h58 h65 av bv _ _ _ _ _ _ _ _ _ _ _ _ _ _ _ _ _ _ _ T1 T2 hT1 hT2 ?k1 ?k2 ?k3 ?k4 ?k5 ?kK ?kp ?kd ?ku ?_
  case k1 => k_asm
  case k2 => k_asm
  case k3 => k_asm
  case k4 => k_asm
  case k5 => k_asm
  case kK => first | exact rfl | assumption
  case kp => exact ⟨ha0, hb0, hn0, hn1, hab, cnt_ok hn0 hab⟩
  case kd => ktr_room
  case ku => ktr_units
  intro t1 t2 b9 h9 tk9 T1' T2' hT1' hT2' F9 N9 l9
  try dsimp only
  try k_fold
  k_steps
  exact hret _ _ _ _ _ T1' T2' hT1' hT2' (by assumption) (by assumption) l9



theorem c_idm1 (w : World) (mean : ExcName → Option Value) (mg mb : Str → Option Value) (news : CbLed) (h58 : ∀ p ∈ news, p.1 ≠ 58) (h65 : ∀ p ∈ news, p.1 ≠ 65) (av bv : Int) (k1 k2 : Tok) :
   ConT2 w mean mg mb 84 news 62 740 (av < 0 ∧ 0 < bv ∧ (1000 : Int) ≤ bl bv ∧ (bl bv : Int) < 4194303 ∧ (bl av : Int) ≤ 12000000) [.int av k1, .int bv k2] (av.fdiv bv) (av.fmod bv) := by
  suffices hfill : PySem.Challenge.rw_uc0065_01 = PySem.Challenge.rw_uc0065_01 → KL = KL → ConT2 w mean mg mb 84 news 62 740 (av < 0 ∧ 0 < bv ∧ (1000 : Int) ≤ bl bv ∧ (bl bv : Int) < 4194303 ∧ (bl av : Int) ≤ 12000000) [.int av k1, .int bv k2] (av.fdiv bv) (av.fmod bv) from hfill rfl rfl
  k_fill
  intro hrow hKL; clear hrow hKL
  unfold ConT2; intro dp un gd cn cs a ccd cl outer A₀ base h₀ L m s Q E T1 T2 hT1 hT2 hB9 hF9 hX9 hN9 hTop9 hk9 hp9 hd9 hu9 hret
  obtain ⟨ha0, hb0, hn0, hn1, hab⟩ := hp9
  refine wpAny_call ?_
  k_dflt cell_enter
  refine letF ‹Fr _ _ _ _› ?_
  intro me Fe
  refine letA ?_
  intro A9
  k_steps
  all_goals try (exfalso; omega)
  refine' c_idm0 w mean mg mb _ h58 h65 (Builtin.bitNot av) bv _ _ _ _ _ _ _ _ _ _ _ _ _ _ _ _ _ _ _ T1 T2 hT1 hT2 ?k1 ?k2 ?k3 ?k4 ?k5 ?kK ?kp ?kd ?ku ?_
  case k1 => k_asm
  case k2 => k_asm
  case k3 => k_asm
  case k4 => k_asm
  case k5 => k_asm
  case kK => first | exact rfl | assumption
  case kp => exact ⟨by unfold Builtin.bitNot; omega, hb0, hn0, hn1, by have := bl_not ha0; omega⟩
  case kd => ktr_room
  case ku => ktr_units
  intro t1 t2 b9 h9 tk9 T1' T2' hT1' hT2' F9 N9 l9
  try dsimp only
  try k_fold
  k_steps
  refine' hret _ _ _ _ _ T1' T2' hT1' hT2' ?zF ?zN ?zl
  case zF => assumption
  case zN => rw [← (not_dm hb0).1, ← (not_dm hb0).2]; exact drop2 (by assumption)
  case zl => exact fun p hp => allLt_all _ (And.right (by assumption)) p (show p ∈ T1' ++ (T2' ++ news) by (first | ((try rw [hp]); (repeat first | exact List.mem_cons_self .. | exact hp | exact List.mem_append_left _ hp | refine List.mem_append_right _ ?_ | refine List.mem_cons_of_mem _ ?_); done) | simp [hp]))


theorem ConT2.mono {w : World} {mean : ExcName → Option Value} {mg mb : Str → Option Value} {f : Addr} {news : CbLed} {d u d' u' : Nat} {pre pre' : Prop} {vs : List Value} {x y : Int} (C : ConT2 w mean mg mb f news d u pre vs x y) (h : pre' → pre) (hd : d ≤ d') (hu : u ≤ u') : ConT2 w mean mg mb f news d' u' pre' vs x y :=
  fun dp un gd cn cs a ccd cl outer A₀ base h₀ L m s Q E T1 T2 hT1 hT2 B F X N T hk hp e1 e2 hR => C dp un gd cn cs a ccd cl outer A₀ base h₀ L m s Q E T1 T2 hT1 hT2 B F X N T hk (h hp) (by omega) (by omega) hR
theorem c_idmP (w : World) (mean : ExcName → Option Value) (mg mb : Str → Option Value) (news : CbLed) (h58 : ∀ p ∈ news, p.1 ≠ 58) (h65 : ∀ p ∈ news, p.1 ≠ 65) (av bv : Int) (k1 k2 : Tok) :
    ConT2 w mean mg mb 84 news 62 740 (0 < bv ∧ (1000 : Int) ≤ bl bv ∧ (bl bv : Int) < 4194303 ∧ (bl av : Int) ≤ 12000000) [.int av k1, .int bv k2] (av.fdiv bv) (av.fmod bv) := by
  by_cases h : 0 ≤ av
  · exact (c_idm0 w mean mg mb news h58 h65 av bv k1 k2).mono (fun q => ⟨h, q⟩) (by decide) (by decide)
  · exact (c_idm1 w mean mg mb news h58 h65 av bv k1 k2).mono (fun q => ⟨by omega, q⟩) (by decide) (by decide)



theorem c_idm2 (w : World) (mean : ExcName → Option Value) (mg mb : Str → Option Value) (news : CbLed) (h58 : ∀ p ∈ news, p.1 ≠ 58) (h65 : ∀ p ∈ news, p.1 ≠ 65) (av bv : Int) (k1 k2 : Tok) :
   ConT2 w mean mg mb 84 news 63 760 (bv < 0 ∧ (1000 : Int) ≤ bl bv ∧ (bl bv : Int) < 4194303 ∧ (bl av : Int) ≤ 12000000) [.int av k1, .int bv k2] (av.fdiv bv) (av.fmod bv) := by
  suffices hfill : PySem.Challenge.rw_uc0065_01 = PySem.Challenge.rw_uc0065_01 → KL = KL → ConT2 w mean mg mb 84 news 63 760 (bv < 0 ∧ (1000 : Int) ≤ bl bv ∧ (bl bv : Int) < 4194303 ∧ (bl av : Int) ≤ 12000000) [.int av k1, .int bv k2] (av.fdiv bv) (av.fmod bv) from hfill rfl rfl
  k_fill
  intro hrow hKL; clear hrow hKL
  unfold ConT2; intro dp un gd cn cs a ccd cl outer A₀ base h₀ L m s Q E T1 T2 hT1 hT2 hB9 hF9 hX9 hN9 hTop9 hk9 hp9 hd9 hu9 hret
  obtain ⟨hb0, hn0, hn1, hab⟩ := hp9
  refine wpAny_call ?_
  k_dflt cell_enter
  refine letF ‹Fr _ _ _ _› ?_
  intro me Fe
  refine letA ?_
  intro A9
  k_steps
  all_goals try (exfalso; omega)
  refine' c_idmP w mean mg mb _ h58 h65 (-av) (-bv) _ _ _ _ _ _ _ _ _ _ _ _ _ _ _ _ _ _ _ T1 T2 hT1 hT2 ?k1 ?k2 ?k3 ?k4 ?k5 ?kK ?kp ?kd ?ku ?_
  case k1 => k_asm
  case k2 => k_asm
  case k3 => k_asm
  case k4 => k_asm
  case k5 => k_asm
  case kK => first | exact rfl | assumption
  case kp => exact ⟨by omega, by rw [bl_neg]; exact hn0, by rw [bl_neg]; exact hn1, by rw [bl_neg]; exact hab⟩
  case kd => ktr_room
  case ku => ktr_units
  intro t1 t2 b9 h9 tk9 T1' T2' hT1' hT2' F9 N9 l9
  try dsimp only
  try k_fold
  k_steps
  refine' hret _ _ _ _ _ T1' T2' hT1' hT2' ?zF ?zN ?zl
  case zF => assumption
  case zN => rw [← (neg_dm av bv).1, ← (neg_dm av bv).2]; exact drop2 (by assumption)
  case zl => exact fun p hp => allLt_all _ (And.right (by assumption)) p (show p ∈ T1' ++ (T2' ++ news) by (first | ((try rw [hp]); (repeat first | exact List.mem_cons_self .. | exact hp | exact List.mem_append_left _ hp | refine List.mem_append_right _ ?_ | refine List.mem_cons_of_mem _ ?_); done) | simp [hp]))


/-- the contract of int_divmod -/
theorem c_idm (w : World) (mean : ExcName → Option Value) (mg mb : Str → Option Value) (news : CbLed) (h58 : ∀ p ∈ news, p.1 ≠ 58) (h65 : ∀ p ∈ news, p.1 ≠ 65) (av bv : Int) (k1 k2 : Tok) :
    ConT2 w mean mg mb 84 news 63 760 ((1000 : Int) ≤ bl bv ∧ (bl bv : Int) < 4194303 ∧ (bl av : Int) ≤ 12000000) [.int av k1, .int bv k2] (av.fdiv bv) (av.fmod bv) := by
  rcases Int.lt_trichotomy bv 0 with h | h | h
  · exact (c_idm2 w mean mg mb news h58 h65 av bv k1 k2).mono (fun q => ⟨h, q⟩) (by decide) (by decide)
  · subst h; intro dp un gd cn cs a ccd cl outer A₀ base h₀ L m s Q E T1 T2 hT1 hT2 B F X N T hk hp; exact absurd hp.1 (by decide)
  · exact (c_idmP w mean mg mb news h58 h65 av bv k1 k2).mono (fun q => ⟨h, q⟩) (by decide) (by decide)

end Mine
open PyProof.Rows in

end
-- L27
section
open PySem PySem.W PySem.Spec PySem.Calls PyProof.Rows PyProof.Rows.LCg
set_option Elab.async false
set_option maxRecDepth 100000
set_option maxHeartbeats 1000000
namespace Mine


section
variable {w : World} {mean : ExcName → Option Value} {mg mb : Str → Option Value} {news T1 T2 : CbLed} {dp un : Nat} {gd : Option (List Code)} {cn : Str} {cs : Scope} {a : Addr} {ccd : Value} {cl : List (Str × Addr)} {outer : List Env} {A₀ : Around} {base h₀ : Heap} {L : Addr} {m : Str → Option Value} {s : Shared} {Q E : Value → Shared → Prop}
noncomputable abbrev TabA (T : CbLed) : Prop := TabSt 58 78 4 (z "_int2digits.<locals>.inner") T
noncomputable abbrev TabB (T : CbLed) : Prop := TabSt 65 93 4 (z "_digits2int.<locals>.inner") T
theorem useDm {av bv : Int} {k1 k2 : Tok} (h58 : ∀ p ∈ news, p.1 ≠ 58) (h65 : ∀ p ∈ news, p.1 ≠ 65) (hT1 : TabA T1) (hT2 : TabB T2) (B : PyProof.Rows.Below A₀ base outer h₀) (F : Fr h₀ L s.heap m) (X : (KL w.params).In h₀) (N : News h₀ L s.heap (T1 ++ (T2 ++ news))) (T : Top qv looseN mean mg mb h₀) (hk : cs.kind = .function)
    (hp : (1000 : Int) ≤ bl bv ∧ (bl bv : Int) < 4194303 ∧ (bl av : Int) ≤ 12000000) (hd : dp + 63 < recursionLimit) (hu : un + 760 < cLine)
    (hR : ∀ (t1 t2 : Tok) (b : Addr) (h' : Heap) (tk' : Nat) (T1' T2' : CbLed), TabA T1' → TabB T2' → Fr h₀ L h' m → News h₀ L h' ((b, tup2I (av.fdiv bv) (av.fmod bv) t1 t2) :: (T1' ++ (T2' ++ news))) → Q (.ref b) { s with heap := h', toks := tk' }) :
    wpAny (model prog w) (ktrTop dp un gd cn cs L a ccd cl outer) (call (.ref 84) [.int av k1, .int bv k2]) Q E s :=
  c_idm w mean mg mb news h58 h65 av bv k1 k2 dp un gd cn cs a ccd cl outer A₀ base h₀ L m s Q E T1 T2 hT1 hT2 B F X N T hk hp hd hu fun t1 t2 b h' tk' T1' T2' g1 g2 F' N' _ => hR t1 t2 b h' tk' T1' T2' g1 g2 F' N'
end
theorem law_dm (w : World) {mean : ExcName → Option Value} {mg mb : Str → Option Value} {h₀ : Heap} {L fa : Addr} {cd : Value} {s : Shared} {m : Str → Option Value} {T1 T2 nx : List (Addr × Obj)} {lc : Addr} {ys : List Value} {ns : List Int} {tot b p l sd : Int} {t1 t2 t3 t4 t5 : Tok} {Q : Flow → Shared → Prop} {E : Value → Shared → Prop}
    (F : Fr h₀ L s.heap m) (X : (KL w.params).In h₀) (T : Top qv looseN mean mg mb h₀) (N : News h₀ L s.heap (T1 ++ (T2 ++ nx))) (hT1 : TabA T1) (hT2 : TabB T2) (h58 : ∀ p ∈ nx, p.1 ≠ 58) (h65 : ∀ p ∈ nx, p.1 ≠ 65) (hml : (lc, lst ys) ∈ nx) (hc : m (Str.ofString "cells") = some (.ref lc)) (hys : IntsAre ys ns) (hns : ns.length = 6)
    (h1 : m (Str.ofString "total") = some (.int tot t1)) (h2 : m (Str.ofString "by") = some (.int b t2)) (h3 : m (Str.ofString "product") = some (.int p t3)) (h4 : m (Str.ofString "long_one") = some (.int l t4)) (h5 : m (Str.ofString "side") = some (.int sd t5))
    (i1 : b * l ≠ 0) (i2 : IntMulOk b l) (i3 : IntMulOk p l) (i4 : IntMulOk sd (p * l + (ns.getD (Int.toNat 5) 0 - 1).fmod (b * l))) (i5 : IntMulOk sd b) (i6 : IntMulOk (sd * b) l) (i7 : IntMulOk sd ((ns.getD (Int.toNat 5) 0 - 1).fmod (b * l)))
    (ip : (1000 : Int) ≤ bl (sd * b * l) ∧ (bl (sd * b * l) : Int) < 4194303 ∧ (bl (sd * (p * l + (ns.getD (Int.toNat 5) 0 - 1).fmod (b * l))) : Int) ≤ 12000000)
    (e1 : (sd * (p * l + (ns.getD (Int.toNat 5) 0 - 1).fmod (b * l))).fdiv (sd * b * l) = tot) (e2 : (sd * (p * l + (ns.getD (Int.toNat 5) 0 - 1).fmod (b * l))).fmod (sd * b * l) = sd * (ns.getD (Int.toNat 5) 0 - 1).fmod (b * l))
    (hQ : ∀ (h' : Heap) (tk' : Nat) (m' : Str → Option Value) (T1' T2' : List (Addr × Obj)), TabA T1' → TabB T2' → (∀ z, z ≠ Str.ofString "rest" → m' z = m z) → Fr h₀ L h' m' → News h₀ L h' (T1' ++ (T2' ++ nx)) → Q .next { s with heap := h', toks := tk' }) :
    PySem.Challenge.rw_uc0065_01 = PySem.Challenge.rw_uc0065_01 → KL = KL →
    wpAny (model prog w) (lawA L fa cd) (execs (forBodyX (stAt 16 fb25)) (lawE L fa cd)) Q E s := by
  k_with_none
  k_with "eval BinOp" => (k_here; (first | (with_reducible show wpAny _ _ (eval (PySem.Expr.BinOp (PySem.Expr.Name _ _) _ _ _) _) _ _ _) | (with_reducible show wpAny _ _ (eval (PySem.Expr.BinOp (PySem.Expr.Constant _ _ _) _ _ _) _) _ _ _) | (with_reducible show wpAny _ _ (eval (PySem.Expr.BinOp (PySem.Expr.BinOp (PySem.Expr.Name _ _) _ _ _) _ _ _) _) _ _ _)); (first | (with_reducible show wpAny _ _ (eval (PySem.Expr.BinOp _ _ (PySem.Expr.Name _ _) _) _) _ _ _) | (with_reducible show wpAny _ _ (eval (PySem.Expr.BinOp _ _ (PySem.Expr.Constant _ _ _) _) _) _ _ _)); k_dflt (first | (refine' valS ?svF ?svk ?svS ?_; (case svF => k_asm); (case svk => rfl); (case svS => walk_at "SV"); k_whole) | (refine' binS ?svF ?svk ?svS ?svU ?_; (case svF => k_asm); (case svk => rfl); (case svS => walk_at "SV"); (case svU => walk_at "SV"); k_whole)))
  k_with "eval Subscript" => (k_here; (first | (with_reducible show wpAny _ _ (eval (PySem.Expr.Subscript (PySem.Expr.Name _ _) (PySem.Expr.Name _ _) _) _) _ _ _) | (with_reducible show wpAny _ _ (eval (PySem.Expr.Subscript (PySem.Expr.Name _ _) (PySem.Expr.Constant _ _ _) _) _) _ _ _) | (with_reducible show wpAny _ _ (eval (PySem.Expr.Subscript (PySem.Expr.Name _ _) (PySem.Expr.BinOp (PySem.Expr.Name _ _) _ _ _) _) _) _ _ _)); k_dflt (refine' subS ?svF ?svk ?svS ?svU ?_; (case svF => k_asm); (case svk => rfl); (case svS => walk_at "SV"); (case svU => walk_at "SV"); k_whole))
  k_with "storeName" => (k_here; k_dflt (refine' storeLF ?F ?N ?_ ?a ?b; (case F => k_asm); (case N => k_asm); (case a => rfl); (case b => rfl); k_whole; intro _ _ _ _; (try k_sweep)))
  k_with "execs cons" => (k_here; (with_reducible refine wpAny_execs_cons ?_); k_fold)
  k_with "execs cons" => (k_here; (with_reducible show wpAny _ _ _ _ _ (Shared.mk _ _ _ (_ + 1 + 1) _)); refine gentok ?_; intro _; (with_reducible refine wpAny_execs_cons ?_); (try dsimp only); (try k_fold))
  k_with "execs nil" => (k_here; (with_reducible show wpAny _ _ _ _ _ (Shared.mk _ _ _ (_ + 1 + 1) _)); refine gentok ?_; intro _; (with_reducible refine wpAny_execs_nil ?_); try dsimp only)
  k_with "call ref" => (k_here; (with_reducible show wpAny _ _ (call (Value.ref 84) _) _ _ _); k_dflt (refine' useDm ?k6 ?k7 ?k8 ?k9 ?k1 ?k2 ?k3 ?k4 ?k5 ?kK ?kp ?kd ?ku ?_); (case k8 => assumption); (case k9 => assumption); (case k1 => k_asm); (case k2 => k_asm); (case k3 => k_asm); (case k4 => exact cb_drop (by assumption) (by intro _ hp; exact List.mem_cons_of_mem _ hp)); (case k5 => k_asm); (case k6 => assumption); (case k7 => assumption); (case kK => exact rfl); (case kp => first | assumption | omega); (case kd => ktr_room); (case ku => ktr_units); (intro _ _ _ _ _ _ _ _ _ _ _); (try dsimp only); (try k_fold))
  k_fill
  intro hrow hKL; clear hrow hKL
  have B := below_caller h₀
  have eK := know_cons (x := Str.ofString "side") (v := .int sd t5) (know_cons (x := Str.ofString "long_one") (v := .int l t4) (know_cons (x := Str.ofString "product") (v := .int p t3) (know_cons (x := Str.ofString "by") (v := .int b t2) (know_cons (x := Str.ofString "total") (v := .int tot t1) (know_eq hc) h1) h2) h3) h4) h5
  rw [← eK] at F
  replace N := cb_drop (news := (lc, lst ys) :: (T1 ++ (T2 ++ nx))) N (by
    intro p hp
    rcases List.mem_cons.mp hp with h | h
    · subst h; (first | ((try rw [hml]); (repeat first | exact List.mem_cons_self .. | exact hml | exact List.mem_append_left _ hml | refine List.mem_append_right _ ?_ | refine List.mem_cons_of_mem _ ?_); done) | simp [hml])
    · exact h)
  show wpAny _ _ (execs [.Assign _ _ _, .If _ [.Return _ _] [] _] _) _ _ _
  k_steps
  · exact absurd ‹b * l = 0› (Int.mul_ne_zero ‹b ≠ 0› ‹l ≠ 0›)
  · rename_i T19 T29 hT19 hT29 D9 h9 F9 N9 l9 a9
    exact hQ _ _ _ T19 T29 hT19 hT29 (fun z hz => (if_neg hz).trans (congrFun eK z)) F9 (cb_drop N9 (by intro p hp; exact List.mem_cons_of_mem _ (List.mem_cons_of_mem _ hp)))
  · exfalso
    rename_i T19 T29 hT19 hT29 D9 h9 F9 N9 l9 a9
    rw [e1, e2] at a9
    simp at a9
end Mine

end
-- SV
section
open PySem PySem.W PySem.Spec PySem.Calls PyProof.Rows PyProof.Rows.LCg
set_option Elab.async false
set_option maxRecDepth 100000
set_option maxHeartbeats 1000000
namespace Mine
noncomputable def pHigh (u v : Int) : Int := (4 * u + 4 * v) * (5 * u + 3 * v) * (6 * u + 2 * v)
noncomputable def pLow (u v : Int) : Int := (7 * u + 7 * v) * (6 * u + 5 * v) * (5 * u + 3 * v)
theorem ks_succ (n : Nat) : rangeKs 0 (n + 1) = rangeKs 0 n ++ [(n : Int)] := by
  unfold rangeKs; rw [List.range_succ, List.map_append, List.map_singleton, Int.zero_add]
theorem val_succ (st u v : Int) (ns : List Int) (n : Nat) : valF st u v ns (rangeKs 0 (n + 1)) = valF st u v ns (rangeKs 0 n) * (((n : Int) - st + 1) * u + v) ^ (ns.getD n 0).toNat := by
  unfold valF; rw [ks_succ, List.foldl_append, List.foldl_cons, List.foldl_nil, Int.toNat_natCast]
theorem val_zero (st : Nat) (c : List Int) (u v : Int) : ∀ k, k ≤ st → valF st u v (List.replicate st 0 ++ c) (rangeKs 0 k) = 1
  | 0, _ => rfl
  | k + 1, h => by
    rw [val_succ, val_zero st c u v k (by lia)]
    have e : (List.replicate st (0 : Int) ++ c).getD k 0 = 0 := by
      rw [List.getD_eq_getElem?_getD, List.getElem?_append_left (by simp; lia), List.getElem?_replicate, if_pos (by lia)]; rfl
    rw [e]; show 1 * _ ^ (0 : Nat) = 1; rw [Int.pow_zero, Int.mul_one]
theorem val_shift (st : Nat) (c : List Int) (u v : Int) : ∀ k, valF st u v (List.replicate st 0 ++ c) (rangeKs 0 (st + k)) = valF 0 u v c (rangeKs 0 k)
  | 0 => by rw [Nat.add_zero, val_zero st c u v st (Nat.le_refl _)]; rfl
  | k + 1 => by
    rw [← Nat.add_assoc, val_succ, val_succ, val_shift st c u v k]
    have e : (List.replicate st (0 : Int) ++ c).getD (st + k) 0 = c.getD k 0 := by
      rw [List.getD_eq_getElem?_getD, List.getElem?_append_right (by simp), List.length_replicate, Nat.add_sub_cancel_left, List.getD_eq_getElem?_getD]
    rw [e]
    have e2 : (((st + k : Nat) : Int) - (st : Int) + 1) = ((k : Int) - 0 + 1) := by lia
    rw [e2]
theorem wval_of {x : Str} {st : Nat} {c : List Int} {k : Int} (u v : Int) (hC : wC x = List.replicate st 0 ++ c) (hK : (([1, 1, 2, 6] : List Int).getD (wT x).toNat 0).fdiv (wHook x st) = k) : wVal x st u v = valF 0 u v c (rangeKs 0 c.length) * k := by
  unfold wVal
  rw [hK, hC]
  have e : (((List.replicate st (0 : Int) ++ c).length : Int) - 0).toNat = st + c.length := by rw [List.length_append, List.length_replicate]; lia
  rw [e, val_shift]
noncomputable def lowC : List (List Int) := [[3], [2, 1], [2, 1], [2, 0, 1], [1, 1, 1]]
noncomputable def highC : List (List Int) := [[1, 1, 1], [1, 1, 1], [2, 0, 1], [1, 1, 1], [1, 1, 1]]
noncomputable def lowK : List Int := [6, 3, 3, 2, 1]
noncomputable def highK : List Int := [1, 1, 2, 1, 1]
theorem low_at : ∀ st : Fin 4, ∀ r : Fin 5, wC (lowX st.1 r.1) = List.replicate st.1 0 ++ lowC.getD r.1 [] ∧ (([1, 1, 2, 6] : List Int).getD (wT (lowX st.1 r.1)).toNat 0).fdiv (wHook (lowX st.1 r.1) (st.1 : Nat)) = lowK.getD r.1 0 := by decide +kernel
theorem high_at : ∀ st : Fin 4, ∀ r : Fin 5, wC (highX st.1 r.1) = List.replicate st.1 0 ++ highC.getD r.1 [] ∧ (([1, 1, 2, 6] : List Int).getD (wT (highX st.1 r.1)).toNat 0).fdiv (wHook (highX st.1 r.1) (st.1 : Nat)) = highK.getD r.1 0 := by decide +kernel
theorem low_val {st : Nat} (h : st < 4) {r : Nat} (hr : r < 5) (u v : Int) : wVal (lowX st r) st u v = valF 0 u v (lowC.getD r []) (rangeKs 0 (lowC.getD r []).length) * lowK.getD r 0 :=
  let a := low_at ⟨st, h⟩ ⟨r, hr⟩; wval_of u v a.1 a.2
theorem high_val {st : Nat} (h : st < 4) {r : Nat} (hr : r < 5) (u v : Int) : wVal (highX st r) st u v = valF 0 u v (highC.getD r []) (rangeKs 0 (highC.getD r []).length) * highK.getD r 0 :=
  let a := high_at ⟨st, h⟩ ⟨r, hr⟩; wval_of u v a.1 a.2
theorem v3 (u v : Int) : valF 0 u v [3] (rangeKs 0 1) = (u + v) ^ 3 := by
  show (1 : Int) * ((0 - 0 + 1) * u + v) ^ 3 = _; grind
theorem v21 (u v : Int) : valF 0 u v [2, 1] (rangeKs 0 2) = (u + v) ^ 2 * (2 * u + v) := by
  show (1 : Int) * ((0 - 0 + 1) * u + v) ^ 2 * ((1 - 0 + 1) * u + v) ^ 1 = _; grind
theorem v201 (u v : Int) : valF 0 u v [2, 0, 1] (rangeKs 0 3) = (u + v) ^ 2 * (3 * u + v) := by
  show (1 : Int) * ((0 - 0 + 1) * u + v) ^ 2 * ((1 - 0 + 1) * u + v) ^ 0 * ((2 - 0 + 1) * u + v) ^ 1 = _; grind
theorem v111 (u v : Int) : valF 0 u v [1, 1, 1] (rangeKs 0 3) = (u + v) * (2 * u + v) * (3 * u + v) := by
  show (1 : Int) * ((0 - 0 + 1) * u + v) ^ 1 * ((1 - 0 + 1) * u + v) ^ 1 * ((2 - 0 + 1) * u + v) ^ 1 = _; grind
theorem low_sums {st : Nat} (h : st < 4) (u v : Int) : 7 * sumLow st u v 5 = pLow u v := by
  have e : sumLow st u v 5 = 0 + wVal (lowX st 0) st u v + wVal (lowX st 1) st u v + wVal (lowX st 2) st u v + wVal (lowX st 3) st u v + wVal (lowX st 4) st u v := rfl
  rw [e, low_val h (r := 0) (by decide), low_val h (r := 1) (by decide), low_val h (r := 2) (by decide), low_val h (r := 3) (by decide), low_val h (r := 4) (by decide)]
  show 7 * (0 + valF 0 u v [3] (rangeKs 0 1) * 6 + valF 0 u v [2, 1] (rangeKs 0 2) * 3 + valF 0 u v [2, 1] (rangeKs 0 2) * 3 + valF 0 u v [2, 0, 1] (rangeKs 0 3) * 2 + valF 0 u v [1, 1, 1] (rangeKs 0 3) * 1) = _
  rw [v3, v21, v201, v111]; unfold pLow; grind
theorem high_sums {st : Nat} (h : st < 4) (u v : Int) : 4 * sumHigh st u v 5 = pHigh u v := by
  have e : sumHigh st u v 5 = 0 + wVal (highX st 0) st u v + wVal (highX st 1) st u v + wVal (highX st 2) st u v + wVal (highX st 3) st u v + wVal (highX st 4) st u v := rfl
  rw [e, high_val h (r := 0) (by decide), high_val h (r := 1) (by decide), high_val h (r := 2) (by decide), high_val h (r := 3) (by decide), high_val h (r := 4) (by decide)]
  show 4 * (0 + valF 0 u v [1, 1, 1] (rangeKs 0 3) * 1 + valF 0 u v [1, 1, 1] (rangeKs 0 3) * 1 + valF 0 u v [2, 0, 1] (rangeKs 0 3) * 2 + valF 0 u v [1, 1, 1] (rangeKs 0 3) * 1 + valF 0 u v [1, 1, 1] (rangeKs 0 3) * 1) = _
  rw [v201, v111]; unfold pHigh; grind
end Mine

end
-- L28
section
open PySem PySem.W PySem.Spec PySem.Calls PyProof.Rows PyProof.Rows.LCg
set_option Elab.async false
set_option maxRecDepth 100000
set_option maxHeartbeats 1000000
namespace Mine


theorem lin_bl {a b u v : Int} (ha : bl a ≤ 3) (hb : bl b ≤ 3) (hu : bl u ≤ 1100000) (hv : bl v ≤ 1100000) : bl (a * u + b * v) ≤ 1100004 := by
  have h1 : bl (a * u) ≤ 3 + 1100000 := intBits_mul_le ha hu
  have h2 : bl (b * v) ≤ 3 + 1100000 := intBits_mul_le hb hv
  have h3 : bl (a * u + b * v) ≤ max (3 + 1100000) (3 + 1100000) + 1 := intBits_add_le h1 h2
  exact h3
theorem lin_ok {a b u v c d : Int} (ha : bl a ≤ 3) (hb : bl b ≤ 3) (hc : bl c ≤ 3) (hd : bl d ≤ 3) (hu : bl u ≤ 1100000) (hv : bl v ≤ 1100000) : IntMulOk (a * u + b * v) (c * u + d * v) :=
  IntMulOk.of_le (lin_bl ha hb hu hv) (lin_bl hc hd hu hv) (by decide)
theorem lin_ok3 {a b u v c d e f : Int} (ha : bl a ≤ 3) (hb : bl b ≤ 3) (hc : bl c ≤ 3) (hd : bl d ≤ 3) (he : bl e ≤ 3) (hf : bl f ≤ 3) (hu : bl u ≤ 1100000) (hv : bl v ≤ 1100000) : IntMulOk ((a * u + b * v) * (c * u + d * v)) (e * u + f * v) :=
  IntMulOk.of_le (intBits_mul_le (lin_bl ha hb hu hv) (lin_bl hc hd hu hv)) (lin_bl he hf hu hv) (by decide)
theorem law_prods (w : World) {mean : ExcName → Option Value} {mg mb : Str → Option Value} {h₀ : Heap} {L fa : Addr} {cd : Value} {s : Shared} {m : Str → Option Value} {nx : List (Addr × Obj)} {hs ls u v : Int} {t1 t2 t3 t4 : Tok} {Q : Value → Shared → Prop} {E : Value → Shared → Prop}
    (F : Fr h₀ L s.heap m) (X : (KL w.params).In h₀) (T : Top qv looseN mean mg mb h₀) (N : News h₀ L s.heap nx)
    (h1 : m (Str.ofString "high_sum") = some (.int hs t1)) (h2 : m (Str.ofString "low_sum") = some (.int ls t2)) (h3 : m (Str.ofString "x") = some (.int u t3)) (h4 : m (Str.ofString "y") = some (.int v t4)) (hbu : bl u ≤ 1100000) (hbv : bl v ≤ 1100000)
    (hQ : ∀ (h' : Heap) (tk' : Nat) (l D1 D2 : Addr) (k1 k2 k3 k4 k5 k6 : Tok), (∀ q ∈ nx, q.1 < D1) → (∀ q ∈ nx, q.1 < D2) → (∀ q ∈ nx, q.1 < l) → D1 < l → D2 < l → Fr h₀ L h' m → News h₀ L h' ((l, W.listOf #[.ref D1, .ref D2] 0) :: (D2, W.listOf #[.int ls k4, .int 7 k5, .int (pLow u v) k6] 0) :: (D1, W.listOf #[.int hs k1, .int 4 k2, .int (pHigh u v) k3] 0) :: nx) → Q (.ref l) { s with heap := h', toks := tk' }) :
    PySem.Challenge.rw_uc0065_01 = PySem.Challenge.rw_uc0065_01 → KL = KL →
    wpAny (model prog w) (lawA L fa cd) (eval (forIter (stAt 16 fb25)) (lawE L fa cd)) Q E s := by
  k_with_none
  k_with "eval BinOp" => (k_here; (first | (with_reducible show wpAny _ _ (eval (PySem.Expr.BinOp (PySem.Expr.Name _ _) _ _ _) _) _ _ _) | (with_reducible show wpAny _ _ (eval (PySem.Expr.BinOp (PySem.Expr.Constant _ _ _) _ _ _) _) _ _ _) | (with_reducible show wpAny _ _ (eval (PySem.Expr.BinOp (PySem.Expr.BinOp (PySem.Expr.Name _ _) _ _ _) _ _ _) _) _ _ _)); (first | (with_reducible show wpAny _ _ (eval (PySem.Expr.BinOp _ _ (PySem.Expr.Name _ _) _) _) _ _ _) | (with_reducible show wpAny _ _ (eval (PySem.Expr.BinOp _ _ (PySem.Expr.Constant _ _ _) _) _) _ _ _)); k_dflt (first | (refine' valS ?svF ?svk ?svS ?_; (case svF => k_asm); (case svk => rfl); (case svS => walk_at "SV"); k_whole) | (refine' binS ?svF ?svk ?svS ?svU ?_; (case svF => k_asm); (case svk => rfl); (case svS => walk_at "SV"); (case svU => walk_at "SV"); k_whole)))
  k_with "execs cons" => (k_here; (with_reducible show wpAny _ _ _ _ _ (Shared.mk _ _ _ (_ + 1 + 1) _)); refine gentok ?_; intro _; (with_reducible refine wpAny_execs_cons ?_); try dsimp only)
  k_with "execs nil" => (k_here; (with_reducible show wpAny _ _ _ _ _ (Shared.mk _ _ _ (_ + 1 + 1) _)); refine gentok ?_; intro _; (with_reducible refine wpAny_execs_nil ?_); try dsimp only)
  k_with "eval List" => (k_here; (with_reducible show wpAny _ _ _ _ _ (Shared.mk _ _ _ (_ + 1) _)); refine gentok ?_; intro _; dsimp only)
  k_fill
  intro hrow hKL; clear hrow hKL
  have B := below_caller h₀
  have eK := know_cons (x := Str.ofString "y") (v := .int v t4) (know_cons (x := Str.ofString "x") (v := .int u t3) (know_cons (x := Str.ofString "low_sum") (v := .int ls t2) (know_eq h1) h2) h3) h4
  rw [← eK] at F
  have i1 : IntMulOk (4 * u + 4 * v) (5 * u + 3 * v) := lin_ok (by decide) (by decide) (by decide) (by decide) hbu hbv
  have i2 : IntMulOk ((4 * u + 4 * v) * (5 * u + 3 * v)) (6 * u + 2 * v) := lin_ok3 (by decide) (by decide) (by decide) (by decide) (by decide) (by decide) hbu hbv
  have i3 : IntMulOk (7 * u + 7 * v) (6 * u + 5 * v) := lin_ok (by decide) (by decide) (by decide) (by decide) hbu hbv
  have i4 : IntMulOk ((7 * u + 7 * v) * (6 * u + 5 * v)) (5 * u + 3 * v) := lin_ok3 (by decide) (by decide) (by decide) (by decide) (by decide) (by decide) hbu hbv
  show wpAny _ _ (eval (.List [_, _] _) _) _ _ _
  k_steps
  rename_i D1 g1 b1 c1 D2 g2 b2 l h' F' N' b3
  refine hQ h' _ l D1 D2 _ _ _ _ _ _ b1 (fun q hq => allLt_all _ b2.2 q hq) (fun q hq => allLt_all _ b3.2.2 q hq) b3.2.1 b3.1 (eK ▸ F') N'
end Mine

end
-- L29
section
open PySem PySem.W PySem.Spec PySem.Calls PyProof.Rows PyProof.Rows.LCg
set_option Elab.async false
set_option maxRecDepth 100000
set_option maxHeartbeats 1000000
namespace Mine



theorem dm_facts {b p l sd c tot : Int} (hb : b = 4 ∨ b = 7) (hs : sd = 1 ∨ sd = -1) (hp : p = b * tot) (hl : (2 : Int) ^ 1000 ≤ l) (h1 : bl p ≤ 3300012) (h2 : bl l ≤ 1100000) (h3 : bl c ≤ 1100000) :
    b * l ≠ 0 ∧ IntMulOk b l ∧ IntMulOk p l ∧ IntMulOk sd (p * l + (c - 1).fmod (b * l)) ∧ IntMulOk sd b ∧ IntMulOk (sd * b) l ∧ IntMulOk sd ((c - 1).fmod (b * l)) ∧
    ((1000 : Int) ≤ bl (sd * b * l) ∧ (bl (sd * b * l) : Int) < 4194303 ∧ (bl (sd * (p * l + (c - 1).fmod (b * l))) : Int) ≤ 12000000) ∧
    (sd * (p * l + (c - 1).fmod (b * l))).fdiv (sd * b * l) = tot ∧ (sd * (p * l + (c - 1).fmod (b * l))).fmod (sd * b * l) = sd * (c - 1).fmod (b * l) := by
  have hl0 : 0 < l := Int.lt_of_lt_of_le (Int.pow_pos (by decide)) hl
  have hbl : bl b ≤ 3 := by rcases hb with h | h <;> rw [h] <;> decide
  have hsl : bl sd ≤ 1 := by rcases hs with h | h <;> rw [h] <;> decide
  have hb0 : 0 < b := by omega
  have hB : 0 < b * l := Int.mul_pos hb0 hl0
  have hBb : bl (b * l) ≤ 1100003 := intBits_mul_le hbl h2
  have hc1 : bl (c - 1) ≤ 1100001 := intBits_sub_le (n := 1) h3 (by decide)
  have hr : bl ((c - 1).fmod (b * l)) ≤ 1100003 := intBits_fmod_le hc1 hBb
  have hpl : bl (p * l) ≤ 4400012 := intBits_mul_le h1 h2
  have hA : bl (p * l + (c - 1).fmod (b * l)) ≤ 4400013 := intBits_add_le hpl hr
  have hsA : bl (sd * (p * l + (c - 1).fmod (b * l))) ≤ 1 + 4400013 := intBits_mul_le hsl hA
  have hsb : bl (sd * b) ≤ 1 + 3 := intBits_mul_le hsl hbl
  have hsB : bl (sd * b * l) ≤ 4 + 1100000 := intBits_mul_le hsb h2
  have f := fm (c - 1) hB
  have u := dm_uniq (a := p * l + (c - 1).fmod (b * l)) (q := tot) (r := (c - 1).fmod (b * l)) hB (by rw [hp]; grind) f.1 f.2
  have hn := neg_dm (p * l + (c - 1).fmod (b * l)) (b * l)
  have hlow : ¬ bl (sd * b * l) ≤ 999 := by
    intro h
    have h := intBits_le_iff.mp h
    have e : (sd * b * l).natAbs = (b * l).natAbs := by
      rcases hs with h | h <;> rw [h]
      · rw [Int.one_mul]
      · rw [Int.mul_assoc, Int.natAbs_mul]; show 1 * _ = _; rw [Nat.one_mul]
    rw [e] at h
    have h5 : l ≤ b * l := by
      have := Int.mul_le_mul_of_nonneg_right (show 1 ≤ b by omega) (Int.le_of_lt hl0)
      omega
    have h6 : ((b * l).natAbs : Int) < ((2 ^ 999 : Nat) : Int) := Int.ofNat_lt.mpr h
    have h7 : ((2 ^ 999 : Nat) : Int) ≤ (2 : Int) ^ 1000 := by
      rw [Int.natCast_pow]
      have : (2 : Int) ^ 1000 = 2 ^ 999 * 2 := Int.pow_succ ..
      have h8 : (0 : Int) < 2 ^ 999 := Int.pow_pos (by decide)
      show (2 : Int) ^ 999 ≤ _
      rw [this]
      generalize (2 : Int) ^ 999 = z at *
      omega
    have h9 : ((b * l).natAbs : Int) = b * l := Int.natAbs_of_nonneg (Int.le_of_lt hB)
    generalize (2 : Int) ^ 1000 = z1 at *
    generalize ((2 ^ 999 : Nat) : Int) = z2 at *
    omega
  refine ⟨Int.ne_of_gt hB, IntMulOk.of_le hbl h2 (by decide), IntMulOk.of_le h1 h2 (by decide), IntMulOk.of_le hsl hA (by decide), IntMulOk.of_le hsl hbl (by decide), IntMulOk.of_le hsb h2 (by decide), IntMulOk.of_le hsl hr (by decide), ⟨by omega, by omega, by omega⟩, ?_, ?_⟩
  · rcases hs with h | h <;> rw [h]
    · rw [Int.one_mul, Int.one_mul]; exact u.1
    · rw [Int.mul_assoc, Int.neg_one_mul, Int.neg_one_mul, hn.1]; exact u.1
  · rcases hs with h | h <;> rw [h]
    · rw [Int.one_mul, Int.one_mul, Int.one_mul]; exact u.2
    · rw [Int.mul_assoc, Int.neg_one_mul, Int.neg_one_mul, Int.neg_one_mul]
      have := hn.2; have := u.2; omega
end Mine

end
-- L30
section
open PySem PySem.W PySem.Spec PySem.Calls PyProof.Rows PyProof.Rows.LCg
set_option Elab.async false
set_option maxRecDepth 100000
set_option maxHeartbeats 1000000
namespace Mine




theorem TabSt.mem {P : Addr} {ln co : Nat} {qual : Str} {T : CbLed} (h : TabSt P ln co qual T) : ∃ o, (P, o) ∈ T := by
  rcases h with h | ⟨c, oc, vs, t, h, _⟩ <;> subst h
  · exact ⟨_, List.mem_cons_self ..⟩
  · exact ⟨_, List.mem_cons_of_mem _ (List.mem_cons_self ..)⟩
theorem tab_neI {P I l : Addr} {ln co : Nat} {qual : Str} {T r : CbLed} {g h : Heap} {L : Addr} {oI : Obj} {k : Nat} (hT : TabSt P ln co qual T) (N : News g L h r) (hs : ∀ p ∈ T, p ∈ r) (hI : (I, oI) ∈ r) (hd : oI.data = .fields #[.ref l, .int k 0]) (hP : P ≠ I) : ∀ p ∈ T, p.1 ≠ I := fun p hp e => by
  have h1 := (N p (hs p hp)).1
  have h2 := (N _ hI).1
  rw [e] at h1
  have h3 : p.2 = oI := Option.some.inj (h1.symm.trans h2)
  rcases hT with h | ⟨c, oc, vs, t, h, h5, h6, _⟩ <;> subst h
  · simp only [List.mem_cons, List.not_mem_nil, or_false] at hp
    subst hp; exact hP e
  · simp only [List.mem_cons, List.not_mem_nil, or_false] at hp
    rcases hp with rfl | rfl
    · dsimp only at h3; subst h3
      rw [hd] at h5
      injection h5 with h5
      subst h5
      exact absurd h6 (by intro e; injection e with e; cases e)
    · exact hP e
theorem law_s17 (w : World) {mean : ExcName → Option Value} {mg mb : Str → Option Value} {h₀ : Heap} {L fa : Addr} {cd : Value} {s : Shared} {m : Str → Option Value} {T1 T2 nx : List (Addr × Obj)} {lc : Addr} {ys : List Value} {ns : List Int} {hs ls u v l sd : Int} {t1 t2 t3 t4 t5 t6 : Tok} {Q : Flow → Shared → Prop} {E : Value → Shared → Prop}
    (F : Fr h₀ L s.heap m) (X : (KL w.params).In h₀) (T : Top qv looseN mean mg mb h₀) (N : News h₀ L s.heap (T1 ++ (T2 ++ nx))) (hT1 : TabA T1) (hT2 : TabB T2) (h58 : ∀ p ∈ nx, p.1 ≠ 58) (h65 : ∀ p ∈ nx, p.1 ≠ 65) (hml : (lc, lst ys) ∈ nx) (hc : m (Str.ofString "cells") = some (.ref lc)) (hys : IntsAre ys ns) (hns : ns.length = 6)
    (h1 : m (Str.ofString "high_sum") = some (.int hs t1)) (h2 : m (Str.ofString "low_sum") = some (.int ls t2)) (h3 : m (Str.ofString "x") = some (.int u t3)) (h4 : m (Str.ofString "y") = some (.int v t4)) (h5 : m (Str.ofString "long_one") = some (.int l t5)) (h6 : m (Str.ofString "side") = some (.int sd t6))
    (hbu : bl u ≤ 1100000) (hbv : bl v ≤ 1100000) (hbl : bl l ≤ 1100000) (hbc : bl (ns.getD (Int.toNat 5) 0) ≤ 1100000) (hl : (2 : Int) ^ 1000 ≤ l) (hsd : sd = 1 ∨ sd = -1) (e1 : 4 * hs = pHigh u v) (e2 : 7 * ls = pLow u v)
    (hQ : ∀ (h' : Heap) (tk' : Nat) (m' : Str → Option Value) (T1' T2' : List (Addr × Obj)), TabA T1' → TabB T2' → Fr h₀ L h' m' → News h₀ L h' (T1' ++ (T2' ++ nx)) → Q .next { s with heap := h', toks := tk' }) :
    PySem.Challenge.rw_uc0065_01 = PySem.Challenge.rw_uc0065_01 → KL = KL →
    wpAny (model prog w) (lawA L fa cd) (exec (stAt 16 fb25) (lawE L fa cd)) Q E s := by
  k_with_none
  k_with "execs cons" => (k_here; (with_reducible show wpAny _ _ _ _ _ (Shared.mk _ _ _ (_ + 1 + 1) _)); refine gentok ?_; intro _; (with_reducible refine wpAny_execs_cons ?_); try dsimp only)
  k_with "execs nil" => (k_here; (with_reducible show wpAny _ _ _ _ _ (Shared.mk _ _ _ (_ + 1 + 1) _)); refine gentok ?_; intro _; (with_reducible refine wpAny_execs_nil ?_); try dsimp only)
  k_fill
  intro hrow hKL; clear hrow hKL
  have B := below_caller h₀
  show wpAny _ _ (exec (.For (forTgtX (stAt 16 fb25)) (forIter (stAt 16 fb25)) (forBodyX (stAt 16 fb25)) [] _) _) _ _ _
  refine wpAny_For ?_ (fun _ => rfl)
  refine law_prods w F X T N h1 h2 h3 h4 hbu hbv (fun h' tk' q D1 D2 k1 k2 k3 k4 k5 k6 d1 d2 dl dq1 dq2 F1 N1 => ?_) rfl rfl
  obtain ⟨o58, m58⟩ := TabSt.mem hT1
  obtain ⟨o65, m65⟩ := TabSt.mem hT2
  have hq := N1 (q, W.listOf #[.ref D1, .ref D2] 0) (List.mem_cons_self ..)
  have in58 : (58, o58) ∈ T1 ++ (T2 ++ nx) := List.mem_append_left _ m58
  have in65 : (65, o65) ∈ T1 ++ (T2 ++ nx) := List.mem_append_right _ (List.mem_append_left _ m65)
  have hsz : ∀ p ∈ (q, W.listOf #[.ref D1, .ref D2] 0) :: (D2, W.listOf #[.int ls k4, .int 7 k5, .int (pLow u v) k6] 0) :: (D1, W.listOf #[.int hs k1, .int 4 k2, .int (pHigh u v) k3] 0) :: (T1 ++ (T2 ++ nx)), p.1 < h'.objs.size := fun p hp => Heap.lt_size (N1 p hp).1
  have sz58 : @LT.lt Nat _ 58 h'.objs.size := hsz (58, o58) (List.mem_cons_of_mem _ (List.mem_cons_of_mem _ (List.mem_cons_of_mem _ in58)))
  have sz65 : @LT.lt Nat _ 65 h'.objs.size := hsz (65, o65) (List.mem_cons_of_mem _ (List.mem_cons_of_mem _ (List.mem_cons_of_mem _ in65)))
  generalize hnz : (q, W.listOf #[.ref D1, .ref D2] 0) :: (D1, W.listOf #[.int hs k1, .int 4 k2, .int (pHigh u v) k3] 0) :: (D2, W.listOf #[.int ls k4, .int 7 k5, .int (pLow u v) k6] 0) :: nx = nz
  have nzq : (q, W.listOf #[.ref D1, .ref D2] 0) ∈ nz := by rw [← hnz]; simp
  have nz1 : (D1, W.listOf #[.int hs k1, .int 4 k2, .int (pHigh u v) k3] 0) ∈ nz := by rw [← hnz]; simp
  have nz2 : (D2, W.listOf #[.int ls k4, .int 7 k5, .int (pLow u v) k6] 0) ∈ nz := by rw [← hnz]; simp
  have nzx : ∀ p ∈ nx, p ∈ nz := fun p hp => by rw [← hnz]; simp [hp]
  have n58 : ∀ p ∈ nz, p.1 ≠ 58 := fun p hp => by
    rw [← hnz] at hp
    simp only [List.mem_cons] at hp
    rcases hp with h | h | h | h
    · rw [h]; exact Nat.ne_of_gt (dl _ in58)
    · rw [h]; exact Nat.ne_of_gt (d1 _ in58)
    · rw [h]; exact Nat.ne_of_gt (d2 _ in58)
    · exact h58 p h
  have n65 : ∀ p ∈ nz, p.1 ≠ 65 := fun p hp => by
    rw [← hnz] at hp
    simp only [List.mem_cons] at hp
    rcases hp with h | h | h | h
    · rw [h]; exact Nat.ne_of_gt (dl _ in65)
    · rw [h]; exact Nat.ne_of_gt (d1 _ in65)
    · rw [h]; exact Nat.ne_of_gt (d2 _ in65)
    · exact h65 p h
  have N2 : News h₀ L h' (T1 ++ (T2 ++ nz)) := cb_drop N1 (by
    intro p hp
    rw [← hnz] at hp
    simp only [List.mem_cons, List.mem_append] at hp
    rcases hp with h | h | h | h | h | h <;> (first | ((try rw [h]); (repeat first | exact List.mem_cons_self .. | exact h | exact List.mem_append_left _ h | refine List.mem_append_right _ ?_ | refine List.mem_cons_of_mem _ ?_); done) | simp [h]))
  have nzI : ∀ p ∈ nz, p.1 ≠ h'.objs.size := fun p hp => Nat.ne_of_lt (Heap.lt_size (N2 p (List.mem_append_right _ (List.mem_append_right _ hp))).1)
  refine for_list (l := q) (items := [.ref D1, .ref D2]) rfl (fun I i v s Q E st hq => ?_) ⟨_, hq.1, rfl, _, rfl⟩ hq.2.1 hq.2.2 F1 N2
    (fun r m2 nx2 g => ∀ Go : List (Addr × Obj) → Array GenState → Prop, (∀ T1 T2, (∀ z, z ∉ [Str.ofString "total", Str.ofString "by", Str.ofString "product", Str.ofString "rest"] → m2 z = m z) → TabA T1 → TabB T2 → (∀ p ∈ T1 ++ (T2 ++ nz), p.1 ≠ h'.objs.size) → Go (T1 ++ (T2 ++ nz)) s.gens) → Go nx2 g) ?_ (fun Go k => k T1 T2 (fun _ _ => rfl) hT1 hT2 ?_) ?_ ?_
  · cases v with
    | ref T => exact wpAny_letOwnedTupleGo_listiter st hq
    | _ => exact wpAny_pure hq
  · intro r m2 nx2 g hJ
    apply hJ
    intro _ _ _ _ _ h
    exact h
  · exact fun p hp => Nat.ne_of_lt (Heap.lt_size (N2 p hp).1)
  · intro r vv m2 nx2 gl h tk g E' hv hJ F8
    apply hJ
    clear hJ nx2 g
    rintro T1 T2 hm2 hT1 hT2 hI0 N8 hgl ⟨oI, hI, kI, hdI⟩
    have hX : ∀ Go : Value → Prop, (∀ (D : Addr) (tot b p : Int) (ka kb kc : Tok), (D, W.listOf #[.int tot ka, .int b kb, .int p kc] 0) ∈ nz → (b = 4 ∨ b = 7) → p = b * tot → bl p ≤ 3300012 → Go (.ref D)) → Go vv := by
      match r, hv with
      | 0, hv => cases hv; exact fun Go k => k D1 _ _ _ _ _ _ nz1 (.inl rfl) e1.symm (intBits_mul_le (intBits_mul_le (lin_bl (by decide) (by decide) hbu hbv) (lin_bl (by decide) (by decide) hbu hbv)) (lin_bl (by decide) (by decide) hbu hbv))
      | 1, hv => cases hv; exact fun Go k => k D2 _ _ _ _ _ _ nz2 (.inr rfl) e2.symm (intBits_mul_le (intBits_mul_le (lin_bl (by decide) (by decide) hbu hbv) (lin_bl (by decide) (by decide) hbu hbv)) (lin_bl (by decide) (by decide) hbu hbv))
      | r + 2, hv => simp at hv
    clear hv
    apply hX
    clear hX vv
    intro D tot b p ka kb kc hD hb hpb hbp
    have N9 : News h₀ L h ((D, W.listOf #[.int tot ka, .int b kb, .int p kc] 0) :: (T1 ++ (T2 ++ (nz ++ gl)))) := cb_drop N8 (by
      intro p hp
      simp only [List.mem_cons, List.mem_append] at hp ⊢
      rcases hp with h | h | h | h | h
      · subst h; (first | ((try rw [hD]); (repeat first | exact List.mem_cons_self .. | exact hD | exact List.mem_append_left _ hD | refine List.mem_append_right _ ?_ | refine List.mem_cons_of_mem _ ?_); done) | simp [hD])
      · (first | ((try rw [h]); (repeat first | exact List.mem_cons_self .. | exact h | exact List.mem_append_left _ h | refine List.mem_append_right _ ?_ | refine List.mem_cons_of_mem _ ?_); done) | simp [h])
      · (first | ((try rw [h]); (repeat first | exact List.mem_cons_self .. | exact h | exact List.mem_append_left _ h | refine List.mem_append_right _ ?_ | refine List.mem_cons_of_mem _ ?_); done) | simp [h])
      · (first | ((try rw [h]); (repeat first | exact List.mem_cons_self .. | exact h | exact List.mem_append_left _ h | refine List.mem_append_right _ ?_ | refine List.mem_cons_of_mem _ ?_); done) | simp [h])
      · (first | ((try rw [h]); (repeat first | exact List.mem_cons_self .. | exact h | exact List.mem_append_left _ h | refine List.mem_append_right _ ?_ | refine List.mem_cons_of_mem _ ?_); done) | simp [h]))
    have fa := dm_facts (c := ns.getD (Int.toNat 5) 0) hb hsd hpb hl hbp hbl hbc
    generalize hbd : forBodyX (stAt 16 fb25) = bd
    show wpAny _ _ (assign (.Tuple [.Name _ _, .Name _ _, .Name _ _] _ _) _ _) _ _ _
    k_steps
    rename_i g4 g3 g2 h4 F4 N4
    subst hbd
    refine law_dm w (tot := tot) (b := b) (p := p) (l := l) (sd := sd) F4 X T (cb_drop N4 fun p hp => List.mem_cons_of_mem _ hp) hT1 hT2 ?_ ?_ (List.mem_append_left _ (nzx _ hml)) ((hm2 _ (by decide)).trans hc) hys hns rfl rfl rfl ((hm2 _ (by decide)).trans h5) ((hm2 _ (by decide)).trans h6) fa.1 fa.2.1 fa.2.2.1 fa.2.2.2.1 fa.2.2.2.2.1 fa.2.2.2.2.2.1 fa.2.2.2.2.2.2.1 fa.2.2.2.2.2.2.2.1 fa.2.2.2.2.2.2.2.2.1 fa.2.2.2.2.2.2.2.2.2 (fun h9 tk9 m9 T19 T29 hT19 hT29 hm9 F9 N9 => ?_) rfl rfl
    · intro p hp
      rcases List.mem_append.mp hp with h | h
      · exact n58 p h
      · rcases hgl p h with h | h
        · rw [h]; exact Nat.ne_of_gt sz58
        · rw [h]; exact n58 _ nzq
    · intro p hp
      rcases List.mem_append.mp hp with h | h
      · exact n65 p h
      · rcases hgl p h with h | h
        · rw [h]; exact Nat.ne_of_gt sz65
        · rw [h]; exact n65 _ nzq
    · have inI : (h'.objs.size, oI) ∈ T19 ++ (T29 ++ (nz ++ gl)) := by (first | ((try rw [hI]); (repeat first | exact List.mem_cons_self .. | exact hI | exact List.mem_append_left _ hI | refine List.mem_append_right _ ?_ | refine List.mem_cons_of_mem _ ?_); done) | simp [hI])
      refine fun Go k => k h9 tk9 _ m9 (T19 ++ (T29 ++ nz)) F9 (cb_drop N9 ?_) fun Go k => k T19 T29 (fun z hz => ?_) hT19 hT29 (fun p hp => ?_)
      · intro p hp
        simp only [List.mem_append] at hp
        rcases hp with (h | h | h) | h <;> (first | ((try rw [h]); (repeat first | exact List.mem_cons_self .. | exact h | exact List.mem_append_left _ h | refine List.mem_append_right _ ?_ | refine List.mem_cons_of_mem _ ?_); done) | simp [h])
      · have hz' := hz
        simp only [List.mem_cons, List.not_mem_nil, or_false, not_or] at hz'
        exact (hm9 z hz'.2.2.2).trans ((if_neg hz'.2.2.1).trans ((if_neg hz'.2.1).trans ((if_neg hz'.1).trans (hm2 z hz))))
      · rcases List.mem_append.mp hp with h | h
        · exact tab_neI hT19 N9 (fun p hp => List.mem_append_left _ hp) inI hdI (Nat.ne_of_lt sz58) p h
        · rcases List.mem_append.mp h with h | h
          · exact tab_neI hT29 N9 (fun p hp => List.mem_append_right _ (List.mem_append_left _ hp)) inI hdI (Nat.ne_of_lt sz65) p h
          · exact nzI p h
  · intro h tk g m2 nx2 hJ F8
    apply hJ
    clear hJ nx2 g
    intro T1' T2' hm2 hT1' hT2' _ N8
    exact hQ h tk m2 T1' T2' hT1' hT2' F8 (cb_drop N8 (by
      intro p hp
      simp only [List.mem_append] at hp ⊢
      rcases hp with h | h | h
      · (first | ((try rw [h]); (repeat first | exact List.mem_cons_self .. | exact h | exact List.mem_append_left _ h | refine List.mem_append_right _ ?_ | refine List.mem_cons_of_mem _ ?_); done) | simp [h])
      · (first | ((try rw [h]); (repeat first | exact List.mem_cons_self .. | exact h | exact List.mem_append_left _ h | refine List.mem_append_right _ ?_ | refine List.mem_cons_of_mem _ ?_); done) | simp [h])
      · exact .inr (.inr (nzx p h))))
end Mine

end
-- L31
section
open PySem PySem.W PySem.Spec PySem.Calls PyProof.Rows PyProof.Rows.LCg
set_option Elab.async false
set_option maxRecDepth 100000
set_option maxHeartbeats 1000000
namespace Mine
noncomputable def lowR (st r : Nat) : Str := lowT st r 6 ++ kSp
noncomputable def highR (st r : Nat) : Str := highT st r 6 ++ kSp
theorem eq_facts : ∀ st : Fin 4, ∀ r : Fin 5, decide (wC (highX st.1 r.1) = wC (highR st.1 r.1) ∧ wB (highX st.1 r.1) = wB (highR st.1 r.1)) = false := by decide +kernel
theorem eq12 : ∀ st : Fin 4, decide (wC (lowX st.1 1) = wC (lowX st.1 2) ∧ wB (lowX st.1 1) = wB (lowX st.1 2)) = true := by decide +kernel
theorem less_facts : ∀ st : Fin 4, ∀ r : Fin 5, lessX (lowX st.1 r.1) (lowR st.1 r.1) = true ∧ lessX (lowX st.1 r.1) (highR st.1 r.1) = true ∧ lessX (lowX st.1 r.1) (highX st.1 r.1) = false ∧ lessX (lowX st.1 r.1) (twoS st.1 ++ Str.ofString "k") = false ∧ lessX (lowX st.1 r.1) b21 = false ∧
    lessX (highX st.1 r.1) (lowR st.1 r.1) = (rowF r.1 == Str.ofString "((()))") ∧ lessX (highX st.1 r.1) (twoS st.1 ++ kSp) = false := by decide +kernel
theorem ok_facts : ∀ st : Fin 4, ∀ r : Fin 5, (∀ n ∈ wC (lowX st.1 r.1), 0 ≤ n ∧ n ≤ 1000) ∧ (∀ n ∈ wC (highX st.1 r.1), 0 ≤ n ∧ n ≤ 1000) ∧ (∀ n ∈ wC (lowR st.1 r.1), 0 ≤ n ∧ n ≤ 1000) ∧ (∀ n ∈ wC (highR st.1 r.1), 0 ≤ n ∧ n ≤ 1000) ∧ (∀ n ∈ wC (twoS st.1 ++ Str.ofString "k"), 0 ≤ n ∧ n ≤ 1000) ∧ (∀ n ∈ wC b21, 0 ≤ n ∧ n ≤ 1000) ∧ (∀ n ∈ wC (twoS st.1 ++ kSp), 0 ≤ n ∧ n ≤ 1000) := by decide +kernel
theorem two_len : ∀ st : Fin 4, (twoS st.1).length ≤ 50 := by decide +kernel
theorem long_big (c : Int) : (2 : Int) ^ 1000 ≤ long1 c := by
  unfold long1
  have h0 : (0 : Int) ≤ if c < 0 then -c else c := by split <;> lia
  have h1 : (2 : Int) ^ 1000 ≤ ((2 : Int) ^ Int.toNat 4101).fdiv 3 := by
    rw [Int.fdiv_eq_ediv_of_nonneg _ (by decide)]
    refine Int.le_ediv_of_mul_le (by decide) ?_
    have e : (2 : Int) ^ Int.toNat 4101 = 2 ^ 1000 * 2 ^ 3101 := by rw [← Int.pow_add]; rfl
    rw [e]
    refine Int.mul_le_mul_of_nonneg_left ?_ (Int.le_of_lt (Int.pow_pos (by decide)))
    have e2 : (2 : Int) ^ 3101 = 2 ^ 3099 * 4 := by rw [show (4 : Int) = 2 ^ 2 from rfl, ← Int.pow_add]
    rw [e2]
    have : (0 : Int) < 2 ^ 3099 := Int.pow_pos (by decide)
    generalize (2 : Int) ^ 3099 = z at *
    lia
  generalize (2 : Int) ^ 1000 = z1 at *
  generalize ((2 : Int) ^ Int.toNat 4101).fdiv 3 = z2 at *
  lia
theorem long_bl {c : Int} (h : bl c ≤ 1048640) : bl (long1 c) ≤ 1100000 := by
  unfold long1
  have h1 : bl ((2 : Int) ^ Int.toNat 4101) ≤ 2 * Int.toNat 4101 + 1 := intBits_pow_le (by decide) _
  have h2 : bl (((2 : Int) ^ Int.toNat 4101).fdiv 3) ≤ 2 * Int.toNat 4101 + 1 := intBits_fdiv_le h1
  have h3 : bl (if c < 0 then -c else c) ≤ max 1048640 1048640 := intBits_ite_le (intBits_neg_le h) h
  have h4 := intBits_add_le h2 h3
  exact Nat.le_trans h4 (by decide)
end Mine

end
-- L33
section
open PySem PySem.W PySem.Spec PySem.Calls PyProof.Rows PyProof.Rows.LCg
set_option Elab.async false
set_option maxRecDepth 100000
set_option maxHeartbeats 1000000
namespace Mine
theorem law_s18 (w : World) {L fa : Addr} {cd : Value} {s : Shared} {Q : Flow → Shared → Prop} {E : Value → Shared → Prop} (hQ : Q (.ret (.bool true)) s) :
    PySem.Challenge.rw_uc0065_01 = PySem.Challenge.rw_uc0065_01 → KL = KL →
    wpAny (model prog w) (lawA L fa cd) (exec (stAt 17 fb25) (lawE L fa cd)) Q E s := by
  k_with_none
  k_fill
  intro hrow hKL; clear hrow hKL
  show wpAny _ _ (exec (.Return _ _) _) _ _ _
  k_steps
  exact hQ
theorem getD_bl {ns : List Int} {b : Nat} (h : ∀ n ∈ ns, bl n ≤ b) (i : Nat) : bl (ns.getD i 0) ≤ b := by
  by_cases hi : i < ns.length
  · rw [List.getD_eq_getElem?_getD, List.getElem?_eq_getElem hi]; exact h _ (List.getElem_mem hi)
  · rw [List.getD_eq_getElem?_getD, List.getElem?_eq_none (by lia)]; exact Nat.zero_le _
theorem side_pm (c : Int) : 1 - 2 * ((c.fdiv 5).fmod 2) = 1 ∨ 1 - 2 * ((c.fdiv 5).fmod 2) = -1 := by
  have := fm (c.fdiv 5) (show (0 : Int) < 2 by decide)
  lia
theorem law_second (w : World) {mean : ExcName → Option Value} {mg mb : Str → Option Value} {h₀ : Heap} {L fa : Addr} {cd : Value} {s : Shared} {m : Str → Option Value} {R : List (Addr × Obj)} {o2 o3 o4 : Obj} {v3 v4 : Option Value} {lp ll lk lc Y3 : Addr} {vs vk ys : List Value} {xs : List Str} {ns : List Int} {n nk st : Nat} {t1 t2 t3 t4 t5 t6 : Tok} {Q : Flow → Shared → Prop} {E : Value → Shared → Prop}
    (F : Fr h₀ L s.heap m) (X : (KL w.params).In h₀) (T : Top qv looseN mean mg mb h₀) (N : News h₀ L s.heap ((ll, W.listOf #[] 0) :: (L + 3, o3) :: (L + 4, o4) :: R))
    (hm2 : (L + 2, o2) ∈ R) (h2 : o2.data = .cell (some (.ref lp))) (hmp : (lp, W.listOf vs.toArray n) ∈ R) (hvs : StrsAre vs xs) (hxs : xs.map (·.length) = List.range 6) (h3 : o3.data = .cell v3) (h4 : o4.data = .cell v4) (hmk : (lk, W.listOf vk.toArray nk) ∈ R) (hvk : StrsAre vk (kout 4)) (hs3 : st < 4)
    (hll : ∀ p ∈ (L + 3, o3) :: (L + 4, o4) :: R, p.1 ≠ ll) (hl4 : ∀ p ∈ R, p.1 ≠ L + 4) (hl3 : ∀ p ∈ R, p.1 ≠ L + 3)
    (hmc : (lc, lst ys) ∈ R) (hys : IntsAre ys ns) (hns : ns.length = 6) (hb : ∀ n ∈ ns, bl n ≤ 1048640) (m58 : (58, tabObj #[]) ∈ R) (m65 : (65, tabObj #[]) ∈ R) (hc58 : lc ≠ 58) (hc65 : lc ≠ 65)
    (hcl : m (Str.ofString "cells") = some (.ref lc)) (hst : m (Str.ofString "start") = some (.int (st : Int) t1)) (hx : m (Str.ofString "x") = some (.int (ns.getD 3 0) t2)) (hy : m (Str.ofString "y") = some (.int (ns.getD 4 0) t3)) (hlv : m (Str.ofString "level") = some (.ref Y3)) (hw3 : WsAt w.params R Y3 (twoS st ++ Str.ofString "k")) (hld : m (Str.ofString "leads") = some (.ref ll)) (hkp : m (Str.ofString "kept") = some (.ref lk))
    (hls : m (Str.ofString "low_sum") = some (.int 0 t4)) (hhs : m (Str.ofString "high_sum") = some (.int 0 t5)) (htw : m (Str.ofString "twos") = some (.str (twoS st) t6))
    (hg : AllBare s.gens)
    (hQ : ∀ (h' : Heap) (tk' : Nat) (g' : Array GenState) (m' : Str → Option Value), AllBare g' → Fr h₀ L h' m' → GrownAt 65 h' → GrownAt 58 h' → Q (.ret (.bool true)) { s with heap := h', toks := tk', gens := g' }) :
    wpAny (model prog w) (lawA L fa cd) (execs [stAt 9 fb25, stAt 10 fb25, stAt 11 fb25, stAt 12 fb25, stAt 13 fb25, stAt 14 fb25, stAt 15 fb25, stAt 16 fb25, stAt 17 fb25] (lawE L fa cd)) Q E s := by
  have hb3 : bl (ns.getD 3 0) ≤ 1048640 := getD_bl hb 3
  have hb4 : bl (ns.getD 4 0) ≤ 1048640 := getD_bl hb 4
  have hb5 : bl (ns.getD 5 0) ≤ 1048640 := getD_bl hb 5
  obtain ⟨q, hq, hq5⟩ : ∃ q : Nat, (ns.getD 2 0).fmod 5 = (q : Int) ∧ q < 5 := by
    have h := fm (ns.getD 2 0) (show (0 : Int) < 5 by decide)
    exact ⟨((ns.getD 2 0).fmod 5).toNat, by lia, by lia⟩
  obtain ⟨f1, f2, f3, f4, f5, f6, f7⟩ := less_facts ⟨st, hs3⟩ ⟨q, hq5⟩
  obtain ⟨k1, k2, k3, k4, k5, k6, k7⟩ := ok_facts ⟨st, hs3⟩ ⟨q, hq5⟩
  obtain ⟨q1, q2⟩ := low_len ⟨st, hs3⟩ ⟨q, hq5⟩ ⟨6, by decide⟩
  have g1 := eq_facts ⟨st, hs3⟩ ⟨q, hq5⟩
  have g2 := eq12 ⟨st, hs3⟩
  have g3 := two_len ⟨st, hs3⟩
  dsimp only at f1 f2 f3 f4 f5 f6 f7 k1 k2 k3 k4 k5 k6 k7 q1 q2 g1 g2 g3
  refine wpAny_execs_cons (law_s10 w (u := ns.getD 3 0) (v := ns.getD 4 0) F X T N hm2 h2 hmp hvs hxs h3 h4 hmk hvk hs3 hll hl4 hl3 (by lia) (by lia) hst hx hy hlv hw3 hld hkp hls hhs ?_ rfl rfl)
  intro h10 tk10 g10 m10 R' vl n' hvl hle hRR hRl ⟨tl10, hl10⟩ ⟨th10, hh10⟩ hm10 F10 N10 hg10
  refine wpAny_execs_cons (law_s11 w (lc := lc) (ys := ys) (ns := ns) F10 X T (cb_drop (news := (lc, lst ys) :: (ll, W.listOf vl.toArray n') :: R') N10 ?_) ((hm10 _ (by decide)).trans hcl) hys hns ?_ rfl rfl)
  · intro p hp
    rcases List.mem_cons.mp hp with h | h
    · subst h; exact List.mem_cons_of_mem _ (hRR _ hmc)
    · exact h
  intro h11 tk11 m11 ⟨tw11, hw11⟩ ⟨ts11, hs11⟩ hm11 F11 N11
  rw [hq] at hw11
  obtain ⟨V, hV, D, Y1, Y2, u1, u2, rfl, hD, ws1, ws2⟩ := hle q hq5
  have e11 : ∀ z, z ∉ keepZ → z ∉ [Str.ofString "which", Str.ofString "side"] → m11 z = m z := fun z a b => (hm11 z b).trans (hm10 z a)
  refine wpAny_execs_cons (law_s12 w (q := q) (ll := ll) (D := D) (vl := vl) (n := n') (rest := R') (lo := lowT st q 6) (hi := highT st q 6) (t1 := u1) (t2 := u2) (Y1 := Y1) (Y2 := Y2) F11 X T (cb_drop N11 ?_) ((e11 _ (by decide) (by decide)).trans hld) hw11 hq5 (by rw [Int.toNat_natCast, List.getElem?_toArray]; exact hV) ?_ rfl rfl)
  · intro p hp
    rcases List.mem_cons.mp hp with h | hp
    · subst h; (first | ((repeat first | exact List.mem_cons_self .. | refine List.mem_append_right _ ?_ | refine List.mem_cons_of_mem _ ?_); done) | simp)
    · rcases List.mem_cons.mp hp with h | hp
      · subst h; (first | ((try rw [hD]); (repeat first | exact List.mem_cons_self .. | exact hD | exact List.mem_append_left _ hD | refine List.mem_append_right _ ?_ | refine List.mem_cons_of_mem _ ?_); done) | simp [hD])
      · (first | ((try rw [hp]); (repeat first | exact List.mem_cons_self .. | exact hp | exact List.mem_append_left _ hp | refine List.mem_append_right _ ?_ | refine List.mem_cons_of_mem _ ?_); done) | simp [hp])
  intro h12 tk12 m12 ⟨ta12, hlo12⟩ ⟨tb12, hhi12⟩ hn12 hf12 hm12 F12 N12
  have e12 : ∀ z, z ∉ keepZ → z ∉ [Str.ofString "which", Str.ofString "side"] → z ∉ [Str.ofString "low", Str.ofString "high", Str.ofString "near", Str.ofString "far_off"] → m12 z = m z := fun z a b c => (hm12 z c).trans (e11 z a b)
  refine wpAny_execs_cons (law_s13 w (nx := (ll, W.listOf vl.toArray n') :: R') F12 X T (cb_drop N12 ?_) hlo12 hhi12 q1 q2 ?_ rfl rfl)
  · intro p hp
    rcases List.mem_cons.mp hp with h | hp
    · subst h; (first | ((repeat first | exact List.mem_cons_self .. | refine List.mem_append_right _ ?_ | refine List.mem_cons_of_mem _ ?_); done) | simp)
    · (first | ((try rw [hp]); (repeat first | exact List.mem_cons_self .. | exact hp | exact List.mem_append_left _ hp | refine List.mem_append_right _ ?_ | refine List.mem_cons_of_mem _ ?_); done) | simp [hp])
  intro h13 tk13 m13 Y4 Y5 W13 ws4 ws5 hW13 hn13 hf13 hm13 F13 N13
  have e13 : ∀ z, z ∉ keepZ → z ∉ [Str.ofString "which", Str.ofString "side"] → z ∉ [Str.ofString "low", Str.ofString "high", Str.ofString "near", Str.ofString "far_off"] → z ≠ Str.ofString "nearer" → z ≠ Str.ofString "farther" → m13 z = m z := fun z a b c d e => (hm13 z d e).trans (e12 z a b c)
  have nx13 : ∀ p ∈ R', p ∈ W13 ++ (ll, W.listOf vl.toArray n') :: R' := fun p hp => by (first | ((try rw [hp]); (repeat first | exact List.mem_cons_self .. | exact hp | exact List.mem_append_left _ hp | refine List.mem_append_right _ ?_ | refine List.mem_cons_of_mem _ ?_); done) | simp [hp])
  obtain ⟨V1, hV1, Da, Ya, Ya', a1, a2, rfl, hDa, wa1, wa2⟩ := hle 1 (by decide)
  obtain ⟨V2, hV2, Db, Yb, Yb', b1, b2, rfl, hDb, wb1, wb2⟩ := hle 2 (by decide)
  refine wpAny_execs_cons (law_s14 w (nx := W13 ++ (ll, W.listOf vl.toArray n') :: R') (ll := ll) (vl := vl) (n := n') (D1 := Da) (D2 := Db) (Ya := Ya) (Yb := Yb) (Yf := Y2) (Yr := Y5) (xf := highX st q) (xr := highR st q) (x1 := lowX st 1) (x2 := lowX st 2) F13 X T N13 ((e13 _ (by decide) (by decide) (by decide) (by decide) (by decide)).trans hld) (by first | ((repeat first | exact List.mem_cons_self .. | refine List.mem_append_right _ ?_ | refine List.mem_cons_of_mem _ ?_); done) | simp) (by rw [List.getElem?_toArray]; exact hV1) (by rw [List.getElem?_toArray]; exact hV2) (nx13 _ hDa) (nx13 _ hDb) ((hm13 _ (by decide) (by decide)).trans hf12) hf13 (ws2.mono nx13) (ws5.mono fun p hp => List.mem_append_left _ hp) (wa1.mono nx13) (wb1.mono nx13) g1 g2 ?_ rfl rfl)
  intro h14 tk14 F14 N14
  refine wpAny_execs_cons (law_s15 w (q := q) (tw := twoS st) (nk := nk) (vk := vk) (lk := lk) (Y1 := Y1) (Y2 := Y2) (Y3 := Y4) (Y4 := Y5) (Y5 := Y3) (x1 := lowX st q) (x2 := highX st q) (x3 := lowR st q) (x4 := highR st q) (x5 := twoS st ++ Str.ofString "k") F14 X T N14
    ((hm13 _ (by decide) (by decide)).trans hn12) ((hm13 _ (by decide) (by decide)).trans hf12) hn13 hf13 ((e13 _ (by decide) (by decide) (by decide) (by decide) (by decide)).trans hlv) ((e13 _ (by decide) (by decide) (by decide) (by decide) (by decide)).trans hkp) ((hm13 _ (by decide) (by decide)).trans ((hm12 _ (by decide)).trans hw11)) ((e13 _ (by decide) (by decide) (by decide) (by decide) (by decide)).trans htw)
    (ws1.mono nx13) (ws2.mono nx13) (ws4.mono fun p hp => List.mem_append_left _ hp) (ws5.mono fun p hp => List.mem_append_left _ hp) (hw3.mono fun p hp => nx13 p (hRR p hp)) (nx13 _ (hRR _ hmk)) hvk hq5 g3 k1 k2 k3 k4 k5 k6 k7 f1 f2 f3 f4 f5 f6 f7 ?_ rfl rfl)
  intro h15 tk15 m15 nx15 hm15 hsub15 F15 N15
  have in15 : ∀ p ∈ R, p ∈ nx15 := fun p hp => hsub15 p (nx13 p (hRR p hp))
  have e15 : ∀ z, z ∉ keepZ → z ∉ [Str.ofString "which", Str.ofString "side"] → z ∉ [Str.ofString "low", Str.ofString "high", Str.ofString "near", Str.ofString "far_off"] → z ≠ Str.ofString "nearer" → z ≠ Str.ofString "farther" → z ∉ [Str.ofString "one", Str.ofString "two", Str.ofString "due"] → m15 z = m z := fun z a b c d e f => (hm15 z f).trans (e13 z a b c d e)
  refine wpAny_execs_cons (law_s16 w (lc := lc) (ys := ys) (ns := ns) (rest := [(58, tabObj #[]), (65, tabObj #[])]) F15 X T (cb_drop N15 ?_) ((e15 _ (by decide) (by decide) (by decide) (by decide) (by decide) (by decide)).trans hcl) hys hns ?_ rfl rfl)
  · intro p hp
    simp only [List.mem_cons, List.not_mem_nil, or_false] at hp
    rcases hp with h | h | h
    · subst h; exact in15 _ hmc
    · subst h; exact in15 _ m58
    · subst h; exact in15 _ m65
  intro h16 tk16 t16 F16 N16
  refine wpAny_execs_cons (law_s17 w (T1 := [(58, tabObj #[])]) (T2 := [(65, tabObj #[])]) (nx := [(lc, lst ys)]) (lc := lc) (ys := ys) (ns := ns) (hs := sumHigh st (ns.getD 3 0) (ns.getD 4 0) 5) (ls := sumLow st (ns.getD 3 0) (ns.getD 4 0) 5) (u := ns.getD 3 0) (v := ns.getD 4 0) (l := long1 (ns.getD 5 0)) F16 X T (cb_drop N16 ?_) (.inl rfl) (.inl rfl) ?_ ?_ (by first | ((repeat first | exact List.mem_cons_self .. | refine List.mem_append_right _ ?_ | refine List.mem_cons_of_mem _ ?_); done) | simp) ((if_neg (by decide)).trans ((e15 _ (by decide) (by decide) (by decide) (by decide) (by decide) (by decide)).trans hcl)) hys hns
    ((if_neg (by decide)).trans ((hm15 _ (by decide)).trans ((hm13 _ (by decide) (by decide)).trans ((hm12 _ (by decide)).trans ((hm11 _ (by decide)).trans hh10))))) ((if_neg (by decide)).trans ((hm15 _ (by decide)).trans ((hm13 _ (by decide) (by decide)).trans ((hm12 _ (by decide)).trans ((hm11 _ (by decide)).trans hl10))))) ((if_neg (by decide)).trans ((e15 _ (by decide) (by decide) (by decide) (by decide) (by decide) (by decide)).trans hx)) ((if_neg (by decide)).trans ((e15 _ (by decide) (by decide) (by decide) (by decide) (by decide) (by decide)).trans hy)) (if_pos rfl) ((if_neg (by decide)).trans ((hm15 _ (by decide)).trans ((hm13 _ (by decide) (by decide)).trans ((hm12 _ (by decide)).trans hs11))))
    (by lia) (by lia) (long_bl hb5) (by show bl (ns.getD 5 0) ≤ 1100000; lia) (long_big _) (side_pm _) (high_sums hs3 _ _) (low_sums hs3 _ _) ?_ rfl rfl)
  · intro p hp
    simp only [List.mem_cons, List.mem_append, List.not_mem_nil, or_false] at hp
    rcases hp with h | h | h <;> (first | ((try rw [h]); (repeat first | exact List.mem_cons_self .. | exact h | exact List.mem_append_left _ h | refine List.mem_append_right _ ?_ | refine List.mem_cons_of_mem _ ?_); done) | simp [h])
  · intro p hp; rw [List.mem_singleton.mp hp]; exact hc58
  · intro p hp; rw [List.mem_singleton.mp hp]; exact hc65
  intro h17 tk17 m17 T1' T2' hT1 hT2 F17 N17
  refine wpAny_execs_cons (law_s18 w ?_ rfl rfl)
  have gr : ∀ {P : Addr} {ln co : Nat} {qual : Str} {T : CbLed}, TabSt P ln co qual T → (∀ p ∈ T, p ∈ T1' ++ (T2' ++ [(lc, lst ys)])) → GrownAt P h17 := fun h hs => by
    rcases h with h | ⟨c, oc, vs, t, h, _⟩ <;> subst h
    · exact .of N17 (hs _ (List.mem_cons_self ..))
    · exact .of N17 (hs _ (List.mem_cons_of_mem _ (List.mem_cons_self ..)))
  exact hQ h17 tk17 g10 m17 (hg10 hg) F17 (gr hT2 fun p hp => by (first | ((try rw [hp]); (repeat first | exact List.mem_cons_self .. | exact hp | exact List.mem_append_left _ hp | refine List.mem_append_right _ ?_ | refine List.mem_cons_of_mem _ ?_); done) | simp [hp])) (gr hT1 fun p hp => by (first | ((try rw [hp]); (repeat first | exact List.mem_cons_self .. | exact hp | exact List.mem_append_left _ hp | refine List.mem_append_right _ ?_ | refine List.mem_cons_of_mem _ ?_); done) | simp [hp]))
end Mine

end
-- L5
section
open PySem PySem.W PySem.Spec PySem.Calls PyProof.Rows PyProof.Rows.LCg
set_option Elab.async false
set_option maxRecDepth 100000
set_option maxHeartbeats 1000000
namespace Mine
noncomputable def forTarget : Stmt → Expr
  | .For t _ _ _ _ => t
  | _ => .Tuple [] 0 default
noncomputable def forBodyOf : Stmt → List Stmt
  | .For _ _ b _ _ => b
  | _ => []
theorem useTy {w : World} {mean : ExcName → Option Value} {mg mb : Str → Option Value} {news : CbLed} {size v : Int} {k1 k2 : Tok} {dp un : Nat} {gd : Option (List Code)} {cn : Str} {cs : Scope} {a : Addr} {ccd : Value} {cl : List (Str × Addr)} {outer : List Env} {A₀ : Around} {base h₀ : Heap} {L : Addr} {m : Str → Option Value} {s : Shared} {Q E : Value → Shared → Prop}
    (B : PyProof.Rows.Below A₀ base outer h₀) (F : Fr h₀ L s.heap m) (X : (KL w.params).In h₀) (N : News h₀ L s.heap news) (T : Top qv looseN mean mg mb h₀) (hk : cs.kind = .function) (hp : 0 ≤ size ∧ size ≤ 5 ∧ 0 ≤ v) (hd : dp + 3 < recursionLimit) (hu : un + 20 < cLine)
    (hR : ∀ (typed meant : Str) (t1 t2 : Tok) (b : Addr) (h' : Heap) (tk' : Nat), prep typed.cps.toList = meant → (meant.length : Int) = size → typed.length ≤ 11 → Fr h₀ L h' m → News h₀ L h' ((b, tup2S typed meant t1 t2) :: news) → (∀ p ∈ news, p.1 < b) → Q (.ref b) { s with heap := h', toks := tk' }) :
    wpAny (model prog w) (ktrTop dp un gd cn cs L a ccd cl outer) (call (.ref 235) [.int size k1, .int v k2]) Q E s :=
  c_typed w mean mg mb news size v k1 k2 dp un gd cn cs a ccd cl outer A₀ base h₀ L m s Q E B F X N T hk hp hd hu hR
theorem law_s3 (w : World) {mean : ExcName → Option Value} {mg mb : Str → Option Value} {h₀ : Heap} {L fa : Addr} {cd : Value} {s : Shared} {m : Str → Option Value} {rest : List (Addr × Obj)} {o2 : Obj} {lp lc : Addr} {ys : List Value} {ns : List Int} {Q : Flow → Shared → Prop} {E : Value → Shared → Prop}
    (F : Fr h₀ L s.heap m) (X : (KL w.params).In h₀) (T : Top qv looseN mean mg mb h₀) (N : News h₀ L s.heap ((lp, W.listOf #[] 0) :: (L + 2, o2) :: (lc, lst ys) :: rest)) (h2 : o2.data = .cell (some (.ref lp))) (hlow : ∀ p ∈ (L + 2, o2) :: (lc, lst ys) :: rest, p.1 < lp) (hc : m (Str.ofString "cells") = some (.ref lc)) (hys : IntsAre ys ns) (hns : ns.length = 6)
    (hQ : ∀ (h' : Heap) (tk' : Nat) (m' : Str → Option Value) (vs : List Value) (xs : List Str) (n : Nat), m' (Str.ofString "cells") = some (.ref lc) → StrsAre vs xs → xs.map (·.length) = List.range 6 → Fr h₀ L h' m' → News h₀ L h' ((lp, W.listOf vs.toArray n) :: (L + 2, o2) :: (lc, lst ys) :: rest) → Q .next { s with heap := h', toks := tk' }) :
    PySem.Challenge.rw_uc0065_01 = PySem.Challenge.rw_uc0065_01 → KL = KL →
    wpAny (model prog w) (lawA L fa cd) (exec (stAt 2 fb25) (lawE L fa cd)) Q E s := by
  k_with_none
  k_with "eval BinOp" => (k_here; (first | (with_reducible show wpAny _ _ (eval (PySem.Expr.BinOp (PySem.Expr.Name _ _) _ _ _) _) _ _ _) | (with_reducible show wpAny _ _ (eval (PySem.Expr.BinOp (PySem.Expr.Constant _ _ _) _ _ _) _) _ _ _) | (with_reducible show wpAny _ _ (eval (PySem.Expr.BinOp (PySem.Expr.BinOp (PySem.Expr.Name _ _) _ _ _) _ _ _) _) _ _ _)); (first | (with_reducible show wpAny _ _ (eval (PySem.Expr.BinOp _ _ (PySem.Expr.Name _ _) _) _) _ _ _) | (with_reducible show wpAny _ _ (eval (PySem.Expr.BinOp _ _ (PySem.Expr.Constant _ _ _) _) _) _ _ _)); k_dflt (first | (refine' valS ?svF ?svk ?svS ?_; (case svF => k_asm); (case svk => rfl); (case svS => walk_at "SV"); k_whole) | (refine' binS ?svF ?svk ?svS ?svU ?_; (case svF => k_asm); (case svk => rfl); (case svS => walk_at "SV"); (case svU => walk_at "SV"); k_whole)))
  k_with "isTrue Compare" => (k_here; (first | (with_reducible show wpAny _ _ (PySem.isTrue (PySem.Expr.Compare (PySem.Expr.Name _ _) _ _ _) _ _) _ _ _) | (with_reducible show wpAny _ _ (PySem.isTrue (PySem.Expr.Compare (PySem.Expr.Constant _ _ _) _ _ _) _ _) _ _ _) | (with_reducible show wpAny _ _ (PySem.isTrue (PySem.Expr.Compare (PySem.Expr.BinOp (PySem.Expr.Name _ _) _ _ _) _ _ _) _ _) _ _ _)); (first | (with_reducible show wpAny _ _ (PySem.isTrue (PySem.Expr.Compare _ _ [(PySem.Expr.Name _ _)] _) _ _) _ _ _) | (with_reducible show wpAny _ _ (PySem.isTrue (PySem.Expr.Compare _ _ [(PySem.Expr.Constant _ _ _)] _) _ _) _ _ _) | (with_reducible show wpAny _ _ (PySem.isTrue (PySem.Expr.Compare _ _ [(PySem.Expr.BinOp (PySem.Expr.Name _ _) _ _ _)] _) _ _) _ _ _)); k_dflt (refine' cmpS ?svF ?svk ?svS ?svU ?_ ?svh; (case svF => k_asm); (case svk => rfl); (case svS => walk_at "SV"); (case svU => walk_at "SV"); (case svh => with_unfolding_all rfl); k_whole))
  k_with "spliced" => (k_here; (first | (with_reducible show wpAny _ _ (spliced (backTo _ (starEach ((PySem.Expr.Name _ _) :: _) _))) _ _ _) | (with_reducible show wpAny _ _ (spliced (backTo _ (starEach ((PySem.Expr.Constant _ _ _) :: _) _))) _ _ _) | (with_reducible show wpAny _ _ (spliced (backTo _ (starEach ((PySem.Expr.BinOp (PySem.Expr.Name _ _) _ _ _) :: _) _))) _ _ _)); k_dflt (refine' itemsS ?svF ?svk ?svS ?_; (case svF => k_asm); (case svk => rfl); (case svS => walk_at "SV"); k_whole))
  k_with "eval Subscript" => (k_here; (first | (with_reducible show wpAny _ _ (eval (PySem.Expr.Subscript (PySem.Expr.Name _ _) (PySem.Expr.Name _ _) _) _) _ _ _) | (with_reducible show wpAny _ _ (eval (PySem.Expr.Subscript (PySem.Expr.Name _ _) (PySem.Expr.Constant _ _ _) _) _) _ _ _) | (with_reducible show wpAny _ _ (eval (PySem.Expr.Subscript (PySem.Expr.Name _ _) (PySem.Expr.BinOp (PySem.Expr.Name _ _) _ _ _) _) _) _ _ _)); k_dflt (refine' subS ?svF ?svk ?svS ?svU ?_; (case svF => k_asm); (case svk => rfl); (case svS => walk_at "SV"); (case svU => walk_at "SV"); k_whole))
  k_with "call ref" => (k_here; (with_reducible show wpAny _ _ (call (Value.ref 235) _) _ _ _); k_dflt (refine' useTy ?k1 ?k2 ?k3 ?k4 ?k5 ?kK ?kp ?kd ?ku ?_); (case k1 => k_asm); (case k2 => k_asm); (case k3 => k_asm); (case k4 => k_asm); (case k5 => k_asm); (case kK => first | exact rfl | assumption); (case kp => refine ⟨by lia, by lia, ?_⟩; first | lia | exact (fm _ (by decide)).1); (case kd => ktr_room); (case ku => ktr_units); (intro _ _ _ _ _ _ _ _ _ _ _ _ _); (try dsimp only); (try k_fold))
  k_with "call ref" => (k_here; (with_reducible show wpAny _ _ (call (Value.ref 242) _) _ _ _); k_dflt (refine' useD (c_prep _ _ _ _ _ _ _) ?k1 ?k2 ?k3 ?k4 ?k5 ?kK ?kp ?kd ?ku ?_); (case k1 => k_asm); (case k2 => k_asm); (case k3 => k_asm); (case k4 => k_asm); (case k5 => k_asm); (case kK => first | exact rfl | assumption); (case kp => lia); (case kd => ktr_room); (case ku => ktr_units); (intro _ _ _ _ _); (try dsimp only); (try k_fold))
  k_fill
  intro hrow hKL; clear hrow hKL
  have B := below_caller h₀
  show wpAny _ _ (exec (.For _ _ _ [] _) _) _ _ _
  refine wpAny_For ?_ (fun _ => rfl)
  k_steps
  rename_i h9 tk9 t9 u9 v9 R9 F9 N9 k9
  dsimp only at R9 F9 N9 ⊢
  have hle : ∀ p ∈ (lp, W.listOf #[] 0) :: (L + 2, o2) :: (lc, lst ys) :: rest, p.1 < h9.objs.size := fun p hp => Heap.lt_size (N9 p hp).1
  refine for_range rfl R9 (by decide) (n := 6) (by decide) F9 N9
    (fun i m nx g => g = s.gens ∧ m (Str.ofString "cells") = some (.ref lc) ∧ ∃ (vs : List Value) (xs : List Str) (n : Nat), nx = (lp, W.listOf vs.toArray n) :: (L + 2, o2) :: (lc, lst ys) :: rest ∧ StrsAre vs xs ∧ xs.map (·.length) = List.range i) ?_ ⟨rfl, hc, [], [], 0, rfl, .nil, rfl⟩ ?_ ?_
  · rintro i m nx g ⟨_, _, vs, xs, n, rfl, _, _⟩ p hp
    rcases List.mem_cons.mp hp with rfl | hp
    · exact Nat.ne_of_lt (show lp < _ from hle (lp, _) (List.mem_cons_self ..))
    · exact Nat.ne_of_lt (hle p (List.mem_cons_of_mem _ hp))
  · rintro i t m₁ nx gl h tk g E' hi ⟨rfl, hm, vs, xs, n, rfl, hvs, hxs⟩ F8 N8 hgl
    replace F8 := Mine.Fr.know F8 hm
    rw [List.cons_append] at N8
    have hsz : (0 : Int) + (i : Int) * 1 = (i : Int) := by lia
    rw [hsz]
    have e1 := hvs.length
    have e2 := congrArg List.length hxs
    rw [List.length_map, List.length_range] at e2
    have hvl : vs.toArray.size ≤ sizeLine := by
      show vs.length ≤ 2 ^ 24
      lia
    have hne9 : ∀ q ∈ (L + 2, o2) :: (lc, lst ys) :: rest ++ gl, q.1 ≠ lp := fun q hq => (List.mem_append.mp hq).elim (fun h => Nat.ne_of_lt (hlow q h)) (fun h => by rw [hgl q h]; exact Nat.ne_of_gt (hle (lp, _) (List.mem_cons_self ..)))
    k_steps
    · exact absurd (‹prep (Str.cps _).toList = _›) (by simpa using ‹(prep (Str.cps _).toList != _) = true›)
    · refine' append_head (D := lp) (its := vs.toArray) (n := n) (rest := (L + 2, o2) :: (lc, lst ys) :: rest ++ gl) ?aF ?aN hne9 ?_ hvl
      case aF => k_asm
      case aN => exact cb_drop (by assumption) (by intro p hp; exact List.mem_cons_of_mem _ hp)
      intro h11 F11 N11
      k_steps
      have hpl := ‹prep (Str.cps _).toList = _›
      have hml := ‹((Str.length _ : Nat) : Int) = (i : Int)›
      rw [← hpl] at hml
      refine fun Go k => k _ _ _ _ ((lp, W.listOf (vs.toArray.push _) (n + 1)) :: (L + 2, o2) :: (lc, lst ys) :: rest) F11 N11 ⟨rfl, rfl, vs ++ [_], xs ++ [_], n + 1, by rw [List.push_toArray], strs_snoc hvs, ?_⟩
      rw [List.map_append, hxs, List.range_succ, List.map_singleton]
      congr 2
      exact Int.ofNat.inj hml
  · rintro h tk g m' nx ⟨rfl, hm, vs, xs, n, rfl, hvs, hxs⟩ F7 N7
    exact hQ h tk m' vs xs n hm hvs hxs F7 N7
end Mine

end
-- L6
section
open PySem PySem.W PySem.Spec PySem.Calls PyProof.Rows PyProof.Rows.LCg
set_option Elab.async false
set_option maxRecDepth 100000
set_option maxHeartbeats 1000000
namespace Mine
theorem law_s4 (w : World) {mean : ExcName → Option Value} {mg mb : Str → Option Value} {h₀ : Heap} {L fa : Addr} {cd : Value} {s : Shared} {m : Str → Option Value} {rest : List (Addr × Obj)} {lc : Addr} {ys : List Value} {ns : List Int} {Q : Flow → Shared → Prop} {E : Value → Shared → Prop}
    (F : Fr h₀ L s.heap m) (X : (KL w.params).In h₀) (T : Top qv looseN mean mg mb h₀) (N : News h₀ L s.heap ((lc, lst ys) :: rest)) (hc : m (Str.ofString "cells") = some (.ref lc)) (hys : IntsAre ys ns) (hns : ns.length = 6)
    (hQ : ∀ (h' : Heap) (tk' : Nat) (m' : Str → Option Value) (lk : Addr) (t1 t2 : Tok), m' (Str.ofString "cells") = some (.ref lc) → m' (Str.ofString "start") = some (.int ((ns.getD 1 0).fmod 4) t1) → m' (Str.ofString "turn") = some (.int ((ns.getD 1 0).fdiv 4) t2) → m' (Str.ofString "kept") = some (.ref lk) →
      Fr h₀ L h' m' → News h₀ L h' ((lk, W.listOf #[] 0) :: (lc, lst ys) :: rest) → (∀ p ∈ (lc, lst ys) :: rest, p.1 < lk) → Q .next { s with heap := h', toks := tk' }) :
    PySem.Challenge.rw_uc0065_01 = PySem.Challenge.rw_uc0065_01 → KL = KL →
    wpAny (model prog w) (lawA L fa cd) (exec (stAt 3 fb25) (lawE L fa cd)) Q E s := by
  k_with_none
  k_with "eval Subscript" => (k_here; (first | (with_reducible show wpAny _ _ (eval (PySem.Expr.Subscript (PySem.Expr.Name _ _) (PySem.Expr.Name _ _) _) _) _ _ _) | (with_reducible show wpAny _ _ (eval (PySem.Expr.Subscript (PySem.Expr.Name _ _) (PySem.Expr.Constant _ _ _) _) _) _ _ _) | (with_reducible show wpAny _ _ (eval (PySem.Expr.Subscript (PySem.Expr.Name _ _) (PySem.Expr.BinOp (PySem.Expr.Name _ _) _ _ _) _) _) _ _ _)); k_dflt (refine' subS ?svF ?svk ?svS ?svU ?_; (case svF => k_asm); (case svk => rfl); (case svS => walk_at "SV"); (case svU => walk_at "SV"); k_whole))
  k_fill
  intro hrow hKL; clear hrow hKL
  have B := below_caller h₀
  replace F := Mine.Fr.know F hc
  show wpAny _ _ (exec (.Assign [.Tuple [_, _, _] _ _] (.Tuple _ _ _) _) _) _ _ _
  k_steps
  rename_i lk h9 lt9 D9 h8 lt8 h7 h6 h5 h4 F4 N4
  have hlt : lc < lk ∧ AllLt lk rest := lt9
  refine hQ h4 _ _ lk _ _ rfl rfl rfl rfl F4 (cb_drop N4 (by intro p hp; exact List.mem_cons_of_mem _ hp)) fun p hp => ?_
  rcases List.mem_cons.mp hp with rfl | hp
  · exact hlt.1
  · exact allLt_all _ hlt.2 p hp
end Mine

end
-- L34
section
open PySem PySem.W PySem.Spec PySem.Calls PyProof.Rows PyProof.Rows.LCg
set_option Elab.async false
set_option maxRecDepth 100000
set_option maxHeartbeats 1000000
namespace Mine
theorem fc {α : Type} {P : α → Prop} {a : α} {l : List α} (h : P a) (hl : ∀ x ∈ l, P x) : ∀ x ∈ a :: l, P x := List.forall_mem_cons.mpr ⟨h, hl⟩
theorem law_body (w : World) {mean : ExcName → Option Value} {mg mb : Str → Option Value} {h₀ : Heap} {L fa : Addr} {cd : Value} {s : Shared} {m : Str → Option Value} {o1 o2 o3 o4 : Obj} {ax : Addr} {ws : List Value} {zs : List Int} {Q : Flow → Shared → Prop} {E : Value → Shared → Prop}
    (F : Fr h₀ L s.heap m) (X : (KL w.params).In h₀) (T : Top qv looseN mean mg mb h₀) (N : News h₀ L s.heap [(L + 1 + 1 + 1 + 1, o4), (L + 1 + 1 + 1, o3), (L + 1 + 1, o2), (L + 1, o1), (65, tabObj #[]), (58, tabObj #[])])
    (c1 : o1.data = .cell (some (.ref ax))) (c2 : o2.data = .cell none) (c3 : o3.data = .cell none) (c4 : o4.data = .cell none) (hl : h₀.IsList ax ws.toArray) (hi : IntsAre ws zs) (hlen : zs.length ≤ 63) (hbits : ∀ x ∈ zs, bl x ≤ 1048576) (h65 : @LT.lt Nat _ 65 L) (hg : AllBare s.gens)
    (hQ : ∀ (h' : Heap) (tk' : Nat) (g' : Array GenState) (m' : Str → Option Value), AllBare g' → Fr h₀ L h' m' → GrownAt 65 h' → GrownAt 58 h' → Q (.ret (.bool true)) { s with heap := h', toks := tk', gens := g' }) :
    wpAny (model prog w) (lawA L fa cd) (execs fb25 (lawE L fa cd)) Q E s := by
  show wpAny _ _ (execs (stAt 0 fb25 :: stAt 1 fb25 :: stAt 2 fb25 :: stAt 3 fb25 :: stAt 4 fb25 :: stAt 5 fb25 :: stAt 6 fb25 :: stAt 7 fb25 :: stAt 8 fb25 :: [stAt 9 fb25, stAt 10 fb25, stAt 11 fb25, stAt 12 fb25, stAt 13 fb25, stAt 14 fb25, stAt 15 fb25, stAt 16 fb25, stAt 17 fb25]) _) _ _ _
  replace N : News h₀ L s.heap [(L + 4, o4), (L + 3, o3), (L + 2, o2), (L + 1, o1), (65, tabObj #[]), (58, tabObj #[])] := N
  have l12 : L + 1 ≠ L + 2 := Nat.ne_of_lt (Nat.lt_succ_self _)
  have l32 : L + 3 ≠ L + 2 := Nat.ne_of_gt (Nat.lt_succ_self _)
  have l43 : L + 4 ≠ L + 3 := Nat.ne_of_gt (Nat.lt_succ_self _)
  have l42 : L + 4 ≠ L + 2 := Nat.ne_of_gt (Nat.lt_succ_of_lt (Nat.lt_succ_self _))
  have l23 : L + 2 ≠ L + 3 := Ne.symm l32
  have l24 : L + 2 ≠ L + 4 := Ne.symm l42
  have b58 : ∀ k : Nat, @LT.lt Nat _ 58 (L + k) := fun k => Nat.lt_of_lt_of_le (Nat.lt_trans (by decide) h65) (Nat.le_add_right ..)
  have b65 : ∀ k : Nat, @LT.lt Nat _ 65 (L + k) := fun k => Nat.lt_of_lt_of_le h65 (Nat.le_add_right ..)
  refine wpAny_execs_cons (law_s1 w (osc := o1) (news := [(L + 4, o4), (L + 3, o3), (L + 2, o2), (65, tabObj #[]), (58, tabObj #[])]) F X T (cb_drop N ?_) c1 hl hi hlen hbits ?_ rfl rfl)
  · kcj_all
  intro lc h1 tk1 ys ns hys hns hb F1 N1 lt1
  have lc4 : @LT.lt Nat _ (L + 4) lc := lt1 (L + 4, o4) (by k_mem)
  have lc3 : @LT.lt Nat _ (L + 3) lc := lt1 (L + 3, o3) (by k_mem)
  have lc2 : @LT.lt Nat _ (L + 2) lc := lt1 (L + 2, o2) (by k_mem)
  refine wpAny_execs_cons (law_s2 w (o2 := o2) (news := [(lc, lst ys), (L + 4, o4), (L + 3, o3), (65, tabObj #[]), (58, tabObj #[])]) F1 X T (cb_drop N1 ?_) c2 ?_ ?_ rfl rfl)
  · kcj_all
  · exact fc (Nat.ne_of_gt lc2) (fc (l42) (fc (l32) (fc (Nat.ne_of_lt (b65 2)) (fc (Nat.ne_of_lt (b58 2)) (List.forall_mem_nil _)))))
  intro h2 tk2 lp o2' F2 N2 c2' lt2
  refine wpAny_execs_cons (law_s3 w (lc := lc) (ys := ys) (ns := ns) (rest := [(L + 4, o4), (L + 3, o3), (65, tabObj #[]), (58, tabObj #[])]) F2 X T N2 c2' lt2 (if_pos rfl) hys hns ?_ rfl rfl)
  intro h3 tk3 m3 vs xs n hc3 hvs hxs F3 N3
  refine wpAny_execs_cons (law_s4 w (lc := lc) (ys := ys) (ns := ns) (rest := [(lp, W.listOf vs.toArray n), (L + 2, o2'), (L + 4, o4), (L + 3, o3), (65, tabObj #[]), (58, tabObj #[])]) F3 X T (cb_drop N3 ?_) hc3 hys hns ?_ rfl rfl)
  · kcj_all
  intro h4 tk4 m4 lk t41 t42 hc4 hs4 ht4 hk4 F4 N4 lt4
  obtain ⟨st, hst, hs3⟩ : ∃ st : Nat, (ns.getD 1 0).fmod 4 = (st : Int) ∧ st < 4 := by
    have h := fm (ns.getD 1 0) (show (0 : Int) < 4 by decide)
    exact ⟨((ns.getD 1 0).fmod 4).toNat, by lia, by lia⟩
  rw [hst] at hs4
  refine wpAny_execs_cons (law_s5 w (lp := lp) (lc := lc) (lk := lk) (n := n) (rest := [(lc, lst ys), (L + 4, o4), (65, tabObj #[]), (58, tabObj #[])]) F4 X T c2' hvs hxs (cb_drop N4 ?_) ⟨hc4, ⟨_, hs4⟩, ⟨_, ht4⟩, hk4, [], 0, o3, none, rfl, .nil, c3⟩ ?_ ?_ ?_ ?_ rfl rfl)
  · kcj_all
  · exact fc (l23) (fc (Nat.ne_of_gt (Nat.lt_trans lc3 (lt2 (lc, lst ys) (by k_mem)))) (fc (Nat.ne_of_gt lc3) (fc (l43) (fc (Nat.ne_of_lt (b65 3)) (fc (Nat.ne_of_lt (b58 3)) (List.forall_mem_nil _))))))
  · intro p hp
    refine Nat.ne_of_lt (lt4 p ?_)
    revert p; kcj_all
  · exact Nat.ne_of_gt (lt4 (L + 3, o3) (by k_mem))
  rintro h5 tk5 g5 m5 nx5 ⟨hc5, ⟨ts5, hs5⟩, _, hk5, vk, nk, o3', v3', rfl, hvk, c3'⟩ F5 N5 hg5
  refine law_s67 w (st := st) (kr := kout 4) F5 X T N5 c2' hvs hxs hk5 hvk kout4_len hs5 (by lia) (fun h7 tk7 tt7 F7 N7 => ?_) rfl rfl
  refine wpAny_execs_cons (law_s8 w (nx := (lk, W.listOf vk.toArray nk) :: (L + 3, o3') :: (L + 2, o2') :: (lp, W.listOf vs.toArray n) :: [(lc, lst ys), (L + 4, o4), (65, tabObj #[]), (58, tabObj #[])]) F7 X T N7 (if_pos rfl) (two_len ⟨st, hs3⟩) (fun h8 tk8 Y W8 ws8 hW8 F8 N8 => ?_) rfl rfl)
  have w3 : ∀ p ∈ W8, p.1 ≠ L + 3 := fun p hp => Nat.ne_of_gt (hW8 p hp (L + 3, o3') (by k_mem))
  have w4 : ∀ p ∈ W8, p.1 ≠ L + 4 := fun p hp => Nat.ne_of_gt (hW8 p hp (L + 4, o4) (by k_mem))
  refine wpAny_execs_cons (law_s9 w (lc := lc) (ys := ys) (ns := ns) (rest := (lk, W.listOf vk.toArray nk) :: (L + 3, o3') :: (L + 2, o2') :: (lp, W.listOf vs.toArray n) :: (L + 4, o4) :: (65, tabObj #[]) :: (58, tabObj #[]) :: W8) F8 X T (cb_drop N8 ?_) ((if_neg (by decide)).trans ((if_neg (by decide)).trans hc5)) hys hns ?_ rfl rfl)
  · kcj_all
  intro h9 tk9 m9 ll hl9 ⟨tl9, hls9⟩ ⟨th9, hhs9⟩ ⟨tx9, hx9⟩ ⟨ty9, hy9⟩ hm9 F9 N9 lt9
  have lk3 : @LT.lt Nat _ (L + 3) lk := lt4 (L + 3, o3) (by k_mem)
  have lk4 : @LT.lt Nat _ (L + 4) lk := lt4 (L + 4, o4) (by k_mem)
  have lp3 : @LT.lt Nat _ (L + 3) lp := Nat.lt_trans lc3 (lt2 (lc, lst ys) (by k_mem))
  have lp4 : @LT.lt Nat _ (L + 4) lp := Nat.lt_trans lc4 (lt2 (lc, lst ys) (by k_mem))
  refine law_second w (lp := lp) (ll := ll) (lk := lk) (lc := lc) (Y3 := Y) (vs := vs) (vk := vk) (ys := ys) (xs := xs) (ns := ns) (n := n) (nk := nk) (st := st) (o2 := o2') (o3 := o3') (o4 := o4) (R := (lc, lst ys) :: (lk, W.listOf vk.toArray nk) :: (L + 2, o2') :: (lp, W.listOf vs.toArray n) :: (65, tabObj #[]) :: (58, tabObj #[]) :: W8) F9 X T (cb_drop N9 ?_) (by k_mem) c2' (by k_mem) hvs hxs c3' c4 (by k_mem) hvk hs3 ?_ ?_ ?_ (by k_mem) hys hns hb (by k_mem) (by k_mem) (Nat.ne_of_gt (Nat.lt_trans (b58 4) lc4)) (Nat.ne_of_gt (Nat.lt_trans (b65 4) lc4))
    ((hm9 _ (by decide)).trans ((if_neg (by decide)).trans ((if_neg (by decide)).trans hc5))) ((hm9 _ (by decide)).trans ((if_neg (by decide)).trans ((if_neg (by decide)).trans hs5))) hx9 hy9 ((hm9 _ (by decide)).trans (if_pos rfl)) (ws8.sub ?_) hl9 ((hm9 _ (by decide)).trans ((if_neg (by decide)).trans ((if_neg (by decide)).trans hk5))) hls9 hhs9 ((hm9 _ (by decide)).trans ((if_neg (by decide)).trans (if_pos rfl))) (hg5 hg) ?_
  · kcj_all
  · intro p hp
    refine Nat.ne_of_lt (lt9 p ?_)
    revert p; kcj_all
  · exact fc (Nat.ne_of_gt lc4) (fc (Nat.ne_of_gt lk4) (fc (l24) (fc (Nat.ne_of_gt lp4) (fc (Nat.ne_of_lt (b65 4)) (fc (Nat.ne_of_lt (b58 4)) (w4))))))
  · exact fc (Nat.ne_of_gt lc3) (fc (Nat.ne_of_gt lk3) (fc (l23) (fc (Nat.ne_of_gt lp3) (fc (Nat.ne_of_lt (b65 3)) (fc (Nat.ne_of_lt (b58 3)) (w3))))))
  · intro p hp
    simp only [List.mem_append, List.mem_cons, List.not_mem_nil, or_false] at hp
    rcases hp with h | h | h | h | h | h | h | h | h
    · exact .inl (by (first | ((try rw [h]); (repeat first | exact List.mem_cons_self .. | exact h | exact List.mem_append_left _ h | refine List.mem_append_right _ ?_ | refine List.mem_cons_of_mem _ ?_); done) | simp [h]))
    · rw [h]; exact .inl (by k_mem)
    · subst h; exact .inr (.inr ⟨_, c3'⟩)
    · rw [h]; exact .inl (by k_mem)
    · rw [h]; exact .inl (by k_mem)
    · rw [h]; exact .inl (by k_mem)
    · subst h; exact .inr (.inr ⟨_, c4⟩)
    · rw [h]; exact .inl (by k_mem)
    · rw [h]; exact .inl (by k_mem)
  · exact hQ
end Mine

end
-- L32
section
open PySem PySem.W PySem.Spec PySem.Calls PyProof.Rows
set_option Elab.async false
set_option maxRecDepth 100000
set_option maxHeartbeats 4000000
namespace Mine
/-- the end of the law's frame, its result True: what the claim asks of the state -/
theorem post_true {M : Model} {A : Around} {cd : Code} {s s₁ : Shared} {cw : ClaimW} {cl : Str → Option Addr} {mean : ExcName → Option Value} {args : List WData} {tabs : List (Addr × Addr)} (hT : TabsAt tabs s₁.heap) (hr : ∀ a x, cw.raises a x = false) (hp : cw.post args (.bool true) args = true)
    (h : codeAny M A cd (fun r s' => (r = .ok (.ret (.bool true)) ∧ (∀ b o, (ghostOf s₁.heap tabs).get? b = some o → s'.heap.get? b = some o) ∧ s'.os = s₁.os ∧ AllBare s'.gens) ∧ GrownAll tabs s'.heap) s) : codeAny M A cd (GoodWG cw cl mean args s₁) s := by
  refine codeAny_mono h fun r s' hh => ?_
  obtain ⟨⟨hres, hkeep, hos, hg⟩, hgr⟩ := hh
  have tab : ∀ b o, b ∈ tabs.map (·.2) → s₁.heap.get? b = some o → isCodeTable s₁.heap b ∧ o = tabObj #[] ∧ ∃ ps, s'.heap.get? b = some (tabObj ps) := by
    intro b o hb e
    obtain ⟨q, hq, hqb⟩ := List.mem_map.mp hb
    have h1 := hT q hq
    have h2 := hgr.get q hq
    rw [hqb] at h1 h2
    exact ⟨(h1.1.tab h1.2).isCodeTable, Option.some.inj (e.symm.trans h1.2), h2⟩
  refine ⟨.inl ⟨_, _, [], hres, fun x => hr args x, ReadsW.bool true, hp, fun _ => ⟨List.nodup_nil, fun _ hm => (nomatch hm)⟩⟩, ⟨fun b o e => ?_, fun b o e => ?_⟩, hos, hg⟩
  · by_cases hb : b ∈ tabs.map (·.2)
    · obtain ⟨h1, rfl, ps, h2⟩ := tab b o hb e
      exact .inr (.inl ⟨h1, rfl, #[], ps, rfl, by rw [Array.empty_append]; exact h2⟩)
    · exact .inl (hkeep b o (ghost_ne e hb))
  · by_cases hb : b ∈ tabs.map (·.2)
    · obtain ⟨_, _, ps, h2⟩ := tab b o hb e
      exact ⟨_, h2⟩
    · exact ⟨o, hkeep b o (ghost_ne e hb)⟩
local macro_rules | `(tactic| kn_posts) => `(tactic| refine post_true (by assumption) (fun _ _ => rfl) (by first | rfl | wrow_post) ?_)
theorem law_walk : WalkO qv looseN (XL qv []) HK.says PySem.Challenge.rw_uc0065_01.row.toRowW { name := Str.ofString "law", params := fp25, body := fb25, scope := fs25, pos := { line := 232, col := 0, endLine := 284, endCol := 15 } } [] (fun f vs => PySem.call f vs) := by
  suffices hfill : PySem.Challenge.rw_uc0065_01 = PySem.Challenge.rw_uc0065_01 → KL = KL → WalkO qv looseN (XL qv []) HK.says PySem.Challenge.rw_uc0065_01.row.toRowW { name := Str.ofString "law", params := fp25, body := fb25, scope := fs25, pos := { line := 232, col := 0, endLine := 284, endCol := 15 } } [] (fun f vs => PySem.call f vs) from hfill rfl rfl
  k_fill
  intro hrow hKL; clear hrow hKL
  intro w s₀ s₁ mg mb G Y fa o pm cd doc dV kV ho hd hcd hD hmg hg args vals as hpre hlay hrd hwl hlo
  have KX := km_in_of Y
  km_tabs Y
  have X := (Ground.X G).1
  have V := (Ground.X G).2
  refine Ground.open G ?_
  intro T B D TE TW
  try (refine guard_noD D (by decide +kernel) ?_; clear D)
  dsimp only at hmg
  km_lay T hmg ho hd cd
  clear hmg
  wrow_args hpre hlay hrd hwl hlo
  all_goals (
    first | refine callC_kw (enter_call ?_) | refine enter_call ?_
    w_top on
    kn_posts
    w_call any ho hd hcd hD T F
    clear hd
    kn_ghosts F T
    k_drop
    skip)
  have hT := topG _ ‹TabsAt tabsL _› ‹Top qv (looseW qv looseN) _ _ _ _› (km_in_of ‹HK.says _ _›)
  have hhi := ‹IntsAre _ _›
  refine law_body _ (by assumption) (by assumption) hT (by assumption) (Eq.trans (by assumption) (by with_unfolding_all rfl)) (Eq.trans (by assumption) (by with_unfolding_all rfl)) (Eq.trans (by assumption) (by with_unfolding_all rfl)) (Eq.trans (by assumption) (by with_unfolding_all rfl)) (by assumption) hhi (by omega) (fun x hx => intBits_le_of_item hx (by assumption)) (And.left (by assumption)) (AllBare.of_eq (by assumption)) ?_
  exact fun h' tk' g' m' hg' F' g65 g58 => ⟨⟨rfl, F'.keep, rfl, hg'⟩, g65, g58, trivial⟩
end Mine

end
-- Fin3
section
open PySem PySem.W PySem.Calls PyProof.Rows
set_option Elab.async false
set_option maxRecDepth 100000
set_option maxHeartbeats 0
namespace Mine
noncomputable abbrev lw : OpenLaw := PySem.Challenge.rw_uc0065_01
theorem w_looksOpen1 : (sreFenced lw.row.prog.main) = true := by kernel_rfl
theorem w_looksOpen2 : (((moduleNames lw.row.prog.main.body).isEmpty || lookedIntoSs (moduleNames lw.row.prog.main.body) lw.row.prog.main.body)) = true := by kernel_rfl
theorem w_looksOpen3 : (namesResolve lw.row.prog) = true := by kernel_rfl
theorem w_looksOpen4 : (lw.row.prog.boundNames.all (fun n => !worldNames.contains n)) = true := by kernel_rfl
theorem w_looksOpen5 : (noRoadLSs { strict := !(importedModules lw.row.prog.main.body).all cThrough.contains, foot := none, bare := (["vars", "dir", "locals"] : List Str).filter (readsOut lw.row.prog lw.row.prog.main.body) } lw.row.prog.main.body) = true := by kernel_rfl
theorem w_looksOpen6 : (namesMeet lw.row.prog lw.row.prog.main.body fun _ n => attrL n) = true := by kernel_rfl
theorem w_ps1 : ((lw.row.records.isEmpty || lw.row.raises.all fun ct => ct.1 != .builtin "AttributeError" && ct.1 != .builtin "TypeError")) = true := by kernel_rfl
theorem w_ps2 : (lw.row.toRowW.solid) = true := by kernel_rfl
theorem w_ps3 : (lw.row.pre.litsOk) = true := by kernel_rfl
theorem w_ps4 : (lw.row.post.litsOk) = true := by kernel_rfl
theorem w_ps5 : (lw.row.prog.boundNames.contains lw.row.name) = true := by kernel_rfl
theorem w_ps6 : (!startupNames.contains lw.row.name) = true := by kernel_rfl
theorem w_l1 : (decide (lw.foot ≤ (behindTheImports lw.prog).length)) = true := by kernel_rfl
theorem w_l2 : (lw.footing.all footLine) = true := by kernel_rfl
theorem w_l3 : (noClassBlock lw.prog lw.footing) = true := by kernel_rfl
theorem w_l4 : (noRoadLSs { strict := true, foot := some lw.bound', writes := lw.writes, may := lw.may } lw.footing) = true := by kernel_rfl
theorem w_l5 : (defStands lw.about lw.above) = true := by kernel_rfl
theorem w_l6 : (lw.namesIt) = true := by kernel_rfl
theorem w_l7 : ((["type", "isinstance", "issubclass", "getattr", "hasattr"] : List Str).all (fun n => lw.about != [n])) = true := by kernel_rfl
theorem w_l8 : (lw.bound'.all (fun n => !builtinNamed n || lw.about == [n] || !lw.reads n)) = true := by kernel_rfl
theorem w_l9 : ((!lw.writes || (lw.prog.main.body.flatMap importedNames).all fun n => !lw.reads n)) = true := by kernel_rfl
theorem w_l10 : ((lw.prog.main.body.flatMap importedNames).all (fun n => !lw.reads n || (drawsOf n lw.prog.main.body).all fun mn => mn.2 != ("attrgetter" : Str) && mn.2 != ("methodcaller" : Str))) = true := by kernel_rfl
theorem w_l11 : (namesMeet lw.prog lw.footing (fun sc n => (!(["type", "isinstance", "issubclass", "getattr", "hasattr"] : List Str).contains n || sc.names.lookup n == some .globalImplicit) && (lw.may != some n || sc.kind == .module || sc.names.lookup n == some .globalImplicit))) = true := by kernel_rfl
theorem w_l12 : (lw.own.contains lw.name) = true := by kernel_rfl
theorem w_l13 : (lw.own.eraseDups.length == lw.own.length) = true := by kernel_rfl
theorem w_l14 : (lw.own.all (fun n => !builtinNamed n)) = true := by kernel_rfl
theorem w_l15 : (namesMeet lw.prog lw.above (fun _ n => !lw.own.contains n)) = true := by kernel_rfl
theorem w_l16 : (namesMeet lw.prog lw.footing fun sc n => sc.kind == .module || sc.names.lookup n != some .globalExplicit) = true := by kernel_rfl
theorem said_lw : OpenLaw.wellSaid PySem.Challenge.rw_uc0065_01 = true := by
  unfold OpenLaw.wellSaid OpenRow.wellSaid OpenRow.partSaid looksOpen
  repeat' (first | (with_reducible refine look_both ?_ ?_) | (with_reducible exact w_looksOpen1) | (with_reducible exact w_looksOpen2) | (with_reducible exact w_looksOpen3) | (with_reducible exact w_looksOpen4) | (with_reducible exact w_looksOpen5) | (with_reducible exact w_looksOpen6) | (with_reducible exact w_ps1) | (with_reducible exact w_ps2) | (with_reducible exact w_ps3) | (with_reducible exact w_ps4) | (with_reducible exact w_ps5) | (with_reducible exact w_ps6) | (with_reducible exact w_l1) | (with_reducible exact w_l2) | (with_reducible exact w_l3) | (with_reducible exact w_l4) | (with_reducible exact w_l5) | (with_reducible exact w_l6) | (with_reducible exact w_l7) | (with_reducible exact w_l8) | (with_reducible exact w_l9) | (with_reducible exact w_l10) | (with_reducible exact w_l11) | (with_reducible exact w_l12) | (with_reducible exact w_l13) | (with_reducible exact w_l14) | (with_reducible exact w_l15) | (with_reducible exact w_l16) | kernel_rfl)
end Mine
theorem PySem.Challenge.cw_uc0065_01_holds : PySem.Challenge.rw_uc0065_01.Holds := by
  w_on
  refine holds_law Mine.said_lw fun said => ?_
  obtain ⟨N, hl⟩ := Mine.left_top
  refine holds_open (q := Mine.qv) (loose := Mine.looseN) (Xt := fun s => xlAt Mine.qv [] s && recOk (RowW.records PySem.Challenge.rw_uc0065_01.row.toRowW) s) (XP := XL Mine.qv []) (Yf := Hook.obs Mine.HK) (Ya := Hook.val Mine.HK) (YP := Hook.says Mine.HK) (N := N) hl (Hook.of Mine.HK) (Hook.keeps Mine.HK) (fun s e => xl_of s (Bool.and_eq_true_iff.mp e).1) XL.keeps (by rfl) (by rfl) (by rfl) (fun s e => recFacts_of (Bool.and_eq_true_iff.mp e).2) (by rfl) (by first | assumption | decide +kernel) (by decide +kernel) ⟨rfl, rfl, rfl, rfl, rfl, by decide +kernel⟩ ?hw ?hc
  case hw => w_witness2
  case hc =>
    exact Mine.law_walk

end
