import JvmDerived
import JvmDerived.Pilot.@@N@@Statement
import JvmDerived.Pilot.@@N@@Code
set_option linter.unusedVariables false
set_option linter.unusedSimpArgs false
namespace Jvm.OwnW
open Sem ClassFile Op Lib Jvm.Stand Jvm.Free Jvm.LawKit Jvm.RoadKit
/-! A plain heap (objects made since the start, in order), values whose references count from the start's size; W: from here the method comes back, and Q holds of what it returns and leaves. -/
abbrev Key : Type := String × String × String
abbrev AObj : Type := (String × List (Key × Value)) ⊕ (FieldType × List Value)
abbrev AHeap : Type := List AObj
abbrev Meth : Type := MethodName × ByteArray × Nat × Option FieldType × Room
def up (n : Nat) : Value → Value
  | .ref k => .ref (n + k)
  | .retAddr a => .ref a
  | v => v
/-- a reference: null, an object of the plain heap, or one from elsewhere (written '.retAddr', which no method here makes) -/
def rfn : Value → Bool
  | .ref _ => true
  | .null => true
  | .retAddr _ => true
  | _ => false
def upS (n : Nat) : Slot → Slot
  | .val v => .val (up n v)
  | x => x
abbrev loc (n : Nat) (ls : List Slot) : Array Slot := (ls.map (upS n)).toArray
abbrev stk (n : Nat) (st : List Value) : List Value := st.map (up n)
def OR (Z : State) (n : Nat) (h : Heap) (a : Addr) : AObj → Prop
  | .inl x => Exa Z h a x.1 ∧ (∀ (i : Nat) (q : Key × Value), x.2[i]? = some q → Fld Z h a q.1.1 q.1.2.1 q.1.2.2 (up n q.2)) ∧ ∀ (i j : Nat) (q r : Key × Value), i ≠ j → x.2[i]? = some q → x.2[j]? = some r → RoadKit.slotOf Z q.1.1 q.1.2.1 q.1.2.2 ≠ RoadKit.slotOf Z r.1.1 r.1.2.1 r.1.2.2
  | .inr x => ∃ cl : Cell, Arr Z h a cl x.1 ∧ cl.slots = (x.2.map (up n)).toArray
/-- a cell of which nothing is said -/
def junk : AObj := .inr (.object "", [])
def isJ : AObj → Bool
  | .inl _ => false
  | .inr x => match x.1 with
    | .object c => c == ""
    | _ => false
def HR (Z : State) (n : Nat) (h : Heap) (H : AHeap) : Prop := h.size = n + H.length ∧ ∀ k o, H[k]? = some o → isJ o = false → OR Z n h (n + k) o
def Ctx (Z : State) (M : Meth) (p : Program) (s : State) (m : MethodId) (meth : Method) (c : Code) : Prop :=
  p.tables.exec = Jvm.exec ∧ Z.Warmed39 s.vm ∧ s.vm.findClass M.1.cls = some m.cls ∧ c.code = M.2.1 ∧ c.maxLocals = M.2.2.1 ∧ meth.sig.returnType = M.2.2.2.1 ∧ meth.locks = false ∧ meth.name = M.1.name
/-- the end's frame: the plain one, or (a String's constant may have been resolved) the wide one -/
def EndR (b : Bool) (s : State) (o : Outcome) (t : State) (L : List Loc) (k n : Nat) : Prop := match b with
  | false => FrameEnd s o t L k n
  | true => (∃ v : Option Value, o = Outcome.returned v) ∧ s.Warmed39 t.vm ∧ s.Booked t.vm t.heap.size ∧ s.sameButNew ({ t with vm := s.vm } : State) L k n
theorem EndR.of {b : Bool} {s : State} {o : Outcome} {t : State} {L : List Loc} {k n : Nat} (h : FrameEnd s o t L k n) : EndR b s o t L k n := by
  cases b
  · exact h
  · exact ⟨h.1, (h.2.1.since t.heap.size).1, (h.2.1.since t.heap.size).2, h.2.2⟩
def FinR (b : Bool) (Z : State) (n : Nat) (M : Meth) (Q : Option Value → AHeap → Prop) (p : Program) (e : Env) (below : List Frame) (s S : State) : Prop :=
  ∃ s₂ v L H', Steps p.tables e below S s₂ ∧ s₂.status = .running ∧ Ended s₂ below (.returned (v.map (up n))) ∧ Q v H' ∧ HR Z n s₂.heap H' ∧ Fr n L ∧ EndR b s (.returned (v.map (up n))) s₂ L M.2.2.2.2.cells M.2.2.2.2.slots
def WB (b : Bool) (l : Launch) (Z : State) (n : Nat) (M : Meth) (pc : Nat) (ls : List Slot) (st : List Value) (H : AHeap) (ce sl : Nat) (Q : Option Value → AHeap → Prop) : Prop :=
  ∀ (p : Program) (e : Env) (s : State) (m : MethodId) (args : Array Value) (below : List Frame) (meth : Method) (c : Code), Ctx Z M p s m meth c → ∀ (T : State) (locs : List Loc),
    Stand p l e M.2.2.2.2 s m args below meth c T locs ce sl → HR Z n T.heap H → Fr n locs → FinR b Z n M Q p e below s (T.setTop (mkF m pc (loc n ls) (stk n st)))
abbrev W (l : Launch) (Z : State) (n : Nat) (M : Meth) (pc : Nat) (ls : List Slot) (st : List Value) (H : AHeap) (ce sl : Nat) (Q : Option Value → AHeap → Prop) : Prop := WB false l Z n M pc ls st H ce sl Q
/-- the instruction at pc, its length, the pc behind -/
def D (M : Meth) (pc : Nat) (i : Instr) (len pc' : Nat) : Prop := decode M.2.1 pc = .ok (i, len) ∧ pc' = pc + len
/-- a branch: the pc behind, the target -/
def DB (M : Meth) (pc : Nat) (i : Instr) (o : Int) (pc' t : Nat) : Prop := decode M.2.1 pc = .ok (i, 3) ∧ pc' = pc + 3 ∧ 0 ≤ (pc : Int) + o ∧ ((pc : Int) + o).toNat = t

section Facts
variable {Z : State} {n : Nat} {h h' : Heap} {a b : Addr} {x : AObj} {H : AHeap} {sl k : Nat} {v : Value}
theorem up_cat (n : Nat) (v : Value) : (up n v).category = v.category := by cases v <;> rfl
theorem up_rfn (n : Nat) {v : Value} (h : rfn v = true) : (up n v).isRef = true := by cases v <;> first | rfl | (simp [rfn] at h)
theorem up_isRef (n : Nat) {v : Value} (h : v.isRef = true) : (up n v).isRef = true := by cases v <;> first | rfl | (simp [Value.isRef] at h)
theorem rfn_cat {v : Value} (h : rfn v = true) : v.category = 1 := by cases v <;> first | rfl | (simp [rfn] at h)
theorem up_default (n : Nat) (ty : FieldType) : up n (defaultValue ty) = defaultValue ty := by cases ty <;> rfl
theorem up_inj {n : Nat} {v w : Value} (hv : v.isRef = true) (hw : w.isRef = true) (e : up n v = up n w) : v = w := by
  cases v <;> cases w <;> simp_all [up, Value.isRef]
theorem OR.other (W : Wr h h' a sl v) (hne : b ≠ a) : ∀ {x : AObj}, OR Z n h b x → OR Z n h' b x
  | .inl x, o => ⟨o.1.wr W, fun i q hq => (o.2.1 i q hq).other W (Or.inl hne), o.2.2⟩
  | .inr x, ⟨cl, A, e⟩ => ⟨cl, A.other W hne, e⟩
theorem OR.ext (E : Ext h h') : ∀ {x : AObj}, OR Z n h b x → OR Z n h' b x
  | .inl x, o => ⟨o.1.ext E, fun i q hq => (o.2.1 i q hq).ext E, o.2.2⟩
  | .inr x, ⟨cl, A, e⟩ => ⟨cl, A.ext E, e⟩
theorem HR.put (hH : HR Z n h H) (W : Wr h h' (n + k) sl v) (hx : OR Z n h' (n + k) x) : HR Z n h' (H.set k x) := by
  refine ⟨by rw [W.size, List.length_set]; exact hH.1, fun j o hj hJ => ?_⟩
  rw [List.getElem?_set] at hj
  split at hj
  · rename_i e
    subst e
    split at hj
    · cases hj; exact hx
    · cases hj
  · rename_i e
    exact (hH.2 j o hj hJ).other W (fun q => e (Nat.add_left_cancel q).symm)
theorem HR.push (hH : HR Z n h H) (E : Ext h h') (hs : h'.size = h.size + 1) (hx : OR Z n h' h.size x) : HR Z n h' (H ++ [x]) := by
  refine ⟨by rw [hs, hH.1, List.length_append]; rfl, fun j o hj hJ => ?_⟩
  rw [List.getElem?_append] at hj
  split at hj
  · exact (hH.2 j o hj hJ).ext E
  · rename_i e
    have hj' := hj
    cases hq : j - H.length with
    | zero =>
      have hge : H.length ≤ j := Nat.le_of_not_lt e
      have hle : j ≤ H.length := Nat.sub_eq_zero_iff_le.mp hq
      have this : n + j = h.size := by rw [hH.1, Nat.le_antisymm hle hge]
      rw [hq] at hj
      cases hj
      rw [this]; exact hx
    | succ q => rw [hq] at hj; cases hj
theorem OR.field {C : String} {fs : List (Key × Value)} {j : Nat} {O nm d : String} {old w : Value} (o : OR Z n h a (.inl (C, fs))) (hj : fs[j]? = some ((O, nm, d), old)) (W : Wr h h' a (RoadKit.slotOf Z O nm d) (up n w)) : OR Z n h' a (.inl (C, fs.set j ((O, nm, d), w))) := by
  have key : ∀ i q, (fs.set j ((O, nm, d), w))[i]? = some q → ∃ q', fs[i]? = some q' ∧ q'.1 = q.1 ∧ (i = j → q = ((O, nm, d), w)) ∧ (i ≠ j → q' = q) := by
    intro i q hq
    rw [List.getElem?_set] at hq
    split at hq
    · rename_i e
      subst e
      split at hq
      · cases hq; exact ⟨_, hj, rfl, fun _ => rfl, fun q => absurd rfl q⟩
      · cases hq
    · rename_i e
      exact ⟨q, hq, rfl, fun q => absurd q.symm e, fun _ => rfl⟩
  obtain ⟨o1, o2, o3⟩ := o
  refine ⟨o1.wr W, fun i q hq => ?_, fun i i' q r hne hq hr => ?_⟩
  · obtain ⟨q', g1, g2, g3, g4⟩ := key i q hq
    by_cases e : i = j
    · rw [g3 e]
      subst e
      cases hj.symm.trans g1
      have o4 : Fld Z h a O nm d (up n old) := o2 i _ hj
      exact o4.same W
    · obtain rfl := g4 e
      have hne : RoadKit.slotOf Z q'.1.1 q'.1.2.1 q'.1.2.2 ≠ RoadKit.slotOf Z O nm d := o3 i j q' ((O, nm, d), old) e g1 hj
      exact (o2 i q' g1).other W (Or.inr hne)
  · obtain ⟨q', g1, g2, -⟩ := key i q hq
    obtain ⟨r', k1, k2, -⟩ := key i' r hr
    have := o3 i i' q' r' hne g1 k1
    rw [g2, k2] at this; exact this
theorem OR.elem {ty : FieldType} {vs : List Value} {i : Nat} {w : Value} (o : OR Z n h a (.inr (ty, vs))) (W : Wr h h' a i (up n w)) : OR Z n h' a (.inr (ty, vs.set i w)) := by
  obtain ⟨cl, A, e⟩ := o
  refine ⟨_, A.same W, ?_⟩
  show cl.slots.setIfInBounds i (up n w) = _
  rw [e, List.setIfInBounds_toArray, List.map_set]
end Facts

/-- a class as the sheet lays it: its words, its fields at their first values -/
def OkC (a0 : Array Value) (Z : State) (C : String) (k : Nat) (fs : List (Key × Value)) : Prop :=
  (Cond.instantiable C k).before a0 Z = true ∧ (Cond.initialized C).before a0 Z = true ∧ (∀ q ∈ fs, ∃ ty, Laid Z a0 C q.1.1 q.1.2.1 q.1.2.2 ∧ parseFieldDescriptor q.1.2.2 = some ty ∧ q.2 = defaultValue ty) ∧ fs.Pairwise (fun q r => q.1.2.1 ≠ r.1.2.1)
theorem OkC.slots {a0 : Array Value} {Z : State} {C : String} {k : Nat} {fs : List (Key × Value)} (K : OkC a0 Z C k fs) : ∀ (i j : Nat) (q r : Key × Value), i ≠ j → fs[i]? = some q → fs[j]? = some r → RoadKit.slotOf Z q.1.1 q.1.2.1 q.1.2.2 ≠ RoadKit.slotOf Z r.1.1 r.1.2.1 r.1.2.2 := by
  intro i j q r hne hq hr
  obtain ⟨t, L, p1, -⟩ := K.2.2.1 q (List.mem_of_getElem? hq)
  obtain ⟨t', L', p2, -⟩ := K.2.2.1 r (List.mem_of_getElem? hr)
  obtain ⟨hi, ei⟩ := List.getElem?_eq_some_iff.mp hq
  obtain ⟨hj, ej⟩ := List.getElem?_eq_some_iff.mp hr
  have P := List.pairwise_iff_getElem.mp K.2.2.2
  refine slot_ne L L' ?_ p1 p2
  rcases Nat.lt_or_gt_of_ne hne with g | g
  · have := P i j hi hj g; rw [ei, ej] at this; exact this
  · have := P j i hj hi g; rw [ei, ej] at this; exact Ne.symm this

section Locals
variable {n : Nat} {ls : List Slot} {i : Nat} {x : Slot} {v : Value}
theorem loc_get (hl : ls[i]? = some x) : (loc n ls)[i]? = some (upS n x) := by
  simp [loc, hl]
def one (ls : List Slot) (i : Nat) : Bool := match ls[i]? with
  | some .unset => true
  | some (.val w) => w.category == 1
  | _ => false
/-- a long may be stored at i: the two places are there, and no other long is cut in two -/
def two (ls : List Slot) (i : Nat) : Bool := match ls[i]?, ls[i + 1]? with
  | some .unset, some .unset => true
  | some .unset, some (.val w) => w.category == 1
  | some (.val u), some .unset => u.category == 1
  | some (.val u), some (.val w) => u.category == 1 && w.category == 1
  | some (.val u), some .second => u.category == 2
  | _, _ => false
theorem loc_set (n : Nat) (ls : List Slot) (i : Nat) (x : Slot) : (loc n ls).setIfInBounds i (upS n x) = loc n (ls.set i x) := by
  simp [loc, List.map_set]
theorem store_1 (ho : one ls i = true) (hv : v.category = 1) : storeLocals (loc n ls) i (up n v) = some (loc n (ls.set i (.val v))) := by
  have : ∃ o, ls[i]? = some o ∧ (o = .unset ∨ ∃ w, o = .val w ∧ w.category = 1) := by
    unfold one at ho
    split at ho
    · rename_i h; exact ⟨_, h, Or.inl rfl⟩
    · rename_i w h; exact ⟨_, h, Or.inr ⟨w, rfl, by simpa using ho⟩⟩
    · cases ho
  obtain ⟨o, h1, h2⟩ := this
  rw [XS.store1 (loc_get (n := n) h1) ?_ ((up_cat n v).trans hv)]
  · exact congrArg some (loc_set n ls i (.val v))
  · rcases h2 with rfl | ⟨w, rfl, hw⟩
    · exact Or.inl rfl
    · exact Or.inr ⟨up n w, rfl, (up_cat n w).trans hw⟩
theorem setAt_eq {l : Array Slot} {i : Nat} (x : Slot) (h : i < l.size) : setAt l i x = some (l.setIfInBounds i x) := by simp [setAt, h]
theorem store_2 {y : Int64} (ho : two ls i = true) : storeLocals (loc n ls) i (.long y) = some (loc n ((ls.set i (.val (.long y))).set (i + 1) .second)) := by
  have e2 : (loc n ls).setIfInBounds i (.val (.long y)) = loc n (ls.set i (.val (.long y))) := loc_set n ls i (.val (.long y))
  have e3 : (loc n (ls.set i (.val (.long y)))).setIfInBounds (i + 1) .second = loc n ((ls.set i (.val (.long y))).set (i + 1) .second) := loc_set n _ (i + 1) .second
  have key : ∀ a b, ls[i]? = some a → ls[i + 1]? = some b → i < (loc n ls).size ∧ i + 1 < (loc n ls).size ∧ (loc n ls)[i]? = some (upS n a) ∧ (loc n ls)[i + 1]? = some (upS n b) := by
    intro a b h1 h2
    have g1 := (List.getElem?_eq_some_iff.mp h1).1
    have g2 := (List.getElem?_eq_some_iff.mp h2).1
    exact ⟨by simpa [loc] using g1, by simpa [loc] using g2, loc_get h1, loc_get h2⟩
  unfold two at ho
  split at ho
  · rename_i h1 h2
    obtain ⟨s1, s2, g1, g2⟩ := key _ _ h1 h2
    have g3 : ((loc n ls).setIfInBounds i (.val (.long y)))[i + 1]? = some .unset := by rw [Array.getElem?_setIfInBounds_ne (by omega)]; exact g2
    simp only [storeLocals, storeSelf, g1, upS, setAt_eq _ s1, Option.bind_eq_bind, Option.bind_some, Value.category, if_true, g3]
    rw [setAt_eq _ (by simpa using s2), e2, e3]
  · rename_i w h1 h2
    obtain ⟨s1, s2, g1, g2⟩ := key _ _ h1 h2
    have g3 : ((loc n ls).setIfInBounds i (.val (.long y)))[i + 1]? = some (.val (up n w)) := by rw [Array.getElem?_setIfInBounds_ne (by omega)]; exact g2
    have hw : (up n w).category = 1 := (up_cat n w).trans (by simpa using ho)
    have hw2 : ¬ (up n w).category = 2 := by rw [hw]; decide
    simp only [storeLocals, storeSelf, g1, upS, setAt_eq _ s1, Option.bind_eq_bind, Option.bind_some, show (Value.long y).category = 2 from rfl, if_true, g3, if_neg hw2]
    rw [setAt_eq _ (by simpa using s2), e2, e3]
  · rename_i u h1 h2
    obtain ⟨s1, s2, g1, g2⟩ := key _ _ h1 h2
    have g3 : ((loc n ls).setIfInBounds i (.val (.long y)))[i + 1]? = some .unset := by rw [Array.getElem?_setIfInBounds_ne (by omega)]; exact g2
    have hu : (up n u).category = 1 := (up_cat n u).trans (by simpa using ho)
    simp only [storeLocals, storeSelf, g1, upS, setAt_eq _ s1, Option.bind_eq_bind, Option.bind_some, hu, show ((1 : Nat) = 2) = False from by simp, if_false, g3]
    simp only [Value.category, if_true]
    rw [setAt_eq _ (by simpa using s2), e2, e3]
  · rename_i u w h1 h2
    obtain ⟨s1, s2, g1, g2⟩ := key _ _ h1 h2
    simp only [Bool.and_eq_true, beq_iff_eq] at ho
    have g3 : ((loc n ls).setIfInBounds i (.val (.long y)))[i + 1]? = some (.val (up n w)) := by rw [Array.getElem?_setIfInBounds_ne (by omega)]; exact g2
    have hu : (up n u).category = 1 := (up_cat n u).trans ho.1
    have hw : (up n w).category = 1 := (up_cat n w).trans ho.2
    simp only [storeLocals, storeSelf, g1, upS, setAt_eq _ s1, Option.bind_eq_bind, Option.bind_some, hu, hw, show ((1 : Nat) = 2) = False from by simp, if_false, g3]
    simp only [Value.category, if_true]
    rw [setAt_eq _ (by simpa using s2), e2, e3]
  · rename_i u h1 h2
    obtain ⟨s1, s2, g1, g2⟩ := key _ _ h1 h2
    have hu : (up n u).category = 2 := (up_cat n u).trans (by simpa using ho)
    have s3 : i < ((loc n ls).setIfInBounds (i + 1) .unset).size := by simpa using s1
    have g3 : (((loc n ls).setIfInBounds (i + 1) .unset).setIfInBounds i (.val (.long y)))[i + 1]? = some .unset := by rw [Array.getElem?_setIfInBounds_ne (by omega)]; simp [show i + 1 < ls.length by simpa [loc] using s2]
    simp only [storeLocals, storeSelf, g1, upS, setAt_eq _ s2, setAt_eq _ s3, Option.bind_eq_bind, Option.bind_some, hu, if_true, g3]
    simp only [Value.category, if_true]
    rw [setAt_eq _ (by simpa using s2)]
    rw [← e3, ← e2]
    congr 1
    apply Array.ext_getElem?
    intro j
    simp only [Array.getElem?_setIfInBounds, Array.size_setIfInBounds]
    by_cases q : i + 1 = j
    · simp [q]
    · by_cases q2 : i = j <;> simp [q, q2]
  · cases ho
end Locals

section Rules
variable {b : Bool} {l : Launch} {Z : State} {n : Nat} {M : Meth} {pc pc' : Nat} {ls ls' : List Slot} {st st' : List Value} {H H' : AHeap} {ce sl ce' sl' : Nat} {Q : Option Value → AHeap → Prop} {a0 : Array Value}
theorem W.step (go : ∀ (p : Program) (e : Env) (s : State) (m : MethodId) (args : Array Value) (below : List Frame) (meth : Method) (c : Code), Ctx Z M p s m meth c → ∀ (T : State) (locs : List Loc), Stand p l e M.2.2.2.2 s m args below meth c T locs ce sl → HR Z n T.heap H → Fr n locs →
      ∃ T' locs', Stand p l e M.2.2.2.2 s m args below meth c T' locs' ce' sl' ∧ HR Z n T'.heap H' ∧ Fr n locs' ∧ ∀ target, Steps p.tables e below (T'.setTop (mkF m pc' (loc n ls') (stk n st'))) target → Steps p.tables e below (T.setTop (mkF m pc (loc n ls) (stk n st))) target)
    (k : WB b l Z n M pc' ls' st' H' ce' sl' Q) : WB b l Z n M pc ls st H ce sl Q := fun p e s m args below meth c C T locs X hH hF => by
  obtain ⟨T', locs', X', hH', hF', stp⟩ := go p e s m args below meth c C T locs X hH hF
  obtain ⟨s₂, v, L, H'', h1, r⟩ := k p e s m args below meth c C T' locs' X' hH' hF'
  exact ⟨s₂, v, L, H'', stp _ h1, r⟩
theorem W.pure (go : ∀ (p : Program) (e : Env) (s : State) (m : MethodId) (args : Array Value) (below : List Frame) (meth : Method) (c : Code), Ctx Z M p s m meth c → ∀ (T : State) (locs : List Loc), Stand p l e M.2.2.2.2 s m args below meth c T locs ce sl →
      ∀ target, Steps p.tables e below (T.setTop (mkF m pc' (loc n ls') (stk n st'))) target → Steps p.tables e below (T.setTop (mkF m pc (loc n ls) (stk n st))) target)
    (k : WB b l Z n M pc' ls' st' H ce sl Q) : WB b l Z n M pc ls st H ce sl Q :=
  W.step (fun p e s m args below meth c C T locs X hH hF => ⟨T, locs, X, hH, hF, go p e s m args below meth c C T locs X⟩) k
theorem W.more (h1 : ce ≤ ce') (h2 : sl ≤ sl') (k : WB b l Z n M pc ls st H ce' sl' Q) : WB b l Z n M pc ls st H ce sl Q :=
  W.step (fun p e s m args below meth c C T locs X hH hF => ⟨T, locs, X.more h1 h2, hH, hF, fun _ h => h⟩) k
theorem W.mono {Q' : Option Value → AHeap → Prop} (k : WB b l Z n M pc ls st H ce sl Q') (hq : ∀ v H', Q' v H' → Q v H') : WB b l Z n M pc ls st H ce sl Q := fun p e s m args below meth c C T locs X hH hF => by
  obtain ⟨s₂, v, L, H'', h1, h2, h3, h4, r⟩ := k p e s m args below meth c C T locs X hH hF
  exact ⟨s₂, v, L, H'', h1, h2, h3, hq _ _ h4, r⟩
theorem W.iadd {x y : Int32} (hd : D M pc .iadd 1 pc') (k : WB b l Z n M pc' ls (.int (x + y) :: st) H ce sl Q) : WB b l Z n M pc ls (.int y :: .int x :: st) H ce sl Q := by
  obtain ⟨hd, rfl⟩ := hd
  exact W.pure (fun p e s m args below meth c C T locs X target h => XS.iadd X.here C.1 rfl (hb C.2.2.2.1 hd) rfl h) k
theorem W.isub {x y : Int32} (hd : D M pc .isub 1 pc') (k : WB b l Z n M pc' ls (.int (x - y) :: st) H ce sl Q) : WB b l Z n M pc ls (.int y :: .int x :: st) H ce sl Q := by
  obtain ⟨hd, rfl⟩ := hd
  exact W.pure (fun p e s m args below meth c C T locs X target h => XS.isub X.here C.1 rfl (hb C.2.2.2.1 hd) rfl h) k
theorem W.imul {x y : Int32} (hd : D M pc .imul 1 pc') (k : WB b l Z n M pc' ls (.int (x * y) :: st) H ce sl Q) : WB b l Z n M pc ls (.int y :: .int x :: st) H ce sl Q := by
  obtain ⟨hd, rfl⟩ := hd
  exact W.pure (fun p e s m args below meth c C T locs X target h => XS.imul X.here C.1 rfl (hb C.2.2.2.1 hd) rfl h) k
theorem W.iand {x y : Int32} (hd : D M pc .iand 1 pc') (k : WB b l Z n M pc' ls (.int (x &&& y) :: st) H ce sl Q) : WB b l Z n M pc ls (.int y :: .int x :: st) H ce sl Q := by
  obtain ⟨hd, rfl⟩ := hd
  exact W.pure (fun p e s m args below meth c C T locs X target h => XS.iand X.here C.1 rfl (hb C.2.2.2.1 hd) rfl h) k
theorem W.ior {x y : Int32} (hd : D M pc .ior 1 pc') (k : WB b l Z n M pc' ls (.int (x ||| y) :: st) H ce sl Q) : WB b l Z n M pc ls (.int y :: .int x :: st) H ce sl Q := by
  obtain ⟨hd, rfl⟩ := hd
  exact W.pure (fun p e s m args below meth c C T locs X target h => XT.ior X.here C.1 rfl (hb C.2.2.2.1 hd) rfl h) k
theorem W.ixor {x y : Int32} (hd : D M pc .ixor 1 pc') (k : WB b l Z n M pc' ls (.int (x ^^^ y) :: st) H ce sl Q) : WB b l Z n M pc ls (.int y :: .int x :: st) H ce sl Q := by
  obtain ⟨hd, rfl⟩ := hd
  exact W.pure (fun p e s m args below meth c C T locs X target h => XT.ixor X.here C.1 rfl (hb C.2.2.2.1 hd) rfl h) k
theorem W.ishl {x y : Int32} (hd : D M pc .ishl 1 pc') (k : WB b l Z n M pc' ls (.int (x <<< (y &&& 31)) :: st) H ce sl Q) : WB b l Z n M pc ls (.int y :: .int x :: st) H ce sl Q := by
  obtain ⟨hd, rfl⟩ := hd
  exact W.pure (fun p e s m args below meth c C T locs X target h => XT.ishl X.here C.1 rfl (hb C.2.2.2.1 hd) rfl h) k
theorem W.ishr {x y : Int32} (hd : D M pc .ishr 1 pc') (k : WB b l Z n M pc' ls (.int (x >>> (y &&& 31)) :: st) H ce sl Q) : WB b l Z n M pc ls (.int y :: .int x :: st) H ce sl Q := by
  obtain ⟨hd, rfl⟩ := hd
  exact W.pure (fun p e s m args below meth c C T locs X target h => XT.ishr X.here C.1 rfl (hb C.2.2.2.1 hd) rfl h) k
theorem W.iushr {x y : Int32} (hd : D M pc .iushr 1 pc') (k : WB b l Z n M pc' ls (.int (XT.ushr x y) :: st) H ce sl Q) : WB b l Z n M pc ls (.int y :: .int x :: st) H ce sl Q := by
  obtain ⟨hd, rfl⟩ := hd
  exact W.pure (fun p e s m args below meth c C T locs X target h => XT.iushr X.here C.1 rfl (hb C.2.2.2.1 hd) rfl h) k
theorem W.ladd {x y : Int64} (hd : D M pc .ladd 1 pc') (k : WB b l Z n M pc' ls (.long (x + y) :: st) H ce sl Q) : WB b l Z n M pc ls (.long y :: .long x :: st) H ce sl Q := by
  obtain ⟨hd, rfl⟩ := hd
  exact W.pure (fun p e s m args below meth c C T locs X target h => XT.ladd X.here C.1 rfl (hb C.2.2.2.1 hd) rfl h) k
theorem W.lsub {x y : Int64} (hd : D M pc .lsub 1 pc') (k : WB b l Z n M pc' ls (.long (x - y) :: st) H ce sl Q) : WB b l Z n M pc ls (.long y :: .long x :: st) H ce sl Q := by
  obtain ⟨hd, rfl⟩ := hd
  exact W.pure (fun p e s m args below meth c C T locs X target h => XT.lsub X.here C.1 rfl (hb C.2.2.2.1 hd) rfl h) k
theorem W.lmul {x y : Int64} (hd : D M pc .lmul 1 pc') (k : WB b l Z n M pc' ls (.long (x * y) :: st) H ce sl Q) : WB b l Z n M pc ls (.long y :: .long x :: st) H ce sl Q := by
  obtain ⟨hd, rfl⟩ := hd
  exact W.pure (fun p e s m args below meth c C T locs X target h => XT.lmul X.here C.1 rfl (hb C.2.2.2.1 hd) rfl h) k
theorem W.land {x y : Int64} (hd : D M pc .land 1 pc') (k : WB b l Z n M pc' ls (.long (x &&& y) :: st) H ce sl Q) : WB b l Z n M pc ls (.long y :: .long x :: st) H ce sl Q := by
  obtain ⟨hd, rfl⟩ := hd
  exact W.pure (fun p e s m args below meth c C T locs X target h => XT.land X.here C.1 rfl (hb C.2.2.2.1 hd) rfl h) k
theorem W.lor {x y : Int64} (hd : D M pc .lor 1 pc') (k : WB b l Z n M pc' ls (.long (x ||| y) :: st) H ce sl Q) : WB b l Z n M pc ls (.long y :: .long x :: st) H ce sl Q := by
  obtain ⟨hd, rfl⟩ := hd
  exact W.pure (fun p e s m args below meth c C T locs X target h => XT.lor X.here C.1 rfl (hb C.2.2.2.1 hd) rfl h) k
theorem W.lxor {x y : Int64} (hd : D M pc .lxor 1 pc') (k : WB b l Z n M pc' ls (.long (x ^^^ y) :: st) H ce sl Q) : WB b l Z n M pc ls (.long y :: .long x :: st) H ce sl Q := by
  obtain ⟨hd, rfl⟩ := hd
  exact W.pure (fun p e s m args below meth c C T locs X target h => XT.lxor X.here C.1 rfl (hb C.2.2.2.1 hd) rfl h) k
theorem W.lshl {x : Int64} {y : Int32} (hd : D M pc .lshl 1 pc') (k : WB b l Z n M pc' ls (.long (x <<< (y &&& 0x3f).toInt64) :: st) H ce sl Q) : WB b l Z n M pc ls (.int y :: .long x :: st) H ce sl Q := by
  obtain ⟨hd, rfl⟩ := hd
  exact W.pure (fun p e s m args below meth c C T locs X target h => XS.lshl X.here C.1 rfl (hb C.2.2.2.1 hd) rfl h) k
theorem W.lshr {x : Int64} {y : Int32} (hd : D M pc .lshr 1 pc') (k : WB b l Z n M pc' ls (.long (x >>> (y &&& 0x3f).toInt64) :: st) H ce sl Q) : WB b l Z n M pc ls (.int y :: .long x :: st) H ce sl Q := by
  obtain ⟨hd, rfl⟩ := hd
  exact W.pure (fun p e s m args below meth c C T locs X target h => XS.lshr X.here C.1 rfl (hb C.2.2.2.1 hd) rfl h) k
theorem W.lushr {x : Int64} {y : Int32} (hd : D M pc .lushr 1 pc') (k : WB b l Z n M pc' ls (.long (XT.ushrL x y) :: st) H ce sl Q) : WB b l Z n M pc ls (.int y :: .long x :: st) H ce sl Q := by
  obtain ⟨hd, rfl⟩ := hd
  exact W.pure (fun p e s m args below meth c C T locs X target h => XT.lushr X.here C.1 rfl (hb C.2.2.2.1 hd) rfl h) k
theorem W.idiv {x y : Int32} (hd : D M pc .idiv 1 pc') (hy : y ≠ 0) (k : WB b l Z n M pc' ls (.int (x / y) :: st) H ce sl Q) : WB b l Z n M pc ls (.int y :: .int x :: st) H ce sl Q := by
  obtain ⟨hd, rfl⟩ := hd
  exact W.pure (fun p e s m args below meth c C T locs X target h => XS.idiv X.here C.1 rfl (hb C.2.2.2.1 hd) rfl hy h) k
theorem W.irem {x y : Int32} (hd : D M pc .irem 1 pc') (hy : y ≠ 0) (k : WB b l Z n M pc' ls (.int (x % y) :: st) H ce sl Q) : WB b l Z n M pc ls (.int y :: .int x :: st) H ce sl Q := by
  obtain ⟨hd, rfl⟩ := hd
  exact W.pure (fun p e s m args below meth c C T locs X target h => iremM X C.1 rfl (hb C.2.2.2.1 hd) rfl hy h) k
theorem W.ldiv {x y : Int64} (hd : D M pc .ldiv 1 pc') (hy : y ≠ 0) (k : WB b l Z n M pc' ls (.long (x / y) :: st) H ce sl Q) : WB b l Z n M pc ls (.long y :: .long x :: st) H ce sl Q := by
  obtain ⟨hd, rfl⟩ := hd
  exact W.pure (fun p e s m args below meth c C T locs X target h => XT.ldiv X.here C.1 rfl (hb C.2.2.2.1 hd) rfl hy h) k
theorem W.lrem {x y : Int64} (hd : D M pc .lrem 1 pc') (hy : y ≠ 0) (k : WB b l Z n M pc' ls (.long (x % y) :: st) H ce sl Q) : WB b l Z n M pc ls (.long y :: .long x :: st) H ce sl Q := by
  obtain ⟨hd, rfl⟩ := hd
  exact W.pure (fun p e s m args below meth c C T locs X target h => XT.lrem X.here C.1 rfl (hb C.2.2.2.1 hd) rfl hy (by rw [lrem_mod]; exact h)) k
theorem W.ineg {x : Int32} (hd : D M pc .ineg 1 pc') (k : WB b l Z n M pc' ls (.int (-x) :: st) H ce sl Q) : WB b l Z n M pc ls (.int x :: st) H ce sl Q := by
  obtain ⟨hd, rfl⟩ := hd
  exact W.pure (fun p e s m args below meth c C T locs X target h => XS.ineg X.here C.1 rfl (hb C.2.2.2.1 hd) rfl h) k
theorem W.lneg {x : Int64} (hd : D M pc .lneg 1 pc') (k : WB b l Z n M pc' ls (.long (-x) :: st) H ce sl Q) : WB b l Z n M pc ls (.long x :: st) H ce sl Q := by
  obtain ⟨hd, rfl⟩ := hd
  exact W.pure (fun p e s m args below meth c C T locs X target h => XT.lneg X.here C.1 rfl (hb C.2.2.2.1 hd) rfl h) k
theorem W.i2l {x : Int32} (hd : D M pc .i2l 1 pc') (k : WB b l Z n M pc' ls (.long (x.toInt64) :: st) H ce sl Q) : WB b l Z n M pc ls (.int x :: st) H ce sl Q := by
  obtain ⟨hd, rfl⟩ := hd
  exact W.pure (fun p e s m args below meth c C T locs X target h => XT.i2l X.here C.1 rfl (hb C.2.2.2.1 hd) rfl h) k
theorem W.l2i {x : Int64} (hd : D M pc .l2i 1 pc') (k : WB b l Z n M pc' ls (.int (x.toInt32) :: st) H ce sl Q) : WB b l Z n M pc ls (.long x :: st) H ce sl Q := by
  obtain ⟨hd, rfl⟩ := hd
  exact W.pure (fun p e s m args below meth c C T locs X target h => XT.l2i X.here C.1 rfl (hb C.2.2.2.1 hd) rfl h) k
theorem W.i2b {x : Int32} (hd : D M pc .i2b 1 pc') (k : WB b l Z n M pc' ls (.int (x.toInt8.toInt32) :: st) H ce sl Q) : WB b l Z n M pc ls (.int x :: st) H ce sl Q := by
  obtain ⟨hd, rfl⟩ := hd
  exact W.pure (fun p e s m args below meth c C T locs X target h => XT.i2b X.here C.1 rfl (hb C.2.2.2.1 hd) rfl h) k
theorem W.i2s {x : Int32} (hd : D M pc .i2s 1 pc') (k : WB b l Z n M pc' ls (.int (x.toInt16.toInt32) :: st) H ce sl Q) : WB b l Z n M pc ls (.int x :: st) H ce sl Q := by
  obtain ⟨hd, rfl⟩ := hd
  exact W.pure (fun p e s m args below meth c C T locs X target h => XT.i2s X.here C.1 rfl (hb C.2.2.2.1 hd) rfl h) k
theorem W.lcmp {x y : Int64} (hd : D M pc .lcmp 1 pc') (k : WB b l Z n M pc' ls (.int (XT.cmpL x y) :: st) H ce sl Q) : WB b l Z n M pc ls (.long y :: .long x :: st) H ce sl Q := by
  obtain ⟨hd, rfl⟩ := hd
  exact W.pure (fun p e s m args below meth c C T locs X target h => XT.lcmp X.here C.1 rfl (hb C.2.2.2.1 hd) rfl h) k
theorem W.iconst {i : Int} (v : Int32) (hd : D M pc (.iconst i) 1 pc') (hv : Int32.ofInt i = v) (k : WB b l Z n M pc' ls (.int v :: st) H ce sl Q) : WB b l Z n M pc ls st H ce sl Q := by
  obtain ⟨hd, rfl⟩ := hd
  exact W.pure (fun p e s m args below meth c C T locs X target h => XT.iconstV X.here C.1 rfl v (hb C.2.2.2.1 hd) hv h) k
theorem W.bipush {i : Int} (v : Int32) (hd : D M pc (.bipush i) 2 pc') (hv : (Int8.ofInt i).toInt32 = v) (k : WB b l Z n M pc' ls (.int v :: st) H ce sl Q) : WB b l Z n M pc ls st H ce sl Q := by
  obtain ⟨hd, rfl⟩ := hd
  exact W.pure (fun p e s m args below meth c C T locs X target h => XT.bipushV X.here C.1 rfl v (hb C.2.2.2.1 hd) hv h) k
theorem W.sipush {i : Int} (v : Int32) (hd : D M pc (.sipush i) 3 pc') (hv : (Int16.ofInt i).toInt32 = v) (k : WB b l Z n M pc' ls (.int v :: st) H ce sl Q) : WB b l Z n M pc ls st H ce sl Q := by
  obtain ⟨hd, rfl⟩ := hd
  exact W.pure (fun p e s m args below meth c C T locs X target h => XT.sipushV X.here C.1 rfl v (hb C.2.2.2.1 hd) hv h) k
theorem W.lconst {i : Fin 2} (v : Int64) (hd : D M pc (.lconst i) 1 pc') (hv : Int64.ofNat i = v) (k : WB b l Z n M pc' ls (.long v :: st) H ce sl Q) : WB b l Z n M pc ls st H ce sl Q := by
  obtain ⟨hd, rfl⟩ := hd
  exact W.pure (fun p e s m args below meth c C T locs X target h => XT.lconstV X.here C.1 rfl v (hb C.2.2.2.1 hd) hv h) k
theorem W.aconst  (hd : D M pc .aconst_null 1 pc') (k : WB b l Z n M pc' ls (.null :: st) H ce sl Q) : WB b l Z n M pc ls st H ce sl Q := by
  obtain ⟨hd, rfl⟩ := hd
  exact W.pure (fun p e s m args below meth c C T locs X target h => XS.aconstNull X.here C.1 rfl (hb C.2.2.2.1 hd) h) k
theorem W.ldc {i : Nat} {v : Int32} (hd : D M pc (.ldc i) 2 pc') (w : (Cond.constant M.1.cls i v).before a0 Z = true) (k : WB b l Z n M pc' ls (.int v :: st) H ce sl Q) : WB b l Z n M pc ls st H ce sl Q := by
  obtain ⟨hd, rfl⟩ := hd
  exact W.pure (fun p e s m args below meth c C T locs X target h => X.ldcI C.1 C.2.2.1 (mvT C.2.1 w) rfl (hb C.2.2.2.1 hd) h) k
theorem W.ldc2 {i : Nat} {v : Int64} (hd : D M pc (.ldc2_w i) 3 pc') (w : (Cond.constantLong M.1.cls i v).before a0 Z = true) (k : WB b l Z n M pc' ls (.long v :: st) H ce sl Q) : WB b l Z n M pc ls st H ce sl Q := by
  obtain ⟨hd, rfl⟩ := hd
  exact W.pure (fun p e s m args below meth c C T locs X target h => X.ldc2J C.1 C.2.2.1 (mvT C.2.1 w) rfl (hb C.2.2.2.1 hd) h) k
theorem W.iloadN {i : Fin 4} {v : Int32} (hd : D M pc (.iload_n i) 1 pc') (hl : ls[i.val]? = some (.val (.int v))) (k : WB b l Z n M pc' ls (.int v :: st) H ce sl Q) : WB b l Z n M pc ls st H ce sl Q := by
  obtain ⟨hd, rfl⟩ := hd
  exact W.pure (fun p e s m args below meth c C T locs X target h => XS.iloadN X.here C.1 rfl (hb C.2.2.2.1 hd) (loc_get hl) h) k
theorem W.iload {i : Nat} {v : Int32} (hd : D M pc (.iload i) 2 pc') (hl : ls[i]? = some (.val (.int v))) (k : WB b l Z n M pc' ls (.int v :: st) H ce sl Q) : WB b l Z n M pc ls st H ce sl Q := by
  obtain ⟨hd, rfl⟩ := hd
  exact W.pure (fun p e s m args below meth c C T locs X target h => XS.iload X.here C.1 rfl (hb C.2.2.2.1 hd) (loc_get hl) h) k
theorem W.lloadN {i : Fin 4} {v : Int64} (hd : D M pc (.lload_n i) 1 pc') (hl : ls[i.val]? = some (.val (.long v))) (k : WB b l Z n M pc' ls (.long v :: st) H ce sl Q) : WB b l Z n M pc ls st H ce sl Q := by
  obtain ⟨hd, rfl⟩ := hd
  exact W.pure (fun p e s m args below meth c C T locs X target h => XT.lloadN X.here C.1 rfl (hb C.2.2.2.1 hd) (loc_get hl) h) k
theorem W.lload {i : Nat} {v : Int64} (hd : D M pc (.lload i) 2 pc') (hl : ls[i]? = some (.val (.long v))) (k : WB b l Z n M pc' ls (.long v :: st) H ce sl Q) : WB b l Z n M pc ls st H ce sl Q := by
  obtain ⟨hd, rfl⟩ := hd
  exact W.pure (fun p e s m args below meth c C T locs X target h => XT.lload X.here C.1 rfl (hb C.2.2.2.1 hd) (loc_get hl) h) k
theorem W.aloadN {i : Fin 4} {v : Value} (hd : D M pc (.aload_n i) 1 pc') (hl : ls[i.val]? = some (.val v)) (hv : rfn v = true) (k : WB b l Z n M pc' ls (v :: st) H ce sl Q) : WB b l Z n M pc ls st H ce sl Q := by
  obtain ⟨hd, rfl⟩ := hd
  exact W.pure (fun p e s m args below meth c C T locs X target h => XS.aloadN X.here C.1 rfl (hb C.2.2.2.1 hd) (loc_get hl) (up_rfn n hv) h) k
theorem W.aload {i : Nat} {v : Value} (hd : D M pc (.aload i) 2 pc') (hl : ls[i]? = some (.val v)) (hv : rfn v = true) (k : WB b l Z n M pc' ls (v :: st) H ce sl Q) : WB b l Z n M pc ls st H ce sl Q := by
  obtain ⟨hd, rfl⟩ := hd
  exact W.pure (fun p e s m args below meth c C T locs X target h => XS.aload X.here C.1 rfl (hb C.2.2.2.1 hd) (loc_get hl) (up_rfn n hv) h) k
theorem W.istoreN {i : Fin 4} {v : Int32} (hd : D M pc (.istore_n i) 1 pc') (ho : one ls i.val = true) (k : WB b l Z n M pc' (ls.set i.val (.val (.int v))) st H ce sl Q) : WB b l Z n M pc ls (.int v :: st) H ce sl Q := by
  obtain ⟨hd, rfl⟩ := hd
  exact W.pure (fun p e s m args below meth c C T locs X target h => XS.istoreN X.here C.1 rfl (hb C.2.2.2.1 hd) rfl (store_1 (v := .int v) ho rfl) h) k
theorem W.istore {i : Nat} {v : Int32} (hd : D M pc (.istore i) 2 pc') (ho : one ls i = true) (k : WB b l Z n M pc' (ls.set i (.val (.int v))) st H ce sl Q) : WB b l Z n M pc ls (.int v :: st) H ce sl Q := by
  obtain ⟨hd, rfl⟩ := hd
  exact W.pure (fun p e s m args below meth c C T locs X target h => XS.istore X.here C.1 rfl (hb C.2.2.2.1 hd) rfl (store_1 (v := .int v) ho rfl) h) k
theorem W.astoreN {i : Fin 4} {v : Value} (hd : D M pc (.astore_n i) 1 pc') (ho : one ls i.val = true) (hv : rfn v = true) (k : WB b l Z n M pc' (ls.set i.val (.val v)) st H ce sl Q) : WB b l Z n M pc ls (v :: st) H ce sl Q := by
  obtain ⟨hd, rfl⟩ := hd
  exact W.pure (fun p e s m args below meth c C T locs X target h => XS.astoreN X.here C.1 rfl (hb C.2.2.2.1 hd) rfl (up_rfn n hv) (store_1 ho (rfn_cat hv)) h) k
theorem W.astore {i : Nat} {v : Value} (hd : D M pc (.astore i) 2 pc') (ho : one ls i = true) (hv : rfn v = true) (k : WB b l Z n M pc' (ls.set i (.val v)) st H ce sl Q) : WB b l Z n M pc ls (v :: st) H ce sl Q := by
  obtain ⟨hd, rfl⟩ := hd
  exact W.pure (fun p e s m args below meth c C T locs X target h => XS.astore X.here C.1 rfl (hb C.2.2.2.1 hd) rfl (up_rfn n hv) (store_1 ho (rfn_cat hv)) h) k
theorem W.lstoreN {i : Fin 4} {v : Int64} (hd : D M pc (.lstore_n i) 1 pc') (ho : two ls i.val = true) (k : WB b l Z n M pc' ((ls.set i.val (.val (.long v))).set (i.val + 1) .second) st H ce sl Q) : WB b l Z n M pc ls (.long v :: st) H ce sl Q := by
  obtain ⟨hd, rfl⟩ := hd
  exact W.pure (fun p e s m args below meth c C T locs X target h => XT.lstoreN X.here C.1 rfl (hb C.2.2.2.1 hd) rfl (store_2 ho) h) k
theorem W.lstore {i : Nat} {v : Int64} (hd : D M pc (.lstore i) 2 pc') (ho : two ls i = true) (k : WB b l Z n M pc' ((ls.set i (.val (.long v))).set (i + 1) .second) st H ce sl Q) : WB b l Z n M pc ls (.long v :: st) H ce sl Q := by
  obtain ⟨hd, rfl⟩ := hd
  exact W.pure (fun p e s m args below meth c C T locs X target h => XT.lstore X.here C.1 rfl (hb C.2.2.2.1 hd) rfl (store_2 ho) h) k
theorem W.iinc {i : Nat} {cst : Int} {x : Int32} (v : Int32) (hd : D M pc (.iinc i cst) 3 pc') (hv : Int32.ofInt cst = v) (hl : ls[i]? = some (.val (.int x))) (k : WB b l Z n M pc' (ls.set i (.val (.int (x + v)))) st H ce sl Q) : WB b l Z n M pc ls st H ce sl Q := by
  obtain ⟨hd, rfl⟩ := hd
  exact W.pure (fun p e s m args below meth c C T locs X target h => XT.iincV X.here C.1 rfl v (hb C.2.2.2.1 hd) hv (loc_get hl) (store_1 (v := .int (x + v)) (by simp [one, hl, Value.category]) rfl) h) k
theorem W.dup {v : Value} (hd : D M pc .dup 1 pc') (hv : v.category = 1) (k : WB b l Z n M pc' ls (v :: v :: st) H ce sl Q) : WB b l Z n M pc ls (v :: st) H ce sl Q := by
  obtain ⟨hd, rfl⟩ := hd
  exact W.pure (fun p e s m args below meth c C T locs X target h => XS.dup X.here C.1 rfl (hb C.2.2.2.1 hd) rfl ((up_cat n v).trans hv) h) k
theorem W.pop {v : Value} (hd : D M pc .pop 1 pc') (hv : v.category = 1) (k : WB b l Z n M pc' ls st H ce sl Q) : WB b l Z n M pc ls (v :: st) H ce sl Q := by
  obtain ⟨hd, rfl⟩ := hd
  exact W.pure (fun p e s m args below meth c C T locs X target h => XT.pop X.here C.1 rfl (hb C.2.2.2.1 hd) rfl ((up_cat n v).trans hv) h) k
theorem W.dupX1 {v w : Value} (hd : D M pc .dup_x1 1 pc') (hv : v.category = 1) (hw : w.category = 1) (k : WB b l Z n M pc' ls (v :: w :: v :: st) H ce sl Q) : WB b l Z n M pc ls (v :: w :: st) H ce sl Q := by
  obtain ⟨hd, rfl⟩ := hd
  exact W.pure (fun p e s m args below meth c C T locs X target h => XT.dupX1 X.here C.1 rfl (hb C.2.2.2.1 hd) rfl ((up_cat n v).trans hv) ((up_cat n w).trans hw) h) k
theorem W.dup2 {v w : Value} (hd : D M pc .dup2 1 pc') (hv : v.category = 1) (hw : w.category = 1) (k : WB b l Z n M pc' ls (v :: w :: v :: w :: st) H ce sl Q) : WB b l Z n M pc ls (v :: w :: st) H ce sl Q := by
  obtain ⟨hd, rfl⟩ := hd
  exact W.pure (fun p e s m args below meth c C T locs X target h => XT.dup2 X.here C.1 rfl (hb C.2.2.2.1 hd) rfl ((up_cat n v).trans hv) ((up_cat n w).trans hw) h) k
theorem W.dup2L {x : Int64} (hd : D M pc .dup2 1 pc') (k : WB b l Z n M pc' ls (.long x :: .long x :: st) H ce sl Q) : WB b l Z n M pc ls (.long x :: st) H ce sl Q := by
  obtain ⟨hd, rfl⟩ := hd
  exact W.pure (fun p e s m args below meth c C T locs X target h => XT.dup2L X.here C.1 rfl (hb C.2.2.2.1 hd) rfl h) k
theorem W.goto {o : Int} {t : Nat} (hd : DB M pc (.goto o) o pc' t) (k : WB b l Z n M t ls st H ce sl Q) : WB b l Z n M pc ls st H ce sl Q :=
  W.pure (fun p e s m args below meth c C T locs X target h => XS.goto X.here C.1 rfl rfl (hb C.2.2.2.1 hd.1) hd.2.2.1 hd.2.2.2 h) k
theorem W.if_eq {x : Int32} {o : Int} {t : Nat} (hd : DB M pc (.ifCond .eq o) o pc' t) (ky : (x = 0) → WB b l Z n M t ls st H ce sl Q) (kn : (¬ x = 0) → WB b l Z n M pc' ls st H ce sl Q) : WB b l Z n M pc ls (.int x :: st) H ce sl Q := by
  obtain ⟨h1, rfl, h3, h4⟩ := hd
  by_cases q : (x = 0)
  · exact W.pure (fun p e s m args below meth c C T locs X target h => XS.ifYes X.here C.1 rfl rfl (hb C.2.2.2.1 h1) rfl (XT.i0_eq_t q) h3 h4 h) (ky q)
  · exact W.pure (fun p e s m args below meth c C T locs X target h => XS.ifNo X.here C.1 rfl (hb C.2.2.2.1 h1) rfl (XT.i0_eq_f q) h) (kn q)
theorem W.ifl_eq {x y : Int64} {o : Int} {t : Nat} (hd : DB M pc (.ifCond .eq o) o pc' t) (ky : (x = y) → WB b l Z n M t ls st H ce sl Q) (kn : (¬ x = y) → WB b l Z n M pc' ls st H ce sl Q) : WB b l Z n M pc ls (.int (XT.cmpL x y) :: st) H ce sl Q := by
  obtain ⟨h1, rfl, h3, h4⟩ := hd
  by_cases q : (x = y)
  · exact W.pure (fun p e s m args below meth c C T locs X target h => XS.ifYes X.here C.1 rfl rfl (hb C.2.2.2.1 h1) rfl (XT.ll_eq_t q) h3 h4 h) (ky q)
  · exact W.pure (fun p e s m args below meth c C T locs X target h => XS.ifNo X.here C.1 rfl (hb C.2.2.2.1 h1) rfl (XT.ll_eq_f q) h) (kn q)
theorem W.icmp_eq {x y : Int32} {o : Int} {t : Nat} (hd : DB M pc (.if_icmp .eq o) o pc' t) (ky : (x = y) → WB b l Z n M t ls st H ce sl Q) (kn : (¬ x = y) → WB b l Z n M pc' ls st H ce sl Q) : WB b l Z n M pc ls (.int y :: .int x :: st) H ce sl Q := by
  obtain ⟨h1, rfl, h3, h4⟩ := hd
  by_cases q : (x = y)
  · exact W.pure (fun p e s m args below meth c C T locs X target h => XS.icmpYes X.here C.1 rfl rfl (hb C.2.2.2.1 h1) rfl (XT.ii_eq_t q) h3 h4 h) (ky q)
  · exact W.pure (fun p e s m args below meth c C T locs X target h => XS.icmpNo X.here C.1 rfl (hb C.2.2.2.1 h1) rfl (XT.ii_eq_f q) h) (kn q)
theorem W.if_ne {x : Int32} {o : Int} {t : Nat} (hd : DB M pc (.ifCond .ne o) o pc' t) (ky : (¬ x = 0) → WB b l Z n M t ls st H ce sl Q) (kn : (x = 0) → WB b l Z n M pc' ls st H ce sl Q) : WB b l Z n M pc ls (.int x :: st) H ce sl Q := by
  obtain ⟨h1, rfl, h3, h4⟩ := hd
  by_cases q : (x = 0)
  · exact W.pure (fun p e s m args below meth c C T locs X target h => XS.ifNo X.here C.1 rfl (hb C.2.2.2.1 h1) rfl (XT.i0_ne_f q) h) (kn q)
  · exact W.pure (fun p e s m args below meth c C T locs X target h => XS.ifYes X.here C.1 rfl rfl (hb C.2.2.2.1 h1) rfl (XT.i0_ne_t q) h3 h4 h) (ky q)
theorem W.ifl_ne {x y : Int64} {o : Int} {t : Nat} (hd : DB M pc (.ifCond .ne o) o pc' t) (ky : (¬ x = y) → WB b l Z n M t ls st H ce sl Q) (kn : (x = y) → WB b l Z n M pc' ls st H ce sl Q) : WB b l Z n M pc ls (.int (XT.cmpL x y) :: st) H ce sl Q := by
  obtain ⟨h1, rfl, h3, h4⟩ := hd
  by_cases q : (x = y)
  · exact W.pure (fun p e s m args below meth c C T locs X target h => XS.ifNo X.here C.1 rfl (hb C.2.2.2.1 h1) rfl (XT.ll_ne_f q) h) (kn q)
  · exact W.pure (fun p e s m args below meth c C T locs X target h => XS.ifYes X.here C.1 rfl rfl (hb C.2.2.2.1 h1) rfl (XT.ll_ne_t q) h3 h4 h) (ky q)
theorem W.icmp_ne {x y : Int32} {o : Int} {t : Nat} (hd : DB M pc (.if_icmp .ne o) o pc' t) (ky : (¬ x = y) → WB b l Z n M t ls st H ce sl Q) (kn : (x = y) → WB b l Z n M pc' ls st H ce sl Q) : WB b l Z n M pc ls (.int y :: .int x :: st) H ce sl Q := by
  obtain ⟨h1, rfl, h3, h4⟩ := hd
  by_cases q : (x = y)
  · exact W.pure (fun p e s m args below meth c C T locs X target h => XS.icmpNo X.here C.1 rfl (hb C.2.2.2.1 h1) rfl (XT.ii_ne_f q) h) (kn q)
  · exact W.pure (fun p e s m args below meth c C T locs X target h => XS.icmpYes X.here C.1 rfl rfl (hb C.2.2.2.1 h1) rfl (XT.ii_ne_t q) h3 h4 h) (ky q)
theorem W.if_lt {x : Int32} {o : Int} {t : Nat} (hd : DB M pc (.ifCond .lt o) o pc' t) (ky : (x < 0) → WB b l Z n M t ls st H ce sl Q) (kn : (¬ x < 0) → WB b l Z n M pc' ls st H ce sl Q) : WB b l Z n M pc ls (.int x :: st) H ce sl Q := by
  obtain ⟨h1, rfl, h3, h4⟩ := hd
  by_cases q : (x < 0)
  · exact W.pure (fun p e s m args below meth c C T locs X target h => XS.ifYes X.here C.1 rfl rfl (hb C.2.2.2.1 h1) rfl (XT.i0_lt_t q) h3 h4 h) (ky q)
  · exact W.pure (fun p e s m args below meth c C T locs X target h => XS.ifNo X.here C.1 rfl (hb C.2.2.2.1 h1) rfl (XT.i0_lt_f q) h) (kn q)
theorem W.ifl_lt {x y : Int64} {o : Int} {t : Nat} (hd : DB M pc (.ifCond .lt o) o pc' t) (ky : (x < y) → WB b l Z n M t ls st H ce sl Q) (kn : (¬ x < y) → WB b l Z n M pc' ls st H ce sl Q) : WB b l Z n M pc ls (.int (XT.cmpL x y) :: st) H ce sl Q := by
  obtain ⟨h1, rfl, h3, h4⟩ := hd
  by_cases q : (x < y)
  · exact W.pure (fun p e s m args below meth c C T locs X target h => XS.ifYes X.here C.1 rfl rfl (hb C.2.2.2.1 h1) rfl (XT.ll_lt_t q) h3 h4 h) (ky q)
  · exact W.pure (fun p e s m args below meth c C T locs X target h => XS.ifNo X.here C.1 rfl (hb C.2.2.2.1 h1) rfl (XT.ll_lt_f q) h) (kn q)
theorem W.icmp_lt {x y : Int32} {o : Int} {t : Nat} (hd : DB M pc (.if_icmp .lt o) o pc' t) (ky : (x < y) → WB b l Z n M t ls st H ce sl Q) (kn : (¬ x < y) → WB b l Z n M pc' ls st H ce sl Q) : WB b l Z n M pc ls (.int y :: .int x :: st) H ce sl Q := by
  obtain ⟨h1, rfl, h3, h4⟩ := hd
  by_cases q : (x < y)
  · exact W.pure (fun p e s m args below meth c C T locs X target h => XS.icmpYes X.here C.1 rfl rfl (hb C.2.2.2.1 h1) rfl (XT.ii_lt_t q) h3 h4 h) (ky q)
  · exact W.pure (fun p e s m args below meth c C T locs X target h => XS.icmpNo X.here C.1 rfl (hb C.2.2.2.1 h1) rfl (XT.ii_lt_f q) h) (kn q)
theorem W.if_ge {x : Int32} {o : Int} {t : Nat} (hd : DB M pc (.ifCond .ge o) o pc' t) (ky : (¬ x < 0) → WB b l Z n M t ls st H ce sl Q) (kn : (x < 0) → WB b l Z n M pc' ls st H ce sl Q) : WB b l Z n M pc ls (.int x :: st) H ce sl Q := by
  obtain ⟨h1, rfl, h3, h4⟩ := hd
  by_cases q : (x < 0)
  · exact W.pure (fun p e s m args below meth c C T locs X target h => XS.ifNo X.here C.1 rfl (hb C.2.2.2.1 h1) rfl (XT.i0_ge_f q) h) (kn q)
  · exact W.pure (fun p e s m args below meth c C T locs X target h => XS.ifYes X.here C.1 rfl rfl (hb C.2.2.2.1 h1) rfl (XT.i0_ge_t q) h3 h4 h) (ky q)
theorem W.ifl_ge {x y : Int64} {o : Int} {t : Nat} (hd : DB M pc (.ifCond .ge o) o pc' t) (ky : (¬ x < y) → WB b l Z n M t ls st H ce sl Q) (kn : (x < y) → WB b l Z n M pc' ls st H ce sl Q) : WB b l Z n M pc ls (.int (XT.cmpL x y) :: st) H ce sl Q := by
  obtain ⟨h1, rfl, h3, h4⟩ := hd
  by_cases q : (x < y)
  · exact W.pure (fun p e s m args below meth c C T locs X target h => XS.ifNo X.here C.1 rfl (hb C.2.2.2.1 h1) rfl (XT.ll_ge_f q) h) (kn q)
  · exact W.pure (fun p e s m args below meth c C T locs X target h => XS.ifYes X.here C.1 rfl rfl (hb C.2.2.2.1 h1) rfl (XT.ll_ge_t q) h3 h4 h) (ky q)
theorem W.icmp_ge {x y : Int32} {o : Int} {t : Nat} (hd : DB M pc (.if_icmp .ge o) o pc' t) (ky : (¬ x < y) → WB b l Z n M t ls st H ce sl Q) (kn : (x < y) → WB b l Z n M pc' ls st H ce sl Q) : WB b l Z n M pc ls (.int y :: .int x :: st) H ce sl Q := by
  obtain ⟨h1, rfl, h3, h4⟩ := hd
  by_cases q : (x < y)
  · exact W.pure (fun p e s m args below meth c C T locs X target h => XS.icmpNo X.here C.1 rfl (hb C.2.2.2.1 h1) rfl (XT.ii_ge_f q) h) (kn q)
  · exact W.pure (fun p e s m args below meth c C T locs X target h => XS.icmpYes X.here C.1 rfl rfl (hb C.2.2.2.1 h1) rfl (XT.ii_ge_t q) h3 h4 h) (ky q)
theorem W.if_gt {x : Int32} {o : Int} {t : Nat} (hd : DB M pc (.ifCond .gt o) o pc' t) (ky : (0 < x) → WB b l Z n M t ls st H ce sl Q) (kn : (¬ 0 < x) → WB b l Z n M pc' ls st H ce sl Q) : WB b l Z n M pc ls (.int x :: st) H ce sl Q := by
  obtain ⟨h1, rfl, h3, h4⟩ := hd
  by_cases q : (0 < x)
  · exact W.pure (fun p e s m args below meth c C T locs X target h => XS.ifYes X.here C.1 rfl rfl (hb C.2.2.2.1 h1) rfl (XT.i0_gt_t q) h3 h4 h) (ky q)
  · exact W.pure (fun p e s m args below meth c C T locs X target h => XS.ifNo X.here C.1 rfl (hb C.2.2.2.1 h1) rfl (XT.i0_gt_f q) h) (kn q)
theorem W.ifl_gt {x y : Int64} {o : Int} {t : Nat} (hd : DB M pc (.ifCond .gt o) o pc' t) (ky : (y < x) → WB b l Z n M t ls st H ce sl Q) (kn : (¬ y < x) → WB b l Z n M pc' ls st H ce sl Q) : WB b l Z n M pc ls (.int (XT.cmpL x y) :: st) H ce sl Q := by
  obtain ⟨h1, rfl, h3, h4⟩ := hd
  by_cases q : (y < x)
  · exact W.pure (fun p e s m args below meth c C T locs X target h => XS.ifYes X.here C.1 rfl rfl (hb C.2.2.2.1 h1) rfl (XT.ll_gt_t q) h3 h4 h) (ky q)
  · exact W.pure (fun p e s m args below meth c C T locs X target h => XS.ifNo X.here C.1 rfl (hb C.2.2.2.1 h1) rfl (XT.ll_gt_f q) h) (kn q)
theorem W.icmp_gt {x y : Int32} {o : Int} {t : Nat} (hd : DB M pc (.if_icmp .gt o) o pc' t) (ky : (y < x) → WB b l Z n M t ls st H ce sl Q) (kn : (¬ y < x) → WB b l Z n M pc' ls st H ce sl Q) : WB b l Z n M pc ls (.int y :: .int x :: st) H ce sl Q := by
  obtain ⟨h1, rfl, h3, h4⟩ := hd
  by_cases q : (y < x)
  · exact W.pure (fun p e s m args below meth c C T locs X target h => XS.icmpYes X.here C.1 rfl rfl (hb C.2.2.2.1 h1) rfl (XT.ii_gt_t q) h3 h4 h) (ky q)
  · exact W.pure (fun p e s m args below meth c C T locs X target h => XS.icmpNo X.here C.1 rfl (hb C.2.2.2.1 h1) rfl (XT.ii_gt_f q) h) (kn q)
theorem W.if_le {x : Int32} {o : Int} {t : Nat} (hd : DB M pc (.ifCond .le o) o pc' t) (ky : (¬ 0 < x) → WB b l Z n M t ls st H ce sl Q) (kn : (0 < x) → WB b l Z n M pc' ls st H ce sl Q) : WB b l Z n M pc ls (.int x :: st) H ce sl Q := by
  obtain ⟨h1, rfl, h3, h4⟩ := hd
  by_cases q : (0 < x)
  · exact W.pure (fun p e s m args below meth c C T locs X target h => XS.ifNo X.here C.1 rfl (hb C.2.2.2.1 h1) rfl (XT.i0_le_f q) h) (kn q)
  · exact W.pure (fun p e s m args below meth c C T locs X target h => XS.ifYes X.here C.1 rfl rfl (hb C.2.2.2.1 h1) rfl (XT.i0_le_t q) h3 h4 h) (ky q)
theorem W.ifl_le {x y : Int64} {o : Int} {t : Nat} (hd : DB M pc (.ifCond .le o) o pc' t) (ky : (¬ y < x) → WB b l Z n M t ls st H ce sl Q) (kn : (y < x) → WB b l Z n M pc' ls st H ce sl Q) : WB b l Z n M pc ls (.int (XT.cmpL x y) :: st) H ce sl Q := by
  obtain ⟨h1, rfl, h3, h4⟩ := hd
  by_cases q : (y < x)
  · exact W.pure (fun p e s m args below meth c C T locs X target h => XS.ifNo X.here C.1 rfl (hb C.2.2.2.1 h1) rfl (XT.ll_le_f q) h) (kn q)
  · exact W.pure (fun p e s m args below meth c C T locs X target h => XS.ifYes X.here C.1 rfl rfl (hb C.2.2.2.1 h1) rfl (XT.ll_le_t q) h3 h4 h) (ky q)
theorem W.icmp_le {x y : Int32} {o : Int} {t : Nat} (hd : DB M pc (.if_icmp .le o) o pc' t) (ky : (¬ y < x) → WB b l Z n M t ls st H ce sl Q) (kn : (y < x) → WB b l Z n M pc' ls st H ce sl Q) : WB b l Z n M pc ls (.int y :: .int x :: st) H ce sl Q := by
  obtain ⟨h1, rfl, h3, h4⟩ := hd
  by_cases q : (y < x)
  · exact W.pure (fun p e s m args below meth c C T locs X target h => XS.icmpNo X.here C.1 rfl (hb C.2.2.2.1 h1) rfl (XT.ii_le_f q) h) (kn q)
  · exact W.pure (fun p e s m args below meth c C T locs X target h => XS.icmpYes X.here C.1 rfl rfl (hb C.2.2.2.1 h1) rfl (XT.ii_le_t q) h3 h4 h) (ky q)
theorem W.acmp_eq {v w : Value} {o : Int} {t : Nat} (hd : DB M pc (.if_acmp .eq o) o pc' t) (hv : v.isRef = true) (hw : w.isRef = true) (ky : (v = w) → WB b l Z n M t ls st H ce sl Q) (kn : (¬ v = w) → WB b l Z n M pc' ls st H ce sl Q) : WB b l Z n M pc ls (w :: v :: st) H ce sl Q := by
  obtain ⟨h1, rfl, h3, h4⟩ := hd
  by_cases q : (v = w)
  · exact W.pure (fun p e s m args below meth c C T locs X target h => XT.acmpYes X.here C.1 rfl rfl (hb C.2.2.2.1 h1) rfl (up_isRef n hv) (up_isRef n hw) (XT.aa_eq_t (congrArg (up n) q)) h3 h4 h) (ky q)
  · exact W.pure (fun p e s m args below meth c C T locs X target h => XT.acmpNo X.here C.1 rfl (hb C.2.2.2.1 h1) rfl (up_isRef n hv) (up_isRef n hw) (XT.aa_eq_f (fun z => q (up_inj hv hw z))) h) (kn q)
theorem W.acmp_ne {v w : Value} {o : Int} {t : Nat} (hd : DB M pc (.if_acmp .ne o) o pc' t) (hv : v.isRef = true) (hw : w.isRef = true) (ky : (¬ v = w) → WB b l Z n M t ls st H ce sl Q) (kn : (v = w) → WB b l Z n M pc' ls st H ce sl Q) : WB b l Z n M pc ls (w :: v :: st) H ce sl Q := by
  obtain ⟨h1, rfl, h3, h4⟩ := hd
  by_cases q : (v = w)
  · exact W.pure (fun p e s m args below meth c C T locs X target h => XT.acmpNo X.here C.1 rfl (hb C.2.2.2.1 h1) rfl (up_isRef n hv) (up_isRef n hw) (XT.aa_ne_f (congrArg (up n) q)) h) (kn q)
  · exact W.pure (fun p e s m args below meth c C T locs X target h => XT.acmpYes X.here C.1 rfl rfl (hb C.2.2.2.1 h1) rfl (up_isRef n hv) (up_isRef n hw) (XT.aa_ne_t (fun z => q (up_inj hv hw z))) h3 h4 h) (ky q)
theorem up_null {n : Nat} {v : Value} (hv : v.isRef = true) (h : ¬ v = .null) : ¬ up n v = .null := by cases v <;> simp_all [up, Value.isRef]
theorem W.ifnull {v : Value} {o : Int} {t : Nat} (hd : DB M pc (.ifnull o) o pc' t) (hv : v.isRef = true) (ky : (v = .null) → WB b l Z n M t ls st H ce sl Q) (kn : (¬ v = .null) → WB b l Z n M pc' ls st H ce sl Q) : WB b l Z n M pc ls (v :: st) H ce sl Q := by
  obtain ⟨h1, rfl, h3, h4⟩ := hd
  by_cases q : (v = .null)
  · exact W.pure (fun p e s m args below meth c C T locs X target h => XT.nullYes X.here C.1 rfl rfl (hb C.2.2.2.1 h1) rfl (congrArg (up n) q) h3 h4 h) (ky q)
  · exact W.pure (fun p e s m args below meth c C T locs X target h => XT.nullNo X.here C.1 rfl (hb C.2.2.2.1 h1) rfl (up_isRef n hv) (up_null hv q) h) (kn q)
theorem W.ifnonnull {v : Value} {o : Int} {t : Nat} (hd : DB M pc (.ifnonnull o) o pc' t) (hv : v.isRef = true) (ky : (¬ v = .null) → WB b l Z n M t ls st H ce sl Q) (kn : (v = .null) → WB b l Z n M pc' ls st H ce sl Q) : WB b l Z n M pc ls (v :: st) H ce sl Q := by
  obtain ⟨h1, rfl, h3, h4⟩ := hd
  by_cases q : (v = .null)
  · exact W.pure (fun p e s m args below meth c C T locs X target h => XT.nonnullNo X.here C.1 rfl (hb C.2.2.2.1 h1) rfl (congrArg (up n) q) h) (kn q)
  · exact W.pure (fun p e s m args below meth c C T locs X target h => XT.nonnullYes X.here C.1 rfl rfl (hb C.2.2.2.1 h1) rfl (up_isRef n hv) (up_null hv q) h3 h4 h) (ky q)
theorem W.nop_ {H2 : AHeap} (e : H2 = H) (k : WB b l Z n M pc ls st H2 ce sl Q) : WB b l Z n M pc ls st H ce sl Q := e ▸ k
/-! heap: reads -/
theorem W.getfield {i : Nat} {C O nm d : String} {fs : List (Key × Value)} {v : Value} {k : Nat} (j : Nat) (hd : D M pc (.getfield i) 3 pc') (w : (Cond.fieldLink M.1.cls i O nm d).before a0 Z = true) (hk : H[k]? = some (.inl (C, fs))) (hj : fs[j]? = some ((O, nm, d), v))
    (kk : WB b l Z n M pc' ls (v :: st) H ce sl Q) : WB b l Z n M pc ls (.ref k :: st) H ce sl Q := by
  obtain ⟨hd, rfl⟩ := hd
  refine W.step (fun p e s m args below meth c C T locs X hH hF => ?_) kk
  obtain ⟨T', X', e', stp⟩ := getF X C.1 C.2.1 C.2.2.1 (host := "") (Or.inl w) Via.refl rfl ((hH.2 k _ hk rfl).2.1 j _ hj) (g := mkF m pc (loc n ls) (stk n (.ref k :: st))) rfl rfl (hb C.2.2.2.1 hd)
  exact ⟨T', locs, X', e' ▸ hH, hF, stp⟩
theorem W.putfield {i : Nat} {C O nm d : String} {fs : List (Key × Value)} {v old : Value} {k kk : Nat} {ty : FieldType} (j : Nat) (hd : D M pc (.putfield i) 3 pc') (w : (Cond.fieldLink M.1.cls i O nm d).before a0 Z = true) (hk : H[k]? = some (.inl (C, fs))) (hj : fs[j]? = some ((O, nm, d), old))
    (L : (Cond.lays C O nm d).before a0 Z = true ∨ ((Cond.laysFinal C O nm d).before a0 Z = true ∧ M.1.cls = O ∧ M.1.name = "<init>")) (wi : (Cond.instantiable C kk).before a0 Z = true) (hty : parseFieldDescriptor d = some ty) (hn : ∀ n, narrow ty (up n v) = up n v) (hf : ∀ n, fits ty (up n v) = true)
    (k' : WB b l Z n M pc' ls st (H.set k (.inl (C, fs.set j ((O, nm, d), v)))) ce sl Q) : WB b l Z n M pc ls (v :: .ref k :: st) H ce sl Q := by
  obtain ⟨hd, rfl⟩ := hd
  refine W.step (fun p e s m args below meth c C T locs X hH hF => ?_) k'
  have O1 := hH.2 k _ hk rfl
  obtain ⟨T', h', X', e', Wq, stp⟩ := putF X C.1 C.2.1 C.2.2.1 (host := "") (Or.inl w) Via.refl rfl (O1.2.1 j _ hj) O1.1 (L.imp id (fun q => ⟨q.1, q.2.1, C.2.2.2.2.2.2.2.trans q.2.2⟩)) wi hty (hn n) (hf n) (g := mkF m pc (loc n ls) (stk n (v :: .ref k :: st))) rfl rfl (hb C.2.2.2.1 hd)
  subst e'
  exact ⟨T', _, X', hH.put Wq (OR.field (hH.2 k _ hk rfl) hj Wq), Fr.snoc X' hF (Nat.le_add_right n k), stp⟩
theorem arr_at {ty : FieldType} {vs : List Value} {cl : Cell} {i : Nat} {v : Value} {j : Int32} (e : cl.slots = (vs.map (up n)).toArray) (hj : ¬ j < 0 ∧ j.toNatClampNeg = i) (hv : vs[i]? = some v) : ¬ (j < 0 ∨ cl.slots.size ≤ j.toNatClampNeg) ∧ cl.slots[j.toNatClampNeg]? = some (up n v) := by
  have hlt := (List.getElem?_eq_some_iff.mp hv).1
  refine ⟨fun q => q.elim hj.1 fun q => ?_, ?_⟩
  · rw [e, hj.2, List.size_toArray, List.length_map] at q; omega
  · rw [e, hj.2]; simp [hv]
theorem W.arraylength {k : Nat} {ty : FieldType} {vs : List Value} (z : Int32) (hd : D M pc .arraylength 1 pc') (hk : H[k]? = some (.inr (ty, vs))) (hJ : isJ (.inr (ty, vs)) = false) (hN : Int32.ofNat vs.length = z) (kk : WB b l Z n M pc' ls (.int z :: st) H ce sl Q) : WB b l Z n M pc ls (.ref k :: st) H ce sl Q := by
  obtain ⟨hd, rfl⟩ := hd
  refine W.step (fun p e s m args below meth c C T locs X hH hF => ?_) kk
  obtain ⟨cl, A, e'⟩ := hH.2 k _ hk hJ
  refine ⟨T, locs, X, hH, hF, fun target h => X.arraylength C.1 A.1 (State.isArrayOf_alike C.2.1.alike A.2.1) (g := mkF m pc (loc n ls) (stk n (.ref k :: st))) rfl rfl (hb C.2.2.2.1 hd) _ ?_⟩
  have : cl.slots.size.toInt32 = z := by rw [e', List.size_toArray, List.length_map, ← hN]
  rw [this]; exact h
theorem W.iaload {k i : Nat} {vs : List Value} {v : Value} {j : Int32} (hd : D M pc .iaload 1 pc') (hk : H[k]? = some (.inr (.int, vs))) (hj : ¬ j < 0 ∧ j.toNatClampNeg = i) (hv : vs[i]? = some v) (kk : WB b l Z n M pc' ls (v :: st) H ce sl Q) : WB b l Z n M pc ls (.int j :: .ref k :: st) H ce sl Q := by
  obtain ⟨hd, rfl⟩ := hd
  refine W.step (fun p e s m args below meth c C T locs X hH hF => ?_) kk
  obtain ⟨cl, A, e'⟩ := hH.2 k _ hk rfl
  obtain ⟨q1, q2⟩ := arr_at (ty := .int) e' hj hv
  exact ⟨T, locs, X, hH, hF, fun target h => X.iaload C.1 A.1 (State.isArrayOf_alike C.2.1.alike A.2.1) A.2.2 q1 q2 (g := mkF m pc (loc n ls) (stk n (.int j :: .ref k :: st))) rfl rfl (hb C.2.2.2.1 hd) _ h⟩
theorem W.laload {k i : Nat} {vs : List Value} {v : Value} {j : Int32} (hd : D M pc .laload 1 pc') (hk : H[k]? = some (.inr (.long, vs))) (hj : ¬ j < 0 ∧ j.toNatClampNeg = i) (hv : vs[i]? = some v) (kk : WB b l Z n M pc' ls (v :: st) H ce sl Q) : WB b l Z n M pc ls (.int j :: .ref k :: st) H ce sl Q := by
  obtain ⟨hd, rfl⟩ := hd
  refine W.step (fun p e s m args below meth c C T locs X hH hF => ?_) kk
  obtain ⟨cl, A, e'⟩ := hH.2 k _ hk rfl
  obtain ⟨q1, q2⟩ := arr_at (ty := .int) e' hj hv
  exact ⟨T, locs, X, hH, hF, fun target h => X.laload C.1 A.1 (State.isArrayOf_alike C.2.1.alike A.2.1) A.2.2 q1 q2 (g := mkF m pc (loc n ls) (stk n (.int j :: .ref k :: st))) rfl rfl (hb C.2.2.2.1 hd) _ h⟩
theorem W.baload {k i : Nat} {vs : List Value} {v : Value} {j : Int32} (hd : D M pc .baload 1 pc') (hk : H[k]? = some (.inr (.byte, vs))) (hj : ¬ j < 0 ∧ j.toNatClampNeg = i) (hv : vs[i]? = some v) (kk : WB b l Z n M pc' ls (v :: st) H ce sl Q) : WB b l Z n M pc ls (.int j :: .ref k :: st) H ce sl Q := by
  obtain ⟨hd, rfl⟩ := hd
  refine W.step (fun p e s m args below meth c C T locs X hH hF => ?_) kk
  obtain ⟨cl, A, e'⟩ := hH.2 k _ hk rfl
  obtain ⟨q1, q2⟩ := arr_at (ty := .int) e' hj hv
  exact ⟨T, locs, X, hH, hF, fun target h => X.baloadBytes C.1 A.1 (State.isArrayOf_alike C.2.1.alike A.2.1) A.2.2 q1 q2 (g := mkF m pc (loc n ls) (stk n (.int j :: .ref k :: st))) rfl rfl (hb C.2.2.2.1 hd) _ h⟩
theorem W.zaload {k i : Nat} {vs : List Value} {v : Value} {j : Int32} (hd : D M pc .baload 1 pc') (hk : H[k]? = some (.inr (.boolean, vs))) (hj : ¬ j < 0 ∧ j.toNatClampNeg = i) (hv : vs[i]? = some v) (kk : WB b l Z n M pc' ls (v :: st) H ce sl Q) : WB b l Z n M pc ls (.int j :: .ref k :: st) H ce sl Q := by
  obtain ⟨hd, rfl⟩ := hd
  refine W.step (fun p e s m args below meth c C T locs X hH hF => ?_) kk
  obtain ⟨cl, A, e'⟩ := hH.2 k _ hk rfl
  obtain ⟨q1, q2⟩ := arr_at (ty := .int) e' hj hv
  exact ⟨T, locs, X, hH, hF, fun target h => X.baloadBooleans C.1 A.1 (State.isArrayOf_alike C.2.1.alike A.2.1) A.2.2 q1 q2 (g := mkF m pc (loc n ls) (stk n (.int j :: .ref k :: st))) rfl rfl (hb C.2.2.2.1 hd) _ h⟩
/-! heap: stores into arrays -/
theorem arr_in' {vs : List Value} {cl : Cell} {i : Nat} {j : Int32} (e : cl.slots = (vs.map (up n)).toArray) (hj : ¬ j < 0 ∧ j.toNatClampNeg = i) (hv : i < vs.length) : ¬ (j < 0 ∨ cl.slots.size ≤ j.toNatClampNeg) := by
  refine fun q => q.elim hj.1 fun q => ?_
  rw [e, hj.2] at q; simp at q; omega
theorem W.iastore {k i : Nat} {vs : List Value} {x : Int32} {j : Int32} (hd : D M pc .iastore 1 pc') (hk : H[k]? = some (.inr (.int, vs))) (hj : ¬ j < 0 ∧ j.toNatClampNeg = i) (hv : i < vs.length) (kk : WB b l Z n M pc' ls st (H.set k (.inr (.int, vs.set i (.int x)))) ce sl Q) : WB b l Z n M pc ls (.int x :: .int j :: .ref k :: st) H ce sl Q := by
  obtain ⟨hd, rfl⟩ := hd
  refine W.step (fun p e s m args below meth c C T locs X hH hF => ?_) kk
  have O1 := hH.2 k _ hk rfl
  obtain ⟨cl, A, e'⟩ := O1
  obtain ⟨T', h', X', eh, Wq, stp⟩ := stI X C.1 C.2.1 rfl A (arr_in' e' hj hv) (g := mkF m pc (loc n ls) (stk n (.int x :: .int j :: .ref k :: st))) rfl rfl (hb C.2.2.2.1 hd)
  subst eh
  rw [hj.2] at Wq
  exact ⟨T', _, X', hH.put Wq (OR.elem (w := .int x) ⟨cl, A, e'⟩ Wq), Fr.snoc X' hF (Nat.le_add_right n k), stp⟩
theorem W.lastore {k i : Nat} {vs : List Value} {x : Int64} {j : Int32} (hd : D M pc .lastore 1 pc') (hk : H[k]? = some (.inr (.long, vs))) (hj : ¬ j < 0 ∧ j.toNatClampNeg = i) (hv : i < vs.length) (kk : WB b l Z n M pc' ls st (H.set k (.inr (.long, vs.set i (.long x)))) ce sl Q) : WB b l Z n M pc ls (.long x :: .int j :: .ref k :: st) H ce sl Q := by
  obtain ⟨hd, rfl⟩ := hd
  refine W.step (fun p e s m args below meth c C T locs X hH hF => ?_) kk
  have O1 := hH.2 k _ hk rfl
  obtain ⟨cl, A, e'⟩ := O1
  obtain ⟨T', h', X', eh, Wq, stp⟩ := stJ X C.1 C.2.1 rfl A (arr_in' e' hj hv) (g := mkF m pc (loc n ls) (stk n (.long x :: .int j :: .ref k :: st))) rfl rfl (hb C.2.2.2.1 hd)
  subst eh
  rw [hj.2] at Wq
  exact ⟨T', _, X', hH.put Wq (OR.elem (w := .long x) ⟨cl, A, e'⟩ Wq), Fr.snoc X' hF (Nat.le_add_right n k), stp⟩
theorem W.bastore {k i : Nat} {vs : List Value} {x : Int32} {j : Int32} (hd : D M pc .bastore 1 pc') (hk : H[k]? = some (.inr (.byte, vs))) (hj : ¬ j < 0 ∧ j.toNatClampNeg = i) (hv : i < vs.length) (kk : WB b l Z n M pc' ls st (H.set k (.inr (.byte, vs.set i (.int x.toInt8.toInt32)))) ce sl Q) : WB b l Z n M pc ls (.int x :: .int j :: .ref k :: st) H ce sl Q := by
  obtain ⟨hd, rfl⟩ := hd
  refine W.step (fun p e s m args below meth c C T locs X hH hF => ?_) kk
  have O1 := hH.2 k _ hk rfl
  obtain ⟨cl, A, e'⟩ := O1
  obtain ⟨T', h', X', eh, Wq, stp⟩ := stB X C.1 C.2.1 rfl A (arr_in' e' hj hv) (g := mkF m pc (loc n ls) (stk n (.int x :: .int j :: .ref k :: st))) rfl rfl (hb C.2.2.2.1 hd)
  subst eh
  rw [hj.2] at Wq
  exact ⟨T', _, X', hH.put Wq (OR.elem (w := .int x.toInt8.toInt32) ⟨cl, A, e'⟩ Wq), Fr.snoc X' hF (Nat.le_add_right n k), stp⟩
theorem W.zastore {k i : Nat} {vs : List Value} {x : Int32} {j : Int32} (hd : D M pc .bastore 1 pc') (hk : H[k]? = some (.inr (.boolean, vs))) (hj : ¬ j < 0 ∧ j.toNatClampNeg = i) (hv : i < vs.length) (kk : WB b l Z n M pc' ls st (H.set k (.inr (.boolean, vs.set i (.int (x &&& 1))))) ce sl Q) : WB b l Z n M pc ls (.int x :: .int j :: .ref k :: st) H ce sl Q := by
  obtain ⟨hd, rfl⟩ := hd
  refine W.step (fun p e s m args below meth c C T locs X hH hF => ?_) kk
  have O1 := hH.2 k _ hk rfl
  obtain ⟨cl, A, e'⟩ := O1
  obtain ⟨T', h', X', eh, Wq, stp⟩ := stZ X C.1 C.2.1 rfl A (arr_in' e' hj hv) (g := mkF m pc (loc n ls) (stk n (.int x :: .int j :: .ref k :: st))) rfl rfl (hb C.2.2.2.1 hd)
  subst eh
  rw [hj.2] at Wq
  exact ⟨T', _, X', hH.put Wq (OR.elem (w := .int (x &&& 1)) ⟨cl, A, e'⟩ Wq), Fr.snoc X' hF (Nat.le_add_right n k), stp⟩
/-! heap: makers -/
theorem ext_push (h : Heap) (x : Cell) : Ext h (h.push x) ∧ (h.push x).size = h.size + 1 ∧ (h.push x)[h.size]? = some x :=
  ⟨⟨by simp, fun a c q => by rw [Array.getElem?_push_lt (Array.getElem?_eq_some_iff.mp q).1]; exact (Array.getElem?_eq_getElem _).symm.trans q⟩, by simp, by simp⟩
theorem W.new {i nk N : Nat} {C : String} {fs : List (Key × Value)} (hd : D M pc (.new i) 3 pc') (w : (Cond.classLink M.1.cls i C).before a0 Z = true) (K : OkC a0 Z C nk fs) (hN : H.length = N) (hc : ce + 1 ≤ M.2.2.2.2.cells) (hl : sl + nk ≤ M.2.2.2.2.slots)
    (kk : WB b l Z n M pc' ls (.ref N :: st) (H ++ [.inl (C, fs)]) (ce + 1) (sl + nk) Q) : WB b l Z n M pc ls st H ce sl Q := by
  obtain ⟨hd, rfl⟩ := hd
  refine W.step (fun p e s m args below meth c Cx T locs X hH hF => ?_) kk
  obtain ⟨vm', cC, kC, h1, h2, h3, h4, X', stp⟩ := X.newCold Cx.1 Cx.2.2.1 (mv Cx.2.1 w) (mv Cx.2.1 K.1) (mv Cx.2.1 K.2.1) (g := mkF m pc (loc n ls) (stk n st)) rfl (hb Cx.2.2.2.1 hd) hc hl
  obtain ⟨E, S, G⟩ := ext_push T.heap { cls := cC, slots := kC.instanceTypes.map defaultValue, vm := .none }
  have hfc : Z.vm.findClass C = some cC := by rw [← Cx.2.1.alike.findClass]; exact h1
  obtain ⟨kZ, z1, -⟩ := Vm.findClass_spec hfc
  obtain ⟨k', z2, z3⟩ := Cx.2.1.alike.2.2 _ _ z1
  cases h2.symm.trans z2
  have ei : kC.instanceTypes = kZ.instanceTypes := by rw [z3]
  refine ⟨_, locs, X', hH.push E S ⟨⟨_, kZ, G, hfc, z1, rfl, fun _ => by simp [ei]⟩, fun j q hq => ?_, K.slots⟩, hF, fun target h => stp target ?_⟩
  · obtain ⟨ty, L, ht, hv⟩ := K.2.2.1 q (List.mem_of_getElem? hq)
    obtain ⟨c1, k1, cf, kf, i1, f, a1, a2, a3, a4, a5, a6, -⟩ := L.spec
    cases hfc.symm.trans a1
    cases z1.symm.trans a2
    exact ⟨_, cf, kf, i1, f, G, a3, a4, by simp, rfl, a5, by rw [hv, up_default]; simp [ei, a6, (State.fieldFound?_type a3 ht).2]⟩
  · have : T.heap.size = n + N := by rw [hH.1, hN]
    rw [this]; exact h
theorem W.newarray {aty : ArrayType} {N cnt cap : Nat} {z : Int32} (hd : D M pc (.newarray aty) 2 pc') (w : (Cond.arrayClass (newarray.typeOf aty)).before a0 Z = true) (hz : ¬ z < 0 ∧ z.toNatClampNeg = cnt) (hN : H.length = N) (hcap : cnt ≤ cap) (hb8 : cap * 8 ≤ 536870912) (hc : ce + 1 ≤ M.2.2.2.2.cells) (hl : sl + cap ≤ M.2.2.2.2.slots)
    (kk : WB b l Z n M pc' ls (.ref N :: st) (H ++ [.inr (newarray.typeOf aty, List.replicate cnt (defaultValue (newarray.typeOf aty)))]) (ce + 1) (sl + cap) Q) : WB b l Z n M pc ls (.int z :: st) H ce sl Q := by
  obtain ⟨hd, rfl⟩ := hd
  obtain ⟨hz0, rfl⟩ := hz
  refine W.step (fun p e s m args below meth c Cx T locs X hH hF => ?_) kk
  have hcb : componentBytes (newarray.typeOf aty) ≤ 8 := by cases aty <;> decide
  obtain ⟨cA, kA, comp, h1, h2, h3, X', stp⟩ := X.newarrayPrim Cx.1 (mvA Cx.2.1 w) (g := mkF m pc (loc n ls) (stk n (.int z :: st))) rfl (hb Cx.2.2.2.1 hd) rfl hz0 (Nat.le_trans (Nat.mul_le_mul hcap hcb) hb8) hc (Nat.le_trans (Nat.add_le_add_left hcap _) hl)
  obtain ⟨E, S, G⟩ := ext_push T.heap { cls := cA, slots := Array.replicate z.toNatClampNeg (defaultValue (newarray.typeOf aty)), vm := .none }
  have hfc := h1
  rw [Cx.2.1.alike.findClass] at hfc
  obtain ⟨kZ, z1, -⟩ := Vm.findClass_spec hfc
  obtain ⟨k', z2, z3⟩ := Cx.2.1.alike.2.2 _ _ z1
  cases h2.symm.trans z2
  refine ⟨_, locs, X'.more (Nat.le_refl _) (Nat.add_le_add_left hcap _), hH.push E S ⟨_, ⟨G, ⟨by simp, kZ, z1, comp, by rw [← h3, z3]⟩, by simp⟩, ?_⟩, hF, fun target h => stp target ?_⟩
  · simp [up_default]
  · have : T.heap.size = n + N := by rw [hH.1, hN]
    rw [this]; exact h
/-! returns -/
theorem W.fin {v : Option Value} (hv : M.2.2.2.1 = none → v = none) (hc : ce ≤ M.2.2.2.2.cells) (hl : sl ≤ M.2.2.2.2.slots)
    (go : ∀ (p : Program) (e : Env) (s : State) (m : MethodId) (args : Array Value) (below : List Frame) (meth : Method) (c : Code), Ctx Z M p s m meth c → ∀ (T : State) (locs : List Loc), Stand p l e M.2.2.2.2 s m args below meth c T locs ce sl →
      ∀ fs : List Frame, (∀ (f : JFrame) (acts : List Action), f.method = m → f.locked = none → f.entered = [] → (doReturn e (T.setTop f) acts (v.map (up n))).1 = T.setFrames fs) → Steps p.tables e below (T.setTop (mkF m pc (loc n ls) (stk n st))) (T.setFrames fs))
    (q : Q v H) : WB b l Z n M pc ls st H ce sl Q := fun p e s m args below meth c C T locs X hH hF => by
  obtain ⟨fs, hr, hrun, hended, hW, hsame⟩ := X.leave (v := v.map (up n)) (fun h => by rw [hv (C.2.2.2.2.2.1.symm.trans h)]; rfl) C.2.2.2.2.2.2.1
  exact ⟨_, v, locs, H, go p e s m args below meth c C T locs X fs hr, hrun, hended, q, hH, hF, EndR.of ⟨⟨_, rfl⟩, hW, hsame.mono hc hl⟩⟩
theorem W.leave (hd : D M pc .return_ 1 pc') (hr : M.2.2.2.1 = none) (hc : ce ≤ M.2.2.2.2.cells) (hl : sl ≤ M.2.2.2.2.slots) (q : Q none H) : WB b l Z n M pc ls [] H ce sl Q :=
  W.fin (v := none) (fun _ => rfl) hc hl (fun p e s m args below meth c C T locs X fs h => X.returnOut C.1 (C.2.2.2.2.2.1.trans hr) (hb C.2.2.2.1 hd.1) h) q
theorem W.ireturn {x : Int32} (hd : D M pc .ireturn 1 pc') (hr : M.2.2.2.1 = some .int) (hc : ce ≤ M.2.2.2.2.cells) (hl : sl ≤ M.2.2.2.2.slots) (q : Q (some (.int x)) H) : WB b l Z n M pc ls (.int x :: st) H ce sl Q :=
  W.fin (v := some (.int x)) (fun h => by rw [hr] at h; cases h) hc hl (fun p e s m args below meth c C T locs X fs h => retOut X C.1 (t := .int) (w := .int x) (i := .ireturn) (C.2.2.2.2.2.1.trans hr) rfl (Or.inl ⟨rfl, Or.inl rfl, _, rfl⟩) (hb C.2.2.2.1 hd.1) h) q
theorem W.lreturn {x : Int64} (hd : D M pc .lreturn 1 pc') (hr : M.2.2.2.1 = some .long) (hc : ce ≤ M.2.2.2.2.cells) (hl : sl ≤ M.2.2.2.2.slots) (q : Q (some (.long x)) H) : WB b l Z n M pc ls (.long x :: st) H ce sl Q :=
  W.fin (v := some (.long x)) (fun h => by rw [hr] at h; cases h) hc hl (fun p e s m args below meth c C T locs X fs h => retOut X C.1 (t := .long) (w := .long x) (i := .lreturn) (C.2.2.2.2.2.1.trans hr) rfl (Or.inr (Or.inl ⟨rfl, rfl, _, rfl⟩)) (hb C.2.2.2.1 hd.1) h) q
/-- a boolean, byte, char or short: what is left of the int -/
theorem W.nreturn {x : Int32} (t : FieldType) (hd : D M pc .ireturn 1 pc') (hr : M.2.2.2.1 = some t) (ht : t = .boolean ∨ t = .byte ∨ t = .char ∨ t = .short) (hc : ce ≤ M.2.2.2.2.cells) (hl : sl ≤ M.2.2.2.2.slots) (q : Q (some (.int (nar t x))) H) : WB b l Z n M pc ls (.int x :: st) H ce sl Q :=
  W.fin (v := some (.int (nar t x))) (fun h => by rw [hr] at h; cases h) hc hl (fun p e s m args below meth c C T locs X fs h => retN X C.1 (C.2.2.2.2.2.1.trans hr) ht (hb C.2.2.2.1 hd.1) h) q
theorem W.areturn {v : Value} {t : FieldType} (hd : D M pc .areturn 1 pc') (hr : M.2.2.2.1 = some t) (ht : t.isReference = true) (hv : rfn v = true) (hc : ce ≤ M.2.2.2.2.cells) (hl : sl ≤ M.2.2.2.2.slots) (q : Q (some v) H) : WB b l Z n M pc ls (v :: st) H ce sl Q :=
  W.fin (v := some v) (fun h => by rw [hr] at h; cases h) hc hl (fun p e s m args below meth c C T locs X fs h => retOut X C.1 (t := t) (w := up n v) (i := .areturn) (C.2.2.2.2.2.1.trans hr) (by cases v <;> simp [rfn] at hv <;> cases t <;> simp_all [FieldType.isReference, narrow, up]) (Or.inr (Or.inr (Or.inr (Or.inr ⟨rfl, ht, up_rfn n hv⟩)))) (hb C.2.2.2.1 hd.1) h) q
/-! calls -/
def entryL (as : List Value) (k : Nat) : List Slot := Jvm.Sym.laidSlots as ++ List.replicate (k - (Jvm.Sym.laidSlots as).length) .unset
theorem laid_up (n : Nat) : ∀ as : List Value, Jvm.Sym.laidSlots (as.map (up n)) = (Jvm.Sym.laidSlots as).map (upS n)
  | [] => rfl
  | v :: as => by
    have ih := laid_up n as
    simp only [List.map_cons, Jvm.Sym.laidSlots, up_cat]
    split <;> simp [ih, upS]
theorem entry_up (n : Nat) (as : List Value) (k : Nat) (m : MethodId) : entryFrame m (as.map (up n)).toArray k = mkF m 0 (loc n (entryL as k)) [] := by
  have : argsToLocals (as.map (up n)).toArray k = loc n (entryL as k) := Array.toList_inj.mp (by
    rw [Jvm.Sym.argsToLocals_toList]
    simp [entryL, laid_up, loc, upS])
  unfold entryFrame
  rw [this]
theorem W.met {as : List Value} (hW : WB b l Z n M 0 (entryL as M.2.2.1) [] H 0 0 Q) (pn : plainFor M.1 = true) {h : Heap} (hH : HR Z n h H) (ws : List Jvm.Cond) :
    MetFree l M.1 (head1 (Cond.code M.1 M.2.1 M.2.2.1 M.2.2.2.1 :: ws) M.2.2.2.2) (fun a U => a = (as.map (up n)).toArray ∧ Z.Warmed39 U.vm ∧ U.heap = h) (fun _ _ _ _ _ => True)
      (fun _ U o U' => ∃ v L, o = .returned v ∧ (∃ v0 H', v = v0.map (up n) ∧ Q v0 H' ∧ HR Z n U'.heap H' ∧ Fr n L) ∧ EndR b U o U' L M.2.2.2.2.cells M.2.2.2.2.slots) := by
  refine MetFree.of_bodySF pn hisR ?_
  intro p e s m args below meth c s₁ Bd hml hP hK
  obtain ⟨rfl, hZ, hh⟩ := hP
  have X0 : Stand p l e M.2.2.2.2 s m _ below meth c s₁ [] 0 0 := Stand.of_body Bd
  have e0 : s₁.heap = h := by rw [← hh, Bd.state]; rfl
  obtain ⟨s₂, v, L, H', h1, h2, h3, h4, h5, h6, h7⟩ := hW p e s m _ below meth c ⟨Bd.exec, hZ, findClass_of_methodNamed Bd.named, Bd.bytes, hml, Bd.returns, Bd.notSynchronized, (name_of_methodNamed Bd.named Bd.method).1⟩ s₁ [] X0 (e0 ▸ hH) (Fr.nil n)
  exact ⟨s₂, _, castTop (entry_up n as _ m) h1, h2, h3, _, L, rfl, ⟨v, H', rfl, h4, h5, h6⟩, h7⟩
def RetQ (Z : State) (n : Nat) (Q : Option Value → AHeap → Prop) (v : Option Value) (h2 : Heap) (L : List Loc) : Prop := ∃ v0 H', v = v0.map (up n) ∧ Q v0 H' ∧ HR Z n h2 H' ∧ Fr n L
theorem W.metF {as : List Value} (hW : W l Z n M 0 (entryL as M.2.2.1) [] H 0 0 Q) (pn : plainFor M.1 = true) {h : Heap} (hH : HR Z n h H) (ws : List Jvm.Cond) :
    MetFree l M.1 (head1 (Cond.code M.1 M.2.1 M.2.2.1 M.2.2.2.1 :: ws) M.2.2.2.2) (fun a U => a = (as.map (up n)).toArray ∧ Z.Warmed39 U.vm ∧ U.heap = h) (fun _ _ _ _ _ => True)
      (fun _ U o U' => ∃ v L, o = .returned v ∧ RetQ Z n Q v U'.heap L ∧ FrameEnd U o U' L M.2.2.2.2.cells M.2.2.2.2.slots) := W.met hW pn hH ws
/-- what every call asks of the callee's own words -/
def OkM (a0 : Array Value) (Z : State) (M : Meth) (k : Nat) : Prop :=
  (Cond.code M.1 M.2.1 M.2.2.1 M.2.2.2.1).before a0 Z = true ∧ (Cond.initialized M.1.cls).before a0 Z = true ∧ plainFor M.1 = true ∧ (M.1.cls ≠ "java/lang/invoke/MethodHandle" ∧ M.1.cls ≠ "java/lang/invoke/VarHandle") ∧ ∀ sig, parseMethodDescriptor M.1.desc = some sig → k = sig.parameters.length
theorem arity {d : String} {ps : List FieldType} {r : Option FieldType} {k : Nat} (hd : parseMethodDescriptor d = some ⟨ps, r⟩) (hl : k = ps.length) : ∀ sig, parseMethodDescriptor d = some sig → k = sig.parameters.length := fun sig h => by
  cases hd.symm.trans h; exact hl
def wt (st : List Value) : Nat := (st.map fun v => v.category).sum
theorem wt_up (n : Nat) : ∀ st : List Value, ((stk n st).map fun v => v.category).sum = wt st
  | [] => rfl
  | v :: st => by
    have ih := wt_up n st
    simp only [stk, wt, List.map_cons, List.sum_cons, up_cat] at ih ⊢
    rw [ih]
/-- the callee's frames, words, cells and slots fit -/
def fitsRoom (M M' : Meth) (rest : List Value) (ce sl : Nat) : Bool :=
  decide (M'.2.2.2.2.frames + 1 ≤ M.2.2.2.2.frames) && decide (wt rest + (M'.2.2.1 + 11) + M'.2.2.2.2.locals ≤ M.2.2.2.2.locals) && decide (ce + M'.2.2.2.2.cells ≤ M.2.2.2.2.cells) && decide (sl + M'.2.2.2.2.slots ≤ M.2.2.2.2.slots)
theorem fits_ {M M' : Meth} {rest : List Value} {ce sl : Nat} (h : fitsRoom M M' rest ce sl = true) : M'.2.2.2.2.frames + 1 ≤ M.2.2.2.2.frames ∧ wt rest + (M'.2.2.1 + 11) + M'.2.2.2.2.locals ≤ M.2.2.2.2.locals ∧ ce + M'.2.2.2.2.cells ≤ M.2.2.2.2.cells ∧ sl + M'.2.2.2.2.slots ≤ M.2.2.2.2.slots := by
  simp only [fitsRoom, Bool.and_eq_true, decide_eq_true_eq] at h
  exact ⟨h.1.1.1, h.1.1.2, h.1.2, h.2⟩
theorem size_loc (n : Nat) (ls : List Slot) : (loc n ls).size = ls.length := by simp [loc]
theorem W.calls {M' : Meth} {i : Nat} {as rest : List Value} {Qc : Option Value → AHeap → Prop} (hd : D M pc (.invokestatic i) 3 pc') (w : (Cond.methodLink M.1.cls i M'.1).before a0 Z = true) (ws : (Cond.static M'.1).before a0 Z = true) (K : OkM a0 Z M' as.length) (hs : st = as.reverse ++ rest) (hz : ls.length = M.2.2.1) (hf : fitsRoom M M' rest ce sl = true)
    (hM : W l Z n M' 0 (entryL as M'.2.2.1) [] H 0 0 Qc) (kk : ∀ v H', Qc v H' → WB b l Z n M pc' ls (v.toList ++ rest) H' (ce + M'.2.2.2.2.cells) (sl + M'.2.2.2.2.slots) Q) : WB b l Z n M pc ls st H ce sl Q := by
  obtain ⟨hd, rfl⟩ := hd
  subst hs
  intro p e s m args below meth c C T locs X hH hF
  obtain ⟨f1, f2, f3, f4⟩ := fits_ hf
  obtain ⟨_, _, ⟨T', L', c', s'⟩, -, X', ⟨Lc, ⟨v0, H', hv, q1, q2, q3⟩, l1, l2, l3⟩, stp⟩ := Jvm.LawKit.callS X C.1 (y := M'.1) C.2.2.1 (mvT C.2.1 w) (mvT C.2.1 ws) (mvT C.2.1 K.2.1) (mvT C.2.1 K.1) K.2.2.2.1 (backOf (Q := RetQ Z n Qc) (W := wt rest) (W.metF hM K.2.2.1 hH []) C.2.1 K.1 K.2.1 f1 f2) (g := mkF m pc (loc n ls) (stk n (as.reverse ++ rest))) rfl
    ((size_loc n ls).trans (hz.trans C.2.2.2.2.1.symm)) (argsL := as.map (up n)) (rest := stk n rest) (fun sig h => by rw [List.length_map]; exact K.2.2.2.2 sig h) (by simp [stk, List.map_append, List.map_reverse]) (by rw [wt_up]; exact Nat.le_of_eq (Nat.zero_add _)) (hb C.2.2.2.1 hd) (fun _ _ => ⟨rfl, rfl, f3, f4⟩)
  dsimp only [Pt.U, Pt.locs, Pt.cells, Pt.slots] at X' l1 l2 l3 stp q2
  subst l1 l2 l3 hv
  obtain ⟨s₂, v, L, H'', g1, g2⟩ := kk v0 H' q1 p e s m args below meth c C T' _ X' q2 (Fr.app hF q3)
  refine ⟨s₂, v, L, H'', stp _ ?_, g2⟩
  have : stk n (v0.toList ++ rest) = (v0.map (up n)).toList ++ stk n rest := by cases v0 <;> simp [stk]
  rw [this] at g1; exact g1
theorem W.callv {M' : Meth} {i k : Nat} {C : String} {fs : List (Key × Value)} {as rest : List Value} {Qc : Option Value → AHeap → Prop} (hd : D M pc (.invokevirtual i) 3 pc') (w : (Cond.methodLink M.1.cls i M'.1).before a0 Z = true) (wd : (Cond.declares M'.1).before a0 Z = true) (wi : (Cond.instanceMethod M'.1).before a0 Z = true) (wsel : (Cond.selects C M'.1 M'.1).before a0 Z = true) (K : OkM a0 Z M' as.length) (hk : H[k]? = some (.inl (C, fs))) (hs : st = as.reverse ++ .ref k :: rest) (hz : ls.length = M.2.2.1) (hf : fitsRoom M M' rest ce sl = true)
    (hM : W l Z n M' 0 (entryL (.ref k :: as) M'.2.2.1) [] H 0 0 Qc) (kk : ∀ v H', Qc v H' → WB b l Z n M pc' ls (v.toList ++ rest) H' (ce + M'.2.2.2.2.cells) (sl + M'.2.2.2.2.slots) Q) : WB b l Z n M pc ls st H ce sl Q := by
  obtain ⟨hd, rfl⟩ := hd
  subst hs
  intro p e s m args below meth c Cx T locs X hH hF
  obtain ⟨f1, f2, f3, f4⟩ := fits_ hf
  obtain ⟨cq, kq, qa, qb, qc⟩ := isOf (T := T) Cx.2.1 rfl (hH.2 k _ hk rfl).1
  obtain ⟨_, _, ⟨T', L', c', s'⟩, -, X', ⟨Lc, ⟨v0, H', hv, q1, q2, q3⟩, l1, l2, l3⟩, stp⟩ := X.virtualBack Cx.1 (y := M'.1) (z := M'.1) Cx.2.2.1 (mvT Cx.2.1 w) (mvT Cx.2.1 wd) (notFace_of_selects (args := #[]) (mvT Cx.2.1 wsel)) (mvT Cx.2.1 wsel) (mvT Cx.2.1 wi) K.2.2.2.1 (backOf (Q := RetQ Z n Qc) (W := wt rest) (W.metF hM K.2.2.1 hH []) Cx.2.1 K.1 K.2.1 f1 f2) qa qc (g := mkF m pc (loc n ls) (stk n (as.reverse ++ .ref k :: rest))) rfl
    ((size_loc n ls).trans (hz.trans Cx.2.2.2.2.1.symm)) (Steps.refl _) (argsL := as.map (up n)) (rest := stk n rest) (fun sig h => by rw [List.length_map]; exact K.2.2.2.2 sig h) (by simp [stk, List.map_append, List.map_reverse, up]) (by rw [wt_up]; exact Nat.le_of_eq (Nat.zero_add _)) (hb Cx.2.2.2.1 hd) (fun _ _ => ⟨rfl, rfl, f3, f4⟩)
  dsimp only [Pt.U, Pt.locs, Pt.cells, Pt.slots] at X' l1 l2 l3 stp q2
  subst l1 l2 l3 hv
  obtain ⟨s₂, v, L, H'', g1, g2⟩ := kk v0 H' q1 p e s m args below meth c Cx T' _ X' q2 (Fr.app hF q3)
  refine ⟨s₂, v, L, H'', stp.trans ?_, g2⟩
  have : stk n (v0.toList ++ rest) = (v0.map (up n)).toList ++ stk n rest := by cases v0 <;> simp [stk]
  rw [this] at g1; exact g1
theorem W.callp {M' : Meth} {i k kk0 : Nat} {fs : List (Key × Value)} {as rest : List Value} {Qc : Option Value → AHeap → Prop} (hd : D M pc (.invokevirtual i) 3 pc') (w : (Cond.methodLink M.1.cls i M'.1).before a0 Z = true) (wi : (Cond.instanceMethod M'.1).before a0 Z = true) (wp : (Cond.privateMethod M'.1).before a0 Z = true) (wk : (Cond.instantiable M'.1.cls kk0).before a0 Z = true) (K : OkM a0 Z M' as.length) (hk : H[k]? = some (.inl (M'.1.cls, fs))) (hs : st = as.reverse ++ .ref k :: rest) (hz : ls.length = M.2.2.1) (hf : fitsRoom M M' rest ce sl = true)
    (hM : W l Z n M' 0 (entryL (.ref k :: as) M'.2.2.1) [] H 0 0 Qc) (kk : ∀ v H', Qc v H' → WB b l Z n M pc' ls (v.toList ++ rest) H' (ce + M'.2.2.2.2.cells) (sl + M'.2.2.2.2.slots) Q) : WB b l Z n M pc ls st H ce sl Q := by
  obtain ⟨hd, rfl⟩ := hd
  subst hs
  intro p e s m args below meth c Cx T locs X hH hF
  obtain ⟨f1, f2, f3, f4⟩ := fits_ hf
  obtain ⟨cell, hc1, hc2⟩ := (hH.2 k _ hk rfl).1.cell
  have hpriv : s.PrivateAt M'.1 := Cond.privateMethod_at (mvP Cx.2.1 wp (args := #[]))
  obtain ⟨c2, k2, i1, i2, i3, i4, -⟩ := Cond.instantiable_spec (mvT (args := args) Cx.2.1 wk)
  have hni : k2.isInterface = false := by simp only [Bool.or_eq_false_iff] at i4; exact i4.1
  have hsel : (Cond.selects M'.1.cls M'.1 M'.1).before args s = true := selects_self_of_private i1 i2 hni hpriv (mvT Cx.2.1 wi) K.2.2.2.1
  obtain ⟨_, _, ⟨T', L', c', s'⟩, -, X', ⟨Lc, ⟨v0, H', hv, q1, q2, q3⟩, l1, l2, l3⟩, stp⟩ := X.privateBack Cx.1 (y := M'.1) Cx.2.2.1 (mvT Cx.2.1 w) (mvT Cx.2.1 wi) hsel hpriv (mvT Cx.2.1 K.1) K.2.2.2.1 (backOf (Q := RetQ Z n Qc) (W := wt rest) (W.metF hM K.2.2.1 hH []) Cx.2.1 K.1 K.2.1 f1 f2) (g := mkF m pc (loc n ls) (stk n (as.reverse ++ .ref k :: rest))) rfl
    ((size_loc n ls).trans (hz.trans Cx.2.2.2.2.1.symm)) (Steps.refl _) (a := n + k) hc1 hc2 (argsL := as.map (up n)) (rest := stk n rest) (fun sig h => by rw [List.length_map]; exact K.2.2.2.2 sig h) (by simp [stk, List.map_append, List.map_reverse, up]) (by rw [wt_up]; exact Nat.le_of_eq (Nat.zero_add _)) (hb Cx.2.2.2.1 hd) (fun _ _ => ⟨rfl, rfl, f3, f4⟩)
  dsimp only [Pt.U, Pt.locs, Pt.cells, Pt.slots] at X' l1 l2 l3 stp q2
  subst l1 l2 l3 hv
  obtain ⟨s₂, v, L, H'', g1, g2⟩ := kk v0 H' q1 p e s m args below meth c Cx T' _ X' q2 (Fr.app hF q3)
  refine ⟨s₂, v, L, H'', stp.trans ?_, g2⟩
  have : stk n (v0.toList ++ rest) = (v0.map (up n)).toList ++ stk n rest := by cases v0 <;> simp [stk]
  rw [this] at g1; exact g1
theorem W.init {M' : Meth} {i k : Nat} {as rest : List Value} {Qc : Option Value → AHeap → Prop} (hd : D M pc (.invokespecial i) 3 pc') (hnm : M'.1.name = "<init>") (hrt : M'.2.2.2.1 = none) (w : (Cond.methodLink M.1.cls i M'.1).before a0 Z = true) (wi : (Cond.instanceMethod M'.1).before a0 Z = true) (K : OkM a0 Z M' as.length) (hs : st = as.reverse ++ .ref k :: rest) (hz : ls.length = M.2.2.1) (hf : fitsRoom M M' rest ce sl = true)
    (hM : W l Z n M' 0 (entryL (.ref k :: as) M'.2.2.1) [] H 0 0 Qc) (kk : ∀ v H', Qc v H' → WB b l Z n M pc' ls (v.toList ++ rest) H' (ce + M'.2.2.2.2.cells) (sl + M'.2.2.2.2.slots) Q) : WB b l Z n M pc ls st H ce sl Q := by
  obtain ⟨hd, rfl⟩ := hd
  subst hs
  intro p e s m args below meth c Cx T locs X hH hF
  obtain ⟨f1, f2, f3, f4⟩ := fits_ hf
  have wc := K.1
  rw [hrt] at wc
  obtain ⟨_, _, ⟨T', L', c', s'⟩, -, X', ⟨Lc, ⟨v0, H', hv, q1, q2, q3⟩, l1, l2, l3⟩, stp⟩ := X.specialBack Cx.1 (y := M'.1) hnm Cx.2.2.1 (mvT Cx.2.1 w) (mvT Cx.2.1 wi) (mvT Cx.2.1 wc) K.2.2.2.1 (backOf (Q := RetQ Z n Qc) (W := wt rest) (W.metF hM K.2.2.1 hH []) Cx.2.1 K.1 K.2.1 f1 f2) (g := mkF m pc (loc n ls) (stk n (as.reverse ++ .ref k :: rest))) rfl
    ((size_loc n ls).trans (hz.trans Cx.2.2.2.2.1.symm)) (Steps.refl _) (a := n + k) (argsL := as.map (up n)) (rest := stk n rest) (fun sig h => by rw [List.length_map]; exact K.2.2.2.2 sig h) (by simp [stk, List.map_append, List.map_reverse, up]) (by rw [wt_up]; exact Nat.le_of_eq (Nat.zero_add _)) (hb Cx.2.2.2.1 hd) (fun _ _ => ⟨rfl, rfl, f3, f4⟩)
  dsimp only [Pt.U, Pt.locs, Pt.cells, Pt.slots] at X' l1 l2 l3 stp q2
  subst l1 l2 l3 hv
  obtain ⟨s₂, v, L, H'', g1, g2⟩ := kk v0 H' q1 p e s m args below meth c Cx T' _ X' q2 (Fr.app hF q3)
  refine ⟨s₂, v, L, H'', stp.trans ?_, g2⟩
  have : stk n (v0.toList ++ rest) = (v0.map (up n)).toList ++ stk n rest := by cases v0 <;> simp [stk]
  rw [this] at g1; exact g1
theorem W.initO {i k : Nat} {rest : List Value} (hd : D M pc (.invokespecial i) 3 pc') (w1 : (Cond.methodLink M.1.cls i Lib.objectInit).before a0 Z = true) (w2 : (Cond.instanceMethod Lib.objectInit).before a0 Z = true) (w3 : (Cond.code Lib.objectInit ⟨#[0xb1]⟩ 1 none).before a0 Z = true) (hz : ls.length = M.2.2.1) (hf : decide (1 ≤ M.2.2.2.2.frames) && decide (wt rest + 12 ≤ M.2.2.2.2.locals) = true)
    (kk : WB b l Z n M pc' ls rest H ce sl Q) : WB b l Z n M pc ls (.ref k :: rest) H ce sl Q := by
  obtain ⟨hd, rfl⟩ := hd
  simp only [Bool.and_eq_true, decide_eq_true_eq] at hf
  refine W.step (fun p e s m args below meth c Cx T locs X hH hF => ?_) kk
  obtain ⟨T', X', e', stp⟩ := RoadKit.initO X Cx.1 Cx.2.1 Cx.2.2.1 w1 w2 w3 rfl (g := mkF m pc (loc n ls) (stk n (.ref k :: rest))) rfl ((size_loc n ls).trans (hz.trans Cx.2.2.2.2.1.symm)) rfl (hb Cx.2.2.2.1 hd) hf.1 (W := wt rest) (by rw [wt_up]; exact Nat.le_of_eq (Nat.zero_add _)) hf.2
  exact ⟨T', locs, X', e' ▸ hH, hF, stp⟩
/-- from W of the whole method to the run's end, over the heap at the start -/
theorem W.start {as : List Value} (hW : WB b l Z Z.heap.size M 0 (entryL as M.2.2.1) [] [] 0 0 Q) (pn : plainName M.1.cls = true) (ws : List Jvm.Cond) :
    MetFree l M.1 (head1 (Cond.code M.1 M.2.1 M.2.2.1 M.2.2.2.1 :: ws) M.2.2.2.2) (fun a U => a = (as.map (up Z.heap.size)).toArray ∧ Z.Warmed39 U.vm ∧ U.heap = Z.heap) (fun _ _ _ _ _ => True)
      (fun _ U o U' => ∃ v L, o = .returned v ∧ (∃ v0 H', v = v0.map (up Z.heap.size) ∧ Q v0 H' ∧ HR Z Z.heap.size U'.heap H' ∧ Fr Z.heap.size L) ∧ EndR b U o U' L M.2.2.2.2.cells M.2.2.2.2.slots) :=
  W.met hW (plainFor_of_name pn) ⟨rfl, fun k o h _ => by cases h⟩ ws

/-- what it returns, and the heap it leaves -/
def Is (v : Option Value) (H1 : AHeap) : Option Value → AHeap → Prop := fun v' H' => v' = v ∧ H' = H1
theorem W.callsV {M' : Meth} {i : Nat} {as rest : List Value} {u : Value} {H1 : AHeap} (hd : D M pc (.invokestatic i) 3 pc') (w : (Cond.methodLink M.1.cls i M'.1).before a0 Z = true) (ws : (Cond.static M'.1).before a0 Z = true) (hM : W l Z n M' 0 (entryL as M'.2.2.1) [] H 0 0 (Is (some u) H1)) (K : OkM a0 Z M' as.length) (hs : st = as.reverse ++ rest) (hz : ls.length = M.2.2.1) (hf : fitsRoom M M' rest ce sl = true)
    (kk : WB b l Z n M pc' ls (u :: rest) H1 (ce + M'.2.2.2.2.cells) (sl + M'.2.2.2.2.slots) Q) : WB b l Z n M pc ls st H ce sl Q := W.calls hd w ws K hs hz hf hM fun v H' q => by obtain ⟨rfl, rfl⟩ := q; exact kk
theorem W.callsN {M' : Meth} {i : Nat} {as rest : List Value} {H1 : AHeap} (hd : D M pc (.invokestatic i) 3 pc') (w : (Cond.methodLink M.1.cls i M'.1).before a0 Z = true) (ws : (Cond.static M'.1).before a0 Z = true) (hM : W l Z n M' 0 (entryL as M'.2.2.1) [] H 0 0 (Is none H1)) (K : OkM a0 Z M' as.length) (hs : st = as.reverse ++ rest) (hz : ls.length = M.2.2.1) (hf : fitsRoom M M' rest ce sl = true)
    (kk : WB b l Z n M pc' ls rest H1 (ce + M'.2.2.2.2.cells) (sl + M'.2.2.2.2.slots) Q) : WB b l Z n M pc ls st H ce sl Q := W.calls hd w ws K hs hz hf hM fun v H' q => by obtain ⟨rfl, rfl⟩ := q; exact kk
theorem W.callvV {M' : Meth} {i k : Nat} {C : String} {fs : List (Key × Value)} {as rest : List Value} {u : Value} {H1 : AHeap} (hd : D M pc (.invokevirtual i) 3 pc') (w : (Cond.methodLink M.1.cls i M'.1).before a0 Z = true) (wd : (Cond.declares M'.1).before a0 Z = true) (wi : (Cond.instanceMethod M'.1).before a0 Z = true) (wsel : (Cond.selects C M'.1 M'.1).before a0 Z = true) (hM : W l Z n M' 0 (entryL (.ref k :: as) M'.2.2.1) [] H 0 0 (Is (some u) H1)) (K : OkM a0 Z M' as.length) (hk : H[k]? = some (.inl (C, fs))) (hs : st = as.reverse ++ .ref k :: rest) (hz : ls.length = M.2.2.1) (hf : fitsRoom M M' rest ce sl = true)
    (kk : WB b l Z n M pc' ls (u :: rest) H1 (ce + M'.2.2.2.2.cells) (sl + M'.2.2.2.2.slots) Q) : WB b l Z n M pc ls st H ce sl Q := W.callv hd w wd wi wsel K hk hs hz hf hM fun v H' q => by obtain ⟨rfl, rfl⟩ := q; exact kk
theorem W.callvN {M' : Meth} {i k : Nat} {C : String} {fs : List (Key × Value)} {as rest : List Value} {H1 : AHeap} (hd : D M pc (.invokevirtual i) 3 pc') (w : (Cond.methodLink M.1.cls i M'.1).before a0 Z = true) (wd : (Cond.declares M'.1).before a0 Z = true) (wi : (Cond.instanceMethod M'.1).before a0 Z = true) (wsel : (Cond.selects C M'.1 M'.1).before a0 Z = true) (hM : W l Z n M' 0 (entryL (.ref k :: as) M'.2.2.1) [] H 0 0 (Is none H1)) (K : OkM a0 Z M' as.length) (hk : H[k]? = some (.inl (C, fs))) (hs : st = as.reverse ++ .ref k :: rest) (hz : ls.length = M.2.2.1) (hf : fitsRoom M M' rest ce sl = true)
    (kk : WB b l Z n M pc' ls rest H1 (ce + M'.2.2.2.2.cells) (sl + M'.2.2.2.2.slots) Q) : WB b l Z n M pc ls st H ce sl Q := W.callv hd w wd wi wsel K hk hs hz hf hM fun v H' q => by obtain ⟨rfl, rfl⟩ := q; exact kk
theorem W.callpV {M' : Meth} {i k kk0 : Nat} {fs : List (Key × Value)} {as rest : List Value} {u : Value} {H1 : AHeap} (hd : D M pc (.invokevirtual i) 3 pc') (w : (Cond.methodLink M.1.cls i M'.1).before a0 Z = true) (wi : (Cond.instanceMethod M'.1).before a0 Z = true) (wp : (Cond.privateMethod M'.1).before a0 Z = true) (wk : (Cond.instantiable M'.1.cls kk0).before a0 Z = true) (hM : W l Z n M' 0 (entryL (.ref k :: as) M'.2.2.1) [] H 0 0 (Is (some u) H1)) (K : OkM a0 Z M' as.length) (hk : H[k]? = some (.inl (M'.1.cls, fs))) (hs : st = as.reverse ++ .ref k :: rest) (hz : ls.length = M.2.2.1) (hf : fitsRoom M M' rest ce sl = true)
    (kk : WB b l Z n M pc' ls (u :: rest) H1 (ce + M'.2.2.2.2.cells) (sl + M'.2.2.2.2.slots) Q) : WB b l Z n M pc ls st H ce sl Q := W.callp hd w wi wp wk K hk hs hz hf hM fun v H' q => by obtain ⟨rfl, rfl⟩ := q; exact kk
theorem W.callpN {M' : Meth} {i k kk0 : Nat} {fs : List (Key × Value)} {as rest : List Value} {H1 : AHeap} (hd : D M pc (.invokevirtual i) 3 pc') (w : (Cond.methodLink M.1.cls i M'.1).before a0 Z = true) (wi : (Cond.instanceMethod M'.1).before a0 Z = true) (wp : (Cond.privateMethod M'.1).before a0 Z = true) (wk : (Cond.instantiable M'.1.cls kk0).before a0 Z = true) (hM : W l Z n M' 0 (entryL (.ref k :: as) M'.2.2.1) [] H 0 0 (Is none H1)) (K : OkM a0 Z M' as.length) (hk : H[k]? = some (.inl (M'.1.cls, fs))) (hs : st = as.reverse ++ .ref k :: rest) (hz : ls.length = M.2.2.1) (hf : fitsRoom M M' rest ce sl = true)
    (kk : WB b l Z n M pc' ls rest H1 (ce + M'.2.2.2.2.cells) (sl + M'.2.2.2.2.slots) Q) : WB b l Z n M pc ls st H ce sl Q := W.callp hd w wi wp wk K hk hs hz hf hM fun v H' q => by obtain ⟨rfl, rfl⟩ := q; exact kk
theorem W.initN {M' : Meth} {i k : Nat} {as rest : List Value} {H1 : AHeap} (hd : D M pc (.invokespecial i) 3 pc') (hnm : M'.1.name = "<init>") (hrt : M'.2.2.2.1 = none) (w : (Cond.methodLink M.1.cls i M'.1).before a0 Z = true) (wi : (Cond.instanceMethod M'.1).before a0 Z = true) (hM : W l Z n M' 0 (entryL (.ref k :: as) M'.2.2.1) [] H 0 0 (Is none H1)) (K : OkM a0 Z M' as.length) (hs : st = as.reverse ++ .ref k :: rest) (hz : ls.length = M.2.2.1) (hf : fitsRoom M M' rest ce sl = true)
    (kk : WB b l Z n M pc' ls rest H1 (ce + M'.2.2.2.2.cells) (sl + M'.2.2.2.2.slots) Q) : WB b l Z n M pc ls st H ce sl Q := W.init hd hnm hrt w wi K hs hz hf hM fun v H' q => by obtain ⟨rfl, rfl⟩ := q; exact kk
theorem W.callpX {M' : Meth} {i k kk0 : Nat} {fs : List (Key × Value)} {as rest : List Value} {P : Value → AHeap → Prop} (hd : D M pc (.invokevirtual i) 3 pc') (w : (Cond.methodLink M.1.cls i M'.1).before a0 Z = true) (wi : (Cond.instanceMethod M'.1).before a0 Z = true) (wp : (Cond.privateMethod M'.1).before a0 Z = true) (wk : (Cond.instantiable M'.1.cls kk0).before a0 Z = true) (hM : W l Z n M' 0 (entryL (.ref k :: as) M'.2.2.1) [] H 0 0 (fun v H' => ∃ u, v = some u ∧ P u H')) (K : OkM a0 Z M' as.length) (hk : H[k]? = some (.inl (M'.1.cls, fs))) (hs : st = as.reverse ++ .ref k :: rest) (hz : ls.length = M.2.2.1) (hf : fitsRoom M M' rest ce sl = true)
    (kk : ∀ u H', P u H' → WB b l Z n M pc' ls (u :: rest) H' (ce + M'.2.2.2.2.cells) (sl + M'.2.2.2.2.slots) Q) : WB b l Z n M pc ls st H ce sl Q := W.callp hd w wi wp wk K hk hs hz hf hM fun v H' q => by obtain ⟨u, rfl, q⟩ := q; exact kk u H' q
theorem W.callsX {M' : Meth} {i : Nat} {as rest : List Value} {P : Value → AHeap → Prop} (hd : D M pc (.invokestatic i) 3 pc') (w : (Cond.methodLink M.1.cls i M'.1).before a0 Z = true) (ws : (Cond.static M'.1).before a0 Z = true) (hM : W l Z n M' 0 (entryL as M'.2.2.1) [] H 0 0 (fun v H' => ∃ u, v = some u ∧ P u H')) (K : OkM a0 Z M' as.length) (hs : st = as.reverse ++ rest) (hz : ls.length = M.2.2.1) (hf : fitsRoom M M' rest ce sl = true)
    (kk : ∀ u H', P u H' → WB b l Z n M pc' ls (u :: rest) H' (ce + M'.2.2.2.2.cells) (sl + M'.2.2.2.2.slots) Q) : WB b l Z n M pc ls st H ce sl Q := W.calls hd w ws K hs hz hf hM fun v H' q => by obtain ⟨u, rfl, q⟩ := q; exact kk u H' q
theorem W.callsY {M' : Meth} {i : Nat} {as rest : List Value} {P : AHeap → Prop} (hd : D M pc (.invokestatic i) 3 pc') (w : (Cond.methodLink M.1.cls i M'.1).before a0 Z = true) (ws : (Cond.static M'.1).before a0 Z = true) (hM : W l Z n M' 0 (entryL as M'.2.2.1) [] H 0 0 (fun v H' => v = none ∧ P H')) (K : OkM a0 Z M' as.length) (hs : st = as.reverse ++ rest) (hz : ls.length = M.2.2.1) (hf : fitsRoom M M' rest ce sl = true)
    (kk : ∀ H', P H' → WB b l Z n M pc' ls rest H' (ce + M'.2.2.2.2.cells) (sl + M'.2.2.2.2.slots) Q) : WB b l Z n M pc ls st H ce sl Q := W.calls hd w ws K hs hz hf hM fun v H' q => by obtain ⟨rfl, q⟩ := q; exact kk H' q
theorem W.callvX {M' : Meth} {i k : Nat} {C : String} {fs : List (Key × Value)} {as rest : List Value} {P : Value → AHeap → Prop} (hd : D M pc (.invokevirtual i) 3 pc') (w : (Cond.methodLink M.1.cls i M'.1).before a0 Z = true) (wd : (Cond.declares M'.1).before a0 Z = true) (wi : (Cond.instanceMethod M'.1).before a0 Z = true) (wsel : (Cond.selects C M'.1 M'.1).before a0 Z = true) (hM : W l Z n M' 0 (entryL (.ref k :: as) M'.2.2.1) [] H 0 0 (fun v H' => ∃ u, v = some u ∧ P u H')) (K : OkM a0 Z M' as.length) (hk : H[k]? = some (.inl (C, fs))) (hs : st = as.reverse ++ .ref k :: rest) (hz : ls.length = M.2.2.1) (hf : fitsRoom M M' rest ce sl = true)
    (kk : ∀ u H', P u H' → WB b l Z n M pc' ls (u :: rest) H' (ce + M'.2.2.2.2.cells) (sl + M'.2.2.2.2.slots) Q) : WB b l Z n M pc ls st H ce sl Q := W.callv hd w wd wi wsel K hk hs hz hf hM fun v H' q => by obtain ⟨u, rfl, q⟩ := q; exact kk u H' q
theorem W.callvY {M' : Meth} {i k : Nat} {C : String} {fs : List (Key × Value)} {as rest : List Value} {P : AHeap → Prop} (hd : D M pc (.invokevirtual i) 3 pc') (w : (Cond.methodLink M.1.cls i M'.1).before a0 Z = true) (wd : (Cond.declares M'.1).before a0 Z = true) (wi : (Cond.instanceMethod M'.1).before a0 Z = true) (wsel : (Cond.selects C M'.1 M'.1).before a0 Z = true) (hM : W l Z n M' 0 (entryL (.ref k :: as) M'.2.2.1) [] H 0 0 (fun v H' => v = none ∧ P H')) (K : OkM a0 Z M' as.length) (hk : H[k]? = some (.inl (C, fs))) (hs : st = as.reverse ++ .ref k :: rest) (hz : ls.length = M.2.2.1) (hf : fitsRoom M M' rest ce sl = true)
    (kk : ∀ H', P H' → WB b l Z n M pc' ls rest H' (ce + M'.2.2.2.2.cells) (sl + M'.2.2.2.2.slots) Q) : WB b l Z n M pc ls st H ce sl Q := W.callv hd w wd wi wsel K hk hs hz hf hM fun v H' q => by obtain ⟨rfl, q⟩ := q; exact kk H' q
/-- ldc of a String: behind it the walk goes on over the tables that the constant left -/
theorem W.ldcStr {i nn : Nat} {text : String} (hd : D M pc (.ldc i) 2 pc') (w : (Cond.stringLink M.1.cls i text).before a0 Z = true) (wS : ∀ a ∈ Bundle.stringAtoms, a.before a0 Z = true) (hn : 4 * text.toList.length ≤ nn) (hbig : nn ≤ 536870912) (hc : ce + 2 ≤ M.2.2.2.2.cells) (hl : sl + (nn + 4) ≤ M.2.2.2.2.slots)
    (kk : ∀ (a : Addr) (d : Nat), WB false l Z n M pc' ls (.retAddr a :: st) (H ++ List.replicate d junk) (ce + 2) (sl + (nn + 4)) (fun v H' => Q v H' ∧ H.length + d ≤ H'.length)) : WB true l Z n M pc ls st H ce sl Q := by
  obtain ⟨hd, rfl⟩ := hd
  intro p e s m args below meth c C T locs X hH hF
  have X0 : Stand p l e M.2.2.2.2 (s.setVm s.vm) m args below meth c T locs ce sl := X
  obtain ⟨a, T', h', k1, X', e', E, hS', hk1, hZ', hown', stp⟩ := ldcS (Z := Z) (a0 := a0) X0 C.1 C.2.1 (own := M.1.cls) (text := text) (index := i) C.2.2.1 w wS rfl (k0 := 0) ((State.WarmedH.refl s).since 0) (Nat.zero_le _) (g := mkF m pc (loc n ls) (stk n st)) rfl (hb C.2.2.2.1 hd) hn hbig hc hl
  subst e'
  have hH' : HR Z n T'.heap (H ++ List.replicate (T'.heap.size - T.heap.size) junk) := by
    have h1 := E.1
    refine ⟨by rw [List.length_append, List.length_replicate]; have := hH.1; omega, fun k o hk hJ => ?_⟩
    rw [List.getElem?_append] at hk
    split at hk
    · exact (hH.2 k o hk hJ).ext E
    · have := List.eq_of_mem_replicate (List.mem_of_getElem? hk)
      rw [this] at hJ; cases hJ
  obtain ⟨s₂, v, L, H'', g1, g2, g3, ⟨g4, g4'⟩, g5, g6, g7⟩ := kk a (T'.heap.size - T.heap.size) p e (s.setVm T'.vm) m args below meth c ⟨C.1, hZ', hown', C.2.2.2⟩ T' locs X' hH' hF
  have hsz : k1 ≤ s₂.heap.size := by have h1 := E.1; have h2 := hH.1; have h3 := g5.1; omega
  obtain ⟨q1, q2, q3⟩ := hS'.ended (U := s₂) g7.2.1 hsz g7.2.2
  exact ⟨s₂, v, L, H'', stp _ g1, g2, g3, g4, g5, g6, g7.1, q1, q2, q3⟩
theorem nar_ref (n : Nat) {v : Value} {c : String} (h : v.isRef = true) : narrow (.object c) (up n v) = up n v := by
  cases v <;> first | rfl | (simp [Value.isRef] at h)
theorem fits_ref' (n : Nat) {v : Value} {c : String} (h : v.isRef = true) : fits (.object c) (up n v) = true := by
  cases v <;> first | rfl | (simp [Value.isRef] at h)
theorem rfn_of {v : Value} (h : v.isRef = true) : rfn v = true := by cases v <;> first | rfl | (simp [Value.isRef] at h)
end Rules
/-! bits of ints and longs -/
theorem bx32 {a b : Int32} (h : ∀ i, i < 32 → a.toBitVec.getLsbD i = b.toBitVec.getLsbD i) : a = b := Int32.toBitVec_inj.mp (BitVec.eq_of_getLsbD_eq h)
theorem bx64 {a b : Int64} (h : ∀ i, i < 64 → a.toBitVec.getLsbD i = b.toBitVec.getLsbD i) : a = b := Int64.toBitVec_inj.mp (BitVec.eq_of_getLsbD_eq h)
theorem sm32 : ∀ m : Fin 32, ((BitVec.ofNat 32 m.1).smod 32).toNat = m.1 := by decide
theorem sm64 : ∀ m : Fin 64, ((BitVec.ofNat 64 m.1).smod 64).toNat = m.1 := by decide
theorem amt32 {k : Int32} {m : Nat} (hk : k.toBitVec.toNat = m) (hm : m < 32) : (k.toBitVec.smod 32).toNat = m := by
  have : k.toBitVec = BitVec.ofNat 32 m := BitVec.eq_of_toNat_eq (by rw [hk, BitVec.toNat_ofNat]; omega)
  rw [this]; exact sm32 ⟨m, hm⟩
theorem amt64 {k : Int64} {m : Nat} (hk : k.toBitVec.toNat = m) (hm : m < 64) : (k.toBitVec.smod 64).toNat = m := by
  have : k.toBitVec = BitVec.ofNat 64 m := BitVec.eq_of_toNat_eq (by rw [hk, BitVec.toNat_ofNat]; omega)
  rw [this]; exact sm64 ⟨m, hm⟩
theorem shl_bit {x k : Int32} {m : Nat} (hk : k.toBitVec.toNat = m) (hm : m < 32) (i : Nat) : (x <<< k).toBitVec.getLsbD i = (decide (i < 32) && !decide (i < m) && x.toBitVec.getLsbD (i - m)) := by
  show (x.toBitVec <<< (k.toBitVec.smod 32)).getLsbD i = _
  rw [BitVec.shiftLeft_eq', amt32 hk hm, BitVec.getLsbD_shiftLeft]
theorem shlL_bit {x k : Int64} {m : Nat} (hk : k.toBitVec.toNat = m) (hm : m < 64) (i : Nat) : (x <<< k).toBitVec.getLsbD i = (decide (i < 64) && !decide (i < m) && x.toBitVec.getLsbD (i - m)) := by
  show (x.toBitVec <<< (k.toBitVec.smod 64)).getLsbD i = _
  rw [BitVec.shiftLeft_eq', amt64 hk hm, BitVec.getLsbD_shiftLeft]
theorem ushr_bit {v k : Int32} {m : Nat} (hk : (k &&& 31).toBitVec.toNat = m) (i : Nat) : (XT.ushr v k).toBitVec.getLsbD i = v.toBitVec.getLsbD (m + i) := by
  have hm : m < 32 := by
    subst hk
    have : (k &&& 31).toBitVec = k.toBitVec &&& 31#32 := rfl
    rw [this, BitVec.toNat_and]
    exact Nat.lt_of_le_of_lt Nat.and_le_right (by decide)
  show (v.toBitVec >>> ((k &&& 31).toBitVec % 32)).getLsbD i = _
  have h2 : ((k &&& 31).toBitVec % 32).toNat = m := by rw [BitVec.toNat_umod, hk]; exact Nat.mod_eq_of_lt hm
  rw [BitVec.ushiftRight_eq', h2, BitVec.getLsbD_ushiftRight]
theorem ushrL_bit {v : Int64} {k : Int32} {m : Nat} (hk : (k.toInt64 &&& 63).toBitVec.toNat = m) (i : Nat) : (XT.ushrL v k).toBitVec.getLsbD i = v.toBitVec.getLsbD (m + i) := by
  have hm : m < 64 := by
    subst hk
    have : (k.toInt64 &&& 63).toBitVec = k.toInt64.toBitVec &&& 63#64 := rfl
    rw [this, BitVec.toNat_and]
    exact Nat.lt_of_le_of_lt Nat.and_le_right (by decide)
  show (v.toBitVec >>> ((k.toInt64 &&& 63).toBitVec % 64)).getLsbD i = _
  have h2 : ((k.toInt64 &&& 63).toBitVec % 64).toNat = m := by rw [BitVec.toNat_umod, hk]; exact Nat.mod_eq_of_lt hm
  rw [BitVec.ushiftRight_eq', h2, BitVec.getLsbD_ushiftRight]
theorem byte_bit (x : Int32) (i : Nat) : (x.toInt8.toInt32).toBitVec.getLsbD i = (decide (i < 32) && x.toBitVec.getLsbD (if i < 8 then i else 7)) := by
  show ((x.toBitVec.signExtend 8).signExtend 32).getLsbD i = _
  rw [BitVec.getLsbD_signExtend, BitVec.msb_eq_getLsbD_last, BitVec.getLsbD_signExtend, BitVec.getLsbD_signExtend]
  by_cases h : i < 8
  · simp [h, show i < 32 by omega]
  · simp [h]
theorem and_bit (x y : Int32) (i : Nat) : (x &&& y).toBitVec.getLsbD i = (x.toBitVec.getLsbD i && y.toBitVec.getLsbD i) := BitVec.getLsbD_and
theorem or_bit (x y : Int32) (i : Nat) : (x ||| y).toBitVec.getLsbD i = (x.toBitVec.getLsbD i || y.toBitVec.getLsbD i) := BitVec.getLsbD_or
theorem andL_bit (x y : Int64) (i : Nat) : (x &&& y).toBitVec.getLsbD i = (x.toBitVec.getLsbD i && y.toBitVec.getLsbD i) := BitVec.getLsbD_and
theorem orL_bit (x y : Int64) (i : Nat) : (x ||| y).toBitVec.getLsbD i = (x.toBitVec.getLsbD i || y.toBitVec.getLsbD i) := BitVec.getLsbD_or
theorem i2l_bit (x : Int32) (i : Nat) : x.toInt64.toBitVec.getLsbD i = (decide (i < 64) && x.toBitVec.getLsbD (if i < 32 then i else 31)) := by
  show (x.toBitVec.signExtend 64).getLsbD i = _
  rw [BitVec.getLsbD_signExtend, BitVec.msb_eq_getLsbD_last]
  by_cases h : i < 32 <;> simp [h]
theorem l2i_bit (x : Int64) (i : Nat) : x.toInt32.toBitVec.getLsbD i = (decide (i < 32) && x.toBitVec.getLsbD i) := by
  show (x.toBitVec.signExtend 32).getLsbD i = _
  rw [BitVec.getLsbD_signExtend]
  by_cases h : i < 32
  · simp [h, show i < 64 by omega]
  · simp [h]
theorem lit_bit (m i : Nat) : (Int32.ofNat m).toBitVec.getLsbD i = (decide (i < 32) && m.testBit i) := by
  show (BitVec.ofNat 32 m).getLsbD i = _
  rw [BitVec.getLsbD_ofNat]
theorem litL_bit (m i : Nat) : (Int64.ofNat m).toBitVec.getLsbD i = (decide (i < 64) && m.testBit i) := by
  show (BitVec.ofNat 64 m).getLsbD i = _
  rw [BitVec.getLsbD_ofNat]
theorem m255 (i : Nat) : (255 : Int32).toBitVec.getLsbD i = decide (i < 8) := by
  have : (255 : Int32) = Int32.ofNat (2 ^ 8 - 1) := rfl
  rw [this, lit_bit, Nat.testBit_two_pow_sub_one]
  by_cases h : i < 8 <;> simp [h]; omega
theorem and_nat (x y : Int32) (m : Nat) (hy : y.toBitVec.toNat = m) : (x &&& y).toBitVec.toNat ≤ m := by
  show (x.toBitVec &&& y.toBitVec).toNat ≤ m
  rw [BitVec.toNat_and, hy]; exact Nat.and_le_right
theorem of_nat32 {x : Int32} {m : Nat} (h : x.toBitVec.toNat = m) : x = Int32.ofNat m := by
  apply Int32.toBitVec_inj.mp
  apply BitVec.eq_of_toNat_eq
  show _ = (BitVec.ofNat 32 m).toNat
  rw [BitVec.toNat_ofNat, h]
  have := x.toBitVec.isLt
  omega
theorem and_three (x : Int32) : x &&& 3 = 0 ∨ x &&& 3 = 1 ∨ x &&& 3 = 2 ∨ x &&& 3 = 3 := by
  have h := and_nat x 3 3 rfl
  have hc : (x &&& 3).toBitVec.toNat = 0 ∨ (x &&& 3).toBitVec.toNat = 1 ∨ (x &&& 3).toBitVec.toNat = 2 ∨ (x &&& 3).toBitVec.toNat = 3 := by omega
  rcases hc with q | q | q | q
  · exact Or.inl (of_nat32 q)
  · exact Or.inr (Or.inl (of_nat32 q))
  · exact Or.inr (Or.inr (Or.inl (of_nat32 q)))
  · exact Or.inr (Or.inr (Or.inr (of_nat32 q)))
theorem nar_byte (y : Int32) : nar .byte (y.toInt8.toInt32) = y.toInt8.toInt32 := by
  show y.toInt8.toInt32.toInt8.toInt32 = y.toInt8.toInt32
  simp
theorem ushr_zero (x : Int32) (k : Int32) (hk : (k &&& 31).toBitVec.toNat = 0) : XT.ushr x k = x := bx32 fun i _ => by rw [ushr_bit hk, Nat.zero_add]
theorem rem_nat (x d : Int32) (m : Nat) (hx : 0 ≤ x.toInt) (hd : d.toInt = m) (hm : 0 < m) (hb : m < 2 ^ 31) : ∃ k, k < m ∧ x % d = Int32.ofNat k := by
  have h1 : (x % d).toInt = x.toInt % m := by rw [Int32.toInt_mod, hd, Int.tmod_eq_emod_of_nonneg hx]
  have h2 := Int.emod_nonneg x.toInt (show (m : Int) ≠ 0 by omega)
  have h3 := Int.emod_lt_of_pos x.toInt (show (0 : Int) < m by omega)
  refine ⟨(x.toInt % m).toNat, by omega, ?_⟩
  apply Int32.toInt_inj.mp
  rw [h1, Int32.toInt_ofNat_of_lt (by omega)]
  omega
end Jvm.OwnW
namespace Jvm.Pilot.@@N@@
open Jvm Jvm.ClassFile Sem Op Lib Jvm.Free Jvm.Stand Jvm.LawKit Jvm.RoadKit Bundle Jvm.Pilot.@@N@@.Jvm.D Jvm.OwnW

theorem wd {c : Jvm.Cond} (k : Nat) (h : tables_1[k]? = some c) : c ∈ tables_1 := List.mem_of_getElem? h
def m0 : Meth := (x, code, maxLocals, ret, room_1)
def m1 : Meth := (⟨"org/tourney/ValueGraph", "<init>", "(II)V"⟩, prog_61_method_1_code, 4, none, { frames := 1, cells := 20, slots := 218, locals := 23 })
def m3 : Meth := (⟨"java/util/Arrays", "fill", "([II)V"⟩, jdk_65_method_103_code, 4, none, { frames := 0, cells := 0, slots := 0, locals := 0 })
def m4 : Meth := (⟨"java/lang/Math", "max", "(II)I"⟩, jdk_29_method_65_code, 2, some .int, { frames := 0, cells := 0, slots := 0, locals := 0 })
def m5 : Meth := (⟨"org/tourney/ValueGraph", "open", "(I)V"⟩, prog_61_method_3_code, 2, none, { frames := 0, cells := 0, slots := 0, locals := 0 })
def m6 : Meth := (⟨"org/tourney/ValueGraph", "openCount", "()I"⟩, prog_61_method_6_code, 1, some .int, { frames := 0, cells := 0, slots := 0, locals := 0 })
def m7 : Meth := (⟨"org/tourney/ValueGraph", "openPosition", "(I)I"⟩, prog_61_method_7_code, 2, some .int, { frames := 0, cells := 0, slots := 0, locals := 0 })
def m8 : Meth := (⟨"org/tourney/ValueGraph", "firstEdge", "(I)I"⟩, prog_61_method_8_code, 2, some .int, { frames := 0, cells := 0, slots := 0, locals := 0 })
def m9 : Meth := (⟨"org/tourney/ValueGraph", "endEdge", "(I)I"⟩, prog_61_method_9_code, 2, some .int, { frames := 0, cells := 0, slots := 0, locals := 0 })
def m10 : Meth := (⟨"org/tourney/ValueGraph", "addEdge", "(I)I"⟩, prog_61_method_4_code, 3, some .int, { frames := 0, cells := 0, slots := 0, locals := 0 })
theorem d0_0 : D m0 0 (.iload_n 0) 1 1 := ⟨by decide +kernel, rfl⟩
theorem d0_1 : D m0 1 (.bipush 7) 2 3 := ⟨by decide +kernel, rfl⟩
theorem d0_3 : D m0 3 (.iand) 1 4 := ⟨by decide +kernel, rfl⟩
theorem d0_4 : D m0 4 (.iconst 2) 1 5 := ⟨by decide +kernel, rfl⟩
theorem d0_5 : D m0 5 (.iadd) 1 6 := ⟨by decide +kernel, rfl⟩
theorem d0_6 : D m0 6 (.istore 5) 2 8 := ⟨by decide +kernel, rfl⟩
theorem d0_8 : D m0 8 (.iload_n 1) 1 9 := ⟨by decide +kernel, rfl⟩
theorem d0_9 : D m0 9 (.ldc 7) 2 11 := ⟨by decide +kernel, rfl⟩
theorem d0_11 : D m0 11 (.iand) 1 12 := ⟨by decide +kernel, rfl⟩
theorem d0_12 : D m0 12 (.iload 5) 2 14 := ⟨by decide +kernel, rfl⟩
theorem d0_14 : D m0 14 (.irem) 1 15 := ⟨by decide +kernel, rfl⟩
theorem d0_15 : D m0 15 (.istore 6) 2 17 := ⟨by decide +kernel, rfl⟩
theorem d0_17 : D m0 17 (.iload 6) 2 19 := ⟨by decide +kernel, rfl⟩
theorem d0_19 : D m0 19 (.iconst 1) 1 20 := ⟨by decide +kernel, rfl⟩
theorem d0_20 : D m0 20 (.iadd) 1 21 := ⟨by decide +kernel, rfl⟩
theorem d0_21 : D m0 21 (.iload_n 2) 1 22 := ⟨by decide +kernel, rfl⟩
theorem d0_22 : D m0 22 (.ldc 7) 2 24 := ⟨by decide +kernel, rfl⟩
theorem d0_24 : D m0 24 (.iand) 1 25 := ⟨by decide +kernel, rfl⟩
theorem d0_25 : D m0 25 (.iload 5) 2 27 := ⟨by decide +kernel, rfl⟩
theorem d0_27 : D m0 27 (.iconst 1) 1 28 := ⟨by decide +kernel, rfl⟩
theorem d0_28 : D m0 28 (.isub) 1 29 := ⟨by decide +kernel, rfl⟩
theorem d0_29 : D m0 29 (.irem) 1 30 := ⟨by decide +kernel, rfl⟩
theorem d0_30 : D m0 30 (.iadd) 1 31 := ⟨by decide +kernel, rfl⟩
theorem d0_31 : D m0 31 (.iload 5) 2 33 := ⟨by decide +kernel, rfl⟩
theorem d0_33 : D m0 33 (.irem) 1 34 := ⟨by decide +kernel, rfl⟩
theorem d0_34 : D m0 34 (.istore 7) 2 36 := ⟨by decide +kernel, rfl⟩
theorem d0_36 : D m0 36 (.iload_n 3) 1 37 := ⟨by decide +kernel, rfl⟩
theorem d0_37 : D m0 37 (.iconst 3) 1 38 := ⟨by decide +kernel, rfl⟩
theorem d0_38 : D m0 38 (.iand) 1 39 := ⟨by decide +kernel, rfl⟩
theorem d0_39 : D m0 39 (.istore 8) 2 41 := ⟨by decide +kernel, rfl⟩
theorem d0_41 : D m0 41 (.iload 4) 2 43 := ⟨by decide +kernel, rfl⟩
theorem d0_43 : D m0 43 (.iconst 1) 1 44 := ⟨by decide +kernel, rfl⟩
theorem d0_44 : D m0 44 (.iand) 1 45 := ⟨by decide +kernel, rfl⟩
theorem d0_45 : DB m0 45 (.ifCond .eq 7) 7 48 52 := ⟨by decide +kernel, rfl, by decide, by decide⟩
theorem d0_48 : D m0 48 (.iconst 1) 1 49 := ⟨by decide +kernel, rfl⟩
theorem d0_49 : DB m0 49 (.goto 4) 4 52 53 := ⟨by decide +kernel, rfl, by decide, by decide⟩
theorem d0_52 : D m0 52 (.iconst 0) 1 53 := ⟨by decide +kernel, rfl⟩
theorem d0_53 : D m0 53 (.istore 9) 2 55 := ⟨by decide +kernel, rfl⟩
theorem d0_55 : D m0 55 (.iload 4) 2 57 := ⟨by decide +kernel, rfl⟩
theorem d0_57 : D m0 57 (.iconst 2) 1 58 := ⟨by decide +kernel, rfl⟩
theorem d0_58 : D m0 58 (.iand) 1 59 := ⟨by decide +kernel, rfl⟩
theorem d0_59 : DB m0 59 (.ifCond .eq 7) 7 62 66 := ⟨by decide +kernel, rfl, by decide, by decide⟩
theorem d0_62 : D m0 62 (.iconst 1) 1 63 := ⟨by decide +kernel, rfl⟩
theorem d0_63 : DB m0 63 (.goto 4) 4 66 67 := ⟨by decide +kernel, rfl, by decide, by decide⟩
theorem d0_66 : D m0 66 (.iconst 0) 1 67 := ⟨by decide +kernel, rfl⟩
theorem d0_67 : D m0 67 (.istore 10) 2 69 := ⟨by decide +kernel, rfl⟩
theorem d0_69 : D m0 69 (.new 8) 3 72 := ⟨by decide +kernel, rfl⟩
theorem d0_72 : D m0 72 (.dup) 1 73 := ⟨by decide +kernel, rfl⟩
theorem d0_73 : D m0 73 (.iload 5) 2 75 := ⟨by decide +kernel, rfl⟩
theorem d0_75 : D m0 75 (.iconst 4) 1 76 := ⟨by decide +kernel, rfl⟩
theorem d0_76 : D m0 76 (.invokespecial 10) 3 79 := ⟨by decide +kernel, rfl⟩
theorem d0_79 : D m0 79 (.astore 11) 2 81 := ⟨by decide +kernel, rfl⟩
theorem d0_81 : D m0 81 (.aload 11) 2 83 := ⟨by decide +kernel, rfl⟩
theorem d0_83 : D m0 83 (.iload 6) 2 85 := ⟨by decide +kernel, rfl⟩
theorem d0_85 : D m0 85 (.invokevirtual 13) 3 88 := ⟨by decide +kernel, rfl⟩
theorem d0_88 : D m0 88 (.iload 9) 2 90 := ⟨by decide +kernel, rfl⟩
theorem d0_90 : DB m0 90 (.ifCond .eq 11) 11 93 101 := ⟨by decide +kernel, rfl, by decide, by decide⟩
theorem d0_93 : D m0 93 (.aload 11) 2 95 := ⟨by decide +kernel, rfl⟩
theorem d0_95 : D m0 95 (.iload 8) 2 97 := ⟨by decide +kernel, rfl⟩
theorem d0_97 : D m0 97 (.invokevirtual 17) 3 100 := ⟨by decide +kernel, rfl⟩
theorem d0_100 : D m0 100 (.pop) 1 101 := ⟨by decide +kernel, rfl⟩
theorem d0_101 : D m0 101 (.iload 9) 2 103 := ⟨by decide +kernel, rfl⟩
theorem d0_103 : DB m0 103 (.ifCond .eq 7) 7 106 110 := ⟨by decide +kernel, rfl, by decide, by decide⟩
theorem d0_106 : D m0 106 (.iconst 1) 1 107 := ⟨by decide +kernel, rfl⟩
theorem d0_107 : DB m0 107 (.goto 4) 4 110 111 := ⟨by decide +kernel, rfl, by decide, by decide⟩
theorem d0_110 : D m0 110 (.iconst 0) 1 111 := ⟨by decide +kernel, rfl⟩
theorem d0_111 : D m0 111 (.istore 12) 2 113 := ⟨by decide +kernel, rfl⟩
theorem d0_113 : D m0 113 (.aload 11) 2 115 := ⟨by decide +kernel, rfl⟩
theorem d0_115 : D m0 115 (.iload 7) 2 117 := ⟨by decide +kernel, rfl⟩
theorem d0_117 : D m0 117 (.invokevirtual 13) 3 120 := ⟨by decide +kernel, rfl⟩
theorem d0_120 : D m0 120 (.iload 10) 2 122 := ⟨by decide +kernel, rfl⟩
theorem d0_122 : DB m0 122 (.ifCond .eq 13) 13 125 135 := ⟨by decide +kernel, rfl, by decide, by decide⟩
theorem d0_125 : D m0 125 (.aload 11) 2 127 := ⟨by decide +kernel, rfl⟩
theorem d0_127 : D m0 127 (.iload 8) 2 129 := ⟨by decide +kernel, rfl⟩
theorem d0_129 : D m0 129 (.iconst 1) 1 130 := ⟨by decide +kernel, rfl⟩
theorem d0_130 : D m0 130 (.ixor) 1 131 := ⟨by decide +kernel, rfl⟩
theorem d0_131 : D m0 131 (.invokevirtual 17) 3 134 := ⟨by decide +kernel, rfl⟩
theorem d0_134 : D m0 134 (.pop) 1 135 := ⟨by decide +kernel, rfl⟩
theorem d0_135 : D m0 135 (.iload 12) 2 137 := ⟨by decide +kernel, rfl⟩
theorem d0_137 : D m0 137 (.iload 10) 2 139 := ⟨by decide +kernel, rfl⟩
theorem d0_139 : DB m0 139 (.ifCond .eq 7) 7 142 146 := ⟨by decide +kernel, rfl, by decide, by decide⟩
theorem d0_142 : D m0 142 (.iconst 1) 1 143 := ⟨by decide +kernel, rfl⟩
theorem d0_143 : DB m0 143 (.goto 4) 4 146 147 := ⟨by decide +kernel, rfl, by decide, by decide⟩
theorem d0_146 : D m0 146 (.iconst 0) 1 147 := ⟨by decide +kernel, rfl⟩
theorem d0_147 : D m0 147 (.iadd) 1 148 := ⟨by decide +kernel, rfl⟩
theorem d0_148 : D m0 148 (.istore 13) 2 150 := ⟨by decide +kernel, rfl⟩
theorem d0_150 : D m0 150 (.aload 11) 2 152 := ⟨by decide +kernel, rfl⟩
theorem d0_152 : D m0 152 (.invokevirtual 21) 3 155 := ⟨by decide +kernel, rfl⟩
theorem d0_155 : D m0 155 (.iconst 2) 1 156 := ⟨by decide +kernel, rfl⟩
theorem d0_156 : DB m0 156 (.if_icmp .ne 75) 75 159 231 := ⟨by decide +kernel, rfl, by decide, by decide⟩
theorem d0_159 : D m0 159 (.aload 11) 2 161 := ⟨by decide +kernel, rfl⟩
theorem d0_161 : D m0 161 (.iconst 0) 1 162 := ⟨by decide +kernel, rfl⟩
theorem d0_162 : D m0 162 (.invokevirtual 25) 3 165 := ⟨by decide +kernel, rfl⟩
theorem d0_165 : D m0 165 (.iload 6) 2 167 := ⟨by decide +kernel, rfl⟩
theorem d0_167 : DB m0 167 (.if_icmp .ne 64) 64 170 231 := ⟨by decide +kernel, rfl, by decide, by decide⟩
theorem d0_170 : D m0 170 (.aload 11) 2 172 := ⟨by decide +kernel, rfl⟩
theorem d0_172 : D m0 172 (.iconst 1) 1 173 := ⟨by decide +kernel, rfl⟩
theorem d0_173 : D m0 173 (.invokevirtual 25) 3 176 := ⟨by decide +kernel, rfl⟩
theorem d0_176 : D m0 176 (.iload 7) 2 178 := ⟨by decide +kernel, rfl⟩
theorem d0_178 : DB m0 178 (.if_icmp .ne 53) 53 181 231 := ⟨by decide +kernel, rfl, by decide, by decide⟩
theorem d0_181 : D m0 181 (.aload 11) 2 183 := ⟨by decide +kernel, rfl⟩
theorem d0_183 : D m0 183 (.iload 7) 2 185 := ⟨by decide +kernel, rfl⟩
theorem d0_185 : D m0 185 (.invokevirtual 28) 3 188 := ⟨by decide +kernel, rfl⟩
theorem d0_188 : D m0 188 (.iload 12) 2 190 := ⟨by decide +kernel, rfl⟩
theorem d0_190 : DB m0 190 (.if_icmp .ne 41) 41 193 231 := ⟨by decide +kernel, rfl, by decide, by decide⟩
theorem d0_193 : D m0 193 (.aload 11) 2 195 := ⟨by decide +kernel, rfl⟩
theorem d0_195 : D m0 195 (.iload 7) 2 197 := ⟨by decide +kernel, rfl⟩
theorem d0_197 : D m0 197 (.invokevirtual 31) 3 200 := ⟨by decide +kernel, rfl⟩
theorem d0_200 : D m0 200 (.iload 13) 2 202 := ⟨by decide +kernel, rfl⟩
theorem d0_202 : DB m0 202 (.if_icmp .ne 29) 29 205 231 := ⟨by decide +kernel, rfl, by decide, by decide⟩
theorem d0_205 : D m0 205 (.aload 11) 2 207 := ⟨by decide +kernel, rfl⟩
theorem d0_207 : D m0 207 (.iload 6) 2 209 := ⟨by decide +kernel, rfl⟩
theorem d0_209 : D m0 209 (.invokevirtual 28) 3 212 := ⟨by decide +kernel, rfl⟩
theorem d0_212 : DB m0 212 (.ifCond .ne 19) 19 215 231 := ⟨by decide +kernel, rfl, by decide, by decide⟩
theorem d0_215 : D m0 215 (.aload 11) 2 217 := ⟨by decide +kernel, rfl⟩
theorem d0_217 : D m0 217 (.iload 6) 2 219 := ⟨by decide +kernel, rfl⟩
theorem d0_219 : D m0 219 (.invokevirtual 31) 3 222 := ⟨by decide +kernel, rfl⟩
theorem d0_222 : D m0 222 (.iload 12) 2 224 := ⟨by decide +kernel, rfl⟩
theorem d0_224 : DB m0 224 (.if_icmp .ne 7) 7 227 231 := ⟨by decide +kernel, rfl, by decide, by decide⟩
theorem d0_227 : D m0 227 (.iconst 1) 1 228 := ⟨by decide +kernel, rfl⟩
theorem d0_228 : DB m0 228 (.goto 4) 4 231 232 := ⟨by decide +kernel, rfl, by decide, by decide⟩
theorem d0_231 : D m0 231 (.iconst 0) 1 232 := ⟨by decide +kernel, rfl⟩
theorem d0_232 : D m0 232 (.istore 14) 2 234 := ⟨by decide +kernel, rfl⟩
theorem d0_234 : D m0 234 (.iload 14) 2 236 := ⟨by decide +kernel, rfl⟩
theorem d0_236 : D m0 236 (.ireturn) 1 237 := ⟨by decide +kernel, rfl⟩
theorem d1_0 : D m1 0 (.aload_n 0) 1 1 := ⟨by decide +kernel, rfl⟩
theorem d1_1 : D m1 1 (.invokespecial 1) 3 4 := ⟨by decide +kernel, rfl⟩
theorem d1_4 : D m1 4 (.aload_n 0) 1 5 := ⟨by decide +kernel, rfl⟩
theorem d1_5 : D m1 5 (.iload_n 1) 1 6 := ⟨by decide +kernel, rfl⟩
theorem d1_6 : D m1 6 (.putfield 7) 3 9 := ⟨by decide +kernel, rfl⟩
theorem d1_9 : D m1 9 (.aload_n 0) 1 10 := ⟨by decide +kernel, rfl⟩
theorem d1_10 : D m1 10 (.iload_n 2) 1 11 := ⟨by decide +kernel, rfl⟩
theorem d1_11 : D m1 11 (.putfield 13) 3 14 := ⟨by decide +kernel, rfl⟩
theorem d1_14 : D m1 14 (.aload_n 0) 1 15 := ⟨by decide +kernel, rfl⟩
theorem d1_15 : D m1 15 (.iload_n 1) 1 16 := ⟨by decide +kernel, rfl⟩
theorem d1_16 : D m1 16 (.newarray .int) 2 18 := ⟨by decide +kernel, rfl⟩
theorem d1_18 : D m1 18 (.putfield 16) 3 21 := ⟨by decide +kernel, rfl⟩
theorem d1_21 : D m1 21 (.aload_n 0) 1 22 := ⟨by decide +kernel, rfl⟩
theorem d1_22 : D m1 22 (.iload_n 2) 1 23 := ⟨by decide +kernel, rfl⟩
theorem d1_23 : D m1 23 (.newarray .int) 2 25 := ⟨by decide +kernel, rfl⟩
theorem d1_25 : D m1 25 (.putfield 20) 3 28 := ⟨by decide +kernel, rfl⟩
theorem d1_28 : D m1 28 (.aload_n 0) 1 29 := ⟨by decide +kernel, rfl⟩
theorem d1_29 : D m1 29 (.getfield 16) 3 32 := ⟨by decide +kernel, rfl⟩
theorem d1_32 : D m1 32 (.iconst (-1)) 1 33 := ⟨by decide +kernel, rfl⟩
theorem d1_33 : D m1 33 (.invokestatic 23) 3 36 := ⟨by decide +kernel, rfl⟩
theorem d1_36 : D m1 36 (.aload_n 0) 1 37 := ⟨by decide +kernel, rfl⟩
theorem d1_37 : D m1 37 (.getfield 20) 3 40 := ⟨by decide +kernel, rfl⟩
theorem d1_40 : D m1 40 (.iconst (-1)) 1 41 := ⟨by decide +kernel, rfl⟩
theorem d1_41 : D m1 41 (.invokestatic 23) 3 44 := ⟨by decide +kernel, rfl⟩
theorem d1_44 : D m1 44 (.aload_n 0) 1 45 := ⟨by decide +kernel, rfl⟩
theorem d1_45 : D m1 45 (.iload_n 1) 1 46 := ⟨by decide +kernel, rfl⟩
theorem d1_46 : D m1 46 (.newarray .int) 2 48 := ⟨by decide +kernel, rfl⟩
theorem d1_48 : D m1 48 (.putfield 29) 3 51 := ⟨by decide +kernel, rfl⟩
theorem d1_51 : D m1 51 (.aload_n 0) 1 52 := ⟨by decide +kernel, rfl⟩
theorem d1_52 : D m1 52 (.iload_n 1) 1 53 := ⟨by decide +kernel, rfl⟩
theorem d1_53 : D m1 53 (.newarray .int) 2 55 := ⟨by decide +kernel, rfl⟩
theorem d1_55 : D m1 55 (.putfield 32) 3 58 := ⟨by decide +kernel, rfl⟩
theorem d1_58 : D m1 58 (.aload_n 0) 1 59 := ⟨by decide +kernel, rfl⟩
theorem d1_59 : D m1 59 (.iload_n 1) 1 60 := ⟨by decide +kernel, rfl⟩
theorem d1_60 : D m1 60 (.newarray .int) 2 62 := ⟨by decide +kernel, rfl⟩
theorem d1_62 : D m1 62 (.putfield 35) 3 65 := ⟨by decide +kernel, rfl⟩
theorem d1_65 : D m1 65 (.aload_n 0) 1 66 := ⟨by decide +kernel, rfl⟩
theorem d1_66 : D m1 66 (.bipush 16) 2 68 := ⟨by decide +kernel, rfl⟩
theorem d1_68 : D m1 68 (.iload_n 1) 1 69 := ⟨by decide +kernel, rfl⟩
theorem d1_69 : D m1 69 (.invokestatic 38) 3 72 := ⟨by decide +kernel, rfl⟩
theorem d1_72 : D m1 72 (.newarray .int) 2 74 := ⟨by decide +kernel, rfl⟩
theorem d1_74 : D m1 74 (.putfield 44) 3 77 := ⟨by decide +kernel, rfl⟩
theorem d1_77 : D m1 77 (.aload_n 0) 1 78 := ⟨by decide +kernel, rfl⟩
theorem d1_78 : D m1 78 (.iload_n 1) 1 79 := ⟨by decide +kernel, rfl⟩
theorem d1_79 : D m1 79 (.newarray .boolean) 2 81 := ⟨by decide +kernel, rfl⟩
theorem d1_81 : D m1 81 (.putfield 47) 3 84 := ⟨by decide +kernel, rfl⟩
theorem d1_84 : D m1 84 (.aload_n 0) 1 85 := ⟨by decide +kernel, rfl⟩
theorem d1_85 : D m1 85 (.iload_n 2) 1 86 := ⟨by decide +kernel, rfl⟩
theorem d1_86 : D m1 86 (.newarray .int) 2 88 := ⟨by decide +kernel, rfl⟩
theorem d1_88 : D m1 88 (.putfield 51) 3 91 := ⟨by decide +kernel, rfl⟩
theorem d1_91 : D m1 91 (.aload_n 0) 1 92 := ⟨by decide +kernel, rfl⟩
theorem d1_92 : D m1 92 (.iload_n 1) 1 93 := ⟨by decide +kernel, rfl⟩
theorem d1_93 : D m1 93 (.newarray .int) 2 95 := ⟨by decide +kernel, rfl⟩
theorem d1_95 : D m1 95 (.putfield 54) 3 98 := ⟨by decide +kernel, rfl⟩
theorem d1_98 : D m1 98 (.aload_n 0) 1 99 := ⟨by decide +kernel, rfl⟩
theorem d1_99 : D m1 99 (.iload_n 1) 1 100 := ⟨by decide +kernel, rfl⟩
theorem d1_100 : D m1 100 (.newarray .int) 2 102 := ⟨by decide +kernel, rfl⟩
theorem d1_102 : D m1 102 (.putfield 57) 3 105 := ⟨by decide +kernel, rfl⟩
theorem d1_105 : D m1 105 (.aload_n 0) 1 106 := ⟨by decide +kernel, rfl⟩
theorem d1_106 : D m1 106 (.iload_n 1) 1 107 := ⟨by decide +kernel, rfl⟩
theorem d1_107 : D m1 107 (.newarray .int) 2 109 := ⟨by decide +kernel, rfl⟩
theorem d1_109 : D m1 109 (.putfield 60) 3 112 := ⟨by decide +kernel, rfl⟩
theorem d1_112 : D m1 112 (.aload_n 0) 1 113 := ⟨by decide +kernel, rfl⟩
theorem d1_113 : D m1 113 (.iload_n 1) 1 114 := ⟨by decide +kernel, rfl⟩
theorem d1_114 : D m1 114 (.iconst 1) 1 115 := ⟨by decide +kernel, rfl⟩
theorem d1_115 : D m1 115 (.iadd) 1 116 := ⟨by decide +kernel, rfl⟩
theorem d1_116 : D m1 116 (.newarray .int) 2 118 := ⟨by decide +kernel, rfl⟩
theorem d1_118 : D m1 118 (.putfield 63) 3 121 := ⟨by decide +kernel, rfl⟩
theorem d1_121 : D m1 121 (.iload_n 1) 1 122 := ⟨by decide +kernel, rfl⟩
theorem d1_122 : D m1 122 (.iload_n 2) 1 123 := ⟨by decide +kernel, rfl⟩
theorem d1_123 : D m1 123 (.iadd) 1 124 := ⟨by decide +kernel, rfl⟩
theorem d1_124 : D m1 124 (.iconst 1) 1 125 := ⟨by decide +kernel, rfl⟩
theorem d1_125 : D m1 125 (.iadd) 1 126 := ⟨by decide +kernel, rfl⟩
theorem d1_126 : D m1 126 (.istore_n 3) 1 127 := ⟨by decide +kernel, rfl⟩
theorem d1_127 : D m1 127 (.aload_n 0) 1 128 := ⟨by decide +kernel, rfl⟩
theorem d1_128 : D m1 128 (.iload_n 3) 1 129 := ⟨by decide +kernel, rfl⟩
theorem d1_129 : D m1 129 (.newarray .int) 2 131 := ⟨by decide +kernel, rfl⟩
theorem d1_131 : D m1 131 (.putfield 66) 3 134 := ⟨by decide +kernel, rfl⟩
theorem d1_134 : D m1 134 (.aload_n 0) 1 135 := ⟨by decide +kernel, rfl⟩
theorem d1_135 : D m1 135 (.iload_n 3) 1 136 := ⟨by decide +kernel, rfl⟩
theorem d1_136 : D m1 136 (.newarray .int) 2 138 := ⟨by decide +kernel, rfl⟩
theorem d1_138 : D m1 138 (.putfield 69) 3 141 := ⟨by decide +kernel, rfl⟩
theorem d1_141 : D m1 141 (.aload_n 0) 1 142 := ⟨by decide +kernel, rfl⟩
theorem d1_142 : D m1 142 (.iload_n 3) 1 143 := ⟨by decide +kernel, rfl⟩
theorem d1_143 : D m1 143 (.newarray .int) 2 145 := ⟨by decide +kernel, rfl⟩
theorem d1_145 : D m1 145 (.putfield 72) 3 148 := ⟨by decide +kernel, rfl⟩
theorem d1_148 : D m1 148 (.aload_n 0) 1 149 := ⟨by decide +kernel, rfl⟩
theorem d1_149 : D m1 149 (.iload_n 3) 1 150 := ⟨by decide +kernel, rfl⟩
theorem d1_150 : D m1 150 (.newarray .int) 2 152 := ⟨by decide +kernel, rfl⟩
theorem d1_152 : D m1 152 (.putfield 75) 3 155 := ⟨by decide +kernel, rfl⟩
theorem d1_155 : D m1 155 (.aload_n 0) 1 156 := ⟨by decide +kernel, rfl⟩
theorem d1_156 : D m1 156 (.iload_n 3) 1 157 := ⟨by decide +kernel, rfl⟩
theorem d1_157 : D m1 157 (.newarray .boolean) 2 159 := ⟨by decide +kernel, rfl⟩
theorem d1_159 : D m1 159 (.putfield 78) 3 162 := ⟨by decide +kernel, rfl⟩
theorem d1_162 : D m1 162 (.aload_n 0) 1 163 := ⟨by decide +kernel, rfl⟩
theorem d1_163 : D m1 163 (.iload_n 3) 1 164 := ⟨by decide +kernel, rfl⟩
theorem d1_164 : D m1 164 (.newarray .int) 2 166 := ⟨by decide +kernel, rfl⟩
theorem d1_166 : D m1 166 (.putfield 81) 3 169 := ⟨by decide +kernel, rfl⟩
theorem d1_169 : D m1 169 (.aload_n 0) 1 170 := ⟨by decide +kernel, rfl⟩
theorem d1_170 : D m1 170 (.iload_n 3) 1 171 := ⟨by decide +kernel, rfl⟩
theorem d1_171 : D m1 171 (.newarray .int) 2 173 := ⟨by decide +kernel, rfl⟩
theorem d1_173 : D m1 173 (.putfield 84) 3 176 := ⟨by decide +kernel, rfl⟩
theorem d1_176 : D m1 176 (.aload_n 0) 1 177 := ⟨by decide +kernel, rfl⟩
theorem d1_177 : D m1 177 (.iload_n 3) 1 178 := ⟨by decide +kernel, rfl⟩
theorem d1_178 : D m1 178 (.newarray .int) 2 180 := ⟨by decide +kernel, rfl⟩
theorem d1_180 : D m1 180 (.putfield 87) 3 183 := ⟨by decide +kernel, rfl⟩
theorem d1_183 : D m1 183 (.return_) 1 184 := ⟨by decide +kernel, rfl⟩
theorem d3_0 : D m3 0 (.iconst 0) 1 1 := ⟨by decide +kernel, rfl⟩
theorem d3_1 : D m3 1 (.istore_n 2) 1 2 := ⟨by decide +kernel, rfl⟩
theorem d3_2 : D m3 2 (.aload_n 0) 1 3 := ⟨by decide +kernel, rfl⟩
theorem d3_3 : D m3 3 (.arraylength) 1 4 := ⟨by decide +kernel, rfl⟩
theorem d3_4 : D m3 4 (.istore_n 3) 1 5 := ⟨by decide +kernel, rfl⟩
theorem d3_5 : D m3 5 (.iload_n 2) 1 6 := ⟨by decide +kernel, rfl⟩
theorem d3_6 : D m3 6 (.iload_n 3) 1 7 := ⟨by decide +kernel, rfl⟩
theorem d3_7 : DB m3 7 (.if_icmp .ge 13) 13 10 20 := ⟨by decide +kernel, rfl, by decide, by decide⟩
theorem d3_10 : D m3 10 (.aload_n 0) 1 11 := ⟨by decide +kernel, rfl⟩
theorem d3_11 : D m3 11 (.iload_n 2) 1 12 := ⟨by decide +kernel, rfl⟩
theorem d3_12 : D m3 12 (.iload_n 1) 1 13 := ⟨by decide +kernel, rfl⟩
theorem d3_13 : D m3 13 (.iastore) 1 14 := ⟨by decide +kernel, rfl⟩
theorem d3_14 : D m3 14 (.iinc 2 1) 3 17 := ⟨by decide +kernel, rfl⟩
theorem d3_17 : DB m3 17 (.goto (-12)) (-12) 20 5 := ⟨by decide +kernel, rfl, by decide, by decide⟩
theorem d3_20 : D m3 20 (.return_) 1 21 := ⟨by decide +kernel, rfl⟩
theorem d4_0 : D m4 0 (.iload_n 0) 1 1 := ⟨by decide +kernel, rfl⟩
theorem d4_1 : D m4 1 (.iload_n 1) 1 2 := ⟨by decide +kernel, rfl⟩
theorem d4_2 : DB m4 2 (.if_icmp .lt 7) 7 5 9 := ⟨by decide +kernel, rfl, by decide, by decide⟩
theorem d4_5 : D m4 5 (.iload_n 0) 1 6 := ⟨by decide +kernel, rfl⟩
theorem d4_6 : DB m4 6 (.goto 4) 4 9 10 := ⟨by decide +kernel, rfl, by decide, by decide⟩
theorem d4_9 : D m4 9 (.iload_n 1) 1 10 := ⟨by decide +kernel, rfl⟩
theorem d4_10 : D m4 10 (.ireturn) 1 11 := ⟨by decide +kernel, rfl⟩
theorem d5_0 : D m5 0 (.aload_n 0) 1 1 := ⟨by decide +kernel, rfl⟩
theorem d5_1 : D m5 1 (.getfield 29) 3 4 := ⟨by decide +kernel, rfl⟩
theorem d5_4 : D m5 4 (.aload_n 0) 1 5 := ⟨by decide +kernel, rfl⟩
theorem d5_5 : D m5 5 (.dup) 1 6 := ⟨by decide +kernel, rfl⟩
theorem d5_6 : D m5 6 (.getfield 90) 3 9 := ⟨by decide +kernel, rfl⟩
theorem d5_9 : D m5 9 (.dup_x1) 1 10 := ⟨by decide +kernel, rfl⟩
theorem d5_10 : D m5 10 (.iconst 1) 1 11 := ⟨by decide +kernel, rfl⟩
theorem d5_11 : D m5 11 (.iadd) 1 12 := ⟨by decide +kernel, rfl⟩
theorem d5_12 : D m5 12 (.putfield 90) 3 15 := ⟨by decide +kernel, rfl⟩
theorem d5_15 : D m5 15 (.iload_n 1) 1 16 := ⟨by decide +kernel, rfl⟩
theorem d5_16 : D m5 16 (.iastore) 1 17 := ⟨by decide +kernel, rfl⟩
theorem d5_17 : D m5 17 (.aload_n 0) 1 18 := ⟨by decide +kernel, rfl⟩
theorem d5_18 : D m5 18 (.getfield 32) 3 21 := ⟨by decide +kernel, rfl⟩
theorem d5_21 : D m5 21 (.iload_n 1) 1 22 := ⟨by decide +kernel, rfl⟩
theorem d5_22 : D m5 22 (.aload_n 0) 1 23 := ⟨by decide +kernel, rfl⟩
theorem d5_23 : D m5 23 (.getfield 93) 3 26 := ⟨by decide +kernel, rfl⟩
theorem d5_26 : D m5 26 (.iastore) 1 27 := ⟨by decide +kernel, rfl⟩
theorem d5_27 : D m5 27 (.aload_n 0) 1 28 := ⟨by decide +kernel, rfl⟩
theorem d5_28 : D m5 28 (.getfield 35) 3 31 := ⟨by decide +kernel, rfl⟩
theorem d5_31 : D m5 31 (.iload_n 1) 1 32 := ⟨by decide +kernel, rfl⟩
theorem d5_32 : D m5 32 (.aload_n 0) 1 33 := ⟨by decide +kernel, rfl⟩
theorem d5_33 : D m5 33 (.getfield 93) 3 36 := ⟨by decide +kernel, rfl⟩
theorem d5_36 : D m5 36 (.iastore) 1 37 := ⟨by decide +kernel, rfl⟩
theorem d5_37 : D m5 37 (.aload_n 0) 1 38 := ⟨by decide +kernel, rfl⟩
theorem d5_38 : D m5 38 (.getfield 47) 3 41 := ⟨by decide +kernel, rfl⟩
theorem d5_41 : D m5 41 (.iload_n 1) 1 42 := ⟨by decide +kernel, rfl⟩
theorem d5_42 : D m5 42 (.iconst 0) 1 43 := ⟨by decide +kernel, rfl⟩
theorem d5_43 : D m5 43 (.bastore) 1 44 := ⟨by decide +kernel, rfl⟩
theorem d5_44 : D m5 44 (.return_) 1 45 := ⟨by decide +kernel, rfl⟩
theorem d6_0 : D m6 0 (.aload_n 0) 1 1 := ⟨by decide +kernel, rfl⟩
theorem d6_1 : D m6 1 (.getfield 90) 3 4 := ⟨by decide +kernel, rfl⟩
theorem d6_4 : D m6 4 (.ireturn) 1 5 := ⟨by decide +kernel, rfl⟩
theorem d7_0 : D m7 0 (.aload_n 0) 1 1 := ⟨by decide +kernel, rfl⟩
theorem d7_1 : D m7 1 (.getfield 29) 3 4 := ⟨by decide +kernel, rfl⟩
theorem d7_4 : D m7 4 (.iload_n 1) 1 5 := ⟨by decide +kernel, rfl⟩
theorem d7_5 : D m7 5 (.iaload) 1 6 := ⟨by decide +kernel, rfl⟩
theorem d7_6 : D m7 6 (.ireturn) 1 7 := ⟨by decide +kernel, rfl⟩
theorem d8_0 : D m8 0 (.aload_n 0) 1 1 := ⟨by decide +kernel, rfl⟩
theorem d8_1 : D m8 1 (.getfield 32) 3 4 := ⟨by decide +kernel, rfl⟩
theorem d8_4 : D m8 4 (.iload_n 1) 1 5 := ⟨by decide +kernel, rfl⟩
theorem d8_5 : D m8 5 (.iaload) 1 6 := ⟨by decide +kernel, rfl⟩
theorem d8_6 : D m8 6 (.ireturn) 1 7 := ⟨by decide +kernel, rfl⟩
theorem d9_0 : D m9 0 (.aload_n 0) 1 1 := ⟨by decide +kernel, rfl⟩
theorem d9_1 : D m9 1 (.getfield 35) 3 4 := ⟨by decide +kernel, rfl⟩
theorem d9_4 : D m9 4 (.iload_n 1) 1 5 := ⟨by decide +kernel, rfl⟩
theorem d9_5 : D m9 5 (.iaload) 1 6 := ⟨by decide +kernel, rfl⟩
theorem d9_6 : D m9 6 (.ireturn) 1 7 := ⟨by decide +kernel, rfl⟩
theorem d10_0 : D m10 0 (.aload_n 0) 1 1 := ⟨by decide +kernel, rfl⟩
theorem d10_1 : D m10 1 (.getfield 93) 3 4 := ⟨by decide +kernel, rfl⟩
theorem d10_4 : D m10 4 (.aload_n 0) 1 5 := ⟨by decide +kernel, rfl⟩
theorem d10_5 : D m10 5 (.getfield 44) 3 8 := ⟨by decide +kernel, rfl⟩
theorem d10_8 : D m10 8 (.arraylength) 1 9 := ⟨by decide +kernel, rfl⟩
theorem d10_9 : DB m10 9 (.if_icmp .ne 20) 20 12 29 := ⟨by decide +kernel, rfl, by decide, by decide⟩
theorem d10_12 : D m10 12 (.aload_n 0) 1 13 := ⟨by decide +kernel, rfl⟩
theorem d10_13 : D m10 13 (.aload_n 0) 1 14 := ⟨by decide +kernel, rfl⟩
theorem d10_14 : D m10 14 (.getfield 44) 3 17 := ⟨by decide +kernel, rfl⟩
theorem d10_17 : D m10 17 (.iconst 2) 1 18 := ⟨by decide +kernel, rfl⟩
theorem d10_18 : D m10 18 (.aload_n 0) 1 19 := ⟨by decide +kernel, rfl⟩
theorem d10_19 : D m10 19 (.getfield 93) 3 22 := ⟨by decide +kernel, rfl⟩
theorem d10_22 : D m10 22 (.imul) 1 23 := ⟨by decide +kernel, rfl⟩
theorem d10_23 : D m10 23 (.invokestatic 96) 3 26 := ⟨by decide +kernel, rfl⟩
theorem d10_26 : D m10 26 (.putfield 44) 3 29 := ⟨by decide +kernel, rfl⟩
theorem d10_29 : D m10 29 (.aload_n 0) 1 30 := ⟨by decide +kernel, rfl⟩
theorem d10_30 : D m10 30 (.getfield 29) 3 33 := ⟨by decide +kernel, rfl⟩
theorem d10_33 : D m10 33 (.aload_n 0) 1 34 := ⟨by decide +kernel, rfl⟩
theorem d10_34 : D m10 34 (.getfield 90) 3 37 := ⟨by decide +kernel, rfl⟩
theorem d10_37 : D m10 37 (.iconst 1) 1 38 := ⟨by decide +kernel, rfl⟩
theorem d10_38 : D m10 38 (.isub) 1 39 := ⟨by decide +kernel, rfl⟩
theorem d10_39 : D m10 39 (.iaload) 1 40 := ⟨by decide +kernel, rfl⟩
theorem d10_40 : D m10 40 (.istore_n 2) 1 41 := ⟨by decide +kernel, rfl⟩
theorem d10_41 : D m10 41 (.aload_n 0) 1 42 := ⟨by decide +kernel, rfl⟩
theorem d10_42 : D m10 42 (.getfield 47) 3 45 := ⟨by decide +kernel, rfl⟩
theorem d10_45 : D m10 45 (.iload_n 2) 1 46 := ⟨by decide +kernel, rfl⟩
theorem d10_46 : D m10 46 (.dup2) 1 47 := ⟨by decide +kernel, rfl⟩
theorem d10_47 : D m10 47 (.baload) 1 48 := ⟨by decide +kernel, rfl⟩
theorem d10_48 : D m10 48 (.aload_n 0) 1 49 := ⟨by decide +kernel, rfl⟩
theorem d10_49 : D m10 49 (.getfield 16) 3 52 := ⟨by decide +kernel, rfl⟩
theorem d10_52 : D m10 52 (.iload_n 2) 1 53 := ⟨by decide +kernel, rfl⟩
theorem d10_53 : D m10 53 (.iaload) 1 54 := ⟨by decide +kernel, rfl⟩
theorem d10_54 : D m10 54 (.iload_n 1) 1 55 := ⟨by decide +kernel, rfl⟩
theorem d10_55 : DB m10 55 (.if_icmp .ne 7) 7 58 62 := ⟨by decide +kernel, rfl, by decide, by decide⟩
theorem d10_58 : D m10 58 (.iconst 1) 1 59 := ⟨by decide +kernel, rfl⟩
theorem d10_59 : DB m10 59 (.goto 4) 4 62 63 := ⟨by decide +kernel, rfl, by decide, by decide⟩
theorem d10_62 : D m10 62 (.iconst 0) 1 63 := ⟨by decide +kernel, rfl⟩
theorem d10_63 : D m10 63 (.ior) 1 64 := ⟨by decide +kernel, rfl⟩
theorem d10_64 : D m10 64 (.bastore) 1 65 := ⟨by decide +kernel, rfl⟩
theorem d10_65 : D m10 65 (.aload_n 0) 1 66 := ⟨by decide +kernel, rfl⟩
theorem d10_66 : D m10 66 (.getfield 44) 3 69 := ⟨by decide +kernel, rfl⟩
theorem d10_69 : D m10 69 (.aload_n 0) 1 70 := ⟨by decide +kernel, rfl⟩
theorem d10_70 : D m10 70 (.getfield 93) 3 73 := ⟨by decide +kernel, rfl⟩
theorem d10_73 : D m10 73 (.iload_n 1) 1 74 := ⟨by decide +kernel, rfl⟩
theorem d10_74 : D m10 74 (.iastore) 1 75 := ⟨by decide +kernel, rfl⟩
theorem d10_75 : D m10 75 (.aload_n 0) 1 76 := ⟨by decide +kernel, rfl⟩
theorem d10_76 : D m10 76 (.getfield 35) 3 79 := ⟨by decide +kernel, rfl⟩
theorem d10_79 : D m10 79 (.iload_n 2) 1 80 := ⟨by decide +kernel, rfl⟩
theorem d10_80 : D m10 80 (.aload_n 0) 1 81 := ⟨by decide +kernel, rfl⟩
theorem d10_81 : D m10 81 (.dup) 1 82 := ⟨by decide +kernel, rfl⟩
theorem d10_82 : D m10 82 (.getfield 93) 3 85 := ⟨by decide +kernel, rfl⟩
theorem d10_85 : D m10 85 (.iconst 1) 1 86 := ⟨by decide +kernel, rfl⟩
theorem d10_86 : D m10 86 (.iadd) 1 87 := ⟨by decide +kernel, rfl⟩
theorem d10_87 : D m10 87 (.dup_x1) 1 88 := ⟨by decide +kernel, rfl⟩
theorem d10_88 : D m10 88 (.putfield 93) 3 91 := ⟨by decide +kernel, rfl⟩
theorem d10_91 : D m10 91 (.iastore) 1 92 := ⟨by decide +kernel, rfl⟩
theorem d10_92 : D m10 92 (.aload_n 0) 1 93 := ⟨by decide +kernel, rfl⟩
theorem d10_93 : D m10 93 (.getfield 93) 3 96 := ⟨by decide +kernel, rfl⟩
theorem d10_96 : D m10 96 (.iconst 1) 1 97 := ⟨by decide +kernel, rfl⟩
theorem d10_97 : D m10 97 (.isub) 1 98 := ⟨by decide +kernel, rfl⟩
theorem d10_98 : D m10 98 (.ireturn) 1 99 := ⟨by decide +kernel, rfl⟩
theorem pn0 : plainName "org/tourney/ValueGraphOpenPinLaw" = true := by first | (simp [plainName, overriddenIn]; done) | decide +kernel
theorem pn1 : plainName "org/tourney/ValueGraph" = true := by first | (simp [plainName, overriddenIn]; done) | decide +kernel
theorem pd1 : parseMethodDescriptor "(II)V" = some ⟨[.int, .int], none⟩ := by decide +kernel
theorem ok1 {Z : State} {a0 : Array Value} (hw : ∀ d ∈ tables_1, d.before a0 Z = true) : OkM a0 Z m1 2 := ⟨hw _ (wd 6 rfl), hw _ (wd 3 rfl), plainFor_of_name pn1, ⟨by decide, by decide⟩, arity pd1 rfl⟩
theorem pn2 : plainName "java/util/Arrays" = true := by first | (simp [plainName, overriddenIn]; done) | decide +kernel
theorem pd3 : parseMethodDescriptor "([II)V" = some ⟨[(.array .int), .int], none⟩ := by decide +kernel
theorem ok3 {Z : State} {a0 : Array Value} (hw : ∀ d ∈ tables_1, d.before a0 Z = true) : OkM a0 Z m3 2 := ⟨hw _ (wd 22 rfl), hw _ (wd 21 rfl), plainFor_of_name pn2, ⟨by decide, by decide⟩, arity pd3 rfl⟩
theorem pd4 : parseMethodDescriptor "(II)I" = some ⟨[.int, .int], some .int⟩ := by decide +kernel
theorem ok4 {Z : State} {a0 : Array Value} (hw : ∀ d ∈ tables_1, d.before a0 Z = true) : OkM a0 Z m4 2 := ⟨hw _ (wd 32 rfl), hw _ (wd 31 rfl), Jvm.Free.JP.mathPlain rfl (by decide +kernel), ⟨by decide, by decide⟩, arity pd4 rfl⟩
theorem pd5 : parseMethodDescriptor "(I)V" = some ⟨[.int], none⟩ := by decide +kernel
theorem ok5 {Z : State} {a0 : Array Value} (hw : ∀ d ∈ tables_1, d.before a0 Z = true) : OkM a0 Z m5 1 := ⟨hw _ (wd 68 rfl), hw _ (wd 3 rfl), plainFor_of_name pn1, ⟨by decide, by decide⟩, arity pd5 rfl⟩
theorem pd6 : parseMethodDescriptor "()I" = some ⟨[], some .int⟩ := by decide +kernel
theorem ok6 {Z : State} {a0 : Array Value} (hw : ∀ d ∈ tables_1, d.before a0 Z = true) : OkM a0 Z m6 0 := ⟨hw _ (wd 77 rfl), hw _ (wd 3 rfl), plainFor_of_name pn1, ⟨by decide, by decide⟩, arity pd6 rfl⟩
theorem pd7 : parseMethodDescriptor "(I)I" = some ⟨[.int], some .int⟩ := by decide +kernel
theorem ok7 {Z : State} {a0 : Array Value} (hw : ∀ d ∈ tables_1, d.before a0 Z = true) : OkM a0 Z m7 1 := ⟨hw _ (wd 82 rfl), hw _ (wd 3 rfl), plainFor_of_name pn1, ⟨by decide, by decide⟩, arity pd7 rfl⟩
theorem pd8 : parseMethodDescriptor "(I)I" = some ⟨[.int], some .int⟩ := by decide +kernel
theorem ok8 {Z : State} {a0 : Array Value} (hw : ∀ d ∈ tables_1, d.before a0 Z = true) : OkM a0 Z m8 1 := ⟨hw _ (wd 87 rfl), hw _ (wd 3 rfl), plainFor_of_name pn1, ⟨by decide, by decide⟩, arity pd8 rfl⟩
theorem pd9 : parseMethodDescriptor "(I)I" = some ⟨[.int], some .int⟩ := by decide +kernel
theorem ok9 {Z : State} {a0 : Array Value} (hw : ∀ d ∈ tables_1, d.before a0 Z = true) : OkM a0 Z m9 1 := ⟨hw _ (wd 92 rfl), hw _ (wd 3 rfl), plainFor_of_name pn1, ⟨by decide, by decide⟩, arity pd9 rfl⟩
theorem pd10 : parseMethodDescriptor "(I)I" = some ⟨[.int], some .int⟩ := by decide +kernel
theorem ok10 {Z : State} {a0 : Array Value} (hw : ∀ d ∈ tables_1, d.before a0 Z = true) : OkM a0 Z m10 1 := ⟨hw _ (wd 97 rfl), hw _ (wd 3 rfl), plainFor_of_name pn1, ⟨by decide, by decide⟩, arity pd10 rfl⟩
def fs0 : List (Key × Value) := [(("org/tourney/ValueGraph", "positions", "I"), .int 0), (("org/tourney/ValueGraph", "values", "I"), .int 0), (("org/tourney/ValueGraph", "matchedValue", "[I"), .null), (("org/tourney/ValueGraph", "matchedPosition", "[I"), .null), (("org/tourney/ValueGraph", "openPositions", "[I"), .null), (("org/tourney/ValueGraph", "edgeStart", "[I"), .null), (("org/tourney/ValueGraph", "edgeEnd", "[I"), .null), (("org/tourney/ValueGraph", "edgeValue", "[I"), .null), (("org/tourney/ValueGraph", "keepsMatch", "[Z"), .null), (("org/tourney/ValueGraph", "reached", "[I"), .null), (("org/tourney/ValueGraph", "pathPositions", "[I"), .null), (("org/tourney/ValueGraph", "pathCursors", "[I"), .null), (("org/tourney/ValueGraph", "pathTried", "[I"), .null), (("org/tourney/ValueGraph", "sizeCounts", "[I"), .null), (("org/tourney/ValueGraph", "discovery", "[I"), .null), (("org/tourney/ValueGraph", "discoveredIn", "[I"), .null), (("org/tourney/ValueGraph", "lowest", "[I"), .null), (("org/tourney/ValueGraph", "component", "[I"), .null), (("org/tourney/ValueGraph", "isOpen", "[Z"), .null), (("org/tourney/ValueGraph", "openNodes", "[I"), .null), (("org/tourney/ValueGraph", "dfsNodes", "[I"), .null), (("org/tourney/ValueGraph", "dfsCursors", "[I"), .null), (("org/tourney/ValueGraph", "openCount", "I"), .int 0), (("org/tourney/ValueGraph", "edgeCount", "I"), .int 0)]
theorem okc0 {Z : State} {a0 : Array Value} (hw : ∀ d ∈ tables_1, d.before a0 Z = true) : OkC a0 Z "org/tourney/ValueGraph" 26 fs0 := by
  refine ⟨hw _ (wd 2 rfl), hw _ (wd 3 rfl), fun q hq => ?_, by simp [fs0]⟩
  simp only [fs0, List.mem_cons, List.not_mem_nil, or_false] at hq
  rcases hq with rfl | rfl | rfl | rfl | rfl | rfl | rfl | rfl | rfl | rfl | rfl | rfl | rfl | rfl | rfl | rfl | rfl | rfl | rfl | rfl | rfl | rfl | rfl | rfl
  · exact ⟨.int, Or.inr (hw _ (wd 11 rfl)), by decide, rfl⟩
  · exact ⟨.int, Or.inr (hw _ (wd 13 rfl)), by decide, rfl⟩
  · exact ⟨(.array .int), Or.inr (hw _ (wd 16 rfl)), by decide, rfl⟩
  · exact ⟨(.array .int), Or.inr (hw _ (wd 18 rfl)), by decide, rfl⟩
  · exact ⟨(.array .int), Or.inr (hw _ (wd 24 rfl)), by decide, rfl⟩
  · exact ⟨(.array .int), Or.inr (hw _ (wd 26 rfl)), by decide, rfl⟩
  · exact ⟨(.array .int), Or.inr (hw _ (wd 28 rfl)), by decide, rfl⟩
  · exact ⟨(.array .int), Or.inl (hw _ (wd 34 rfl)), by decide, rfl⟩
  · exact ⟨(.array .boolean), Or.inr (hw _ (wd 37 rfl)), by decide, rfl⟩
  · exact ⟨(.array .int), Or.inr (hw _ (wd 39 rfl)), by decide, rfl⟩
  · exact ⟨(.array .int), Or.inr (hw _ (wd 41 rfl)), by decide, rfl⟩
  · exact ⟨(.array .int), Or.inr (hw _ (wd 43 rfl)), by decide, rfl⟩
  · exact ⟨(.array .int), Or.inr (hw _ (wd 45 rfl)), by decide, rfl⟩
  · exact ⟨(.array .int), Or.inr (hw _ (wd 47 rfl)), by decide, rfl⟩
  · exact ⟨(.array .int), Or.inr (hw _ (wd 49 rfl)), by decide, rfl⟩
  · exact ⟨(.array .int), Or.inr (hw _ (wd 51 rfl)), by decide, rfl⟩
  · exact ⟨(.array .int), Or.inr (hw _ (wd 53 rfl)), by decide, rfl⟩
  · exact ⟨(.array .int), Or.inr (hw _ (wd 55 rfl)), by decide, rfl⟩
  · exact ⟨(.array .boolean), Or.inr (hw _ (wd 57 rfl)), by decide, rfl⟩
  · exact ⟨(.array .int), Or.inr (hw _ (wd 59 rfl)), by decide, rfl⟩
  · exact ⟨(.array .int), Or.inr (hw _ (wd 61 rfl)), by decide, rfl⟩
  · exact ⟨(.array .int), Or.inr (hw _ (wd 63 rfl)), by decide, rfl⟩
  · exact ⟨.int, Or.inl (hw _ (wd 70 rfl)), by decide, rfl⟩
  · exact ⟨.int, Or.inl (hw _ (wd 72 rfl)), by decide, rfl⟩
theorem own_i {a : Nat} (h : a < 1000) : (Int32.ofNat a).toInt = a := Int32.toInt_ofNat_of_lt (by omega)
theorem own_idx (a : Nat) (h : a < 1000) : ¬ Int32.ofNat a < 0 ∧ (Int32.ofNat a).toNatClampNeg = a := by
  have e := own_i h
  refine ⟨?_, ?_⟩
  · rw [Int32.lt_iff_toInt_lt, e]; have : (0 : Int32).toInt = 0 := rfl; omega
  · show (Int32.ofNat a).toInt.toNat = a; rw [e] <;> rfl
theorem own_add (a b : Nat) : Int32.ofNat a + Int32.ofNat b = Int32.ofNat (a + b) := (Int32.ofNat_add a b).symm
theorem own_p1 (m : Nat) (h : m < 10) : ¬ Int32.ofNat m + 1 < 0 ∧ (Int32.ofNat m + 1).toNatClampNeg = m + 1 := by
  rw [show Int32.ofNat m + 1 = Int32.ofNat (m + 1) from own_add m 1]; exact own_idx _ (by omega)
theorem own_p5 (m : Nat) (h : m < 10) : ¬ Int32.ofNat m + 4 + 1 < 0 ∧ (Int32.ofNat m + 4 + 1).toNatClampNeg = m + 5 := by
  rw [show Int32.ofNat m + 4 = Int32.ofNat (m + 4) from own_add m 4, show Int32.ofNat (m + 4) + 1 = Int32.ofNat (m + 5) from own_add (m + 4) 1]; exact own_idx _ (by omega)
theorem own_16 (m : Nat) (h : m < 10) : ¬ (16 : Int32) < Int32.ofNat m := by
  rw [Int32.lt_iff_toInt_lt, own_i (by omega)]; have : (16 : Int32).toInt = 16 := rfl; omega
def own_tail (m : Nat) : AHeap := [.inr (.int, List.replicate 4 (.int 0)), .inr (.int, List.replicate m (.int 0)), .inr (.int, List.replicate m (.int 0)), .inr (.int, List.replicate m (.int 0)), .inr (.int, List.replicate (m + 1) (.int 0)), .inr (.int, List.replicate (m + 5) (.int 0)), .inr (.int, List.replicate (m + 5) (.int 0)), .inr (.int, List.replicate (m + 5) (.int 0)), .inr (.int, List.replicate (m + 5) (.int 0)), .inr (.boolean, List.replicate (m + 5) (.int 0)), .inr (.int, List.replicate (m + 5) (.int 0)), .inr (.int, List.replicate (m + 5) (.int 0)), .inr (.int, List.replicate (m + 5) (.int 0))]
theorem own_lt {a b : Nat} (ha : a < 1000) (hb : b < 1000) : (Int32.ofNat a < Int32.ofNat b) ↔ a < b := by
  rw [Int32.lt_iff_toInt_lt, own_i ha, own_i hb]; omega
theorem own_ss {α : Type} (H : List α) (k : Nat) (x y : α) : (H.set k x).set k y = H.set k y := by simp
theorem own_sg {α : Type} (H : List α) (k : Nat) (x y : α) (h : H[k]? = some y) : (H.set k x)[k]? = some x := by
  have := (List.getElem?_eq_some_iff.mp h).1
  simp [this]
theorem own_sid {α : Type} (H : List α) (k : Nat) (y : α) (h : H[k]? = some y) : H = H.set k y := by
  apply List.ext_getElem?
  intro j
  rw [List.getElem?_set]
  by_cases e : k = j
  · subst e; rw [if_pos rfl, if_pos (List.getElem?_eq_some_iff.mp h).1]; exact h
  · rw [if_neg e]
theorem own_fillset (i r : Nat) (a x : Value) : (List.replicate i a ++ List.replicate (r + 1) x).set i a = List.replicate (i + 1) a ++ List.replicate r x := by
  induction i with
  | zero => rfl
  | succ i ih => exact congrArg (a :: ·) ih
theorem own_rep (m p : Nat) (x : Value) (h : p < m) : (List.replicate m x)[p]? = some x := by
  first
  | (rw [List.getElem?_replicate, if_pos h]; done)
  | (simp [h]; done)
  | (rw [List.getElem?_eq_getElem (by simpa using h)]; simp)
set_option maxRecDepth 65536 in
set_option maxHeartbeats 40000000 in
theorem loop3 {l : Launch} {Z : State} {a0 : Array Value} {n : Nat} (hw : ∀ d ∈ tables_1, d.before a0 Z = true) (H : AHeap) (k N : Nat) (x y : Value) (vx : Int32) (hx : x = .int vx) (hk : H[k]? = some (.inr (.int, List.replicate N y))) (hN : N < 100) : ∀ r i, i + r = N → W l Z n m3 5 [.val (.ref k), .val (.int vx), .val (.int (Int32.ofNat i)), .val (.int (Int32.ofNat N))] [] (H.set k (.inr (.int, List.replicate i x ++ List.replicate r y))) 0 0 (Is none (H.set k (.inr (.int, List.replicate N x)))) := by
  subst hx
  intro r
  induction r with
  | zero =>
    intro i hi
    refine W.iloadN d3_5 rfl ?_
    refine W.iloadN d3_6 rfl ?_
    refine W.icmp_ge d3_7 (fun h7 => ?_) (fun h => False.elim (by rw [own_lt (by omega) (by omega)] at h; omega))
    exact W.leave d3_20 rfl (by decide) (by decide) ⟨rfl, by rw [show i = N by omega]; simp⟩
  | succ r ih =>
    intro i hi
    refine W.iloadN d3_5 rfl ?_
    refine W.iloadN d3_6 rfl ?_
    refine W.icmp_ge d3_7 (fun h => False.elim (h ((own_lt (by omega) (by omega)).mpr (by omega)))) (fun h7 => ?_)
    refine W.aloadN d3_10 rfl rfl ?_
    refine W.iloadN d3_11 rfl ?_
    refine W.iloadN d3_12 rfl ?_
    refine W.iastore (i := i) d3_13 (own_sg H k _ _ hk) (own_idx i (by omega)) (by simp <;> omega) ?_
    refine W.iinc 1 d3_14 rfl rfl ?_
    refine W.goto d3_17 ?_
    rw [own_ss, own_fillset, show Int32.ofNat i + 1 = Int32.ofNat (i + 1) from own_add i 1]
    exact ih (i + 1) (by omega)
set_option maxRecDepth 65536 in
set_option maxHeartbeats 40000000 in
theorem w3 {l : Launch} {Z : State} {a0 : Array Value} {n : Nat} (hw : ∀ d ∈ tables_1, d.before a0 Z = true) (H : AHeap) (k N : Nat) (y : Value) (vx : Int32) (hk : H[k]? = some (.inr (.int, List.replicate N y))) (hN : N < 100) : W l Z n m3 0 (entryL [.ref k, .int vx] 4) [] H 0 0 (Is none (H.set k (.inr (.int, List.replicate N (.int vx))))) := by
  show W l Z n m3 0 [.val (.ref k), .val (.int vx), .unset, .unset] [] H 0 0 _
  refine W.iconst 0 d3_0 rfl ?_
  refine W.istoreN d3_1 rfl ?_
  refine W.aloadN d3_2 rfl rfl ?_
  refine W.arraylength (Int32.ofNat N) d3_3 hk rfl (by simp) ?_
  refine W.istoreN d3_4 rfl ?_
  have q := loop3 (l := l) (n := n) hw H k N (.int vx) y vx rfl hk hN N 0 (by omega)
  rw [show List.replicate 0 (Value.int vx) ++ List.replicate N y = List.replicate N y from rfl, ← own_sid H k _ hk] at q
  exact q
set_option maxRecDepth 65536 in
set_option maxHeartbeats 40000000 in
theorem w4 {l : Launch} {Z : State} {a0 : Array Value} {n : Nat} (hw : ∀ d ∈ tables_1, d.before a0 Z = true) (m : Nat) (hm : m < 10) (H : AHeap) : W l Z n m4 0 (entryL [.int 16, .int (Int32.ofNat m)] 2) [] H 0 0 (Is (some (.int 16)) H) := by
  show W l Z n m4 0 [.val (.int 16), .val (.int (Int32.ofNat m))] [] H 0 0 _
  refine W.iloadN d4_0 rfl ?_
  refine W.iloadN d4_1 rfl ?_
  refine W.icmp_lt d4_2 (fun h => False.elim (own_16 m hm h)) (fun h2 => ?_)
  refine W.iloadN d4_5 rfl ?_
  refine W.goto d4_6 ?_
  exact W.ireturn d4_10 rfl (by decide) (by decide) (⟨rfl, rfl⟩)
set_option maxRecDepth 65536 in
set_option maxHeartbeats 40000000 in
theorem w1 {l : Launch} {Z : State} {a0 : Array Value} {n : Nat} (hw : ∀ d ∈ tables_1, d.before a0 Z = true) (m : Nat) (hm : m < 10) : W l Z n m1 0 (entryL [.ref 0, .int (Int32.ofNat m), .int 4] 4) [] [.inl ("org/tourney/ValueGraph", [(("org/tourney/ValueGraph", "positions", "I"), (.int (0))), (("org/tourney/ValueGraph", "values", "I"), (.int (0))), (("org/tourney/ValueGraph", "matchedValue", "[I"), .null), (("org/tourney/ValueGraph", "matchedPosition", "[I"), .null), (("org/tourney/ValueGraph", "openPositions", "[I"), .null), (("org/tourney/ValueGraph", "edgeStart", "[I"), .null), (("org/tourney/ValueGraph", "edgeEnd", "[I"), .null), (("org/tourney/ValueGraph", "edgeValue", "[I"), .null), (("org/tourney/ValueGraph", "keepsMatch", "[Z"), .null), (("org/tourney/ValueGraph", "reached", "[I"), .null), (("org/tourney/ValueGraph", "pathPositions", "[I"), .null), (("org/tourney/ValueGraph", "pathCursors", "[I"), .null), (("org/tourney/ValueGraph", "pathTried", "[I"), .null), (("org/tourney/ValueGraph", "sizeCounts", "[I"), .null), (("org/tourney/ValueGraph", "discovery", "[I"), .null), (("org/tourney/ValueGraph", "discoveredIn", "[I"), .null), (("org/tourney/ValueGraph", "lowest", "[I"), .null), (("org/tourney/ValueGraph", "component", "[I"), .null), (("org/tourney/ValueGraph", "isOpen", "[Z"), .null), (("org/tourney/ValueGraph", "openNodes", "[I"), .null), (("org/tourney/ValueGraph", "dfsNodes", "[I"), .null), (("org/tourney/ValueGraph", "dfsCursors", "[I"), .null), (("org/tourney/ValueGraph", "openCount", "I"), (.int (0))), (("org/tourney/ValueGraph", "edgeCount", "I"), (.int (0)))])] 0 0 (Is none ([.inl ("org/tourney/ValueGraph", [(("org/tourney/ValueGraph", "positions", "I"), (.int (Int32.ofNat m))), (("org/tourney/ValueGraph", "values", "I"), (.int (4))), (("org/tourney/ValueGraph", "matchedValue", "[I"), (.ref 1)), (("org/tourney/ValueGraph", "matchedPosition", "[I"), (.ref 2)), (("org/tourney/ValueGraph", "openPositions", "[I"), (.ref 3)), (("org/tourney/ValueGraph", "edgeStart", "[I"), (.ref 4)), (("org/tourney/ValueGraph", "edgeEnd", "[I"), (.ref 5)), (("org/tourney/ValueGraph", "edgeValue", "[I"), (.ref 6)), (("org/tourney/ValueGraph", "keepsMatch", "[Z"), (.ref 7)), (("org/tourney/ValueGraph", "reached", "[I"), (.ref 8)), (("org/tourney/ValueGraph", "pathPositions", "[I"), (.ref 9)), (("org/tourney/ValueGraph", "pathCursors", "[I"), (.ref 10)), (("org/tourney/ValueGraph", "pathTried", "[I"), (.ref 11)), (("org/tourney/ValueGraph", "sizeCounts", "[I"), (.ref 12)), (("org/tourney/ValueGraph", "discovery", "[I"), (.ref 13)), (("org/tourney/ValueGraph", "discoveredIn", "[I"), (.ref 14)), (("org/tourney/ValueGraph", "lowest", "[I"), (.ref 15)), (("org/tourney/ValueGraph", "component", "[I"), (.ref 16)), (("org/tourney/ValueGraph", "isOpen", "[Z"), (.ref 17)), (("org/tourney/ValueGraph", "openNodes", "[I"), (.ref 18)), (("org/tourney/ValueGraph", "dfsNodes", "[I"), (.ref 19)), (("org/tourney/ValueGraph", "dfsCursors", "[I"), (.ref 20)), (("org/tourney/ValueGraph", "openCount", "I"), (.int (0))), (("org/tourney/ValueGraph", "edgeCount", "I"), (.int (0)))]), .inr (.int, List.replicate m (Value.int (-1))), .inr (.int, List.replicate 4 (Value.int (-1))), .inr (.int, List.replicate m (Value.int 0)), .inr (.int, List.replicate m (Value.int 0)), .inr (.int, List.replicate m (Value.int 0)), .inr (.int, List.replicate 16 (Value.int 0)), .inr (.boolean, List.replicate m (Value.int 0))] ++ own_tail m)) := by
  show W l Z n m1 0 [(.val (.ref 0)), (.val (.int (Int32.ofNat m))), (.val (.int (4))), .unset] [] [.inl ("org/tourney/ValueGraph", [(("org/tourney/ValueGraph", "positions", "I"), (.int (0))), (("org/tourney/ValueGraph", "values", "I"), (.int (0))), (("org/tourney/ValueGraph", "matchedValue", "[I"), .null), (("org/tourney/ValueGraph", "matchedPosition", "[I"), .null), (("org/tourney/ValueGraph", "openPositions", "[I"), .null), (("org/tourney/ValueGraph", "edgeStart", "[I"), .null), (("org/tourney/ValueGraph", "edgeEnd", "[I"), .null), (("org/tourney/ValueGraph", "edgeValue", "[I"), .null), (("org/tourney/ValueGraph", "keepsMatch", "[Z"), .null), (("org/tourney/ValueGraph", "reached", "[I"), .null), (("org/tourney/ValueGraph", "pathPositions", "[I"), .null), (("org/tourney/ValueGraph", "pathCursors", "[I"), .null), (("org/tourney/ValueGraph", "pathTried", "[I"), .null), (("org/tourney/ValueGraph", "sizeCounts", "[I"), .null), (("org/tourney/ValueGraph", "discovery", "[I"), .null), (("org/tourney/ValueGraph", "discoveredIn", "[I"), .null), (("org/tourney/ValueGraph", "lowest", "[I"), .null), (("org/tourney/ValueGraph", "component", "[I"), .null), (("org/tourney/ValueGraph", "isOpen", "[Z"), .null), (("org/tourney/ValueGraph", "openNodes", "[I"), .null), (("org/tourney/ValueGraph", "dfsNodes", "[I"), .null), (("org/tourney/ValueGraph", "dfsCursors", "[I"), .null), (("org/tourney/ValueGraph", "openCount", "I"), (.int (0))), (("org/tourney/ValueGraph", "edgeCount", "I"), (.int (0)))])] 0 0 _
  refine W.aloadN d1_0 rfl rfl ?_
  refine W.initO d1_1 (hw _ (wd 7 rfl)) (hw _ (wd 8 rfl)) (hw _ (wd 9 rfl)) rfl rfl ?_
  refine W.aloadN d1_4 rfl rfl ?_
  refine W.iloadN d1_5 rfl ?_
  refine W.putfield 0 d1_6 (hw _ (wd 10 rfl)) rfl rfl (Or.inr ⟨hw _ (wd 11 rfl), rfl, rfl⟩) (hw _ (wd 2 rfl)) (ty := .int) (by decide) (fun _ => rfl) (fun _ => rfl) ?_
  refine W.aloadN d1_9 rfl rfl ?_
  refine W.iloadN d1_10 rfl ?_
  refine W.putfield 1 d1_11 (hw _ (wd 12 rfl)) rfl rfl (Or.inr ⟨hw _ (wd 13 rfl), rfl, rfl⟩) (hw _ (wd 2 rfl)) (ty := .int) (by decide) (fun _ => rfl) (fun _ => rfl) ?_
  refine W.aloadN d1_14 rfl rfl ?_
  refine W.iloadN d1_15 rfl ?_
  refine W.newarray (N := 1) (cnt := m) (cap := 9) d1_16 (hw _ (wd 14 rfl)) (own_idx m (by omega)) rfl (by omega) (by decide) (by decide) (by decide) ?_
  refine W.putfield 2 d1_18 (hw _ (wd 15 rfl)) rfl rfl (Or.inr ⟨hw _ (wd 16 rfl), rfl, rfl⟩) (hw _ (wd 2 rfl)) (ty := (.array .int)) (by decide) (fun _ => rfl) (fun _ => rfl) ?_
  show WB _ l Z n m1 21 [(.val (.ref 0)), (.val (.int (Int32.ofNat m))), (.val (.int (4))), .unset] [] [.inl ("org/tourney/ValueGraph", [(("org/tourney/ValueGraph", "positions", "I"), (.int (Int32.ofNat m))), (("org/tourney/ValueGraph", "values", "I"), (.int (4))), (("org/tourney/ValueGraph", "matchedValue", "[I"), (.ref 1)), (("org/tourney/ValueGraph", "matchedPosition", "[I"), .null), (("org/tourney/ValueGraph", "openPositions", "[I"), .null), (("org/tourney/ValueGraph", "edgeStart", "[I"), .null), (("org/tourney/ValueGraph", "edgeEnd", "[I"), .null), (("org/tourney/ValueGraph", "edgeValue", "[I"), .null), (("org/tourney/ValueGraph", "keepsMatch", "[Z"), .null), (("org/tourney/ValueGraph", "reached", "[I"), .null), (("org/tourney/ValueGraph", "pathPositions", "[I"), .null), (("org/tourney/ValueGraph", "pathCursors", "[I"), .null), (("org/tourney/ValueGraph", "pathTried", "[I"), .null), (("org/tourney/ValueGraph", "sizeCounts", "[I"), .null), (("org/tourney/ValueGraph", "discovery", "[I"), .null), (("org/tourney/ValueGraph", "discoveredIn", "[I"), .null), (("org/tourney/ValueGraph", "lowest", "[I"), .null), (("org/tourney/ValueGraph", "component", "[I"), .null), (("org/tourney/ValueGraph", "isOpen", "[Z"), .null), (("org/tourney/ValueGraph", "openNodes", "[I"), .null), (("org/tourney/ValueGraph", "dfsNodes", "[I"), .null), (("org/tourney/ValueGraph", "dfsCursors", "[I"), .null), (("org/tourney/ValueGraph", "openCount", "I"), (.int (0))), (("org/tourney/ValueGraph", "edgeCount", "I"), (.int (0)))]), .inr (.int, List.replicate m (Value.int 0))] _ _ _
  refine W.aloadN d1_21 rfl rfl ?_
  refine W.iloadN d1_22 rfl ?_
  refine W.newarray (N := 2) (cnt := 4) (cap := 4) d1_23 (hw _ (wd 14 rfl)) ⟨by decide, by decide⟩ rfl (Nat.le_refl _) (by decide) (by decide) (by decide) ?_
  refine W.putfield 3 d1_25 (hw _ (wd 17 rfl)) rfl rfl (Or.inr ⟨hw _ (wd 18 rfl), rfl, rfl⟩) (hw _ (wd 2 rfl)) (ty := (.array .int)) (by decide) (fun _ => rfl) (fun _ => rfl) ?_
  refine W.aloadN d1_28 rfl rfl ?_
  refine W.getfield 2 d1_29 (hw _ (wd 15 rfl)) rfl rfl ?_
  refine W.iconst (-1) d1_32 rfl ?_
  refine W.callsN (M' := m3) d1_33 (hw _ (wd 19 rfl)) (hw _ (wd 20 rfl)) (w3 hw _ 1 m _ (-1) rfl (by omega)) (ok3 hw) rfl rfl rfl ?_
  refine W.aloadN d1_36 rfl rfl ?_
  refine W.getfield 3 d1_37 (hw _ (wd 17 rfl)) rfl rfl ?_
  refine W.iconst (-1) d1_40 rfl ?_
  refine W.callsN (M' := m3) d1_41 (hw _ (wd 19 rfl)) (hw _ (wd 20 rfl)) (w3 hw _ 2 4 _ (-1) rfl (by omega)) (ok3 hw) rfl rfl rfl ?_
  refine W.aloadN d1_44 rfl rfl ?_
  refine W.iloadN d1_45 rfl ?_
  refine W.newarray (N := 3) (cnt := m) (cap := 9) d1_46 (hw _ (wd 14 rfl)) (own_idx m (by omega)) rfl (by omega) (by decide) (by decide) (by decide) ?_
  refine W.putfield 4 d1_48 (hw _ (wd 23 rfl)) rfl rfl (Or.inr ⟨hw _ (wd 24 rfl), rfl, rfl⟩) (hw _ (wd 2 rfl)) (ty := (.array .int)) (by decide) (fun _ => rfl) (fun _ => rfl) ?_
  show WB _ l Z n m1 51 [(.val (.ref 0)), (.val (.int (Int32.ofNat m))), (.val (.int (4))), .unset] [] [.inl ("org/tourney/ValueGraph", [(("org/tourney/ValueGraph", "positions", "I"), (.int (Int32.ofNat m))), (("org/tourney/ValueGraph", "values", "I"), (.int (4))), (("org/tourney/ValueGraph", "matchedValue", "[I"), (.ref 1)), (("org/tourney/ValueGraph", "matchedPosition", "[I"), (.ref 2)), (("org/tourney/ValueGraph", "openPositions", "[I"), (.ref 3)), (("org/tourney/ValueGraph", "edgeStart", "[I"), .null), (("org/tourney/ValueGraph", "edgeEnd", "[I"), .null), (("org/tourney/ValueGraph", "edgeValue", "[I"), .null), (("org/tourney/ValueGraph", "keepsMatch", "[Z"), .null), (("org/tourney/ValueGraph", "reached", "[I"), .null), (("org/tourney/ValueGraph", "pathPositions", "[I"), .null), (("org/tourney/ValueGraph", "pathCursors", "[I"), .null), (("org/tourney/ValueGraph", "pathTried", "[I"), .null), (("org/tourney/ValueGraph", "sizeCounts", "[I"), .null), (("org/tourney/ValueGraph", "discovery", "[I"), .null), (("org/tourney/ValueGraph", "discoveredIn", "[I"), .null), (("org/tourney/ValueGraph", "lowest", "[I"), .null), (("org/tourney/ValueGraph", "component", "[I"), .null), (("org/tourney/ValueGraph", "isOpen", "[Z"), .null), (("org/tourney/ValueGraph", "openNodes", "[I"), .null), (("org/tourney/ValueGraph", "dfsNodes", "[I"), .null), (("org/tourney/ValueGraph", "dfsCursors", "[I"), .null), (("org/tourney/ValueGraph", "openCount", "I"), (.int (0))), (("org/tourney/ValueGraph", "edgeCount", "I"), (.int (0)))]), .inr (.int, List.replicate m (Value.int (-1))), .inr (.int, List.replicate 4 (Value.int (-1))), .inr (.int, List.replicate m (Value.int 0))] _ _ _
  refine W.aloadN d1_51 rfl rfl ?_
  refine W.iloadN d1_52 rfl ?_
  refine W.newarray (N := 4) (cnt := m) (cap := 9) d1_53 (hw _ (wd 14 rfl)) (own_idx m (by omega)) rfl (by omega) (by decide) (by decide) (by decide) ?_
  refine W.putfield 5 d1_55 (hw _ (wd 25 rfl)) rfl rfl (Or.inr ⟨hw _ (wd 26 rfl), rfl, rfl⟩) (hw _ (wd 2 rfl)) (ty := (.array .int)) (by decide) (fun _ => rfl) (fun _ => rfl) ?_
  refine W.aloadN d1_58 rfl rfl ?_
  refine W.iloadN d1_59 rfl ?_
  refine W.newarray (N := 5) (cnt := m) (cap := 9) d1_60 (hw _ (wd 14 rfl)) (own_idx m (by omega)) rfl (by omega) (by decide) (by decide) (by decide) ?_
  refine W.putfield 6 d1_62 (hw _ (wd 27 rfl)) rfl rfl (Or.inr ⟨hw _ (wd 28 rfl), rfl, rfl⟩) (hw _ (wd 2 rfl)) (ty := (.array .int)) (by decide) (fun _ => rfl) (fun _ => rfl) ?_
  show WB _ l Z n m1 65 [(.val (.ref 0)), (.val (.int (Int32.ofNat m))), (.val (.int (4))), .unset] [] [.inl ("org/tourney/ValueGraph", [(("org/tourney/ValueGraph", "positions", "I"), (.int (Int32.ofNat m))), (("org/tourney/ValueGraph", "values", "I"), (.int (4))), (("org/tourney/ValueGraph", "matchedValue", "[I"), (.ref 1)), (("org/tourney/ValueGraph", "matchedPosition", "[I"), (.ref 2)), (("org/tourney/ValueGraph", "openPositions", "[I"), (.ref 3)), (("org/tourney/ValueGraph", "edgeStart", "[I"), (.ref 4)), (("org/tourney/ValueGraph", "edgeEnd", "[I"), (.ref 5)), (("org/tourney/ValueGraph", "edgeValue", "[I"), .null), (("org/tourney/ValueGraph", "keepsMatch", "[Z"), .null), (("org/tourney/ValueGraph", "reached", "[I"), .null), (("org/tourney/ValueGraph", "pathPositions", "[I"), .null), (("org/tourney/ValueGraph", "pathCursors", "[I"), .null), (("org/tourney/ValueGraph", "pathTried", "[I"), .null), (("org/tourney/ValueGraph", "sizeCounts", "[I"), .null), (("org/tourney/ValueGraph", "discovery", "[I"), .null), (("org/tourney/ValueGraph", "discoveredIn", "[I"), .null), (("org/tourney/ValueGraph", "lowest", "[I"), .null), (("org/tourney/ValueGraph", "component", "[I"), .null), (("org/tourney/ValueGraph", "isOpen", "[Z"), .null), (("org/tourney/ValueGraph", "openNodes", "[I"), .null), (("org/tourney/ValueGraph", "dfsNodes", "[I"), .null), (("org/tourney/ValueGraph", "dfsCursors", "[I"), .null), (("org/tourney/ValueGraph", "openCount", "I"), (.int (0))), (("org/tourney/ValueGraph", "edgeCount", "I"), (.int (0)))]), .inr (.int, List.replicate m (Value.int (-1))), .inr (.int, List.replicate 4 (Value.int (-1))), .inr (.int, List.replicate m (Value.int 0)), .inr (.int, List.replicate m (Value.int 0)), .inr (.int, List.replicate m (Value.int 0))] _ _ _
  refine W.aloadN d1_65 rfl rfl ?_
  refine W.bipush 16 d1_66 rfl ?_
  refine W.iloadN d1_68 rfl ?_
  refine W.callsV (M' := m4) d1_69 (hw _ (wd 29 rfl)) (hw _ (wd 30 rfl)) (w4 hw m (by omega) _) (ok4 hw) rfl rfl rfl ?_
  refine W.newarray (N := 6) (cnt := 16) (cap := 16) d1_72 (hw _ (wd 14 rfl)) ⟨by decide, by decide⟩ rfl (Nat.le_refl _) (by decide) (by decide) (by decide) ?_
  refine W.putfield 7 d1_74 (hw _ (wd 33 rfl)) rfl rfl (Or.inl (hw _ (wd 34 rfl))) (hw _ (wd 2 rfl)) (ty := (.array .int)) (by decide) (fun _ => rfl) (fun _ => rfl) ?_
  refine W.aloadN d1_77 rfl rfl ?_
  refine W.iloadN d1_78 rfl ?_
  refine W.newarray (N := 7) (cnt := m) (cap := 9) d1_79 (hw _ (wd 35 rfl)) (own_idx m (by omega)) rfl (by omega) (by decide) (by decide) (by decide) ?_
  refine W.putfield 8 d1_81 (hw _ (wd 36 rfl)) rfl rfl (Or.inr ⟨hw _ (wd 37 rfl), rfl, rfl⟩) (hw _ (wd 2 rfl)) (ty := (.array .boolean)) (by decide) (fun _ => rfl) (fun _ => rfl) ?_
  show WB _ l Z n m1 84 [(.val (.ref 0)), (.val (.int (Int32.ofNat m))), (.val (.int (4))), .unset] [] [.inl ("org/tourney/ValueGraph", [(("org/tourney/ValueGraph", "positions", "I"), (.int (Int32.ofNat m))), (("org/tourney/ValueGraph", "values", "I"), (.int (4))), (("org/tourney/ValueGraph", "matchedValue", "[I"), (.ref 1)), (("org/tourney/ValueGraph", "matchedPosition", "[I"), (.ref 2)), (("org/tourney/ValueGraph", "openPositions", "[I"), (.ref 3)), (("org/tourney/ValueGraph", "edgeStart", "[I"), (.ref 4)), (("org/tourney/ValueGraph", "edgeEnd", "[I"), (.ref 5)), (("org/tourney/ValueGraph", "edgeValue", "[I"), (.ref 6)), (("org/tourney/ValueGraph", "keepsMatch", "[Z"), (.ref 7)), (("org/tourney/ValueGraph", "reached", "[I"), .null), (("org/tourney/ValueGraph", "pathPositions", "[I"), .null), (("org/tourney/ValueGraph", "pathCursors", "[I"), .null), (("org/tourney/ValueGraph", "pathTried", "[I"), .null), (("org/tourney/ValueGraph", "sizeCounts", "[I"), .null), (("org/tourney/ValueGraph", "discovery", "[I"), .null), (("org/tourney/ValueGraph", "discoveredIn", "[I"), .null), (("org/tourney/ValueGraph", "lowest", "[I"), .null), (("org/tourney/ValueGraph", "component", "[I"), .null), (("org/tourney/ValueGraph", "isOpen", "[Z"), .null), (("org/tourney/ValueGraph", "openNodes", "[I"), .null), (("org/tourney/ValueGraph", "dfsNodes", "[I"), .null), (("org/tourney/ValueGraph", "dfsCursors", "[I"), .null), (("org/tourney/ValueGraph", "openCount", "I"), (.int (0))), (("org/tourney/ValueGraph", "edgeCount", "I"), (.int (0)))]), .inr (.int, List.replicate m (Value.int (-1))), .inr (.int, List.replicate 4 (Value.int (-1))), .inr (.int, List.replicate m (Value.int 0)), .inr (.int, List.replicate m (Value.int 0)), .inr (.int, List.replicate m (Value.int 0)), .inr (.int, [(.int (0)), (.int (0)), (.int (0)), (.int (0)), (.int (0)), (.int (0)), (.int (0)), (.int (0)), (.int (0)), (.int (0)), (.int (0)), (.int (0)), (.int (0)), (.int (0)), (.int (0)), (.int (0))]), .inr (.boolean, List.replicate m (Value.int 0))] _ _ _
  refine W.aloadN d1_84 rfl rfl ?_
  refine W.iloadN d1_85 rfl ?_
  refine W.newarray (N := 8) (cnt := 4) (cap := 4) d1_86 (hw _ (wd 14 rfl)) ⟨by decide, by decide⟩ rfl (Nat.le_refl _) (by decide) (by decide) (by decide) ?_
  refine W.putfield 9 d1_88 (hw _ (wd 38 rfl)) rfl rfl (Or.inr ⟨hw _ (wd 39 rfl), rfl, rfl⟩) (hw _ (wd 2 rfl)) (ty := (.array .int)) (by decide) (fun _ => rfl) (fun _ => rfl) ?_
  refine W.aloadN d1_91 rfl rfl ?_
  refine W.iloadN d1_92 rfl ?_
  refine W.newarray (N := 9) (cnt := m) (cap := 9) d1_93 (hw _ (wd 14 rfl)) (own_idx m (by omega)) rfl (by omega) (by decide) (by decide) (by decide) ?_
  refine W.putfield 10 d1_95 (hw _ (wd 40 rfl)) rfl rfl (Or.inr ⟨hw _ (wd 41 rfl), rfl, rfl⟩) (hw _ (wd 2 rfl)) (ty := (.array .int)) (by decide) (fun _ => rfl) (fun _ => rfl) ?_
  show WB _ l Z n m1 98 [(.val (.ref 0)), (.val (.int (Int32.ofNat m))), (.val (.int (4))), .unset] [] [.inl ("org/tourney/ValueGraph", [(("org/tourney/ValueGraph", "positions", "I"), (.int (Int32.ofNat m))), (("org/tourney/ValueGraph", "values", "I"), (.int (4))), (("org/tourney/ValueGraph", "matchedValue", "[I"), (.ref 1)), (("org/tourney/ValueGraph", "matchedPosition", "[I"), (.ref 2)), (("org/tourney/ValueGraph", "openPositions", "[I"), (.ref 3)), (("org/tourney/ValueGraph", "edgeStart", "[I"), (.ref 4)), (("org/tourney/ValueGraph", "edgeEnd", "[I"), (.ref 5)), (("org/tourney/ValueGraph", "edgeValue", "[I"), (.ref 6)), (("org/tourney/ValueGraph", "keepsMatch", "[Z"), (.ref 7)), (("org/tourney/ValueGraph", "reached", "[I"), (.ref 8)), (("org/tourney/ValueGraph", "pathPositions", "[I"), (.ref 9)), (("org/tourney/ValueGraph", "pathCursors", "[I"), .null), (("org/tourney/ValueGraph", "pathTried", "[I"), .null), (("org/tourney/ValueGraph", "sizeCounts", "[I"), .null), (("org/tourney/ValueGraph", "discovery", "[I"), .null), (("org/tourney/ValueGraph", "discoveredIn", "[I"), .null), (("org/tourney/ValueGraph", "lowest", "[I"), .null), (("org/tourney/ValueGraph", "component", "[I"), .null), (("org/tourney/ValueGraph", "isOpen", "[Z"), .null), (("org/tourney/ValueGraph", "openNodes", "[I"), .null), (("org/tourney/ValueGraph", "dfsNodes", "[I"), .null), (("org/tourney/ValueGraph", "dfsCursors", "[I"), .null), (("org/tourney/ValueGraph", "openCount", "I"), (.int (0))), (("org/tourney/ValueGraph", "edgeCount", "I"), (.int (0)))]), .inr (.int, List.replicate m (Value.int (-1))), .inr (.int, List.replicate 4 (Value.int (-1))), .inr (.int, List.replicate m (Value.int 0)), .inr (.int, List.replicate m (Value.int 0)), .inr (.int, List.replicate m (Value.int 0)), .inr (.int, [(.int (0)), (.int (0)), (.int (0)), (.int (0)), (.int (0)), (.int (0)), (.int (0)), (.int (0)), (.int (0)), (.int (0)), (.int (0)), (.int (0)), (.int (0)), (.int (0)), (.int (0)), (.int (0))]), .inr (.boolean, List.replicate m (Value.int 0)), .inr (.int, [(.int (0)), (.int (0)), (.int (0)), (.int (0))]), .inr (.int, List.replicate m (Value.int 0))] _ _ _
  refine W.aloadN d1_98 rfl rfl ?_
  refine W.iloadN d1_99 rfl ?_
  refine W.newarray (N := 10) (cnt := m) (cap := 9) d1_100 (hw _ (wd 14 rfl)) (own_idx m (by omega)) rfl (by omega) (by decide) (by decide) (by decide) ?_
  refine W.putfield 11 d1_102 (hw _ (wd 42 rfl)) rfl rfl (Or.inr ⟨hw _ (wd 43 rfl), rfl, rfl⟩) (hw _ (wd 2 rfl)) (ty := (.array .int)) (by decide) (fun _ => rfl) (fun _ => rfl) ?_
  refine W.aloadN d1_105 rfl rfl ?_
  refine W.iloadN d1_106 rfl ?_
  refine W.newarray (N := 11) (cnt := m) (cap := 9) d1_107 (hw _ (wd 14 rfl)) (own_idx m (by omega)) rfl (by omega) (by decide) (by decide) (by decide) ?_
  refine W.putfield 12 d1_109 (hw _ (wd 44 rfl)) rfl rfl (Or.inr ⟨hw _ (wd 45 rfl), rfl, rfl⟩) (hw _ (wd 2 rfl)) (ty := (.array .int)) (by decide) (fun _ => rfl) (fun _ => rfl) ?_
  show WB _ l Z n m1 112 [(.val (.ref 0)), (.val (.int (Int32.ofNat m))), (.val (.int (4))), .unset] [] [.inl ("org/tourney/ValueGraph", [(("org/tourney/ValueGraph", "positions", "I"), (.int (Int32.ofNat m))), (("org/tourney/ValueGraph", "values", "I"), (.int (4))), (("org/tourney/ValueGraph", "matchedValue", "[I"), (.ref 1)), (("org/tourney/ValueGraph", "matchedPosition", "[I"), (.ref 2)), (("org/tourney/ValueGraph", "openPositions", "[I"), (.ref 3)), (("org/tourney/ValueGraph", "edgeStart", "[I"), (.ref 4)), (("org/tourney/ValueGraph", "edgeEnd", "[I"), (.ref 5)), (("org/tourney/ValueGraph", "edgeValue", "[I"), (.ref 6)), (("org/tourney/ValueGraph", "keepsMatch", "[Z"), (.ref 7)), (("org/tourney/ValueGraph", "reached", "[I"), (.ref 8)), (("org/tourney/ValueGraph", "pathPositions", "[I"), (.ref 9)), (("org/tourney/ValueGraph", "pathCursors", "[I"), (.ref 10)), (("org/tourney/ValueGraph", "pathTried", "[I"), (.ref 11)), (("org/tourney/ValueGraph", "sizeCounts", "[I"), .null), (("org/tourney/ValueGraph", "discovery", "[I"), .null), (("org/tourney/ValueGraph", "discoveredIn", "[I"), .null), (("org/tourney/ValueGraph", "lowest", "[I"), .null), (("org/tourney/ValueGraph", "component", "[I"), .null), (("org/tourney/ValueGraph", "isOpen", "[Z"), .null), (("org/tourney/ValueGraph", "openNodes", "[I"), .null), (("org/tourney/ValueGraph", "dfsNodes", "[I"), .null), (("org/tourney/ValueGraph", "dfsCursors", "[I"), .null), (("org/tourney/ValueGraph", "openCount", "I"), (.int (0))), (("org/tourney/ValueGraph", "edgeCount", "I"), (.int (0)))]), .inr (.int, List.replicate m (Value.int (-1))), .inr (.int, List.replicate 4 (Value.int (-1))), .inr (.int, List.replicate m (Value.int 0)), .inr (.int, List.replicate m (Value.int 0)), .inr (.int, List.replicate m (Value.int 0)), .inr (.int, [(.int (0)), (.int (0)), (.int (0)), (.int (0)), (.int (0)), (.int (0)), (.int (0)), (.int (0)), (.int (0)), (.int (0)), (.int (0)), (.int (0)), (.int (0)), (.int (0)), (.int (0)), (.int (0))]), .inr (.boolean, List.replicate m (Value.int 0)), .inr (.int, [(.int (0)), (.int (0)), (.int (0)), (.int (0))]), .inr (.int, List.replicate m (Value.int 0)), .inr (.int, List.replicate m (Value.int 0)), .inr (.int, List.replicate m (Value.int 0))] _ _ _
  refine W.aloadN d1_112 rfl rfl ?_
  refine W.iloadN d1_113 rfl ?_
  refine W.iconst 1 d1_114 rfl ?_
  refine W.iadd d1_115 ?_
  refine W.newarray (N := 12) (cnt := (m + 1)) (cap := 10) d1_116 (hw _ (wd 14 rfl)) (own_p1 m (by omega)) rfl (by omega) (by decide) (by decide) (by decide) ?_
  refine W.putfield 13 d1_118 (hw _ (wd 46 rfl)) rfl rfl (Or.inr ⟨hw _ (wd 47 rfl), rfl, rfl⟩) (hw _ (wd 2 rfl)) (ty := (.array .int)) (by decide) (fun _ => rfl) (fun _ => rfl) ?_
  refine W.iloadN d1_121 rfl ?_
  refine W.iloadN d1_122 rfl ?_
  refine W.iadd d1_123 ?_
  refine W.iconst 1 d1_124 rfl ?_
  refine W.iadd d1_125 ?_
  refine W.istoreN d1_126 rfl ?_
  refine W.aloadN d1_127 rfl rfl ?_
  refine W.iloadN d1_128 rfl ?_
  refine W.newarray (N := 13) (cnt := (m + 5)) (cap := 14) d1_129 (hw _ (wd 14 rfl)) (own_p5 m (by omega)) rfl (by omega) (by decide) (by decide) (by decide) ?_
  show WB _ l Z n m1 131 [(.val (.ref 0)), (.val (.int (Int32.ofNat m))), (.val (.int (4))), (.val (.int (((Int32.ofNat m) + 4) + 1)))] [(.ref 13), (.ref 0)] [.inl ("org/tourney/ValueGraph", [(("org/tourney/ValueGraph", "positions", "I"), (.int (Int32.ofNat m))), (("org/tourney/ValueGraph", "values", "I"), (.int (4))), (("org/tourney/ValueGraph", "matchedValue", "[I"), (.ref 1)), (("org/tourney/ValueGraph", "matchedPosition", "[I"), (.ref 2)), (("org/tourney/ValueGraph", "openPositions", "[I"), (.ref 3)), (("org/tourney/ValueGraph", "edgeStart", "[I"), (.ref 4)), (("org/tourney/ValueGraph", "edgeEnd", "[I"), (.ref 5)), (("org/tourney/ValueGraph", "edgeValue", "[I"), (.ref 6)), (("org/tourney/ValueGraph", "keepsMatch", "[Z"), (.ref 7)), (("org/tourney/ValueGraph", "reached", "[I"), (.ref 8)), (("org/tourney/ValueGraph", "pathPositions", "[I"), (.ref 9)), (("org/tourney/ValueGraph", "pathCursors", "[I"), (.ref 10)), (("org/tourney/ValueGraph", "pathTried", "[I"), (.ref 11)), (("org/tourney/ValueGraph", "sizeCounts", "[I"), (.ref 12)), (("org/tourney/ValueGraph", "discovery", "[I"), .null), (("org/tourney/ValueGraph", "discoveredIn", "[I"), .null), (("org/tourney/ValueGraph", "lowest", "[I"), .null), (("org/tourney/ValueGraph", "component", "[I"), .null), (("org/tourney/ValueGraph", "isOpen", "[Z"), .null), (("org/tourney/ValueGraph", "openNodes", "[I"), .null), (("org/tourney/ValueGraph", "dfsNodes", "[I"), .null), (("org/tourney/ValueGraph", "dfsCursors", "[I"), .null), (("org/tourney/ValueGraph", "openCount", "I"), (.int (0))), (("org/tourney/ValueGraph", "edgeCount", "I"), (.int (0)))]), .inr (.int, List.replicate m (Value.int (-1))), .inr (.int, List.replicate 4 (Value.int (-1))), .inr (.int, List.replicate m (Value.int 0)), .inr (.int, List.replicate m (Value.int 0)), .inr (.int, List.replicate m (Value.int 0)), .inr (.int, [(.int (0)), (.int (0)), (.int (0)), (.int (0)), (.int (0)), (.int (0)), (.int (0)), (.int (0)), (.int (0)), (.int (0)), (.int (0)), (.int (0)), (.int (0)), (.int (0)), (.int (0)), (.int (0))]), .inr (.boolean, List.replicate m (Value.int 0)), .inr (.int, [(.int (0)), (.int (0)), (.int (0)), (.int (0))]), .inr (.int, List.replicate m (Value.int 0)), .inr (.int, List.replicate m (Value.int 0)), .inr (.int, List.replicate m (Value.int 0)), .inr (.int, List.replicate (m + 1) (Value.int 0)), .inr (.int, List.replicate (m + 5) (Value.int 0))] _ _ _
  refine W.putfield 14 d1_131 (hw _ (wd 48 rfl)) rfl rfl (Or.inr ⟨hw _ (wd 49 rfl), rfl, rfl⟩) (hw _ (wd 2 rfl)) (ty := (.array .int)) (by decide) (fun _ => rfl) (fun _ => rfl) ?_
  refine W.aloadN d1_134 rfl rfl ?_
  refine W.iloadN d1_135 rfl ?_
  refine W.newarray (N := 14) (cnt := (m + 5)) (cap := 14) d1_136 (hw _ (wd 14 rfl)) (own_p5 m (by omega)) rfl (by omega) (by decide) (by decide) (by decide) ?_
  refine W.putfield 15 d1_138 (hw _ (wd 50 rfl)) rfl rfl (Or.inr ⟨hw _ (wd 51 rfl), rfl, rfl⟩) (hw _ (wd 2 rfl)) (ty := (.array .int)) (by decide) (fun _ => rfl) (fun _ => rfl) ?_
  refine W.aloadN d1_141 rfl rfl ?_
  refine W.iloadN d1_142 rfl ?_
  refine W.newarray (N := 15) (cnt := (m + 5)) (cap := 14) d1_143 (hw _ (wd 14 rfl)) (own_p5 m (by omega)) rfl (by omega) (by decide) (by decide) (by decide) ?_
  show WB _ l Z n m1 145 [(.val (.ref 0)), (.val (.int (Int32.ofNat m))), (.val (.int (4))), (.val (.int (((Int32.ofNat m) + 4) + 1)))] [(.ref 15), (.ref 0)] [.inl ("org/tourney/ValueGraph", [(("org/tourney/ValueGraph", "positions", "I"), (.int (Int32.ofNat m))), (("org/tourney/ValueGraph", "values", "I"), (.int (4))), (("org/tourney/ValueGraph", "matchedValue", "[I"), (.ref 1)), (("org/tourney/ValueGraph", "matchedPosition", "[I"), (.ref 2)), (("org/tourney/ValueGraph", "openPositions", "[I"), (.ref 3)), (("org/tourney/ValueGraph", "edgeStart", "[I"), (.ref 4)), (("org/tourney/ValueGraph", "edgeEnd", "[I"), (.ref 5)), (("org/tourney/ValueGraph", "edgeValue", "[I"), (.ref 6)), (("org/tourney/ValueGraph", "keepsMatch", "[Z"), (.ref 7)), (("org/tourney/ValueGraph", "reached", "[I"), (.ref 8)), (("org/tourney/ValueGraph", "pathPositions", "[I"), (.ref 9)), (("org/tourney/ValueGraph", "pathCursors", "[I"), (.ref 10)), (("org/tourney/ValueGraph", "pathTried", "[I"), (.ref 11)), (("org/tourney/ValueGraph", "sizeCounts", "[I"), (.ref 12)), (("org/tourney/ValueGraph", "discovery", "[I"), (.ref 13)), (("org/tourney/ValueGraph", "discoveredIn", "[I"), (.ref 14)), (("org/tourney/ValueGraph", "lowest", "[I"), .null), (("org/tourney/ValueGraph", "component", "[I"), .null), (("org/tourney/ValueGraph", "isOpen", "[Z"), .null), (("org/tourney/ValueGraph", "openNodes", "[I"), .null), (("org/tourney/ValueGraph", "dfsNodes", "[I"), .null), (("org/tourney/ValueGraph", "dfsCursors", "[I"), .null), (("org/tourney/ValueGraph", "openCount", "I"), (.int (0))), (("org/tourney/ValueGraph", "edgeCount", "I"), (.int (0)))]), .inr (.int, List.replicate m (Value.int (-1))), .inr (.int, List.replicate 4 (Value.int (-1))), .inr (.int, List.replicate m (Value.int 0)), .inr (.int, List.replicate m (Value.int 0)), .inr (.int, List.replicate m (Value.int 0)), .inr (.int, [(.int (0)), (.int (0)), (.int (0)), (.int (0)), (.int (0)), (.int (0)), (.int (0)), (.int (0)), (.int (0)), (.int (0)), (.int (0)), (.int (0)), (.int (0)), (.int (0)), (.int (0)), (.int (0))]), .inr (.boolean, List.replicate m (Value.int 0)), .inr (.int, [(.int (0)), (.int (0)), (.int (0)), (.int (0))]), .inr (.int, List.replicate m (Value.int 0)), .inr (.int, List.replicate m (Value.int 0)), .inr (.int, List.replicate m (Value.int 0)), .inr (.int, List.replicate (m + 1) (Value.int 0)), .inr (.int, List.replicate (m + 5) (Value.int 0)), .inr (.int, List.replicate (m + 5) (Value.int 0)), .inr (.int, List.replicate (m + 5) (Value.int 0))] _ _ _
  refine W.putfield 16 d1_145 (hw _ (wd 52 rfl)) rfl rfl (Or.inr ⟨hw _ (wd 53 rfl), rfl, rfl⟩) (hw _ (wd 2 rfl)) (ty := (.array .int)) (by decide) (fun _ => rfl) (fun _ => rfl) ?_
  refine W.aloadN d1_148 rfl rfl ?_
  refine W.iloadN d1_149 rfl ?_
  refine W.newarray (N := 16) (cnt := (m + 5)) (cap := 14) d1_150 (hw _ (wd 14 rfl)) (own_p5 m (by omega)) rfl (by omega) (by decide) (by decide) (by decide) ?_
  refine W.putfield 17 d1_152 (hw _ (wd 54 rfl)) rfl rfl (Or.inr ⟨hw _ (wd 55 rfl), rfl, rfl⟩) (hw _ (wd 2 rfl)) (ty := (.array .int)) (by decide) (fun _ => rfl) (fun _ => rfl) ?_
  refine W.aloadN d1_155 rfl rfl ?_
  refine W.iloadN d1_156 rfl ?_
  refine W.newarray (N := 17) (cnt := (m + 5)) (cap := 14) d1_157 (hw _ (wd 35 rfl)) (own_p5 m (by omega)) rfl (by omega) (by decide) (by decide) (by decide) ?_
  show WB _ l Z n m1 159 [(.val (.ref 0)), (.val (.int (Int32.ofNat m))), (.val (.int (4))), (.val (.int (((Int32.ofNat m) + 4) + 1)))] [(.ref 17), (.ref 0)] [.inl ("org/tourney/ValueGraph", [(("org/tourney/ValueGraph", "positions", "I"), (.int (Int32.ofNat m))), (("org/tourney/ValueGraph", "values", "I"), (.int (4))), (("org/tourney/ValueGraph", "matchedValue", "[I"), (.ref 1)), (("org/tourney/ValueGraph", "matchedPosition", "[I"), (.ref 2)), (("org/tourney/ValueGraph", "openPositions", "[I"), (.ref 3)), (("org/tourney/ValueGraph", "edgeStart", "[I"), (.ref 4)), (("org/tourney/ValueGraph", "edgeEnd", "[I"), (.ref 5)), (("org/tourney/ValueGraph", "edgeValue", "[I"), (.ref 6)), (("org/tourney/ValueGraph", "keepsMatch", "[Z"), (.ref 7)), (("org/tourney/ValueGraph", "reached", "[I"), (.ref 8)), (("org/tourney/ValueGraph", "pathPositions", "[I"), (.ref 9)), (("org/tourney/ValueGraph", "pathCursors", "[I"), (.ref 10)), (("org/tourney/ValueGraph", "pathTried", "[I"), (.ref 11)), (("org/tourney/ValueGraph", "sizeCounts", "[I"), (.ref 12)), (("org/tourney/ValueGraph", "discovery", "[I"), (.ref 13)), (("org/tourney/ValueGraph", "discoveredIn", "[I"), (.ref 14)), (("org/tourney/ValueGraph", "lowest", "[I"), (.ref 15)), (("org/tourney/ValueGraph", "component", "[I"), (.ref 16)), (("org/tourney/ValueGraph", "isOpen", "[Z"), .null), (("org/tourney/ValueGraph", "openNodes", "[I"), .null), (("org/tourney/ValueGraph", "dfsNodes", "[I"), .null), (("org/tourney/ValueGraph", "dfsCursors", "[I"), .null), (("org/tourney/ValueGraph", "openCount", "I"), (.int (0))), (("org/tourney/ValueGraph", "edgeCount", "I"), (.int (0)))]), .inr (.int, List.replicate m (Value.int (-1))), .inr (.int, List.replicate 4 (Value.int (-1))), .inr (.int, List.replicate m (Value.int 0)), .inr (.int, List.replicate m (Value.int 0)), .inr (.int, List.replicate m (Value.int 0)), .inr (.int, [(.int (0)), (.int (0)), (.int (0)), (.int (0)), (.int (0)), (.int (0)), (.int (0)), (.int (0)), (.int (0)), (.int (0)), (.int (0)), (.int (0)), (.int (0)), (.int (0)), (.int (0)), (.int (0))]), .inr (.boolean, List.replicate m (Value.int 0)), .inr (.int, [(.int (0)), (.int (0)), (.int (0)), (.int (0))]), .inr (.int, List.replicate m (Value.int 0)), .inr (.int, List.replicate m (Value.int 0)), .inr (.int, List.replicate m (Value.int 0)), .inr (.int, List.replicate (m + 1) (Value.int 0)), .inr (.int, List.replicate (m + 5) (Value.int 0)), .inr (.int, List.replicate (m + 5) (Value.int 0)), .inr (.int, List.replicate (m + 5) (Value.int 0)), .inr (.int, List.replicate (m + 5) (Value.int 0)), .inr (.boolean, List.replicate (m + 5) (Value.int 0))] _ _ _
  refine W.putfield 18 d1_159 (hw _ (wd 56 rfl)) rfl rfl (Or.inr ⟨hw _ (wd 57 rfl), rfl, rfl⟩) (hw _ (wd 2 rfl)) (ty := (.array .boolean)) (by decide) (fun _ => rfl) (fun _ => rfl) ?_
  refine W.aloadN d1_162 rfl rfl ?_
  refine W.iloadN d1_163 rfl ?_
  refine W.newarray (N := 18) (cnt := (m + 5)) (cap := 14) d1_164 (hw _ (wd 14 rfl)) (own_p5 m (by omega)) rfl (by omega) (by decide) (by decide) (by decide) ?_
  refine W.putfield 19 d1_166 (hw _ (wd 58 rfl)) rfl rfl (Or.inr ⟨hw _ (wd 59 rfl), rfl, rfl⟩) (hw _ (wd 2 rfl)) (ty := (.array .int)) (by decide) (fun _ => rfl) (fun _ => rfl) ?_
  refine W.aloadN d1_169 rfl rfl ?_
  refine W.iloadN d1_170 rfl ?_
  refine W.newarray (N := 19) (cnt := (m + 5)) (cap := 14) d1_171 (hw _ (wd 14 rfl)) (own_p5 m (by omega)) rfl (by omega) (by decide) (by decide) (by decide) ?_
  show WB _ l Z n m1 173 [(.val (.ref 0)), (.val (.int (Int32.ofNat m))), (.val (.int (4))), (.val (.int (((Int32.ofNat m) + 4) + 1)))] [(.ref 19), (.ref 0)] [.inl ("org/tourney/ValueGraph", [(("org/tourney/ValueGraph", "positions", "I"), (.int (Int32.ofNat m))), (("org/tourney/ValueGraph", "values", "I"), (.int (4))), (("org/tourney/ValueGraph", "matchedValue", "[I"), (.ref 1)), (("org/tourney/ValueGraph", "matchedPosition", "[I"), (.ref 2)), (("org/tourney/ValueGraph", "openPositions", "[I"), (.ref 3)), (("org/tourney/ValueGraph", "edgeStart", "[I"), (.ref 4)), (("org/tourney/ValueGraph", "edgeEnd", "[I"), (.ref 5)), (("org/tourney/ValueGraph", "edgeValue", "[I"), (.ref 6)), (("org/tourney/ValueGraph", "keepsMatch", "[Z"), (.ref 7)), (("org/tourney/ValueGraph", "reached", "[I"), (.ref 8)), (("org/tourney/ValueGraph", "pathPositions", "[I"), (.ref 9)), (("org/tourney/ValueGraph", "pathCursors", "[I"), (.ref 10)), (("org/tourney/ValueGraph", "pathTried", "[I"), (.ref 11)), (("org/tourney/ValueGraph", "sizeCounts", "[I"), (.ref 12)), (("org/tourney/ValueGraph", "discovery", "[I"), (.ref 13)), (("org/tourney/ValueGraph", "discoveredIn", "[I"), (.ref 14)), (("org/tourney/ValueGraph", "lowest", "[I"), (.ref 15)), (("org/tourney/ValueGraph", "component", "[I"), (.ref 16)), (("org/tourney/ValueGraph", "isOpen", "[Z"), (.ref 17)), (("org/tourney/ValueGraph", "openNodes", "[I"), (.ref 18)), (("org/tourney/ValueGraph", "dfsNodes", "[I"), .null), (("org/tourney/ValueGraph", "dfsCursors", "[I"), .null), (("org/tourney/ValueGraph", "openCount", "I"), (.int (0))), (("org/tourney/ValueGraph", "edgeCount", "I"), (.int (0)))]), .inr (.int, List.replicate m (Value.int (-1))), .inr (.int, List.replicate 4 (Value.int (-1))), .inr (.int, List.replicate m (Value.int 0)), .inr (.int, List.replicate m (Value.int 0)), .inr (.int, List.replicate m (Value.int 0)), .inr (.int, [(.int (0)), (.int (0)), (.int (0)), (.int (0)), (.int (0)), (.int (0)), (.int (0)), (.int (0)), (.int (0)), (.int (0)), (.int (0)), (.int (0)), (.int (0)), (.int (0)), (.int (0)), (.int (0))]), .inr (.boolean, List.replicate m (Value.int 0)), .inr (.int, [(.int (0)), (.int (0)), (.int (0)), (.int (0))]), .inr (.int, List.replicate m (Value.int 0)), .inr (.int, List.replicate m (Value.int 0)), .inr (.int, List.replicate m (Value.int 0)), .inr (.int, List.replicate (m + 1) (Value.int 0)), .inr (.int, List.replicate (m + 5) (Value.int 0)), .inr (.int, List.replicate (m + 5) (Value.int 0)), .inr (.int, List.replicate (m + 5) (Value.int 0)), .inr (.int, List.replicate (m + 5) (Value.int 0)), .inr (.boolean, List.replicate (m + 5) (Value.int 0)), .inr (.int, List.replicate (m + 5) (Value.int 0)), .inr (.int, List.replicate (m + 5) (Value.int 0))] _ _ _
  refine W.putfield 20 d1_173 (hw _ (wd 60 rfl)) rfl rfl (Or.inr ⟨hw _ (wd 61 rfl), rfl, rfl⟩) (hw _ (wd 2 rfl)) (ty := (.array .int)) (by decide) (fun _ => rfl) (fun _ => rfl) ?_
  refine W.aloadN d1_176 rfl rfl ?_
  refine W.iloadN d1_177 rfl ?_
  refine W.newarray (N := 20) (cnt := (m + 5)) (cap := 14) d1_178 (hw _ (wd 14 rfl)) (own_p5 m (by omega)) rfl (by omega) (by decide) (by decide) (by decide) ?_
  refine W.putfield 21 d1_180 (hw _ (wd 62 rfl)) rfl rfl (Or.inr ⟨hw _ (wd 63 rfl), rfl, rfl⟩) (hw _ (wd 2 rfl)) (ty := (.array .int)) (by decide) (fun _ => rfl) (fun _ => rfl) ?_
  exact W.leave d1_183 rfl (by decide) (by decide) (⟨rfl, rfl⟩)
set_option maxRecDepth 65536 in
set_option maxHeartbeats 40000000 in
theorem w5 {l : Launch} {Z : State} {a0 : Array Value} {n : Nat} (hw : ∀ d ∈ tables_1, d.before a0 Z = true) (m p q : Nat) (oc ec : Int32) (OP ES EE EV KM : List Value) (T : AHeap) (hp : p < 10) (hq : ¬ oc < 0 ∧ oc.toNatClampNeg = q) (hOP : q < OP.length) (hES : p < ES.length) (hEE : p < EE.length) (hKM : p < KM.length) : W l Z n m5 0 (entryL [.ref 0, .int (Int32.ofNat p)] 2) [] ([.inl ("org/tourney/ValueGraph", [(("org/tourney/ValueGraph", "positions", "I"), (.int (Int32.ofNat m))), (("org/tourney/ValueGraph", "values", "I"), (.int (4))), (("org/tourney/ValueGraph", "matchedValue", "[I"), (.ref 1)), (("org/tourney/ValueGraph", "matchedPosition", "[I"), (.ref 2)), (("org/tourney/ValueGraph", "openPositions", "[I"), (.ref 3)), (("org/tourney/ValueGraph", "edgeStart", "[I"), (.ref 4)), (("org/tourney/ValueGraph", "edgeEnd", "[I"), (.ref 5)), (("org/tourney/ValueGraph", "edgeValue", "[I"), (.ref 6)), (("org/tourney/ValueGraph", "keepsMatch", "[Z"), (.ref 7)), (("org/tourney/ValueGraph", "reached", "[I"), (.ref 8)), (("org/tourney/ValueGraph", "pathPositions", "[I"), (.ref 9)), (("org/tourney/ValueGraph", "pathCursors", "[I"), (.ref 10)), (("org/tourney/ValueGraph", "pathTried", "[I"), (.ref 11)), (("org/tourney/ValueGraph", "sizeCounts", "[I"), (.ref 12)), (("org/tourney/ValueGraph", "discovery", "[I"), (.ref 13)), (("org/tourney/ValueGraph", "discoveredIn", "[I"), (.ref 14)), (("org/tourney/ValueGraph", "lowest", "[I"), (.ref 15)), (("org/tourney/ValueGraph", "component", "[I"), (.ref 16)), (("org/tourney/ValueGraph", "isOpen", "[Z"), (.ref 17)), (("org/tourney/ValueGraph", "openNodes", "[I"), (.ref 18)), (("org/tourney/ValueGraph", "dfsNodes", "[I"), (.ref 19)), (("org/tourney/ValueGraph", "dfsCursors", "[I"), (.ref 20)), (("org/tourney/ValueGraph", "openCount", "I"), (.int (oc))), (("org/tourney/ValueGraph", "edgeCount", "I"), (.int (ec)))]), .inr (.int, List.replicate m (Value.int (-1))), .inr (.int, List.replicate 4 (Value.int (-1))), .inr (.int, OP), .inr (.int, ES), .inr (.int, EE), .inr (.int, EV), .inr (.boolean, KM)] ++ T) 0 0 (Is none ([.inl ("org/tourney/ValueGraph", [(("org/tourney/ValueGraph", "positions", "I"), (.int (Int32.ofNat m))), (("org/tourney/ValueGraph", "values", "I"), (.int (4))), (("org/tourney/ValueGraph", "matchedValue", "[I"), (.ref 1)), (("org/tourney/ValueGraph", "matchedPosition", "[I"), (.ref 2)), (("org/tourney/ValueGraph", "openPositions", "[I"), (.ref 3)), (("org/tourney/ValueGraph", "edgeStart", "[I"), (.ref 4)), (("org/tourney/ValueGraph", "edgeEnd", "[I"), (.ref 5)), (("org/tourney/ValueGraph", "edgeValue", "[I"), (.ref 6)), (("org/tourney/ValueGraph", "keepsMatch", "[Z"), (.ref 7)), (("org/tourney/ValueGraph", "reached", "[I"), (.ref 8)), (("org/tourney/ValueGraph", "pathPositions", "[I"), (.ref 9)), (("org/tourney/ValueGraph", "pathCursors", "[I"), (.ref 10)), (("org/tourney/ValueGraph", "pathTried", "[I"), (.ref 11)), (("org/tourney/ValueGraph", "sizeCounts", "[I"), (.ref 12)), (("org/tourney/ValueGraph", "discovery", "[I"), (.ref 13)), (("org/tourney/ValueGraph", "discoveredIn", "[I"), (.ref 14)), (("org/tourney/ValueGraph", "lowest", "[I"), (.ref 15)), (("org/tourney/ValueGraph", "component", "[I"), (.ref 16)), (("org/tourney/ValueGraph", "isOpen", "[Z"), (.ref 17)), (("org/tourney/ValueGraph", "openNodes", "[I"), (.ref 18)), (("org/tourney/ValueGraph", "dfsNodes", "[I"), (.ref 19)), (("org/tourney/ValueGraph", "dfsCursors", "[I"), (.ref 20)), (("org/tourney/ValueGraph", "openCount", "I"), (.int (oc + 1))), (("org/tourney/ValueGraph", "edgeCount", "I"), (.int (ec)))]), .inr (.int, List.replicate m (Value.int (-1))), .inr (.int, List.replicate 4 (Value.int (-1))), .inr (.int, OP.set q (.int (Int32.ofNat p))), .inr (.int, ES.set p (.int ec)), .inr (.int, EE.set p (.int ec)), .inr (.int, EV), .inr (.boolean, KM.set p (.int (0 &&& 1)))] ++ T)) := by
  show W l Z n m5 0 [(.val (.ref 0)), (.val (.int (Int32.ofNat p)))] [] ([.inl ("org/tourney/ValueGraph", [(("org/tourney/ValueGraph", "positions", "I"), (.int (Int32.ofNat m))), (("org/tourney/ValueGraph", "values", "I"), (.int (4))), (("org/tourney/ValueGraph", "matchedValue", "[I"), (.ref 1)), (("org/tourney/ValueGraph", "matchedPosition", "[I"), (.ref 2)), (("org/tourney/ValueGraph", "openPositions", "[I"), (.ref 3)), (("org/tourney/ValueGraph", "edgeStart", "[I"), (.ref 4)), (("org/tourney/ValueGraph", "edgeEnd", "[I"), (.ref 5)), (("org/tourney/ValueGraph", "edgeValue", "[I"), (.ref 6)), (("org/tourney/ValueGraph", "keepsMatch", "[Z"), (.ref 7)), (("org/tourney/ValueGraph", "reached", "[I"), (.ref 8)), (("org/tourney/ValueGraph", "pathPositions", "[I"), (.ref 9)), (("org/tourney/ValueGraph", "pathCursors", "[I"), (.ref 10)), (("org/tourney/ValueGraph", "pathTried", "[I"), (.ref 11)), (("org/tourney/ValueGraph", "sizeCounts", "[I"), (.ref 12)), (("org/tourney/ValueGraph", "discovery", "[I"), (.ref 13)), (("org/tourney/ValueGraph", "discoveredIn", "[I"), (.ref 14)), (("org/tourney/ValueGraph", "lowest", "[I"), (.ref 15)), (("org/tourney/ValueGraph", "component", "[I"), (.ref 16)), (("org/tourney/ValueGraph", "isOpen", "[Z"), (.ref 17)), (("org/tourney/ValueGraph", "openNodes", "[I"), (.ref 18)), (("org/tourney/ValueGraph", "dfsNodes", "[I"), (.ref 19)), (("org/tourney/ValueGraph", "dfsCursors", "[I"), (.ref 20)), (("org/tourney/ValueGraph", "openCount", "I"), (.int (oc))), (("org/tourney/ValueGraph", "edgeCount", "I"), (.int (ec)))]), .inr (.int, List.replicate m (Value.int (-1))), .inr (.int, List.replicate 4 (Value.int (-1))), .inr (.int, OP), .inr (.int, ES), .inr (.int, EE), .inr (.int, EV), .inr (.boolean, KM)] ++ T) 0 0 _
  refine W.aloadN d5_0 rfl rfl ?_
  refine W.getfield 4 d5_1 (hw _ (wd 23 rfl)) rfl rfl ?_
  refine W.aloadN d5_4 rfl rfl ?_
  refine W.dup d5_5 rfl ?_
  refine W.getfield 22 d5_6 (hw _ (wd 69 rfl)) rfl rfl ?_
  refine W.dupX1 d5_9 rfl rfl ?_
  refine W.iconst 1 d5_10 rfl ?_
  refine W.iadd d5_11 ?_
  refine W.putfield 22 d5_12 (hw _ (wd 69 rfl)) rfl rfl (Or.inl (hw _ (wd 70 rfl))) (hw _ (wd 2 rfl)) (ty := .int) (by decide) (fun _ => rfl) (fun _ => rfl) ?_
  refine W.iloadN d5_15 rfl ?_
  refine W.iastore (i := q) d5_16 rfl hq hOP ?_
  refine W.aloadN d5_17 rfl rfl ?_
  refine W.getfield 5 d5_18 (hw _ (wd 25 rfl)) rfl rfl ?_
  refine W.iloadN d5_21 rfl ?_
  refine W.aloadN d5_22 rfl rfl ?_
  refine W.getfield 23 d5_23 (hw _ (wd 71 rfl)) rfl rfl ?_
  refine W.iastore (i := p) d5_26 rfl (own_idx p (by omega)) hES ?_
  refine W.aloadN d5_27 rfl rfl ?_
  refine W.getfield 6 d5_28 (hw _ (wd 27 rfl)) rfl rfl ?_
  refine W.iloadN d5_31 rfl ?_
  refine W.aloadN d5_32 rfl rfl ?_
  refine W.getfield 23 d5_33 (hw _ (wd 71 rfl)) rfl rfl ?_
  refine W.iastore (i := p) d5_36 rfl (own_idx p (by omega)) hEE ?_
  show WB _ l Z n m5 37 [(.val (.ref 0)), (.val (.int (Int32.ofNat p)))] [] ([.inl ("org/tourney/ValueGraph", [(("org/tourney/ValueGraph", "positions", "I"), (.int (Int32.ofNat m))), (("org/tourney/ValueGraph", "values", "I"), (.int (4))), (("org/tourney/ValueGraph", "matchedValue", "[I"), (.ref 1)), (("org/tourney/ValueGraph", "matchedPosition", "[I"), (.ref 2)), (("org/tourney/ValueGraph", "openPositions", "[I"), (.ref 3)), (("org/tourney/ValueGraph", "edgeStart", "[I"), (.ref 4)), (("org/tourney/ValueGraph", "edgeEnd", "[I"), (.ref 5)), (("org/tourney/ValueGraph", "edgeValue", "[I"), (.ref 6)), (("org/tourney/ValueGraph", "keepsMatch", "[Z"), (.ref 7)), (("org/tourney/ValueGraph", "reached", "[I"), (.ref 8)), (("org/tourney/ValueGraph", "pathPositions", "[I"), (.ref 9)), (("org/tourney/ValueGraph", "pathCursors", "[I"), (.ref 10)), (("org/tourney/ValueGraph", "pathTried", "[I"), (.ref 11)), (("org/tourney/ValueGraph", "sizeCounts", "[I"), (.ref 12)), (("org/tourney/ValueGraph", "discovery", "[I"), (.ref 13)), (("org/tourney/ValueGraph", "discoveredIn", "[I"), (.ref 14)), (("org/tourney/ValueGraph", "lowest", "[I"), (.ref 15)), (("org/tourney/ValueGraph", "component", "[I"), (.ref 16)), (("org/tourney/ValueGraph", "isOpen", "[Z"), (.ref 17)), (("org/tourney/ValueGraph", "openNodes", "[I"), (.ref 18)), (("org/tourney/ValueGraph", "dfsNodes", "[I"), (.ref 19)), (("org/tourney/ValueGraph", "dfsCursors", "[I"), (.ref 20)), (("org/tourney/ValueGraph", "openCount", "I"), (.int (oc + 1))), (("org/tourney/ValueGraph", "edgeCount", "I"), (.int (ec)))]), .inr (.int, List.replicate m (Value.int (-1))), .inr (.int, List.replicate 4 (Value.int (-1))), .inr (.int, (OP).set q (.int (Int32.ofNat p))), .inr (.int, (ES).set p (.int (ec))), .inr (.int, (EE).set p (.int (ec))), .inr (.int, EV), .inr (.boolean, KM)] ++ T) _ _ _
  refine W.aloadN d5_37 rfl rfl ?_
  refine W.getfield 8 d5_38 (hw _ (wd 36 rfl)) rfl rfl ?_
  refine W.iloadN d5_41 rfl ?_
  refine W.iconst 0 d5_42 rfl ?_
  refine W.zastore (i := p) d5_43 rfl (own_idx p (by omega)) hKM ?_
  exact W.leave d5_44 rfl (by decide) (by decide) (⟨rfl, rfl⟩)
set_option maxRecDepth 65536 in
set_option maxHeartbeats 40000000 in
theorem w10 {l : Launch} {Z : State} {a0 : Array Value} {n : Nat} (hw : ∀ d ∈ tables_1, d.before a0 Z = true) (m p q : Nat) (oc ec : Int32) (OP ES EE EV KM : List Value) (T : AHeap) (v y : Int32) (ci : Nat) (hp : p < m) (hm : m < 10) (hq : ¬ oc - 1 < 0 ∧ (oc - 1).toNatClampNeg = q) (hOP : OP[q]? = some (.int (Int32.ofNat p))) (hEE : p < EE.length) (hKM : KM[p]? = some (.int y)) (hEV : EV.length = 16) (he : ¬ ec = 16) (hv : ¬ (-1 : Int32) = v) (hci : ¬ ec < 0 ∧ ec.toNatClampNeg = ci) (hc : ci < 16) : W l Z n m10 0 (entryL [.ref 0, .int v] 3) [] ([.inl ("org/tourney/ValueGraph", [(("org/tourney/ValueGraph", "positions", "I"), (.int (Int32.ofNat m))), (("org/tourney/ValueGraph", "values", "I"), (.int (4))), (("org/tourney/ValueGraph", "matchedValue", "[I"), (.ref 1)), (("org/tourney/ValueGraph", "matchedPosition", "[I"), (.ref 2)), (("org/tourney/ValueGraph", "openPositions", "[I"), (.ref 3)), (("org/tourney/ValueGraph", "edgeStart", "[I"), (.ref 4)), (("org/tourney/ValueGraph", "edgeEnd", "[I"), (.ref 5)), (("org/tourney/ValueGraph", "edgeValue", "[I"), (.ref 6)), (("org/tourney/ValueGraph", "keepsMatch", "[Z"), (.ref 7)), (("org/tourney/ValueGraph", "reached", "[I"), (.ref 8)), (("org/tourney/ValueGraph", "pathPositions", "[I"), (.ref 9)), (("org/tourney/ValueGraph", "pathCursors", "[I"), (.ref 10)), (("org/tourney/ValueGraph", "pathTried", "[I"), (.ref 11)), (("org/tourney/ValueGraph", "sizeCounts", "[I"), (.ref 12)), (("org/tourney/ValueGraph", "discovery", "[I"), (.ref 13)), (("org/tourney/ValueGraph", "discoveredIn", "[I"), (.ref 14)), (("org/tourney/ValueGraph", "lowest", "[I"), (.ref 15)), (("org/tourney/ValueGraph", "component", "[I"), (.ref 16)), (("org/tourney/ValueGraph", "isOpen", "[Z"), (.ref 17)), (("org/tourney/ValueGraph", "openNodes", "[I"), (.ref 18)), (("org/tourney/ValueGraph", "dfsNodes", "[I"), (.ref 19)), (("org/tourney/ValueGraph", "dfsCursors", "[I"), (.ref 20)), (("org/tourney/ValueGraph", "openCount", "I"), (.int (oc))), (("org/tourney/ValueGraph", "edgeCount", "I"), (.int (ec)))]), .inr (.int, List.replicate m (Value.int (-1))), .inr (.int, List.replicate 4 (Value.int (-1))), .inr (.int, OP), .inr (.int, ES), .inr (.int, EE), .inr (.int, EV), .inr (.boolean, KM)] ++ T) 0 0 (Is (some (.int (ec + 1 - 1))) ([.inl ("org/tourney/ValueGraph", [(("org/tourney/ValueGraph", "positions", "I"), (.int (Int32.ofNat m))), (("org/tourney/ValueGraph", "values", "I"), (.int (4))), (("org/tourney/ValueGraph", "matchedValue", "[I"), (.ref 1)), (("org/tourney/ValueGraph", "matchedPosition", "[I"), (.ref 2)), (("org/tourney/ValueGraph", "openPositions", "[I"), (.ref 3)), (("org/tourney/ValueGraph", "edgeStart", "[I"), (.ref 4)), (("org/tourney/ValueGraph", "edgeEnd", "[I"), (.ref 5)), (("org/tourney/ValueGraph", "edgeValue", "[I"), (.ref 6)), (("org/tourney/ValueGraph", "keepsMatch", "[Z"), (.ref 7)), (("org/tourney/ValueGraph", "reached", "[I"), (.ref 8)), (("org/tourney/ValueGraph", "pathPositions", "[I"), (.ref 9)), (("org/tourney/ValueGraph", "pathCursors", "[I"), (.ref 10)), (("org/tourney/ValueGraph", "pathTried", "[I"), (.ref 11)), (("org/tourney/ValueGraph", "sizeCounts", "[I"), (.ref 12)), (("org/tourney/ValueGraph", "discovery", "[I"), (.ref 13)), (("org/tourney/ValueGraph", "discoveredIn", "[I"), (.ref 14)), (("org/tourney/ValueGraph", "lowest", "[I"), (.ref 15)), (("org/tourney/ValueGraph", "component", "[I"), (.ref 16)), (("org/tourney/ValueGraph", "isOpen", "[Z"), (.ref 17)), (("org/tourney/ValueGraph", "openNodes", "[I"), (.ref 18)), (("org/tourney/ValueGraph", "dfsNodes", "[I"), (.ref 19)), (("org/tourney/ValueGraph", "dfsCursors", "[I"), (.ref 20)), (("org/tourney/ValueGraph", "openCount", "I"), (.int (oc))), (("org/tourney/ValueGraph", "edgeCount", "I"), (.int (ec + 1)))]), .inr (.int, List.replicate m (Value.int (-1))), .inr (.int, List.replicate 4 (Value.int (-1))), .inr (.int, OP), .inr (.int, ES), .inr (.int, EE.set p (.int (ec + 1))), .inr (.int, EV.set ci (.int v)), .inr (.boolean, KM.set p (.int ((y ||| 0) &&& 1)))] ++ T)) := by
  show W l Z n m10 0 [(.val (.ref 0)), (.val (.int (v))), .unset] [] ([.inl ("org/tourney/ValueGraph", [(("org/tourney/ValueGraph", "positions", "I"), (.int (Int32.ofNat m))), (("org/tourney/ValueGraph", "values", "I"), (.int (4))), (("org/tourney/ValueGraph", "matchedValue", "[I"), (.ref 1)), (("org/tourney/ValueGraph", "matchedPosition", "[I"), (.ref 2)), (("org/tourney/ValueGraph", "openPositions", "[I"), (.ref 3)), (("org/tourney/ValueGraph", "edgeStart", "[I"), (.ref 4)), (("org/tourney/ValueGraph", "edgeEnd", "[I"), (.ref 5)), (("org/tourney/ValueGraph", "edgeValue", "[I"), (.ref 6)), (("org/tourney/ValueGraph", "keepsMatch", "[Z"), (.ref 7)), (("org/tourney/ValueGraph", "reached", "[I"), (.ref 8)), (("org/tourney/ValueGraph", "pathPositions", "[I"), (.ref 9)), (("org/tourney/ValueGraph", "pathCursors", "[I"), (.ref 10)), (("org/tourney/ValueGraph", "pathTried", "[I"), (.ref 11)), (("org/tourney/ValueGraph", "sizeCounts", "[I"), (.ref 12)), (("org/tourney/ValueGraph", "discovery", "[I"), (.ref 13)), (("org/tourney/ValueGraph", "discoveredIn", "[I"), (.ref 14)), (("org/tourney/ValueGraph", "lowest", "[I"), (.ref 15)), (("org/tourney/ValueGraph", "component", "[I"), (.ref 16)), (("org/tourney/ValueGraph", "isOpen", "[Z"), (.ref 17)), (("org/tourney/ValueGraph", "openNodes", "[I"), (.ref 18)), (("org/tourney/ValueGraph", "dfsNodes", "[I"), (.ref 19)), (("org/tourney/ValueGraph", "dfsCursors", "[I"), (.ref 20)), (("org/tourney/ValueGraph", "openCount", "I"), (.int (oc))), (("org/tourney/ValueGraph", "edgeCount", "I"), (.int (ec)))]), .inr (.int, List.replicate m (Value.int (-1))), .inr (.int, List.replicate 4 (Value.int (-1))), .inr (.int, OP), .inr (.int, ES), .inr (.int, EE), .inr (.int, EV), .inr (.boolean, KM)] ++ T) 0 0 _
  refine W.aloadN d10_0 rfl rfl ?_
  refine W.getfield 23 d10_1 (hw _ (wd 71 rfl)) rfl rfl ?_
  refine W.aloadN d10_4 rfl rfl ?_
  refine W.getfield 7 d10_5 (hw _ (wd 33 rfl)) rfl rfl ?_
  refine W.arraylength 16 d10_8 rfl rfl (by rw [hEV] <;> rfl) ?_
  refine W.icmp_ne d10_9 (fun h9 => ?_) (fun h => False.elim (he h))
  refine W.aloadN d10_29 rfl rfl ?_
  refine W.getfield 4 d10_30 (hw _ (wd 23 rfl)) rfl rfl ?_
  refine W.aloadN d10_33 rfl rfl ?_
  refine W.getfield 22 d10_34 (hw _ (wd 69 rfl)) rfl rfl ?_
  refine W.iconst 1 d10_37 rfl ?_
  refine W.isub d10_38 ?_
  refine W.iaload (i := q) d10_39 rfl hq hOP ?_
  refine W.istoreN d10_40 rfl ?_
  refine W.aloadN d10_41 rfl rfl ?_
  refine W.getfield 8 d10_42 (hw _ (wd 36 rfl)) rfl rfl ?_
  refine W.iloadN d10_45 rfl ?_
  refine W.dup2 d10_46 rfl rfl ?_
  refine W.zaload (i := p) d10_47 rfl (own_idx p (by omega)) hKM ?_
  refine W.aloadN d10_48 rfl rfl ?_
  refine W.getfield 2 d10_49 (hw _ (wd 15 rfl)) rfl rfl ?_
  refine W.iloadN d10_52 rfl ?_
  refine W.iaload (i := p) d10_53 rfl (own_idx p (by omega)) (own_rep _ _ _ hp) ?_
  refine W.iloadN d10_54 rfl ?_
  refine W.icmp_ne d10_55 (fun h55 => ?_) (fun h => False.elim (hv h))
  refine W.iconst 0 d10_62 rfl ?_
  refine W.ior d10_63 ?_
  refine W.zastore (i := p) d10_64 rfl (own_idx p (by omega)) (List.getElem?_eq_some_iff.mp hKM).1 ?_
  refine W.aloadN d10_65 rfl rfl ?_
  refine W.getfield 7 d10_66 (hw _ (wd 33 rfl)) rfl rfl ?_
  refine W.aloadN d10_69 rfl rfl ?_
  refine W.getfield 23 d10_70 (hw _ (wd 71 rfl)) rfl rfl ?_
  refine W.iloadN d10_73 rfl ?_
  refine W.iastore (i := ci) d10_74 rfl hci (by rw [hEV]; exact hc) ?_
  refine W.aloadN d10_75 rfl rfl ?_
  refine W.getfield 6 d10_76 (hw _ (wd 27 rfl)) rfl rfl ?_
  refine W.iloadN d10_79 rfl ?_
  refine W.aloadN d10_80 rfl rfl ?_
  refine W.dup d10_81 rfl ?_
  refine W.getfield 23 d10_82 (hw _ (wd 71 rfl)) rfl rfl ?_
  refine W.iconst 1 d10_85 rfl ?_
  refine W.iadd d10_86 ?_
  refine W.dupX1 d10_87 rfl rfl ?_
  refine W.putfield 23 d10_88 (hw _ (wd 71 rfl)) rfl rfl (Or.inl (hw _ (wd 72 rfl))) (hw _ (wd 2 rfl)) (ty := .int) (by decide) (fun _ => rfl) (fun _ => rfl) ?_
  show WB _ l Z n m10 91 [(.val (.ref 0)), (.val (.int (v))), (.val (.int (Int32.ofNat p)))] [(.int (ec + 1)), (.int (Int32.ofNat p)), (.ref 5)] ([.inl ("org/tourney/ValueGraph", [(("org/tourney/ValueGraph", "positions", "I"), (.int (Int32.ofNat m))), (("org/tourney/ValueGraph", "values", "I"), (.int (4))), (("org/tourney/ValueGraph", "matchedValue", "[I"), (.ref 1)), (("org/tourney/ValueGraph", "matchedPosition", "[I"), (.ref 2)), (("org/tourney/ValueGraph", "openPositions", "[I"), (.ref 3)), (("org/tourney/ValueGraph", "edgeStart", "[I"), (.ref 4)), (("org/tourney/ValueGraph", "edgeEnd", "[I"), (.ref 5)), (("org/tourney/ValueGraph", "edgeValue", "[I"), (.ref 6)), (("org/tourney/ValueGraph", "keepsMatch", "[Z"), (.ref 7)), (("org/tourney/ValueGraph", "reached", "[I"), (.ref 8)), (("org/tourney/ValueGraph", "pathPositions", "[I"), (.ref 9)), (("org/tourney/ValueGraph", "pathCursors", "[I"), (.ref 10)), (("org/tourney/ValueGraph", "pathTried", "[I"), (.ref 11)), (("org/tourney/ValueGraph", "sizeCounts", "[I"), (.ref 12)), (("org/tourney/ValueGraph", "discovery", "[I"), (.ref 13)), (("org/tourney/ValueGraph", "discoveredIn", "[I"), (.ref 14)), (("org/tourney/ValueGraph", "lowest", "[I"), (.ref 15)), (("org/tourney/ValueGraph", "component", "[I"), (.ref 16)), (("org/tourney/ValueGraph", "isOpen", "[Z"), (.ref 17)), (("org/tourney/ValueGraph", "openNodes", "[I"), (.ref 18)), (("org/tourney/ValueGraph", "dfsNodes", "[I"), (.ref 19)), (("org/tourney/ValueGraph", "dfsCursors", "[I"), (.ref 20)), (("org/tourney/ValueGraph", "openCount", "I"), (.int (oc))), (("org/tourney/ValueGraph", "edgeCount", "I"), (.int (ec + 1)))]), .inr (.int, List.replicate m (Value.int (-1))), .inr (.int, List.replicate 4 (Value.int (-1))), .inr (.int, OP), .inr (.int, ES), .inr (.int, EE), .inr (.int, (EV).set ci (.int (v))), .inr (.boolean, (KM).set p (.int ((y ||| 0) &&& 1)))] ++ T) _ _ _
  refine W.iastore (i := p) d10_91 rfl (own_idx p (by omega)) hEE ?_
  refine W.aloadN d10_92 rfl rfl ?_
  refine W.getfield 23 d10_93 (hw _ (wd 71 rfl)) rfl rfl ?_
  refine W.iconst 1 d10_96 rfl ?_
  refine W.isub d10_97 ?_
  exact W.ireturn d10_98 rfl (by decide) (by decide) (⟨rfl, rfl⟩)
set_option maxRecDepth 65536 in
set_option maxHeartbeats 40000000 in
theorem w7 {l : Launch} {Z : State} {a0 : Array Value} {n : Nat} (hw : ∀ d ∈ tables_1, d.before a0 Z = true) (m q : Nat) (oc ec j x : Int32) (OP ES EE EV KM : List Value) (T : AHeap) (hq : ¬ j < 0 ∧ j.toNatClampNeg = q) (hv : OP[q]? = some (.int x)) : W l Z n m7 0 (entryL [.ref 0, .int j] 2) [] ([.inl ("org/tourney/ValueGraph", [(("org/tourney/ValueGraph", "positions", "I"), (.int (Int32.ofNat m))), (("org/tourney/ValueGraph", "values", "I"), (.int (4))), (("org/tourney/ValueGraph", "matchedValue", "[I"), (.ref 1)), (("org/tourney/ValueGraph", "matchedPosition", "[I"), (.ref 2)), (("org/tourney/ValueGraph", "openPositions", "[I"), (.ref 3)), (("org/tourney/ValueGraph", "edgeStart", "[I"), (.ref 4)), (("org/tourney/ValueGraph", "edgeEnd", "[I"), (.ref 5)), (("org/tourney/ValueGraph", "edgeValue", "[I"), (.ref 6)), (("org/tourney/ValueGraph", "keepsMatch", "[Z"), (.ref 7)), (("org/tourney/ValueGraph", "reached", "[I"), (.ref 8)), (("org/tourney/ValueGraph", "pathPositions", "[I"), (.ref 9)), (("org/tourney/ValueGraph", "pathCursors", "[I"), (.ref 10)), (("org/tourney/ValueGraph", "pathTried", "[I"), (.ref 11)), (("org/tourney/ValueGraph", "sizeCounts", "[I"), (.ref 12)), (("org/tourney/ValueGraph", "discovery", "[I"), (.ref 13)), (("org/tourney/ValueGraph", "discoveredIn", "[I"), (.ref 14)), (("org/tourney/ValueGraph", "lowest", "[I"), (.ref 15)), (("org/tourney/ValueGraph", "component", "[I"), (.ref 16)), (("org/tourney/ValueGraph", "isOpen", "[Z"), (.ref 17)), (("org/tourney/ValueGraph", "openNodes", "[I"), (.ref 18)), (("org/tourney/ValueGraph", "dfsNodes", "[I"), (.ref 19)), (("org/tourney/ValueGraph", "dfsCursors", "[I"), (.ref 20)), (("org/tourney/ValueGraph", "openCount", "I"), (.int (oc))), (("org/tourney/ValueGraph", "edgeCount", "I"), (.int (ec)))]), .inr (.int, List.replicate m (Value.int (-1))), .inr (.int, List.replicate 4 (Value.int (-1))), .inr (.int, OP), .inr (.int, ES), .inr (.int, EE), .inr (.int, EV), .inr (.boolean, KM)] ++ T) 0 0 (Is (some (.int x)) ([.inl ("org/tourney/ValueGraph", [(("org/tourney/ValueGraph", "positions", "I"), (.int (Int32.ofNat m))), (("org/tourney/ValueGraph", "values", "I"), (.int (4))), (("org/tourney/ValueGraph", "matchedValue", "[I"), (.ref 1)), (("org/tourney/ValueGraph", "matchedPosition", "[I"), (.ref 2)), (("org/tourney/ValueGraph", "openPositions", "[I"), (.ref 3)), (("org/tourney/ValueGraph", "edgeStart", "[I"), (.ref 4)), (("org/tourney/ValueGraph", "edgeEnd", "[I"), (.ref 5)), (("org/tourney/ValueGraph", "edgeValue", "[I"), (.ref 6)), (("org/tourney/ValueGraph", "keepsMatch", "[Z"), (.ref 7)), (("org/tourney/ValueGraph", "reached", "[I"), (.ref 8)), (("org/tourney/ValueGraph", "pathPositions", "[I"), (.ref 9)), (("org/tourney/ValueGraph", "pathCursors", "[I"), (.ref 10)), (("org/tourney/ValueGraph", "pathTried", "[I"), (.ref 11)), (("org/tourney/ValueGraph", "sizeCounts", "[I"), (.ref 12)), (("org/tourney/ValueGraph", "discovery", "[I"), (.ref 13)), (("org/tourney/ValueGraph", "discoveredIn", "[I"), (.ref 14)), (("org/tourney/ValueGraph", "lowest", "[I"), (.ref 15)), (("org/tourney/ValueGraph", "component", "[I"), (.ref 16)), (("org/tourney/ValueGraph", "isOpen", "[Z"), (.ref 17)), (("org/tourney/ValueGraph", "openNodes", "[I"), (.ref 18)), (("org/tourney/ValueGraph", "dfsNodes", "[I"), (.ref 19)), (("org/tourney/ValueGraph", "dfsCursors", "[I"), (.ref 20)), (("org/tourney/ValueGraph", "openCount", "I"), (.int (oc))), (("org/tourney/ValueGraph", "edgeCount", "I"), (.int (ec)))]), .inr (.int, List.replicate m (Value.int (-1))), .inr (.int, List.replicate 4 (Value.int (-1))), .inr (.int, OP), .inr (.int, ES), .inr (.int, EE), .inr (.int, EV), .inr (.boolean, KM)] ++ T)) := by
  show W l Z n m7 0 [(.val (.ref 0)), (.val (.int (j)))] [] ([.inl ("org/tourney/ValueGraph", [(("org/tourney/ValueGraph", "positions", "I"), (.int (Int32.ofNat m))), (("org/tourney/ValueGraph", "values", "I"), (.int (4))), (("org/tourney/ValueGraph", "matchedValue", "[I"), (.ref 1)), (("org/tourney/ValueGraph", "matchedPosition", "[I"), (.ref 2)), (("org/tourney/ValueGraph", "openPositions", "[I"), (.ref 3)), (("org/tourney/ValueGraph", "edgeStart", "[I"), (.ref 4)), (("org/tourney/ValueGraph", "edgeEnd", "[I"), (.ref 5)), (("org/tourney/ValueGraph", "edgeValue", "[I"), (.ref 6)), (("org/tourney/ValueGraph", "keepsMatch", "[Z"), (.ref 7)), (("org/tourney/ValueGraph", "reached", "[I"), (.ref 8)), (("org/tourney/ValueGraph", "pathPositions", "[I"), (.ref 9)), (("org/tourney/ValueGraph", "pathCursors", "[I"), (.ref 10)), (("org/tourney/ValueGraph", "pathTried", "[I"), (.ref 11)), (("org/tourney/ValueGraph", "sizeCounts", "[I"), (.ref 12)), (("org/tourney/ValueGraph", "discovery", "[I"), (.ref 13)), (("org/tourney/ValueGraph", "discoveredIn", "[I"), (.ref 14)), (("org/tourney/ValueGraph", "lowest", "[I"), (.ref 15)), (("org/tourney/ValueGraph", "component", "[I"), (.ref 16)), (("org/tourney/ValueGraph", "isOpen", "[Z"), (.ref 17)), (("org/tourney/ValueGraph", "openNodes", "[I"), (.ref 18)), (("org/tourney/ValueGraph", "dfsNodes", "[I"), (.ref 19)), (("org/tourney/ValueGraph", "dfsCursors", "[I"), (.ref 20)), (("org/tourney/ValueGraph", "openCount", "I"), (.int (oc))), (("org/tourney/ValueGraph", "edgeCount", "I"), (.int (ec)))]), .inr (.int, List.replicate m (Value.int (-1))), .inr (.int, List.replicate 4 (Value.int (-1))), .inr (.int, OP), .inr (.int, ES), .inr (.int, EE), .inr (.int, EV), .inr (.boolean, KM)] ++ T) 0 0 _
  refine W.aloadN d7_0 rfl rfl ?_
  refine W.getfield 4 d7_1 (hw _ (wd 23 rfl)) rfl rfl ?_
  refine W.iloadN d7_4 rfl ?_
  refine W.iaload (i := q) d7_5 rfl hq hv ?_
  exact W.ireturn d7_6 rfl (by decide) (by decide) (⟨rfl, rfl⟩)
set_option maxRecDepth 65536 in
set_option maxHeartbeats 40000000 in
theorem w8 {l : Launch} {Z : State} {a0 : Array Value} {n : Nat} (hw : ∀ d ∈ tables_1, d.before a0 Z = true) (m q : Nat) (oc ec j x : Int32) (OP ES EE EV KM : List Value) (T : AHeap) (hq : ¬ j < 0 ∧ j.toNatClampNeg = q) (hv : ES[q]? = some (.int x)) : W l Z n m8 0 (entryL [.ref 0, .int j] 2) [] ([.inl ("org/tourney/ValueGraph", [(("org/tourney/ValueGraph", "positions", "I"), (.int (Int32.ofNat m))), (("org/tourney/ValueGraph", "values", "I"), (.int (4))), (("org/tourney/ValueGraph", "matchedValue", "[I"), (.ref 1)), (("org/tourney/ValueGraph", "matchedPosition", "[I"), (.ref 2)), (("org/tourney/ValueGraph", "openPositions", "[I"), (.ref 3)), (("org/tourney/ValueGraph", "edgeStart", "[I"), (.ref 4)), (("org/tourney/ValueGraph", "edgeEnd", "[I"), (.ref 5)), (("org/tourney/ValueGraph", "edgeValue", "[I"), (.ref 6)), (("org/tourney/ValueGraph", "keepsMatch", "[Z"), (.ref 7)), (("org/tourney/ValueGraph", "reached", "[I"), (.ref 8)), (("org/tourney/ValueGraph", "pathPositions", "[I"), (.ref 9)), (("org/tourney/ValueGraph", "pathCursors", "[I"), (.ref 10)), (("org/tourney/ValueGraph", "pathTried", "[I"), (.ref 11)), (("org/tourney/ValueGraph", "sizeCounts", "[I"), (.ref 12)), (("org/tourney/ValueGraph", "discovery", "[I"), (.ref 13)), (("org/tourney/ValueGraph", "discoveredIn", "[I"), (.ref 14)), (("org/tourney/ValueGraph", "lowest", "[I"), (.ref 15)), (("org/tourney/ValueGraph", "component", "[I"), (.ref 16)), (("org/tourney/ValueGraph", "isOpen", "[Z"), (.ref 17)), (("org/tourney/ValueGraph", "openNodes", "[I"), (.ref 18)), (("org/tourney/ValueGraph", "dfsNodes", "[I"), (.ref 19)), (("org/tourney/ValueGraph", "dfsCursors", "[I"), (.ref 20)), (("org/tourney/ValueGraph", "openCount", "I"), (.int (oc))), (("org/tourney/ValueGraph", "edgeCount", "I"), (.int (ec)))]), .inr (.int, List.replicate m (Value.int (-1))), .inr (.int, List.replicate 4 (Value.int (-1))), .inr (.int, OP), .inr (.int, ES), .inr (.int, EE), .inr (.int, EV), .inr (.boolean, KM)] ++ T) 0 0 (Is (some (.int x)) ([.inl ("org/tourney/ValueGraph", [(("org/tourney/ValueGraph", "positions", "I"), (.int (Int32.ofNat m))), (("org/tourney/ValueGraph", "values", "I"), (.int (4))), (("org/tourney/ValueGraph", "matchedValue", "[I"), (.ref 1)), (("org/tourney/ValueGraph", "matchedPosition", "[I"), (.ref 2)), (("org/tourney/ValueGraph", "openPositions", "[I"), (.ref 3)), (("org/tourney/ValueGraph", "edgeStart", "[I"), (.ref 4)), (("org/tourney/ValueGraph", "edgeEnd", "[I"), (.ref 5)), (("org/tourney/ValueGraph", "edgeValue", "[I"), (.ref 6)), (("org/tourney/ValueGraph", "keepsMatch", "[Z"), (.ref 7)), (("org/tourney/ValueGraph", "reached", "[I"), (.ref 8)), (("org/tourney/ValueGraph", "pathPositions", "[I"), (.ref 9)), (("org/tourney/ValueGraph", "pathCursors", "[I"), (.ref 10)), (("org/tourney/ValueGraph", "pathTried", "[I"), (.ref 11)), (("org/tourney/ValueGraph", "sizeCounts", "[I"), (.ref 12)), (("org/tourney/ValueGraph", "discovery", "[I"), (.ref 13)), (("org/tourney/ValueGraph", "discoveredIn", "[I"), (.ref 14)), (("org/tourney/ValueGraph", "lowest", "[I"), (.ref 15)), (("org/tourney/ValueGraph", "component", "[I"), (.ref 16)), (("org/tourney/ValueGraph", "isOpen", "[Z"), (.ref 17)), (("org/tourney/ValueGraph", "openNodes", "[I"), (.ref 18)), (("org/tourney/ValueGraph", "dfsNodes", "[I"), (.ref 19)), (("org/tourney/ValueGraph", "dfsCursors", "[I"), (.ref 20)), (("org/tourney/ValueGraph", "openCount", "I"), (.int (oc))), (("org/tourney/ValueGraph", "edgeCount", "I"), (.int (ec)))]), .inr (.int, List.replicate m (Value.int (-1))), .inr (.int, List.replicate 4 (Value.int (-1))), .inr (.int, OP), .inr (.int, ES), .inr (.int, EE), .inr (.int, EV), .inr (.boolean, KM)] ++ T)) := by
  show W l Z n m8 0 [(.val (.ref 0)), (.val (.int (j)))] [] ([.inl ("org/tourney/ValueGraph", [(("org/tourney/ValueGraph", "positions", "I"), (.int (Int32.ofNat m))), (("org/tourney/ValueGraph", "values", "I"), (.int (4))), (("org/tourney/ValueGraph", "matchedValue", "[I"), (.ref 1)), (("org/tourney/ValueGraph", "matchedPosition", "[I"), (.ref 2)), (("org/tourney/ValueGraph", "openPositions", "[I"), (.ref 3)), (("org/tourney/ValueGraph", "edgeStart", "[I"), (.ref 4)), (("org/tourney/ValueGraph", "edgeEnd", "[I"), (.ref 5)), (("org/tourney/ValueGraph", "edgeValue", "[I"), (.ref 6)), (("org/tourney/ValueGraph", "keepsMatch", "[Z"), (.ref 7)), (("org/tourney/ValueGraph", "reached", "[I"), (.ref 8)), (("org/tourney/ValueGraph", "pathPositions", "[I"), (.ref 9)), (("org/tourney/ValueGraph", "pathCursors", "[I"), (.ref 10)), (("org/tourney/ValueGraph", "pathTried", "[I"), (.ref 11)), (("org/tourney/ValueGraph", "sizeCounts", "[I"), (.ref 12)), (("org/tourney/ValueGraph", "discovery", "[I"), (.ref 13)), (("org/tourney/ValueGraph", "discoveredIn", "[I"), (.ref 14)), (("org/tourney/ValueGraph", "lowest", "[I"), (.ref 15)), (("org/tourney/ValueGraph", "component", "[I"), (.ref 16)), (("org/tourney/ValueGraph", "isOpen", "[Z"), (.ref 17)), (("org/tourney/ValueGraph", "openNodes", "[I"), (.ref 18)), (("org/tourney/ValueGraph", "dfsNodes", "[I"), (.ref 19)), (("org/tourney/ValueGraph", "dfsCursors", "[I"), (.ref 20)), (("org/tourney/ValueGraph", "openCount", "I"), (.int (oc))), (("org/tourney/ValueGraph", "edgeCount", "I"), (.int (ec)))]), .inr (.int, List.replicate m (Value.int (-1))), .inr (.int, List.replicate 4 (Value.int (-1))), .inr (.int, OP), .inr (.int, ES), .inr (.int, EE), .inr (.int, EV), .inr (.boolean, KM)] ++ T) 0 0 _
  refine W.aloadN d8_0 rfl rfl ?_
  refine W.getfield 5 d8_1 (hw _ (wd 25 rfl)) rfl rfl ?_
  refine W.iloadN d8_4 rfl ?_
  refine W.iaload (i := q) d8_5 rfl hq hv ?_
  exact W.ireturn d8_6 rfl (by decide) (by decide) (⟨rfl, rfl⟩)
set_option maxRecDepth 65536 in
set_option maxHeartbeats 40000000 in
theorem w9 {l : Launch} {Z : State} {a0 : Array Value} {n : Nat} (hw : ∀ d ∈ tables_1, d.before a0 Z = true) (m q : Nat) (oc ec j x : Int32) (OP ES EE EV KM : List Value) (T : AHeap) (hq : ¬ j < 0 ∧ j.toNatClampNeg = q) (hv : EE[q]? = some (.int x)) : W l Z n m9 0 (entryL [.ref 0, .int j] 2) [] ([.inl ("org/tourney/ValueGraph", [(("org/tourney/ValueGraph", "positions", "I"), (.int (Int32.ofNat m))), (("org/tourney/ValueGraph", "values", "I"), (.int (4))), (("org/tourney/ValueGraph", "matchedValue", "[I"), (.ref 1)), (("org/tourney/ValueGraph", "matchedPosition", "[I"), (.ref 2)), (("org/tourney/ValueGraph", "openPositions", "[I"), (.ref 3)), (("org/tourney/ValueGraph", "edgeStart", "[I"), (.ref 4)), (("org/tourney/ValueGraph", "edgeEnd", "[I"), (.ref 5)), (("org/tourney/ValueGraph", "edgeValue", "[I"), (.ref 6)), (("org/tourney/ValueGraph", "keepsMatch", "[Z"), (.ref 7)), (("org/tourney/ValueGraph", "reached", "[I"), (.ref 8)), (("org/tourney/ValueGraph", "pathPositions", "[I"), (.ref 9)), (("org/tourney/ValueGraph", "pathCursors", "[I"), (.ref 10)), (("org/tourney/ValueGraph", "pathTried", "[I"), (.ref 11)), (("org/tourney/ValueGraph", "sizeCounts", "[I"), (.ref 12)), (("org/tourney/ValueGraph", "discovery", "[I"), (.ref 13)), (("org/tourney/ValueGraph", "discoveredIn", "[I"), (.ref 14)), (("org/tourney/ValueGraph", "lowest", "[I"), (.ref 15)), (("org/tourney/ValueGraph", "component", "[I"), (.ref 16)), (("org/tourney/ValueGraph", "isOpen", "[Z"), (.ref 17)), (("org/tourney/ValueGraph", "openNodes", "[I"), (.ref 18)), (("org/tourney/ValueGraph", "dfsNodes", "[I"), (.ref 19)), (("org/tourney/ValueGraph", "dfsCursors", "[I"), (.ref 20)), (("org/tourney/ValueGraph", "openCount", "I"), (.int (oc))), (("org/tourney/ValueGraph", "edgeCount", "I"), (.int (ec)))]), .inr (.int, List.replicate m (Value.int (-1))), .inr (.int, List.replicate 4 (Value.int (-1))), .inr (.int, OP), .inr (.int, ES), .inr (.int, EE), .inr (.int, EV), .inr (.boolean, KM)] ++ T) 0 0 (Is (some (.int x)) ([.inl ("org/tourney/ValueGraph", [(("org/tourney/ValueGraph", "positions", "I"), (.int (Int32.ofNat m))), (("org/tourney/ValueGraph", "values", "I"), (.int (4))), (("org/tourney/ValueGraph", "matchedValue", "[I"), (.ref 1)), (("org/tourney/ValueGraph", "matchedPosition", "[I"), (.ref 2)), (("org/tourney/ValueGraph", "openPositions", "[I"), (.ref 3)), (("org/tourney/ValueGraph", "edgeStart", "[I"), (.ref 4)), (("org/tourney/ValueGraph", "edgeEnd", "[I"), (.ref 5)), (("org/tourney/ValueGraph", "edgeValue", "[I"), (.ref 6)), (("org/tourney/ValueGraph", "keepsMatch", "[Z"), (.ref 7)), (("org/tourney/ValueGraph", "reached", "[I"), (.ref 8)), (("org/tourney/ValueGraph", "pathPositions", "[I"), (.ref 9)), (("org/tourney/ValueGraph", "pathCursors", "[I"), (.ref 10)), (("org/tourney/ValueGraph", "pathTried", "[I"), (.ref 11)), (("org/tourney/ValueGraph", "sizeCounts", "[I"), (.ref 12)), (("org/tourney/ValueGraph", "discovery", "[I"), (.ref 13)), (("org/tourney/ValueGraph", "discoveredIn", "[I"), (.ref 14)), (("org/tourney/ValueGraph", "lowest", "[I"), (.ref 15)), (("org/tourney/ValueGraph", "component", "[I"), (.ref 16)), (("org/tourney/ValueGraph", "isOpen", "[Z"), (.ref 17)), (("org/tourney/ValueGraph", "openNodes", "[I"), (.ref 18)), (("org/tourney/ValueGraph", "dfsNodes", "[I"), (.ref 19)), (("org/tourney/ValueGraph", "dfsCursors", "[I"), (.ref 20)), (("org/tourney/ValueGraph", "openCount", "I"), (.int (oc))), (("org/tourney/ValueGraph", "edgeCount", "I"), (.int (ec)))]), .inr (.int, List.replicate m (Value.int (-1))), .inr (.int, List.replicate 4 (Value.int (-1))), .inr (.int, OP), .inr (.int, ES), .inr (.int, EE), .inr (.int, EV), .inr (.boolean, KM)] ++ T)) := by
  show W l Z n m9 0 [(.val (.ref 0)), (.val (.int (j)))] [] ([.inl ("org/tourney/ValueGraph", [(("org/tourney/ValueGraph", "positions", "I"), (.int (Int32.ofNat m))), (("org/tourney/ValueGraph", "values", "I"), (.int (4))), (("org/tourney/ValueGraph", "matchedValue", "[I"), (.ref 1)), (("org/tourney/ValueGraph", "matchedPosition", "[I"), (.ref 2)), (("org/tourney/ValueGraph", "openPositions", "[I"), (.ref 3)), (("org/tourney/ValueGraph", "edgeStart", "[I"), (.ref 4)), (("org/tourney/ValueGraph", "edgeEnd", "[I"), (.ref 5)), (("org/tourney/ValueGraph", "edgeValue", "[I"), (.ref 6)), (("org/tourney/ValueGraph", "keepsMatch", "[Z"), (.ref 7)), (("org/tourney/ValueGraph", "reached", "[I"), (.ref 8)), (("org/tourney/ValueGraph", "pathPositions", "[I"), (.ref 9)), (("org/tourney/ValueGraph", "pathCursors", "[I"), (.ref 10)), (("org/tourney/ValueGraph", "pathTried", "[I"), (.ref 11)), (("org/tourney/ValueGraph", "sizeCounts", "[I"), (.ref 12)), (("org/tourney/ValueGraph", "discovery", "[I"), (.ref 13)), (("org/tourney/ValueGraph", "discoveredIn", "[I"), (.ref 14)), (("org/tourney/ValueGraph", "lowest", "[I"), (.ref 15)), (("org/tourney/ValueGraph", "component", "[I"), (.ref 16)), (("org/tourney/ValueGraph", "isOpen", "[Z"), (.ref 17)), (("org/tourney/ValueGraph", "openNodes", "[I"), (.ref 18)), (("org/tourney/ValueGraph", "dfsNodes", "[I"), (.ref 19)), (("org/tourney/ValueGraph", "dfsCursors", "[I"), (.ref 20)), (("org/tourney/ValueGraph", "openCount", "I"), (.int (oc))), (("org/tourney/ValueGraph", "edgeCount", "I"), (.int (ec)))]), .inr (.int, List.replicate m (Value.int (-1))), .inr (.int, List.replicate 4 (Value.int (-1))), .inr (.int, OP), .inr (.int, ES), .inr (.int, EE), .inr (.int, EV), .inr (.boolean, KM)] ++ T) 0 0 _
  refine W.aloadN d9_0 rfl rfl ?_
  refine W.getfield 6 d9_1 (hw _ (wd 27 rfl)) rfl rfl ?_
  refine W.iloadN d9_4 rfl ?_
  refine W.iaload (i := q) d9_5 rfl hq hv ?_
  exact W.ireturn d9_6 rfl (by decide) (by decide) (⟨rfl, rfl⟩)
set_option maxRecDepth 65536 in
set_option maxHeartbeats 40000000 in
theorem w6 {l : Launch} {Z : State} {a0 : Array Value} {n : Nat} (hw : ∀ d ∈ tables_1, d.before a0 Z = true) (m : Nat) (oc ec : Int32) (OP ES EE EV KM : List Value) (T : AHeap) : W l Z n m6 0 (entryL [.ref 0] 1) [] ([.inl ("org/tourney/ValueGraph", [(("org/tourney/ValueGraph", "positions", "I"), (.int (Int32.ofNat m))), (("org/tourney/ValueGraph", "values", "I"), (.int (4))), (("org/tourney/ValueGraph", "matchedValue", "[I"), (.ref 1)), (("org/tourney/ValueGraph", "matchedPosition", "[I"), (.ref 2)), (("org/tourney/ValueGraph", "openPositions", "[I"), (.ref 3)), (("org/tourney/ValueGraph", "edgeStart", "[I"), (.ref 4)), (("org/tourney/ValueGraph", "edgeEnd", "[I"), (.ref 5)), (("org/tourney/ValueGraph", "edgeValue", "[I"), (.ref 6)), (("org/tourney/ValueGraph", "keepsMatch", "[Z"), (.ref 7)), (("org/tourney/ValueGraph", "reached", "[I"), (.ref 8)), (("org/tourney/ValueGraph", "pathPositions", "[I"), (.ref 9)), (("org/tourney/ValueGraph", "pathCursors", "[I"), (.ref 10)), (("org/tourney/ValueGraph", "pathTried", "[I"), (.ref 11)), (("org/tourney/ValueGraph", "sizeCounts", "[I"), (.ref 12)), (("org/tourney/ValueGraph", "discovery", "[I"), (.ref 13)), (("org/tourney/ValueGraph", "discoveredIn", "[I"), (.ref 14)), (("org/tourney/ValueGraph", "lowest", "[I"), (.ref 15)), (("org/tourney/ValueGraph", "component", "[I"), (.ref 16)), (("org/tourney/ValueGraph", "isOpen", "[Z"), (.ref 17)), (("org/tourney/ValueGraph", "openNodes", "[I"), (.ref 18)), (("org/tourney/ValueGraph", "dfsNodes", "[I"), (.ref 19)), (("org/tourney/ValueGraph", "dfsCursors", "[I"), (.ref 20)), (("org/tourney/ValueGraph", "openCount", "I"), (.int (oc))), (("org/tourney/ValueGraph", "edgeCount", "I"), (.int (ec)))]), .inr (.int, List.replicate m (Value.int (-1))), .inr (.int, List.replicate 4 (Value.int (-1))), .inr (.int, OP), .inr (.int, ES), .inr (.int, EE), .inr (.int, EV), .inr (.boolean, KM)] ++ T) 0 0 (Is (some (.int oc)) ([.inl ("org/tourney/ValueGraph", [(("org/tourney/ValueGraph", "positions", "I"), (.int (Int32.ofNat m))), (("org/tourney/ValueGraph", "values", "I"), (.int (4))), (("org/tourney/ValueGraph", "matchedValue", "[I"), (.ref 1)), (("org/tourney/ValueGraph", "matchedPosition", "[I"), (.ref 2)), (("org/tourney/ValueGraph", "openPositions", "[I"), (.ref 3)), (("org/tourney/ValueGraph", "edgeStart", "[I"), (.ref 4)), (("org/tourney/ValueGraph", "edgeEnd", "[I"), (.ref 5)), (("org/tourney/ValueGraph", "edgeValue", "[I"), (.ref 6)), (("org/tourney/ValueGraph", "keepsMatch", "[Z"), (.ref 7)), (("org/tourney/ValueGraph", "reached", "[I"), (.ref 8)), (("org/tourney/ValueGraph", "pathPositions", "[I"), (.ref 9)), (("org/tourney/ValueGraph", "pathCursors", "[I"), (.ref 10)), (("org/tourney/ValueGraph", "pathTried", "[I"), (.ref 11)), (("org/tourney/ValueGraph", "sizeCounts", "[I"), (.ref 12)), (("org/tourney/ValueGraph", "discovery", "[I"), (.ref 13)), (("org/tourney/ValueGraph", "discoveredIn", "[I"), (.ref 14)), (("org/tourney/ValueGraph", "lowest", "[I"), (.ref 15)), (("org/tourney/ValueGraph", "component", "[I"), (.ref 16)), (("org/tourney/ValueGraph", "isOpen", "[Z"), (.ref 17)), (("org/tourney/ValueGraph", "openNodes", "[I"), (.ref 18)), (("org/tourney/ValueGraph", "dfsNodes", "[I"), (.ref 19)), (("org/tourney/ValueGraph", "dfsCursors", "[I"), (.ref 20)), (("org/tourney/ValueGraph", "openCount", "I"), (.int (oc))), (("org/tourney/ValueGraph", "edgeCount", "I"), (.int (ec)))]), .inr (.int, List.replicate m (Value.int (-1))), .inr (.int, List.replicate 4 (Value.int (-1))), .inr (.int, OP), .inr (.int, ES), .inr (.int, EE), .inr (.int, EV), .inr (.boolean, KM)] ++ T)) := by
  show W l Z n m6 0 [(.val (.ref 0))] [] ([.inl ("org/tourney/ValueGraph", [(("org/tourney/ValueGraph", "positions", "I"), (.int (Int32.ofNat m))), (("org/tourney/ValueGraph", "values", "I"), (.int (4))), (("org/tourney/ValueGraph", "matchedValue", "[I"), (.ref 1)), (("org/tourney/ValueGraph", "matchedPosition", "[I"), (.ref 2)), (("org/tourney/ValueGraph", "openPositions", "[I"), (.ref 3)), (("org/tourney/ValueGraph", "edgeStart", "[I"), (.ref 4)), (("org/tourney/ValueGraph", "edgeEnd", "[I"), (.ref 5)), (("org/tourney/ValueGraph", "edgeValue", "[I"), (.ref 6)), (("org/tourney/ValueGraph", "keepsMatch", "[Z"), (.ref 7)), (("org/tourney/ValueGraph", "reached", "[I"), (.ref 8)), (("org/tourney/ValueGraph", "pathPositions", "[I"), (.ref 9)), (("org/tourney/ValueGraph", "pathCursors", "[I"), (.ref 10)), (("org/tourney/ValueGraph", "pathTried", "[I"), (.ref 11)), (("org/tourney/ValueGraph", "sizeCounts", "[I"), (.ref 12)), (("org/tourney/ValueGraph", "discovery", "[I"), (.ref 13)), (("org/tourney/ValueGraph", "discoveredIn", "[I"), (.ref 14)), (("org/tourney/ValueGraph", "lowest", "[I"), (.ref 15)), (("org/tourney/ValueGraph", "component", "[I"), (.ref 16)), (("org/tourney/ValueGraph", "isOpen", "[Z"), (.ref 17)), (("org/tourney/ValueGraph", "openNodes", "[I"), (.ref 18)), (("org/tourney/ValueGraph", "dfsNodes", "[I"), (.ref 19)), (("org/tourney/ValueGraph", "dfsCursors", "[I"), (.ref 20)), (("org/tourney/ValueGraph", "openCount", "I"), (.int (oc))), (("org/tourney/ValueGraph", "edgeCount", "I"), (.int (ec)))]), .inr (.int, List.replicate m (Value.int (-1))), .inr (.int, List.replicate 4 (Value.int (-1))), .inr (.int, OP), .inr (.int, ES), .inr (.int, EE), .inr (.int, EV), .inr (.boolean, KM)] ++ T) 0 0 _
  refine W.aloadN d6_0 rfl rfl ?_
  refine W.getfield 22 d6_1 (hw _ (wd 69 rfl)) rfl rfl ?_
  exact W.ireturn d6_4 rfl (by decide) (by decide) (⟨rfl, rfl⟩)
theorem own_sub (m : Nat) (h : 1 < m) : Int32.ofNat m - 1 = Int32.ofNat (m - 1) := by
  have : Int32.ofNat (m - 1) + 1 = Int32.ofNat m := by rw [show (1 : Int32) = Int32.ofNat 1 from rfl, own_add, show m - 1 + 1 = m by omega]
  rw [← this]; first | exact Int32.add_sub_cancel _ _ | simp
theorem own_pb (m pa k : Nat) (hm : m < 10) (h1 : 1 < m) (hpa : pa < m) (hk : k < m - 1) : ∃ pb, pb < m ∧ ¬ pa = pb ∧ (Int32.ofNat pa + 1 + Int32.ofNat k) % Int32.ofNat m = Int32.ofNat pb := by
  have e : Int32.ofNat pa + 1 + Int32.ofNat k = Int32.ofNat (pa + 1 + k) := by rw [show (1 : Int32) = Int32.ofNat 1 from rfl, own_add, own_add]
  rw [e]
  refine ⟨(pa + 1 + k) % m, Nat.mod_lt _ (by omega), ?_, ?_⟩
  · intro q
    by_cases c : pa + 1 + k < m
    · rw [Nat.mod_eq_of_lt c] at q; omega
    · rw [Nat.mod_eq_sub_mod (by omega), Nat.mod_eq_of_lt (by omega)] at q; omega
  · apply Int32.toInt_inj.mp
    rw [Int32.toInt_mod, own_i (by omega), own_i (by omega), own_i (by have := Nat.mod_lt (pa + 1 + k) (show 0 < m by omega); omega), Int.tmod_eq_emod_of_nonneg (by omega)]
    first | omega | rfl | simp
theorem own_v1 (v : Int32) : ¬ (-1 : Int32) = v &&& 3 := fun q => by
  rcases and_three v with h | h | h | h <;> rw [h] at q <;> revert q <;> decide
theorem own_v2 (v : Int32) : ¬ (-1 : Int32) = (v &&& 3) ^^^ 1 := fun q => by
  rcases and_three v with h | h | h | h <;> rw [h] at q <;> revert q <;> decide
theorem own_nz (m : Nat) (h0 : 0 < m) (h : m < 10) : Int32.ofNat m ≠ 0 := fun q => by
  have e := congrArg Int32.toInt q
  rw [own_i (by omega)] at e
  have : (0 : Int32).toInt = 0 := rfl
  omega
set_option maxRecDepth 65536 in
set_option maxHeartbeats 40000000 in
theorem w_law {l : Launch} {Z : State} {a0 : Array Value} {n : Nat} (hw : ∀ d ∈ tables_1, d.before a0 Z = true) (n0 a b v f : Int32) : W l Z n m0 0 (entryL [.int n0, .int a, .int b, .int v, .int f] 15) [] [] 0 0 (fun v _ => v = some (.int 1)) := by
  show W l Z n m0 0 [(.val (.int (n0))), (.val (.int (a))), (.val (.int (b))), (.val (.int (v))), (.val (.int (f))), .unset, .unset, .unset, .unset, .unset, .unset, .unset, .unset, .unset, .unset] [] [] 0 0 _
  refine W.iloadN d0_0 rfl ?_
  refine W.bipush 7 d0_1 rfl ?_
  refine W.iand d0_3 ?_
  refine W.iconst 2 d0_4 rfl ?_
  refine W.iadd d0_5 ?_
  obtain ⟨m', hm', em⟩ : ∃ m', m' < 8 ∧ n0 &&& 7 = Int32.ofNat m' := ⟨_, Nat.lt_succ_of_le (and_nat n0 7 7 rfl), of_nat32 rfl⟩
  rw [em]
  obtain ⟨m, hmm⟩ : ∃ m, m = m' + 2 := ⟨_, rfl⟩
  rw [show Int32.ofNat m' + 2 = Int32.ofNat m from by rw [hmm]; exact own_add m' 2]
  have hm : m < 10 ∧ 1 < m := by omega
  refine W.istore d0_6 rfl ?_
  refine W.iloadN d0_8 rfl ?_
  refine W.ldc d0_9 (hw _ (wd 0 rfl)) ?_
  refine W.iand d0_11 ?_
  refine W.iload d0_12 rfl ?_
  refine W.irem d0_14 (own_nz m (by omega) (by omega)) ?_
  obtain ⟨pa, hpa, ea⟩ := rem_nat (a &&& 2147483647) (Int32.ofNat m) m ((c_andS a 2147483647).2.2 (by decide)) (own_i (by omega)) (by omega) (by omega)
  rw [ea]
  refine W.istore d0_15 rfl ?_
  refine W.iload d0_17 rfl ?_
  refine W.iconst 1 d0_19 rfl ?_
  refine W.iadd d0_20 ?_
  refine W.iloadN d0_21 rfl ?_
  refine W.ldc d0_22 (hw _ (wd 0 rfl)) ?_
  refine W.iand d0_24 ?_
  refine W.iload d0_25 rfl ?_
  refine W.iconst 1 d0_27 rfl ?_
  refine W.isub d0_28 ?_
  refine W.irem d0_29 (by rw [own_sub m hm.2]; exact own_nz (m - 1) (by omega) (by omega)) ?_
  rw [show Int32.ofNat m - 1 = Int32.ofNat (m - 1) from own_sub m hm.2]
  obtain ⟨k, hk, ek⟩ := rem_nat (b &&& 2147483647) (Int32.ofNat (m - 1)) (m - 1) ((c_andS b 2147483647).2.2 (by decide)) (own_i (by omega)) (by omega) (by omega)
  rw [ek]
  refine W.iadd d0_30 ?_
  refine W.iload d0_31 rfl ?_
  refine W.irem d0_33 (own_nz m (by omega) (by omega)) ?_
  obtain ⟨pb, hpb, hne, eb⟩ := own_pb m pa k hm.1 hm.2 hpa hk
  rw [eb]
  refine W.istore d0_34 rfl ?_
  refine W.iloadN d0_36 rfl ?_
  refine W.iconst 3 d0_37 rfl ?_
  refine W.iand d0_38 ?_
  have hv1 : ¬ (-1 : Int32) = v &&& 3 := own_v1 v
  have hv2 : ¬ (-1 : Int32) = (v &&& 3) ^^^ 1 := own_v2 v
  refine W.istore d0_39 rfl ?_
  show WB _ l Z n m0 41 [(.val (.int (n0))), (.val (.int (a))), (.val (.int (b))), (.val (.int (v))), (.val (.int (f))), (.val (.int (Int32.ofNat m))), (.val (.int (Int32.ofNat pa))), (.val (.int (Int32.ofNat pb))), (.val (.int (v &&& 3))), .unset, .unset, .unset, .unset, .unset, .unset] [] [] _ _ _
  refine W.iload d0_41 rfl ?_
  refine W.iconst 1 d0_43 rfl ?_
  refine W.iand d0_44 ?_
  refine W.if_eq d0_45 (fun h45 => ?_) (fun h45 => ?_)
  · refine W.iconst 0 d0_52 rfl ?_
    refine W.istore d0_53 rfl ?_
    refine W.iload d0_55 rfl ?_
    refine W.iconst 2 d0_57 rfl ?_
    refine W.iand d0_58 ?_
    refine W.if_eq d0_59 (fun h59 => ?_) (fun h59 => ?_)
    · refine W.iconst 0 d0_66 rfl ?_
      refine W.istore d0_67 rfl ?_
      refine W.new (N := 0) d0_69 (hw _ (wd 1 rfl)) (okc0 hw) rfl (by decide) (by decide) ?_
      refine W.dup d0_72 rfl ?_
      refine W.iload d0_73 rfl ?_
      refine W.iconst 4 d0_75 rfl ?_
      refine W.initN (M' := m1) d0_76 rfl rfl (hw _ (wd 4 rfl)) (hw _ (wd 5 rfl)) (w1 hw m (by omega)) (ok1 hw) rfl rfl rfl ?_
      refine W.astore d0_79 rfl rfl ?_
      show WB _ l Z n m0 81 [(.val (.int (n0))), (.val (.int (a))), (.val (.int (b))), (.val (.int (v))), (.val (.int (f))), (.val (.int (Int32.ofNat m))), (.val (.int (Int32.ofNat pa))), (.val (.int (Int32.ofNat pb))), (.val (.int (v &&& 3))), (.val (.int (0))), (.val (.int (0))), (.val (.ref 0)), .unset, .unset, .unset] [] ([.inl ("org/tourney/ValueGraph", [(("org/tourney/ValueGraph", "positions", "I"), (.int (Int32.ofNat m))), (("org/tourney/ValueGraph", "values", "I"), (.int (4))), (("org/tourney/ValueGraph", "matchedValue", "[I"), (.ref 1)), (("org/tourney/ValueGraph", "matchedPosition", "[I"), (.ref 2)), (("org/tourney/ValueGraph", "openPositions", "[I"), (.ref 3)), (("org/tourney/ValueGraph", "edgeStart", "[I"), (.ref 4)), (("org/tourney/ValueGraph", "edgeEnd", "[I"), (.ref 5)), (("org/tourney/ValueGraph", "edgeValue", "[I"), (.ref 6)), (("org/tourney/ValueGraph", "keepsMatch", "[Z"), (.ref 7)), (("org/tourney/ValueGraph", "reached", "[I"), (.ref 8)), (("org/tourney/ValueGraph", "pathPositions", "[I"), (.ref 9)), (("org/tourney/ValueGraph", "pathCursors", "[I"), (.ref 10)), (("org/tourney/ValueGraph", "pathTried", "[I"), (.ref 11)), (("org/tourney/ValueGraph", "sizeCounts", "[I"), (.ref 12)), (("org/tourney/ValueGraph", "discovery", "[I"), (.ref 13)), (("org/tourney/ValueGraph", "discoveredIn", "[I"), (.ref 14)), (("org/tourney/ValueGraph", "lowest", "[I"), (.ref 15)), (("org/tourney/ValueGraph", "component", "[I"), (.ref 16)), (("org/tourney/ValueGraph", "isOpen", "[Z"), (.ref 17)), (("org/tourney/ValueGraph", "openNodes", "[I"), (.ref 18)), (("org/tourney/ValueGraph", "dfsNodes", "[I"), (.ref 19)), (("org/tourney/ValueGraph", "dfsCursors", "[I"), (.ref 20)), (("org/tourney/ValueGraph", "openCount", "I"), (.int (0))), (("org/tourney/ValueGraph", "edgeCount", "I"), (.int (0)))]), .inr (.int, List.replicate m (Value.int (-1))), .inr (.int, List.replicate 4 (Value.int (-1))), .inr (.int, List.replicate m (Value.int 0)), .inr (.int, List.replicate m (Value.int 0)), .inr (.int, List.replicate m (Value.int 0)), .inr (.int, List.replicate 16 (Value.int 0)), .inr (.boolean, List.replicate m (Value.int 0))] ++ own_tail m) _ _ _
      refine W.aload d0_81 rfl rfl ?_
      refine W.iload d0_83 rfl ?_
      refine W.callvN (M' := m5) d0_85 (hw _ (wd 64 rfl)) (hw _ (wd 65 rfl)) (hw _ (wd 66 rfl)) (hw _ (wd 67 rfl)) (w5 hw m pa 0 _ _ _ _ _ _ _ _ (by omega) ⟨by decide, by decide⟩ (by simp <;> omega) (by simp <;> omega) (by simp <;> omega) (by simp <;> omega)) (ok5 hw) rfl rfl rfl rfl ?_
      refine W.iload d0_88 rfl ?_
      refine W.if_eq d0_90 (fun h90 => ?_) (fun h => False.elim (by revert h; decide))
      refine W.iload d0_101 rfl ?_
      refine W.if_eq d0_103 (fun h103 => ?_) (fun h => False.elim (by revert h; decide))
      refine W.iconst 0 d0_110 rfl ?_
      refine W.istore d0_111 rfl ?_
      refine W.aload d0_113 rfl rfl ?_
      refine W.iload d0_115 rfl ?_
      refine W.callvN (M' := m5) d0_117 (hw _ (wd 64 rfl)) (hw _ (wd 65 rfl)) (hw _ (wd 66 rfl)) (hw _ (wd 67 rfl)) (w5 hw m pb 1 _ _ _ _ _ _ _ _ (by omega) ⟨by decide, by decide⟩ (by simp <;> omega) (by simp <;> omega) (by simp <;> omega) (by simp <;> omega)) (ok5 hw) rfl rfl rfl rfl ?_
      refine W.iload d0_120 rfl ?_
      refine W.if_eq d0_122 (fun h122 => ?_) (fun h => False.elim (by revert h; decide))
      refine W.iload d0_135 rfl ?_
      refine W.iload d0_137 rfl ?_
      refine W.if_eq d0_139 (fun h139 => ?_) (fun h => False.elim (by revert h; decide))
      refine W.iconst 0 d0_146 rfl ?_
      refine W.iadd d0_147 ?_
      refine W.istore d0_148 rfl ?_
      refine W.aload d0_150 rfl rfl ?_
      refine W.callvV (M' := m6) d0_152 (hw _ (wd 73 rfl)) (hw _ (wd 74 rfl)) (hw _ (wd 75 rfl)) (hw _ (wd 76 rfl)) (w6 hw m _ _ _ _ _ _ _ _) (ok6 hw) rfl rfl rfl rfl ?_
      refine W.iconst 2 d0_155 rfl ?_
      refine W.icmp_ne d0_156 (fun h => False.elim (by revert h; decide)) (fun h156 => ?_)
      refine W.aload d0_159 rfl rfl ?_
      refine W.iconst 0 d0_161 rfl ?_
      refine W.callvV (M' := m7) d0_162 (hw _ (wd 78 rfl)) (hw _ (wd 79 rfl)) (hw _ (wd 80 rfl)) (hw _ (wd 81 rfl)) (w7 hw m 0 _ _ _ (Int32.ofNat pa) _ _ _ _ _ _ ⟨by decide, by decide⟩ (by simp [List.getElem?_set, hpa, hpb, hne, Ne.symm hne, show 0 < m by omega, show 1 < m by omega] <;> rfl)) (ok7 hw) rfl rfl rfl rfl ?_
      refine W.iload d0_165 rfl ?_
      refine W.icmp_ne d0_167 (fun h => False.elim (h rfl)) (fun h167 => ?_)
      refine W.aload d0_170 rfl rfl ?_
      refine W.iconst 1 d0_172 rfl ?_
      refine W.callvV (M' := m7) d0_173 (hw _ (wd 78 rfl)) (hw _ (wd 79 rfl)) (hw _ (wd 80 rfl)) (hw _ (wd 81 rfl)) (w7 hw m 1 _ _ _ (Int32.ofNat pb) _ _ _ _ _ _ ⟨by decide, by decide⟩ (by simp [List.getElem?_set, hpa, hpb, hne, Ne.symm hne, show 0 < m by omega, show 1 < m by omega] <;> rfl)) (ok7 hw) rfl rfl rfl rfl ?_
      refine W.iload d0_176 rfl ?_
      refine W.icmp_ne d0_178 (fun h => False.elim (h rfl)) (fun h178 => ?_)
      refine W.aload d0_181 rfl rfl ?_
      refine W.iload d0_183 rfl ?_
      refine W.callvV (M' := m8) d0_185 (hw _ (wd 83 rfl)) (hw _ (wd 84 rfl)) (hw _ (wd 85 rfl)) (hw _ (wd 86 rfl)) (w8 hw m pb _ _ _ (0) _ _ _ _ _ _ (own_idx _ (by omega)) (by simp [List.getElem?_set, hpa, hpb, hne, Ne.symm hne, show 0 < m by omega, show 1 < m by omega] <;> rfl)) (ok8 hw) rfl rfl rfl rfl ?_
      refine W.iload d0_188 rfl ?_
      refine W.icmp_ne d0_190 (fun h => False.elim (by revert h; decide)) (fun h190 => ?_)
      refine W.aload d0_193 rfl rfl ?_
      refine W.iload d0_195 rfl ?_
      refine W.callvV (M' := m9) d0_197 (hw _ (wd 88 rfl)) (hw _ (wd 89 rfl)) (hw _ (wd 90 rfl)) (hw _ (wd 91 rfl)) (w9 hw m pb _ _ _ (0) _ _ _ _ _ _ (own_idx _ (by omega)) (by simp [List.getElem?_set, hpa, hpb, hne, Ne.symm hne, show 0 < m by omega, show 1 < m by omega] <;> rfl)) (ok9 hw) rfl rfl rfl rfl ?_
      refine W.iload d0_200 rfl ?_
      refine W.icmp_ne d0_202 (fun h => False.elim (by revert h; decide)) (fun h202 => ?_)
      refine W.aload d0_205 rfl rfl ?_
      refine W.iload d0_207 rfl ?_
      refine W.callvV (M' := m8) d0_209 (hw _ (wd 83 rfl)) (hw _ (wd 84 rfl)) (hw _ (wd 85 rfl)) (hw _ (wd 86 rfl)) (w8 hw m pa _ _ _ (0) _ _ _ _ _ _ (own_idx _ (by omega)) (by simp [List.getElem?_set, hpa, hpb, hne, Ne.symm hne, show 0 < m by omega, show 1 < m by omega] <;> rfl)) (ok8 hw) rfl rfl rfl rfl ?_
      refine W.if_ne d0_212 (fun h => False.elim (by revert h; decide)) (fun h212 => ?_)
      refine W.aload d0_215 rfl rfl ?_
      refine W.iload d0_217 rfl ?_
      refine W.callvV (M' := m9) d0_219 (hw _ (wd 88 rfl)) (hw _ (wd 89 rfl)) (hw _ (wd 90 rfl)) (hw _ (wd 91 rfl)) (w9 hw m pa _ _ _ (0) _ _ _ _ _ _ (own_idx _ (by omega)) (by simp [List.getElem?_set, hpa, hpb, hne, Ne.symm hne, show 0 < m by omega, show 1 < m by omega] <;> rfl)) (ok9 hw) rfl rfl rfl rfl ?_
      refine W.iload d0_222 rfl ?_
      refine W.icmp_ne d0_224 (fun h => False.elim (by revert h; decide)) (fun h224 => ?_)
      refine W.iconst 1 d0_227 rfl ?_
      refine W.goto d0_228 ?_
      refine W.istore d0_232 rfl ?_
      refine W.iload d0_234 rfl ?_
      exact W.nreturn .boolean d0_236 rfl (by simp) (by decide) (by decide) (rfl)
    · refine W.iconst 1 d0_62 rfl ?_
      refine W.goto d0_63 ?_
      refine W.istore d0_67 rfl ?_
      refine W.new (N := 0) d0_69 (hw _ (wd 1 rfl)) (okc0 hw) rfl (by decide) (by decide) ?_
      refine W.dup d0_72 rfl ?_
      refine W.iload d0_73 rfl ?_
      refine W.iconst 4 d0_75 rfl ?_
      refine W.initN (M' := m1) d0_76 rfl rfl (hw _ (wd 4 rfl)) (hw _ (wd 5 rfl)) (w1 hw m (by omega)) (ok1 hw) rfl rfl rfl ?_
      refine W.astore d0_79 rfl rfl ?_
      show WB _ l Z n m0 81 [(.val (.int (n0))), (.val (.int (a))), (.val (.int (b))), (.val (.int (v))), (.val (.int (f))), (.val (.int (Int32.ofNat m))), (.val (.int (Int32.ofNat pa))), (.val (.int (Int32.ofNat pb))), (.val (.int (v &&& 3))), (.val (.int (0))), (.val (.int (1))), (.val (.ref 0)), .unset, .unset, .unset] [] ([.inl ("org/tourney/ValueGraph", [(("org/tourney/ValueGraph", "positions", "I"), (.int (Int32.ofNat m))), (("org/tourney/ValueGraph", "values", "I"), (.int (4))), (("org/tourney/ValueGraph", "matchedValue", "[I"), (.ref 1)), (("org/tourney/ValueGraph", "matchedPosition", "[I"), (.ref 2)), (("org/tourney/ValueGraph", "openPositions", "[I"), (.ref 3)), (("org/tourney/ValueGraph", "edgeStart", "[I"), (.ref 4)), (("org/tourney/ValueGraph", "edgeEnd", "[I"), (.ref 5)), (("org/tourney/ValueGraph", "edgeValue", "[I"), (.ref 6)), (("org/tourney/ValueGraph", "keepsMatch", "[Z"), (.ref 7)), (("org/tourney/ValueGraph", "reached", "[I"), (.ref 8)), (("org/tourney/ValueGraph", "pathPositions", "[I"), (.ref 9)), (("org/tourney/ValueGraph", "pathCursors", "[I"), (.ref 10)), (("org/tourney/ValueGraph", "pathTried", "[I"), (.ref 11)), (("org/tourney/ValueGraph", "sizeCounts", "[I"), (.ref 12)), (("org/tourney/ValueGraph", "discovery", "[I"), (.ref 13)), (("org/tourney/ValueGraph", "discoveredIn", "[I"), (.ref 14)), (("org/tourney/ValueGraph", "lowest", "[I"), (.ref 15)), (("org/tourney/ValueGraph", "component", "[I"), (.ref 16)), (("org/tourney/ValueGraph", "isOpen", "[Z"), (.ref 17)), (("org/tourney/ValueGraph", "openNodes", "[I"), (.ref 18)), (("org/tourney/ValueGraph", "dfsNodes", "[I"), (.ref 19)), (("org/tourney/ValueGraph", "dfsCursors", "[I"), (.ref 20)), (("org/tourney/ValueGraph", "openCount", "I"), (.int (0))), (("org/tourney/ValueGraph", "edgeCount", "I"), (.int (0)))]), .inr (.int, List.replicate m (Value.int (-1))), .inr (.int, List.replicate 4 (Value.int (-1))), .inr (.int, List.replicate m (Value.int 0)), .inr (.int, List.replicate m (Value.int 0)), .inr (.int, List.replicate m (Value.int 0)), .inr (.int, List.replicate 16 (Value.int 0)), .inr (.boolean, List.replicate m (Value.int 0))] ++ own_tail m) _ _ _
      refine W.aload d0_81 rfl rfl ?_
      refine W.iload d0_83 rfl ?_
      refine W.callvN (M' := m5) d0_85 (hw _ (wd 64 rfl)) (hw _ (wd 65 rfl)) (hw _ (wd 66 rfl)) (hw _ (wd 67 rfl)) (w5 hw m pa 0 _ _ _ _ _ _ _ _ (by omega) ⟨by decide, by decide⟩ (by simp <;> omega) (by simp <;> omega) (by simp <;> omega) (by simp <;> omega)) (ok5 hw) rfl rfl rfl rfl ?_
      refine W.iload d0_88 rfl ?_
      refine W.if_eq d0_90 (fun h90 => ?_) (fun h => False.elim (by revert h; decide))
      refine W.iload d0_101 rfl ?_
      refine W.if_eq d0_103 (fun h103 => ?_) (fun h => False.elim (by revert h; decide))
      refine W.iconst 0 d0_110 rfl ?_
      refine W.istore d0_111 rfl ?_
      refine W.aload d0_113 rfl rfl ?_
      refine W.iload d0_115 rfl ?_
      refine W.callvN (M' := m5) d0_117 (hw _ (wd 64 rfl)) (hw _ (wd 65 rfl)) (hw _ (wd 66 rfl)) (hw _ (wd 67 rfl)) (w5 hw m pb 1 _ _ _ _ _ _ _ _ (by omega) ⟨by decide, by decide⟩ (by simp <;> omega) (by simp <;> omega) (by simp <;> omega) (by simp <;> omega)) (ok5 hw) rfl rfl rfl rfl ?_
      refine W.iload d0_120 rfl ?_
      refine W.if_eq d0_122 (fun h => False.elim (by revert h; decide)) (fun h122 => ?_)
      refine W.aload d0_125 rfl rfl ?_
      refine W.iload d0_127 rfl ?_
      refine W.iconst 1 d0_129 rfl ?_
      refine W.ixor d0_130 ?_
      refine W.callvV (M' := m10) d0_131 (hw _ (wd 93 rfl)) (hw _ (wd 94 rfl)) (hw _ (wd 95 rfl)) (hw _ (wd 96 rfl)) (w10 hw m pb 1 _ _ _ _ _ _ _ _ ((v &&& 3) ^^^ 1) (0 &&& 1) 0 (by omega) (by omega) ⟨by decide, by decide⟩ (by simp [List.getElem?_set, hpa, hpb, hne, Ne.symm hne, show 0 < m by omega, show 1 < m by omega] <;> rfl) (by simp <;> omega) (by simp [List.getElem?_set, hpa, hpb, hne, Ne.symm hne, show 0 < m by omega, show 1 < m by omega] <;> rfl) (by simp) (by decide) hv2 ⟨by decide, by decide⟩ (by decide)) (ok10 hw) rfl rfl rfl rfl ?_
      refine Jvm.OwnW.W.pop d0_134 rfl ?_
      refine W.iload d0_135 rfl ?_
      refine W.iload d0_137 rfl ?_
      refine W.if_eq d0_139 (fun h => False.elim (by revert h; decide)) (fun h139 => ?_)
      refine W.iconst 1 d0_142 rfl ?_
      refine W.goto d0_143 ?_
      refine W.iadd d0_147 ?_
      refine W.istore d0_148 rfl ?_
      refine W.aload d0_150 rfl rfl ?_
      refine W.callvV (M' := m6) d0_152 (hw _ (wd 73 rfl)) (hw _ (wd 74 rfl)) (hw _ (wd 75 rfl)) (hw _ (wd 76 rfl)) (w6 hw m _ _ _ _ _ _ _ _) (ok6 hw) rfl rfl rfl rfl ?_
      refine W.iconst 2 d0_155 rfl ?_
      refine W.icmp_ne d0_156 (fun h => False.elim (by revert h; decide)) (fun h156 => ?_)
      refine W.aload d0_159 rfl rfl ?_
      refine W.iconst 0 d0_161 rfl ?_
      refine W.callvV (M' := m7) d0_162 (hw _ (wd 78 rfl)) (hw _ (wd 79 rfl)) (hw _ (wd 80 rfl)) (hw _ (wd 81 rfl)) (w7 hw m 0 _ _ _ (Int32.ofNat pa) _ _ _ _ _ _ ⟨by decide, by decide⟩ (by simp [List.getElem?_set, hpa, hpb, hne, Ne.symm hne, show 0 < m by omega, show 1 < m by omega] <;> rfl)) (ok7 hw) rfl rfl rfl rfl ?_
      refine W.iload d0_165 rfl ?_
      refine W.icmp_ne d0_167 (fun h => False.elim (h rfl)) (fun h167 => ?_)
      refine W.aload d0_170 rfl rfl ?_
      refine W.iconst 1 d0_172 rfl ?_
      refine W.callvV (M' := m7) d0_173 (hw _ (wd 78 rfl)) (hw _ (wd 79 rfl)) (hw _ (wd 80 rfl)) (hw _ (wd 81 rfl)) (w7 hw m 1 _ _ _ (Int32.ofNat pb) _ _ _ _ _ _ ⟨by decide, by decide⟩ (by simp [List.getElem?_set, hpa, hpb, hne, Ne.symm hne, show 0 < m by omega, show 1 < m by omega] <;> rfl)) (ok7 hw) rfl rfl rfl rfl ?_
      refine W.iload d0_176 rfl ?_
      refine W.icmp_ne d0_178 (fun h => False.elim (h rfl)) (fun h178 => ?_)
      refine W.aload d0_181 rfl rfl ?_
      refine W.iload d0_183 rfl ?_
      refine W.callvV (M' := m8) d0_185 (hw _ (wd 83 rfl)) (hw _ (wd 84 rfl)) (hw _ (wd 85 rfl)) (hw _ (wd 86 rfl)) (w8 hw m pb _ _ _ (0) _ _ _ _ _ _ (own_idx _ (by omega)) (by simp [List.getElem?_set, hpa, hpb, hne, Ne.symm hne, show 0 < m by omega, show 1 < m by omega] <;> rfl)) (ok8 hw) rfl rfl rfl rfl ?_
      refine W.iload d0_188 rfl ?_
      refine W.icmp_ne d0_190 (fun h => False.elim (by revert h; decide)) (fun h190 => ?_)
      refine W.aload d0_193 rfl rfl ?_
      refine W.iload d0_195 rfl ?_
      refine W.callvV (M' := m9) d0_197 (hw _ (wd 88 rfl)) (hw _ (wd 89 rfl)) (hw _ (wd 90 rfl)) (hw _ (wd 91 rfl)) (w9 hw m pb _ _ _ (1) _ _ _ _ _ _ (own_idx _ (by omega)) (by simp [List.getElem?_set, hpa, hpb, hne, Ne.symm hne, show 0 < m by omega, show 1 < m by omega] <;> rfl)) (ok9 hw) rfl rfl rfl rfl ?_
      refine W.iload d0_200 rfl ?_
      refine W.icmp_ne d0_202 (fun h => False.elim (by revert h; decide)) (fun h202 => ?_)
      refine W.aload d0_205 rfl rfl ?_
      refine W.iload d0_207 rfl ?_
      refine W.callvV (M' := m8) d0_209 (hw _ (wd 83 rfl)) (hw _ (wd 84 rfl)) (hw _ (wd 85 rfl)) (hw _ (wd 86 rfl)) (w8 hw m pa _ _ _ (0) _ _ _ _ _ _ (own_idx _ (by omega)) (by simp [List.getElem?_set, hpa, hpb, hne, Ne.symm hne, show 0 < m by omega, show 1 < m by omega] <;> rfl)) (ok8 hw) rfl rfl rfl rfl ?_
      refine W.if_ne d0_212 (fun h => False.elim (by revert h; decide)) (fun h212 => ?_)
      refine W.aload d0_215 rfl rfl ?_
      refine W.iload d0_217 rfl ?_
      refine W.callvV (M' := m9) d0_219 (hw _ (wd 88 rfl)) (hw _ (wd 89 rfl)) (hw _ (wd 90 rfl)) (hw _ (wd 91 rfl)) (w9 hw m pa _ _ _ (0) _ _ _ _ _ _ (own_idx _ (by omega)) (by simp [List.getElem?_set, hpa, hpb, hne, Ne.symm hne, show 0 < m by omega, show 1 < m by omega] <;> rfl)) (ok9 hw) rfl rfl rfl rfl ?_
      refine W.iload d0_222 rfl ?_
      refine W.icmp_ne d0_224 (fun h => False.elim (by revert h; decide)) (fun h224 => ?_)
      refine W.iconst 1 d0_227 rfl ?_
      refine W.goto d0_228 ?_
      refine W.istore d0_232 rfl ?_
      refine W.iload d0_234 rfl ?_
      exact W.nreturn .boolean d0_236 rfl (by simp) (by decide) (by decide) (rfl)
  · refine W.iconst 1 d0_48 rfl ?_
    refine W.goto d0_49 ?_
    refine W.istore d0_53 rfl ?_
    refine W.iload d0_55 rfl ?_
    refine W.iconst 2 d0_57 rfl ?_
    refine W.iand d0_58 ?_
    refine W.if_eq d0_59 (fun h59 => ?_) (fun h59 => ?_)
    · refine W.iconst 0 d0_66 rfl ?_
      refine W.istore d0_67 rfl ?_
      refine W.new (N := 0) d0_69 (hw _ (wd 1 rfl)) (okc0 hw) rfl (by decide) (by decide) ?_
      refine W.dup d0_72 rfl ?_
      refine W.iload d0_73 rfl ?_
      refine W.iconst 4 d0_75 rfl ?_
      refine W.initN (M' := m1) d0_76 rfl rfl (hw _ (wd 4 rfl)) (hw _ (wd 5 rfl)) (w1 hw m (by omega)) (ok1 hw) rfl rfl rfl ?_
      refine W.astore d0_79 rfl rfl ?_
      show WB _ l Z n m0 81 [(.val (.int (n0))), (.val (.int (a))), (.val (.int (b))), (.val (.int (v))), (.val (.int (f))), (.val (.int (Int32.ofNat m))), (.val (.int (Int32.ofNat pa))), (.val (.int (Int32.ofNat pb))), (.val (.int (v &&& 3))), (.val (.int (1))), (.val (.int (0))), (.val (.ref 0)), .unset, .unset, .unset] [] ([.inl ("org/tourney/ValueGraph", [(("org/tourney/ValueGraph", "positions", "I"), (.int (Int32.ofNat m))), (("org/tourney/ValueGraph", "values", "I"), (.int (4))), (("org/tourney/ValueGraph", "matchedValue", "[I"), (.ref 1)), (("org/tourney/ValueGraph", "matchedPosition", "[I"), (.ref 2)), (("org/tourney/ValueGraph", "openPositions", "[I"), (.ref 3)), (("org/tourney/ValueGraph", "edgeStart", "[I"), (.ref 4)), (("org/tourney/ValueGraph", "edgeEnd", "[I"), (.ref 5)), (("org/tourney/ValueGraph", "edgeValue", "[I"), (.ref 6)), (("org/tourney/ValueGraph", "keepsMatch", "[Z"), (.ref 7)), (("org/tourney/ValueGraph", "reached", "[I"), (.ref 8)), (("org/tourney/ValueGraph", "pathPositions", "[I"), (.ref 9)), (("org/tourney/ValueGraph", "pathCursors", "[I"), (.ref 10)), (("org/tourney/ValueGraph", "pathTried", "[I"), (.ref 11)), (("org/tourney/ValueGraph", "sizeCounts", "[I"), (.ref 12)), (("org/tourney/ValueGraph", "discovery", "[I"), (.ref 13)), (("org/tourney/ValueGraph", "discoveredIn", "[I"), (.ref 14)), (("org/tourney/ValueGraph", "lowest", "[I"), (.ref 15)), (("org/tourney/ValueGraph", "component", "[I"), (.ref 16)), (("org/tourney/ValueGraph", "isOpen", "[Z"), (.ref 17)), (("org/tourney/ValueGraph", "openNodes", "[I"), (.ref 18)), (("org/tourney/ValueGraph", "dfsNodes", "[I"), (.ref 19)), (("org/tourney/ValueGraph", "dfsCursors", "[I"), (.ref 20)), (("org/tourney/ValueGraph", "openCount", "I"), (.int (0))), (("org/tourney/ValueGraph", "edgeCount", "I"), (.int (0)))]), .inr (.int, List.replicate m (Value.int (-1))), .inr (.int, List.replicate 4 (Value.int (-1))), .inr (.int, List.replicate m (Value.int 0)), .inr (.int, List.replicate m (Value.int 0)), .inr (.int, List.replicate m (Value.int 0)), .inr (.int, List.replicate 16 (Value.int 0)), .inr (.boolean, List.replicate m (Value.int 0))] ++ own_tail m) _ _ _
      refine W.aload d0_81 rfl rfl ?_
      refine W.iload d0_83 rfl ?_
      refine W.callvN (M' := m5) d0_85 (hw _ (wd 64 rfl)) (hw _ (wd 65 rfl)) (hw _ (wd 66 rfl)) (hw _ (wd 67 rfl)) (w5 hw m pa 0 _ _ _ _ _ _ _ _ (by omega) ⟨by decide, by decide⟩ (by simp <;> omega) (by simp <;> omega) (by simp <;> omega) (by simp <;> omega)) (ok5 hw) rfl rfl rfl rfl ?_
      refine W.iload d0_88 rfl ?_
      refine W.if_eq d0_90 (fun h => False.elim (by revert h; decide)) (fun h90 => ?_)
      refine W.aload d0_93 rfl rfl ?_
      refine W.iload d0_95 rfl ?_
      refine W.callvV (M' := m10) d0_97 (hw _ (wd 93 rfl)) (hw _ (wd 94 rfl)) (hw _ (wd 95 rfl)) (hw _ (wd 96 rfl)) (w10 hw m pa 0 _ _ _ _ _ _ _ _ (v &&& 3) (0 &&& 1) 0 (by omega) (by omega) ⟨by decide, by decide⟩ (by simp [List.getElem?_set, hpa, hpb, hne, Ne.symm hne, show 0 < m by omega, show 1 < m by omega] <;> rfl) (by simp <;> omega) (by simp [List.getElem?_set, hpa, hpb, hne, Ne.symm hne, show 0 < m by omega, show 1 < m by omega] <;> rfl) (by simp) (by decide) hv1 ⟨by decide, by decide⟩ (by decide)) (ok10 hw) rfl rfl rfl rfl ?_
      refine Jvm.OwnW.W.pop d0_100 rfl ?_
      refine W.iload d0_101 rfl ?_
      refine W.if_eq d0_103 (fun h => False.elim (by revert h; decide)) (fun h103 => ?_)
      refine W.iconst 1 d0_106 rfl ?_
      refine W.goto d0_107 ?_
      refine W.istore d0_111 rfl ?_
      refine W.aload d0_113 rfl rfl ?_
      refine W.iload d0_115 rfl ?_
      refine W.callvN (M' := m5) d0_117 (hw _ (wd 64 rfl)) (hw _ (wd 65 rfl)) (hw _ (wd 66 rfl)) (hw _ (wd 67 rfl)) (w5 hw m pb 1 _ _ _ _ _ _ _ _ (by omega) ⟨by decide, by decide⟩ (by simp <;> omega) (by simp <;> omega) (by simp <;> omega) (by simp <;> omega)) (ok5 hw) rfl rfl rfl rfl ?_
      refine W.iload d0_120 rfl ?_
      refine W.if_eq d0_122 (fun h122 => ?_) (fun h => False.elim (by revert h; decide))
      refine W.iload d0_135 rfl ?_
      refine W.iload d0_137 rfl ?_
      refine W.if_eq d0_139 (fun h139 => ?_) (fun h => False.elim (by revert h; decide))
      refine W.iconst 0 d0_146 rfl ?_
      refine W.iadd d0_147 ?_
      refine W.istore d0_148 rfl ?_
      refine W.aload d0_150 rfl rfl ?_
      refine W.callvV (M' := m6) d0_152 (hw _ (wd 73 rfl)) (hw _ (wd 74 rfl)) (hw _ (wd 75 rfl)) (hw _ (wd 76 rfl)) (w6 hw m _ _ _ _ _ _ _ _) (ok6 hw) rfl rfl rfl rfl ?_
      refine W.iconst 2 d0_155 rfl ?_
      refine W.icmp_ne d0_156 (fun h => False.elim (by revert h; decide)) (fun h156 => ?_)
      refine W.aload d0_159 rfl rfl ?_
      refine W.iconst 0 d0_161 rfl ?_
      refine W.callvV (M' := m7) d0_162 (hw _ (wd 78 rfl)) (hw _ (wd 79 rfl)) (hw _ (wd 80 rfl)) (hw _ (wd 81 rfl)) (w7 hw m 0 _ _ _ (Int32.ofNat pa) _ _ _ _ _ _ ⟨by decide, by decide⟩ (by simp [List.getElem?_set, hpa, hpb, hne, Ne.symm hne, show 0 < m by omega, show 1 < m by omega] <;> rfl)) (ok7 hw) rfl rfl rfl rfl ?_
      refine W.iload d0_165 rfl ?_
      refine W.icmp_ne d0_167 (fun h => False.elim (h rfl)) (fun h167 => ?_)
      refine W.aload d0_170 rfl rfl ?_
      refine W.iconst 1 d0_172 rfl ?_
      refine W.callvV (M' := m7) d0_173 (hw _ (wd 78 rfl)) (hw _ (wd 79 rfl)) (hw _ (wd 80 rfl)) (hw _ (wd 81 rfl)) (w7 hw m 1 _ _ _ (Int32.ofNat pb) _ _ _ _ _ _ ⟨by decide, by decide⟩ (by simp [List.getElem?_set, hpa, hpb, hne, Ne.symm hne, show 0 < m by omega, show 1 < m by omega] <;> rfl)) (ok7 hw) rfl rfl rfl rfl ?_
      refine W.iload d0_176 rfl ?_
      refine W.icmp_ne d0_178 (fun h => False.elim (h rfl)) (fun h178 => ?_)
      refine W.aload d0_181 rfl rfl ?_
      refine W.iload d0_183 rfl ?_
      refine W.callvV (M' := m8) d0_185 (hw _ (wd 83 rfl)) (hw _ (wd 84 rfl)) (hw _ (wd 85 rfl)) (hw _ (wd 86 rfl)) (w8 hw m pb _ _ _ (1) _ _ _ _ _ _ (own_idx _ (by omega)) (by simp [List.getElem?_set, hpa, hpb, hne, Ne.symm hne, show 0 < m by omega, show 1 < m by omega] <;> rfl)) (ok8 hw) rfl rfl rfl rfl ?_
      refine W.iload d0_188 rfl ?_
      refine W.icmp_ne d0_190 (fun h => False.elim (by revert h; decide)) (fun h190 => ?_)
      refine W.aload d0_193 rfl rfl ?_
      refine W.iload d0_195 rfl ?_
      refine W.callvV (M' := m9) d0_197 (hw _ (wd 88 rfl)) (hw _ (wd 89 rfl)) (hw _ (wd 90 rfl)) (hw _ (wd 91 rfl)) (w9 hw m pb _ _ _ (1) _ _ _ _ _ _ (own_idx _ (by omega)) (by simp [List.getElem?_set, hpa, hpb, hne, Ne.symm hne, show 0 < m by omega, show 1 < m by omega] <;> rfl)) (ok9 hw) rfl rfl rfl rfl ?_
      refine W.iload d0_200 rfl ?_
      refine W.icmp_ne d0_202 (fun h => False.elim (by revert h; decide)) (fun h202 => ?_)
      refine W.aload d0_205 rfl rfl ?_
      refine W.iload d0_207 rfl ?_
      refine W.callvV (M' := m8) d0_209 (hw _ (wd 83 rfl)) (hw _ (wd 84 rfl)) (hw _ (wd 85 rfl)) (hw _ (wd 86 rfl)) (w8 hw m pa _ _ _ (0) _ _ _ _ _ _ (own_idx _ (by omega)) (by simp [List.getElem?_set, hpa, hpb, hne, Ne.symm hne, show 0 < m by omega, show 1 < m by omega] <;> rfl)) (ok8 hw) rfl rfl rfl rfl ?_
      refine W.if_ne d0_212 (fun h => False.elim (by revert h; decide)) (fun h212 => ?_)
      refine W.aload d0_215 rfl rfl ?_
      refine W.iload d0_217 rfl ?_
      refine W.callvV (M' := m9) d0_219 (hw _ (wd 88 rfl)) (hw _ (wd 89 rfl)) (hw _ (wd 90 rfl)) (hw _ (wd 91 rfl)) (w9 hw m pa _ _ _ (1) _ _ _ _ _ _ (own_idx _ (by omega)) (by simp [List.getElem?_set, hpa, hpb, hne, Ne.symm hne, show 0 < m by omega, show 1 < m by omega] <;> rfl)) (ok9 hw) rfl rfl rfl rfl ?_
      refine W.iload d0_222 rfl ?_
      refine W.icmp_ne d0_224 (fun h => False.elim (by revert h; decide)) (fun h224 => ?_)
      refine W.iconst 1 d0_227 rfl ?_
      refine W.goto d0_228 ?_
      refine W.istore d0_232 rfl ?_
      refine W.iload d0_234 rfl ?_
      exact W.nreturn .boolean d0_236 rfl (by simp) (by decide) (by decide) (rfl)
    · refine W.iconst 1 d0_62 rfl ?_
      refine W.goto d0_63 ?_
      refine W.istore d0_67 rfl ?_
      refine W.new (N := 0) d0_69 (hw _ (wd 1 rfl)) (okc0 hw) rfl (by decide) (by decide) ?_
      refine W.dup d0_72 rfl ?_
      refine W.iload d0_73 rfl ?_
      refine W.iconst 4 d0_75 rfl ?_
      refine W.initN (M' := m1) d0_76 rfl rfl (hw _ (wd 4 rfl)) (hw _ (wd 5 rfl)) (w1 hw m (by omega)) (ok1 hw) rfl rfl rfl ?_
      refine W.astore d0_79 rfl rfl ?_
      show WB _ l Z n m0 81 [(.val (.int (n0))), (.val (.int (a))), (.val (.int (b))), (.val (.int (v))), (.val (.int (f))), (.val (.int (Int32.ofNat m))), (.val (.int (Int32.ofNat pa))), (.val (.int (Int32.ofNat pb))), (.val (.int (v &&& 3))), (.val (.int (1))), (.val (.int (1))), (.val (.ref 0)), .unset, .unset, .unset] [] ([.inl ("org/tourney/ValueGraph", [(("org/tourney/ValueGraph", "positions", "I"), (.int (Int32.ofNat m))), (("org/tourney/ValueGraph", "values", "I"), (.int (4))), (("org/tourney/ValueGraph", "matchedValue", "[I"), (.ref 1)), (("org/tourney/ValueGraph", "matchedPosition", "[I"), (.ref 2)), (("org/tourney/ValueGraph", "openPositions", "[I"), (.ref 3)), (("org/tourney/ValueGraph", "edgeStart", "[I"), (.ref 4)), (("org/tourney/ValueGraph", "edgeEnd", "[I"), (.ref 5)), (("org/tourney/ValueGraph", "edgeValue", "[I"), (.ref 6)), (("org/tourney/ValueGraph", "keepsMatch", "[Z"), (.ref 7)), (("org/tourney/ValueGraph", "reached", "[I"), (.ref 8)), (("org/tourney/ValueGraph", "pathPositions", "[I"), (.ref 9)), (("org/tourney/ValueGraph", "pathCursors", "[I"), (.ref 10)), (("org/tourney/ValueGraph", "pathTried", "[I"), (.ref 11)), (("org/tourney/ValueGraph", "sizeCounts", "[I"), (.ref 12)), (("org/tourney/ValueGraph", "discovery", "[I"), (.ref 13)), (("org/tourney/ValueGraph", "discoveredIn", "[I"), (.ref 14)), (("org/tourney/ValueGraph", "lowest", "[I"), (.ref 15)), (("org/tourney/ValueGraph", "component", "[I"), (.ref 16)), (("org/tourney/ValueGraph", "isOpen", "[Z"), (.ref 17)), (("org/tourney/ValueGraph", "openNodes", "[I"), (.ref 18)), (("org/tourney/ValueGraph", "dfsNodes", "[I"), (.ref 19)), (("org/tourney/ValueGraph", "dfsCursors", "[I"), (.ref 20)), (("org/tourney/ValueGraph", "openCount", "I"), (.int (0))), (("org/tourney/ValueGraph", "edgeCount", "I"), (.int (0)))]), .inr (.int, List.replicate m (Value.int (-1))), .inr (.int, List.replicate 4 (Value.int (-1))), .inr (.int, List.replicate m (Value.int 0)), .inr (.int, List.replicate m (Value.int 0)), .inr (.int, List.replicate m (Value.int 0)), .inr (.int, List.replicate 16 (Value.int 0)), .inr (.boolean, List.replicate m (Value.int 0))] ++ own_tail m) _ _ _
      refine W.aload d0_81 rfl rfl ?_
      refine W.iload d0_83 rfl ?_
      refine W.callvN (M' := m5) d0_85 (hw _ (wd 64 rfl)) (hw _ (wd 65 rfl)) (hw _ (wd 66 rfl)) (hw _ (wd 67 rfl)) (w5 hw m pa 0 _ _ _ _ _ _ _ _ (by omega) ⟨by decide, by decide⟩ (by simp <;> omega) (by simp <;> omega) (by simp <;> omega) (by simp <;> omega)) (ok5 hw) rfl rfl rfl rfl ?_
      refine W.iload d0_88 rfl ?_
      refine W.if_eq d0_90 (fun h => False.elim (by revert h; decide)) (fun h90 => ?_)
      refine W.aload d0_93 rfl rfl ?_
      refine W.iload d0_95 rfl ?_
      refine W.callvV (M' := m10) d0_97 (hw _ (wd 93 rfl)) (hw _ (wd 94 rfl)) (hw _ (wd 95 rfl)) (hw _ (wd 96 rfl)) (w10 hw m pa 0 _ _ _ _ _ _ _ _ (v &&& 3) (0 &&& 1) 0 (by omega) (by omega) ⟨by decide, by decide⟩ (by simp [List.getElem?_set, hpa, hpb, hne, Ne.symm hne, show 0 < m by omega, show 1 < m by omega] <;> rfl) (by simp <;> omega) (by simp [List.getElem?_set, hpa, hpb, hne, Ne.symm hne, show 0 < m by omega, show 1 < m by omega] <;> rfl) (by simp) (by decide) hv1 ⟨by decide, by decide⟩ (by decide)) (ok10 hw) rfl rfl rfl rfl ?_
      refine Jvm.OwnW.W.pop d0_100 rfl ?_
      refine W.iload d0_101 rfl ?_
      refine W.if_eq d0_103 (fun h => False.elim (by revert h; decide)) (fun h103 => ?_)
      refine W.iconst 1 d0_106 rfl ?_
      refine W.goto d0_107 ?_
      refine W.istore d0_111 rfl ?_
      refine W.aload d0_113 rfl rfl ?_
      refine W.iload d0_115 rfl ?_
      refine W.callvN (M' := m5) d0_117 (hw _ (wd 64 rfl)) (hw _ (wd 65 rfl)) (hw _ (wd 66 rfl)) (hw _ (wd 67 rfl)) (w5 hw m pb 1 _ _ _ _ _ _ _ _ (by omega) ⟨by decide, by decide⟩ (by simp <;> omega) (by simp <;> omega) (by simp <;> omega) (by simp <;> omega)) (ok5 hw) rfl rfl rfl rfl ?_
      refine W.iload d0_120 rfl ?_
      refine W.if_eq d0_122 (fun h => False.elim (by revert h; decide)) (fun h122 => ?_)
      refine W.aload d0_125 rfl rfl ?_
      refine W.iload d0_127 rfl ?_
      refine W.iconst 1 d0_129 rfl ?_
      refine W.ixor d0_130 ?_
      refine W.callvV (M' := m10) d0_131 (hw _ (wd 93 rfl)) (hw _ (wd 94 rfl)) (hw _ (wd 95 rfl)) (hw _ (wd 96 rfl)) (w10 hw m pb 1 _ _ _ _ _ _ _ _ ((v &&& 3) ^^^ 1) (0 &&& 1) 1 (by omega) (by omega) ⟨by decide, by decide⟩ (by simp [List.getElem?_set, hpa, hpb, hne, Ne.symm hne, show 0 < m by omega, show 1 < m by omega] <;> rfl) (by simp <;> omega) (by simp [List.getElem?_set, hpa, hpb, hne, Ne.symm hne, show 0 < m by omega, show 1 < m by omega] <;> rfl) (by simp) (by decide) hv2 ⟨by decide, by decide⟩ (by decide)) (ok10 hw) rfl rfl rfl rfl ?_
      refine Jvm.OwnW.W.pop d0_134 rfl ?_
      refine W.iload d0_135 rfl ?_
      refine W.iload d0_137 rfl ?_
      refine W.if_eq d0_139 (fun h => False.elim (by revert h; decide)) (fun h139 => ?_)
      refine W.iconst 1 d0_142 rfl ?_
      refine W.goto d0_143 ?_
      refine W.iadd d0_147 ?_
      refine W.istore d0_148 rfl ?_
      refine W.aload d0_150 rfl rfl ?_
      refine W.callvV (M' := m6) d0_152 (hw _ (wd 73 rfl)) (hw _ (wd 74 rfl)) (hw _ (wd 75 rfl)) (hw _ (wd 76 rfl)) (w6 hw m _ _ _ _ _ _ _ _) (ok6 hw) rfl rfl rfl rfl ?_
      refine W.iconst 2 d0_155 rfl ?_
      refine W.icmp_ne d0_156 (fun h => False.elim (by revert h; decide)) (fun h156 => ?_)
      refine W.aload d0_159 rfl rfl ?_
      refine W.iconst 0 d0_161 rfl ?_
      refine W.callvV (M' := m7) d0_162 (hw _ (wd 78 rfl)) (hw _ (wd 79 rfl)) (hw _ (wd 80 rfl)) (hw _ (wd 81 rfl)) (w7 hw m 0 _ _ _ (Int32.ofNat pa) _ _ _ _ _ _ ⟨by decide, by decide⟩ (by simp [List.getElem?_set, hpa, hpb, hne, Ne.symm hne, show 0 < m by omega, show 1 < m by omega] <;> rfl)) (ok7 hw) rfl rfl rfl rfl ?_
      refine W.iload d0_165 rfl ?_
      refine W.icmp_ne d0_167 (fun h => False.elim (h rfl)) (fun h167 => ?_)
      refine W.aload d0_170 rfl rfl ?_
      refine W.iconst 1 d0_172 rfl ?_
      refine W.callvV (M' := m7) d0_173 (hw _ (wd 78 rfl)) (hw _ (wd 79 rfl)) (hw _ (wd 80 rfl)) (hw _ (wd 81 rfl)) (w7 hw m 1 _ _ _ (Int32.ofNat pb) _ _ _ _ _ _ ⟨by decide, by decide⟩ (by simp [List.getElem?_set, hpa, hpb, hne, Ne.symm hne, show 0 < m by omega, show 1 < m by omega] <;> rfl)) (ok7 hw) rfl rfl rfl rfl ?_
      refine W.iload d0_176 rfl ?_
      refine W.icmp_ne d0_178 (fun h => False.elim (h rfl)) (fun h178 => ?_)
      refine W.aload d0_181 rfl rfl ?_
      refine W.iload d0_183 rfl ?_
      refine W.callvV (M' := m8) d0_185 (hw _ (wd 83 rfl)) (hw _ (wd 84 rfl)) (hw _ (wd 85 rfl)) (hw _ (wd 86 rfl)) (w8 hw m pb _ _ _ (1) _ _ _ _ _ _ (own_idx _ (by omega)) (by simp [List.getElem?_set, hpa, hpb, hne, Ne.symm hne, show 0 < m by omega, show 1 < m by omega] <;> rfl)) (ok8 hw) rfl rfl rfl rfl ?_
      refine W.iload d0_188 rfl ?_
      refine W.icmp_ne d0_190 (fun h => False.elim (by revert h; decide)) (fun h190 => ?_)
      refine W.aload d0_193 rfl rfl ?_
      refine W.iload d0_195 rfl ?_
      refine W.callvV (M' := m9) d0_197 (hw _ (wd 88 rfl)) (hw _ (wd 89 rfl)) (hw _ (wd 90 rfl)) (hw _ (wd 91 rfl)) (w9 hw m pb _ _ _ (2) _ _ _ _ _ _ (own_idx _ (by omega)) (by simp [List.getElem?_set, hpa, hpb, hne, Ne.symm hne, show 0 < m by omega, show 1 < m by omega] <;> rfl)) (ok9 hw) rfl rfl rfl rfl ?_
      refine W.iload d0_200 rfl ?_
      refine W.icmp_ne d0_202 (fun h => False.elim (by revert h; decide)) (fun h202 => ?_)
      refine W.aload d0_205 rfl rfl ?_
      refine W.iload d0_207 rfl ?_
      refine W.callvV (M' := m8) d0_209 (hw _ (wd 83 rfl)) (hw _ (wd 84 rfl)) (hw _ (wd 85 rfl)) (hw _ (wd 86 rfl)) (w8 hw m pa _ _ _ (0) _ _ _ _ _ _ (own_idx _ (by omega)) (by simp [List.getElem?_set, hpa, hpb, hne, Ne.symm hne, show 0 < m by omega, show 1 < m by omega] <;> rfl)) (ok8 hw) rfl rfl rfl rfl ?_
      refine W.if_ne d0_212 (fun h => False.elim (by revert h; decide)) (fun h212 => ?_)
      refine W.aload d0_215 rfl rfl ?_
      refine W.iload d0_217 rfl ?_
      refine W.callvV (M' := m9) d0_219 (hw _ (wd 88 rfl)) (hw _ (wd 89 rfl)) (hw _ (wd 90 rfl)) (hw _ (wd 91 rfl)) (w9 hw m pa _ _ _ (1) _ _ _ _ _ _ (own_idx _ (by omega)) (by simp [List.getElem?_set, hpa, hpb, hne, Ne.symm hne, show 0 < m by omega, show 1 < m by omega] <;> rfl)) (ok9 hw) rfl rfl rfl rfl ?_
      refine W.iload d0_222 rfl ?_
      refine W.icmp_ne d0_224 (fun h => False.elim (by revert h; decide)) (fun h224 => ?_)
      refine W.iconst 1 d0_227 rfl ?_
      refine W.goto d0_228 ?_
      refine W.istore d0_232 rfl ?_
      refine W.iload d0_234 rfl ?_
      exact W.nreturn .boolean d0_236 rfl (by simp) (by decide) (by decide) (rfl)
set_option maxRecDepth 65536 in
set_option maxHeartbeats 40000000 in
theorem comes_1 {Post : Tables → Env → Array Value → State → Outcome → State → Prop} (hpost : ∀ tb e args s v u, (limb_1_1.after args s (.returned v) u = true ∧ limb_1_2.after args s (.returned v) u = true ∧ True) → FrameEnd s (.returned v) u (Jvm.fieldLocs frame_1_writes args s ++ Jvm.arrayLocs frame_1_arrays args s ++ Jvm.staticLocs frame_1_statics s) 56 576 → Post tb e args s (.returned v) u) :
    ArmFor flags0 classFile x code maxLocals ret World_1 tables_1 room_1 Calls_1 rest_1 Pre_1 Post := by
  intro l hfl _ _ p e ha hc hk s m args below hf hA hF happ hP
  obtain ⟨hcalls, hrest, hpre⟩ := hP
  obtain ⟨-, -, -, hnamed, -, -, -, hat⟩ := (Spec.applies_iff hf).mp happ
  obtain ⟨hg, hn⟩ := and_e (Cond.before_iff.mp (show (Jvm.Cond.and given_1 narrow_1).before args s = true from hpre))
  obtain ⟨hcnt, g0⟩ := and_e hg
  obtain ⟨q0, g1⟩ := and_e g0
  obtain ⟨q1, g2⟩ := and_e g1
  obtain ⟨q2, g3⟩ := and_e g2
  obtain ⟨q3, g4⟩ := and_e g3
  obtain ⟨w0, w1, w2, w3, w4, rfl⟩ : ∃ w0 w1 w2 w3 w4 : Value, args = #[w0, w1, w2, w3, w4] := by
    have hs : args.size = 5 := by simpa [Cond.value, given_1] using hcnt
    obtain ⟨L⟩ := args
    match L, hs with
    | [w0, w1, w2, w3, w4], _ => exact ⟨w0, w1, w2, w3, w4, rfl⟩
  have hw := fun d (hd : d ∈ tables_1) => atoms_spec (ws := Jvm.Cond.code x code maxLocals ret :: tables_1) hat d (List.mem_cons_of_mem _ hd)
  obtain ⟨i0, ei0⟩ := is_v q0
  obtain rfl : w0 = (.int i0) := Option.some.inj ei0
  obtain ⟨i1, ei1⟩ := is_v q1
  obtain rfl : w1 = (.int i1) := Option.some.inj ei1
  obtain ⟨i2, ei2⟩ := is_v q2
  obtain rfl : w2 = (.int i2) := Option.some.inj ei2
  obtain ⟨i3, ei3⟩ := is_v q3
  obtain rfl : w3 = (.int i3) := Option.some.inj ei3
  obtain ⟨i4, ei4⟩ := is_v g4
  obtain rfl : w4 = (.int i4) := Option.some.inj ei4
  obtain ⟨n, o, h1, h2, h3, _, L, rfl, ⟨v0, H', rfl, rfl, hH, N⟩, hq⟩ := W.start (M := m0) (w_law (l := l) hw i0 i1 i2 i3 i4) pn0 tables_1 p e ha hc hk s m _ below hf ((Spec.applies_iff_loose hf).mp happ).1 ⟨rfl, State.Warmed39.refl s, rfl⟩ trivial
  refine ⟨n, _, h1, h2, h3, hpost _ _ _ _ _ _ ⟨Cond.after_iff.mpr rfl, Cond.after_iff.mpr (eq_i res_at (Term.int_eval (1)) rfl), trivial⟩ ⟨hq.1, hq.2.1, (hq.2.2.sift fun y hy => Or.inr (N y hy)).mono (by decide) (by decide)⟩⟩
theorem main_1_1 : Claimed_1_1 := comes_1 fun _ _ _ _ _ _ h hF => ⟨h.1, hF⟩
theorem main_1_2 : Claimed_1_2 := comes_1 fun _ _ _ _ _ _ h hF => ⟨h.2.1, hF⟩
end Jvm.Pilot.@@N@@
namespace Jvm.Pilot.@@N@@
open Jvm Jvm.ClassFile Sem Op Lib Jvm.Free Jvm.Stand Jvm.Pilot.@@N@@.Jvm.D
/-! MADE BY PROGRAM (witnessworld.py) out of the Statement's table words and the real class files: 13 classes; the members and pool entries that the words name. The judged class is class 1, her method 1. -/
namespace start1
open Jvm.ClassFile
def u (s : String) : CpInfo := .utf8 (stringToUtf16 s)
/-- a pool by its gaps: so many unusable entries, then the entry; so many at the end -/
def gap : Nat → List CpInfo → List CpInfo
  | 0, r => r
  | n + 1, r => .unusable :: gap n r
def poolList (es : List (Nat × CpInfo)) (last : Nat) : List CpInfo := es.foldr (fun e r => gap e.1 (e.2 :: r)) (gap last [])
def pool (es : List (Nat × CpInfo)) (last : Nat) : Array CpInfo := ⟨poolList es last⟩
def fileOf (pool : Array CpInfo) (this : Nat) (attrs : Array Attribute := #[]) (ms : Array MethodInfo := #[]) (fl : Nat := 33) (sup : Nat := 0) (ifs : Array Nat := #[]) (fds : Array FieldInfo := #[]) : ClassFile where
  minorVersion := 0
  majorVersion := 65
  constantPool := pool
  accessFlags := fl
  thisClass := this
  superClass := sup
  interfaces := ifs
  fields := fds
  methods := ms
  attributes := attrs
def plain (name : String) (sup : Option ClassId) : Class where
  name := name
  kind := .ordinary
  loader := none
  accessFlags := 33
  super := sup
  interfaces := #[]
  cf := none
  fields := #[]
  methods := #[]
  instanceTypes := #[]
  staticTypes := #[]
  resolved := #[]
  callSites := []
  init := .initialized
  statics := none
  mirror := none

def pool0 : Array CpInfo := pool [(5, u "<init>"), (0, u "()V"), (1, .class_ 10), (1, u "java/lang/Object")] 113

def k0c0 : Code := { maxStack := 0, maxLocals := 1, code := object_method_1_code, exceptionTable := #[], attributes := #[] }
def k0m0 : Method := { name := "<init>", desc := "()V", sig := { parameters := [], returnType := none }, accessFlags := 1, code := some k0c0 }
/-- java/lang/Object -/
def k0 : Class := { plain "java/lang/Object" none with
  accessFlags := 33
  interfaces := #[]
  cf := some (fileOf pool0 8 #[] #[{ accessFlags := 1, nameIndex := 5, descriptorIndex := 6, attributes := #[] }] 33 0 #[] #[])
  fields := #[]
  methods := #[k0m0]
  instanceTypes := #[]
  staticTypes := #[]
  resolved := Array.replicate 124 none
  statics := none }

def pool1 : Array CpInfo := pool [(2, .class_ 4), (1, u "java/lang/Object"), (0, u "<init>"), (0, u "()V"), (0, .integer 2147483647), (0, .class_ 9), (0, u "org/tourney/ValueGraph"), (0, .methodref 8 11), (0, .nameAndType 5 12), (0, u "(II)V"), (0, .methodref 8 14), (0, .nameAndType 15 16), (0, u "open"), (0, u "(I)V"), (0, .methodref 8 18), (0, .nameAndType 19 20), (0, u "addEdge"), (0, u "(I)I"), (0, .methodref 8 22), (0, .nameAndType 23 24), (0, u "openCount"), (0, u "()I"), (0, .methodref 8 26), (0, .nameAndType 27 20), (0, u "openPosition"), (0, .methodref 8 29), (0, .nameAndType 30 20), (0, u "firstEdge"), (0, .methodref 8 32), (0, .nameAndType 33 20), (0, u "endEdge"), (0, .class_ 35), (0, u "org/tourney/ValueGraphOpenPinLaw"), (2, u "law"), (0, u "(IIIII)Z")] 3

def k1m0 : Method := { name := "<init>", desc := "()V", sig := { parameters := [], returnType := none }, accessFlags := 1, code := none }
def k1c1 : Code := { maxStack := 4, maxLocals := 15, code := code, exceptionTable := #[], attributes := #[] }
def k1m1 : Method := { name := "law", desc := "(IIIII)Z", sig := { parameters := [.int, .int, .int, .int, .int], returnType := some .boolean }, accessFlags := 9, code := some k1c1 }
/-- org/tourney/ValueGraphOpenPinLaw -/
def k1 : Class := { plain "org/tourney/ValueGraphOpenPinLaw" (some 0) with
  accessFlags := 49
  interfaces := #[]
  cf := some (fileOf pool1 34 #[] #[{ accessFlags := 1, nameIndex := 5, descriptorIndex := 6, attributes := #[] }, { accessFlags := 9, nameIndex := 38, descriptorIndex := 39, attributes := #[] }] 49 2 #[] #[])
  fields := #[]
  methods := #[k1m0, k1m1]
  instanceTypes := #[]
  staticTypes := #[]
  resolved := Array.replicate 43 none
  statics := none }

def pool2 : Array CpInfo := pool [(1, .methodref 2 3), (0, .class_ 4), (0, .nameAndType 5 6), (0, u "java/lang/Object"), (0, u "<init>"), (0, u "()V"), (0, .fieldref 8 9), (0, .class_ 10), (0, .nameAndType 11 12), (0, u "org/tourney/ValueGraph"), (0, u "positions"), (0, u "I"), (0, .fieldref 8 14), (0, .nameAndType 15 12), (0, u "values"), (0, .fieldref 8 17), (0, .nameAndType 18 19), (0, u "matchedValue"), (0, u "[I"), (0, .fieldref 8 21), (0, .nameAndType 22 19), (0, u "matchedPosition"), (0, .methodref 24 25), (0, .class_ 26), (0, .nameAndType 27 28), (0, u "java/util/Arrays"), (0, u "fill"), (0, u "([II)V"), (0, .fieldref 8 30), (0, .nameAndType 31 19), (0, u "openPositions"), (0, .fieldref 8 33), (0, .nameAndType 34 19), (0, u "edgeStart"), (0, .fieldref 8 36), (0, .nameAndType 37 19), (0, u "edgeEnd"), (0, .methodref 39 40), (0, .class_ 41), (0, .nameAndType 42 43), (0, u "java/lang/Math"), (0, u "max"), (0, u "(II)I"), (0, .fieldref 8 45), (0, .nameAndType 46 19), (0, u "edgeValue"), (0, .fieldref 8 48), (0, .nameAndType 49 50), (0, u "keepsMatch"), (0, u "[Z"), (0, .fieldref 8 52), (0, .nameAndType 53 19), (0, u "reached"), (0, .fieldref 8 55), (0, .nameAndType 56 19), (0, u "pathPositions"), (0, .fieldref 8 58), (0, .nameAndType 59 19), (0, u "pathCursors"), (0, .fieldref 8 61), (0, .nameAndType 62 19), (0, u "pathTried"), (0, .fieldref 8 64), (0, .nameAndType 65 19), (0, u "sizeCounts"), (0, .fieldref 8 67), (0, .nameAndType 68 19), (0, u "discovery"), (0, .fieldref 8 70), (0, .nameAndType 71 19), (0, u "discoveredIn"), (0, .fieldref 8 73), (0, .nameAndType 74 19), (0, u "lowest"), (0, .fieldref 8 76), (0, .nameAndType 77 19), (0, u "component"), (0, .fieldref 8 79), (0, .nameAndType 80 50), (0, u "isOpen"), (0, .fieldref 8 82), (0, .nameAndType 83 19), (0, u "openNodes"), (0, .fieldref 8 85), (0, .nameAndType 86 19), (0, u "dfsNodes"), (0, .fieldref 8 88), (0, .nameAndType 89 19), (0, u "dfsCursors"), (0, .fieldref 8 91), (0, .nameAndType 92 12), (0, u "openCount"), (0, .fieldref 8 94), (0, .nameAndType 95 12), (0, u "edgeCount"), (7, u "(I)V"), (13, u "(I)I"), (2, u "stamp"), (13, u "search"), (6, u "UNMATCHED"), (2, u "(II)V"), (3, u "open"), (0, u "addEdge"), (3, u "()I"), (0, u "openPosition"), (0, u "firstEdge"), (0, u "endEdge")] 10

def k2c0 : Code := { maxStack := 3, maxLocals := 4, code := prog_61_method_1_code, exceptionTable := #[], attributes := #[] }
def k2m0 : Method := { name := "<init>", desc := "(II)V", sig := { parameters := [.int, .int], returnType := none }, accessFlags := 0, code := some k2c0 }
def k2c1 : Code := { maxStack := 5, maxLocals := 2, code := prog_61_method_3_code, exceptionTable := #[], attributes := #[] }
def k2m1 : Method := { name := "open", desc := "(I)V", sig := { parameters := [.int], returnType := none }, accessFlags := 0, code := some k2c1 }
def k2c2 : Code := { maxStack := 5, maxLocals := 3, code := prog_61_method_4_code, exceptionTable := #[], attributes := #[] }
def k2m2 : Method := { name := "addEdge", desc := "(I)I", sig := { parameters := [.int], returnType := some .int }, accessFlags := 0, code := some k2c2 }
def k2c3 : Code := { maxStack := 1, maxLocals := 1, code := prog_61_method_6_code, exceptionTable := #[], attributes := #[] }
def k2m3 : Method := { name := "openCount", desc := "()I", sig := { parameters := [], returnType := some .int }, accessFlags := 0, code := some k2c3 }
def k2c4 : Code := { maxStack := 2, maxLocals := 2, code := prog_61_method_7_code, exceptionTable := #[], attributes := #[] }
def k2m4 : Method := { name := "openPosition", desc := "(I)I", sig := { parameters := [.int], returnType := some .int }, accessFlags := 0, code := some k2c4 }
def k2c5 : Code := { maxStack := 2, maxLocals := 2, code := prog_61_method_8_code, exceptionTable := #[], attributes := #[] }
def k2m5 : Method := { name := "firstEdge", desc := "(I)I", sig := { parameters := [.int], returnType := some .int }, accessFlags := 0, code := some k2c5 }
def k2c6 : Code := { maxStack := 2, maxLocals := 2, code := prog_61_method_9_code, exceptionTable := #[], attributes := #[] }
def k2m6 : Method := { name := "endEdge", desc := "(I)I", sig := { parameters := [.int], returnType := some .int }, accessFlags := 0, code := some k2c6 }
/-- org/tourney/ValueGraph -/
def k2 : Class := { plain "org/tourney/ValueGraph" (some 0) with
  accessFlags := 48
  interfaces := #[]
  cf := some (fileOf pool2 8 #[] #[{ accessFlags := 0, nameIndex := 5, descriptorIndex := 144, attributes := #[] }, { accessFlags := 0, nameIndex := 148, descriptorIndex := 103, attributes := #[] }, { accessFlags := 0, nameIndex := 149, descriptorIndex := 117, attributes := #[] }, { accessFlags := 0, nameIndex := 92, descriptorIndex := 153, attributes := #[] }, { accessFlags := 0, nameIndex := 154, descriptorIndex := 117, attributes := #[] }, { accessFlags := 0, nameIndex := 155, descriptorIndex := 117, attributes := #[] }, { accessFlags := 0, nameIndex := 156, descriptorIndex := 117, attributes := #[] }] 48 2 #[] #[{ accessFlags := 26, nameIndex := 141, descriptorIndex := 12, attributes := #[] }, { accessFlags := 18, nameIndex := 11, descriptorIndex := 12, attributes := #[] }, { accessFlags := 18, nameIndex := 15, descriptorIndex := 12, attributes := #[] }, { accessFlags := 18, nameIndex := 18, descriptorIndex := 19, attributes := #[] }, { accessFlags := 18, nameIndex := 22, descriptorIndex := 19, attributes := #[] }, { accessFlags := 18, nameIndex := 31, descriptorIndex := 19, attributes := #[] }, { accessFlags := 2, nameIndex := 92, descriptorIndex := 12, attributes := #[] }, { accessFlags := 18, nameIndex := 34, descriptorIndex := 19, attributes := #[] }, { accessFlags := 18, nameIndex := 37, descriptorIndex := 19, attributes := #[] }, { accessFlags := 2, nameIndex := 46, descriptorIndex := 19, attributes := #[] }, { accessFlags := 2, nameIndex := 95, descriptorIndex := 12, attributes := #[] }, { accessFlags := 18, nameIndex := 49, descriptorIndex := 50, attributes := #[] }, { accessFlags := 18, nameIndex := 53, descriptorIndex := 19, attributes := #[] }, { accessFlags := 2, nameIndex := 120, descriptorIndex := 12, attributes := #[] }, { accessFlags := 18, nameIndex := 56, descriptorIndex := 19, attributes := #[] }, { accessFlags := 18, nameIndex := 59, descriptorIndex := 19, attributes := #[] }, { accessFlags := 18, nameIndex := 62, descriptorIndex := 19, attributes := #[] }, { accessFlags := 18, nameIndex := 65, descriptorIndex := 19, attributes := #[] }, { accessFlags := 18, nameIndex := 68, descriptorIndex := 19, attributes := #[] }, { accessFlags := 18, nameIndex := 71, descriptorIndex := 19, attributes := #[] }, { accessFlags := 2, nameIndex := 134, descriptorIndex := 12, attributes := #[] }, { accessFlags := 18, nameIndex := 74, descriptorIndex := 19, attributes := #[] }, { accessFlags := 18, nameIndex := 77, descriptorIndex := 19, attributes := #[] }, { accessFlags := 18, nameIndex := 80, descriptorIndex := 50, attributes := #[] }, { accessFlags := 18, nameIndex := 83, descriptorIndex := 19, attributes := #[] }, { accessFlags := 18, nameIndex := 86, descriptorIndex := 19, attributes := #[] }, { accessFlags := 18, nameIndex := 89, descriptorIndex := 19, attributes := #[] }])
  fields := #[{ name := "UNMATCHED", type := .int, accessFlags := 26, slot := 0, constantValue := 0 }, { name := "positions", type := .int, accessFlags := 18, slot := 0, constantValue := 0 }, { name := "values", type := .int, accessFlags := 18, slot := 1, constantValue := 0 }, { name := "matchedValue", type := (.array .int), accessFlags := 18, slot := 2, constantValue := 0 }, { name := "matchedPosition", type := (.array .int), accessFlags := 18, slot := 3, constantValue := 0 }, { name := "openPositions", type := (.array .int), accessFlags := 18, slot := 4, constantValue := 0 }, { name := "openCount", type := .int, accessFlags := 2, slot := 5, constantValue := 0 }, { name := "edgeStart", type := (.array .int), accessFlags := 18, slot := 6, constantValue := 0 }, { name := "edgeEnd", type := (.array .int), accessFlags := 18, slot := 7, constantValue := 0 }, { name := "edgeValue", type := (.array .int), accessFlags := 2, slot := 8, constantValue := 0 }, { name := "edgeCount", type := .int, accessFlags := 2, slot := 9, constantValue := 0 }, { name := "keepsMatch", type := (.array .boolean), accessFlags := 18, slot := 10, constantValue := 0 }, { name := "reached", type := (.array .int), accessFlags := 18, slot := 11, constantValue := 0 }, { name := "stamp", type := .int, accessFlags := 2, slot := 12, constantValue := 0 }, { name := "pathPositions", type := (.array .int), accessFlags := 18, slot := 13, constantValue := 0 }, { name := "pathCursors", type := (.array .int), accessFlags := 18, slot := 14, constantValue := 0 }, { name := "pathTried", type := (.array .int), accessFlags := 18, slot := 15, constantValue := 0 }, { name := "sizeCounts", type := (.array .int), accessFlags := 18, slot := 16, constantValue := 0 }, { name := "discovery", type := (.array .int), accessFlags := 18, slot := 17, constantValue := 0 }, { name := "discoveredIn", type := (.array .int), accessFlags := 18, slot := 18, constantValue := 0 }, { name := "search", type := .int, accessFlags := 2, slot := 19, constantValue := 0 }, { name := "lowest", type := (.array .int), accessFlags := 18, slot := 20, constantValue := 0 }, { name := "component", type := (.array .int), accessFlags := 18, slot := 21, constantValue := 0 }, { name := "isOpen", type := (.array .boolean), accessFlags := 18, slot := 22, constantValue := 0 }, { name := "openNodes", type := (.array .int), accessFlags := 18, slot := 23, constantValue := 0 }, { name := "dfsNodes", type := (.array .int), accessFlags := 18, slot := 24, constantValue := 0 }, { name := "dfsCursors", type := (.array .int), accessFlags := 18, slot := 25, constantValue := 0 }]
  methods := #[k2m0, k2m1, k2m2, k2m3, k2m4, k2m5, k2m6]
  instanceTypes := #[.int, .int, (.array .int), (.array .int), (.array .int), .int, (.array .int), (.array .int), (.array .int), .int, (.array .boolean), (.array .int), .int, (.array .int), (.array .int), (.array .int), (.array .int), (.array .int), (.array .int), .int, (.array .int), (.array .int), (.array .boolean), (.array .int), (.array .int), (.array .int)]
  staticTypes := #[.int]
  resolved := Array.replicate 167 none
  statics := none }

def pool3 : Array CpInfo := pool [(2, .class_ 4), (1, u "java/lang/Object"), (0, u "<init>"), (0, u "()V"), (7, .class_ 16), (1, u "java/util/Arrays"), (57, .class_ 76), (1, u "java/util/Arrays$NaturalOrder"), (36, .class_ 115), (1, u "java/util/Arrays$LegacyMergeSort"), (1, u "Z"), (257, .class_ 376), (0, u "java/util/Arrays$ArrayList"), (68, u "$assertionsDisabled"), (269, u "MIN_ARRAY_SORT_GRAN"), (0, u "I"), (2, u "INSERTIONSORT_THRESHOLD"), (120, u "fill"), (4, u "([II)V"), (129, .class_ 976), (0, u "java/util/Arrays$ArrayItr")] 52

def k3m0 : Method := { name := "<init>", desc := "()V", sig := { parameters := [], returnType := none }, accessFlags := 2, code := none }
def k3c1 : Code := { maxStack := 3, maxLocals := 4, code := jdk_65_method_103_code, exceptionTable := #[], attributes := #[] }
def k3m1 : Method := { name := "fill", desc := "([II)V", sig := { parameters := [(.array .int), .int], returnType := none }, accessFlags := 9, code := some k3c1 }
/-- java/util/Arrays -/
def k3 : Class := { plain "java/util/Arrays" (some 0) with
  accessFlags := 49
  interfaces := #[]
  cf := some (fileOf pool3 14 #[.nestMembers #[975, 375, 113, 74]] #[{ accessFlags := 2, nameIndex := 5, descriptorIndex := 6, attributes := #[] }, { accessFlags := 9, nameIndex := 840, descriptorIndex := 845, attributes := #[] }] 49 2 #[] #[{ accessFlags := 26, nameIndex := 715, descriptorIndex := 716, attributes := #[] }, { accessFlags := 26, nameIndex := 719, descriptorIndex := 716, attributes := #[] }, { accessFlags := 4120, nameIndex := 445, descriptorIndex := 117, attributes := #[] }])
  fields := #[{ name := "MIN_ARRAY_SORT_GRAN", type := .int, accessFlags := 26, slot := 0, constantValue := 0 }, { name := "INSERTIONSORT_THRESHOLD", type := .int, accessFlags := 26, slot := 1, constantValue := 0 }, { name := "$assertionsDisabled", type := .boolean, accessFlags := 4120, slot := 2, constantValue := 0 }]
  methods := #[k3m0, k3m1]
  instanceTypes := #[]
  staticTypes := #[.int, .int, .boolean]
  resolved := Array.replicate 1029 none
  statics := none }

def pool4 : Array CpInfo := pool [(1, .class_ 2), (0, u "java/lang/Math"), (1, .class_ 6), (1, u "java/lang/Object"), (0, u "<init>"), (0, u "()V"), (89, .class_ 100), (1, u "java/lang/Math$RandomNumberGeneratorHolder"), (71, u "negativeZeroFloatBits"), (0, u "J"), (2, u "negativeZeroDoubleBits"), (21, u "max"), (46, u "$assertionsDisabled"), (0, u "Z"), (88, u "(II)I"), (2, u "twoToTheDoubleScaleDown"), (0, u "D"), (4, u "twoToTheDoubleScaleUp"), (9, u "E"), (3, u "PI"), (2, u "TAU"), (2, u "DEGREES_TO_RADIANS"), (0, u "RADIANS_TO_DEGREES")] 94

def k4m0 : Method := { name := "<init>", desc := "()V", sig := { parameters := [], returnType := none }, accessFlags := 2, code := none }
def k4c1 : Code := { maxStack := 2, maxLocals := 2, code := jdk_29_method_65_code, exceptionTable := #[], attributes := #[] }
def k4m1 : Method := { name := "max", desc := "(II)I", sig := { parameters := [.int, .int], returnType := some .int }, accessFlags := 9, code := some k4c1 }
/-- java/lang/Math -/
def k4 : Class := { plain "java/lang/Math" (some 0) with
  accessFlags := 49
  interfaces := #[]
  cf := some (fileOf pool4 1 #[.nestMembers #[98]] #[{ accessFlags := 2, nameIndex := 7, descriptorIndex := 8, attributes := #[] }, { accessFlags := 9, nameIndex := 198, descriptorIndex := 335, attributes := #[] }] 49 4 #[] #[{ accessFlags := 25, nameIndex := 354, descriptorIndex := 339, attributes := #[] }, { accessFlags := 25, nameIndex := 358, descriptorIndex := 339, attributes := #[] }, { accessFlags := 25, nameIndex := 361, descriptorIndex := 339, attributes := #[] }, { accessFlags := 26, nameIndex := 364, descriptorIndex := 339, attributes := #[] }, { accessFlags := 26, nameIndex := 365, descriptorIndex := 339, attributes := #[] }, { accessFlags := 26, nameIndex := 172, descriptorIndex := 173, attributes := #[] }, { accessFlags := 26, nameIndex := 176, descriptorIndex := 173, attributes := #[] }, { accessFlags := 8, nameIndex := 344, descriptorIndex := 339, attributes := #[] }, { accessFlags := 8, nameIndex := 338, descriptorIndex := 339, attributes := #[] }, { accessFlags := 4120, nameIndex := 245, descriptorIndex := 246, attributes := #[] }])
  fields := #[{ name := "E", type := .double, accessFlags := 25, slot := 0, constantValue := 0 }, { name := "PI", type := .double, accessFlags := 25, slot := 1, constantValue := 0 }, { name := "TAU", type := .double, accessFlags := 25, slot := 2, constantValue := 0 }, { name := "DEGREES_TO_RADIANS", type := .double, accessFlags := 26, slot := 3, constantValue := 0 }, { name := "RADIANS_TO_DEGREES", type := .double, accessFlags := 26, slot := 4, constantValue := 0 }, { name := "negativeZeroFloatBits", type := .long, accessFlags := 26, slot := 5, constantValue := 0 }, { name := "negativeZeroDoubleBits", type := .long, accessFlags := 26, slot := 6, constantValue := 0 }, { name := "twoToTheDoubleScaleUp", type := .double, accessFlags := 8, slot := 7, constantValue := 0 }, { name := "twoToTheDoubleScaleDown", type := .double, accessFlags := 8, slot := 8, constantValue := 0 }, { name := "$assertionsDisabled", type := .boolean, accessFlags := 4120, slot := 9, constantValue := 0 }]
  methods := #[k4m0, k4m1]
  instanceTypes := #[]
  staticTypes := #[.double, .double, .double, .double, .double, .long, .long, .double, .double, .boolean]
  resolved := Array.replicate 460 none
  statics := none }

def pool5 : Array CpInfo := pool [(1, u "java/lang/Cloneable"), (0, .class_ 1), (0, u "java/lang/Object"), (0, .class_ 3)] 3

/-- java/lang/Cloneable -/
def k5 : Class := { plain "java/lang/Cloneable" (some 0) with
  accessFlags := 1537
  interfaces := #[]
  cf := some (fileOf pool5 2 #[] #[] 1537 4 #[] #[])
  fields := #[]
  methods := #[]
  instanceTypes := #[]
  staticTypes := #[]
  resolved := Array.replicate 8 none
  statics := none }

def pool6 : Array CpInfo := pool [(1, u "java/io/Serializable"), (0, .class_ 1), (0, u "java/lang/Object"), (0, .class_ 3)] 3

/-- java/io/Serializable -/
def k6 : Class := { plain "java/io/Serializable" (some 0) with
  accessFlags := 1537
  interfaces := #[]
  cf := some (fileOf pool6 2 #[] #[] 1537 4 #[] #[])
  fields := #[]
  methods := #[]
  instanceTypes := #[]
  staticTypes := #[]
  resolved := Array.replicate 8 none
  statics := none }

/-- the primitive boolean -/
def k7 : Class := { plain "boolean" none with kind := .primitive 'Z', accessFlags := 0x411 }
/-- [Z -/
def k8 : Class := { plain "[Z" (some 0) with kind := .array 7 .boolean, interfaces := #[5, 6], accessFlags := 1041 }

/-- the primitive byte -/
def k9 : Class := { plain "byte" none with kind := .primitive 'B', accessFlags := 0x411 }
/-- [B -/
def k10 : Class := { plain "[B" (some 0) with kind := .array 9 .byte, interfaces := #[5, 6], accessFlags := 1041 }

/-- the primitive int -/
def k11 : Class := { plain "int" none with kind := .primitive 'I', accessFlags := 0x411 }
/-- [I -/
def k12 : Class := { plain "[I" (some 0) with kind := .array 11 .int, interfaces := #[5, 6], accessFlags := 1041 }

def heap : Heap := #[]
def classes : Array Class := #[k0, k1, k2, k3, k4, k5, k6, k7, k8, k9, k10, k11, k12]
def interned : List (Array UInt16 × Addr) := []
def slotsUsed : Nat := 0
def theMethod : MethodId := ⟨1, 1⟩
def args0 : Array Value := #[.int 5, .int 7, .int 9, .int 2, .int 3]
def aboutOver (below : List Frame) : State where
  vm := { classes := classes, interned := interned.toArray }
  heap := heap
  slotsUsed := slotsUsed
  threads := #[{ frames := .invoking theMethod args0 :: below }]
def below0 : List Frame := [.native { method := ⟨0, 0⟩, args := #[] }]
def about1 : State := aboutOver below0
def p0 : Program := .bare "" "" ""
def e0 : Env := launch0.env 0 0 0
theorem w_frames : about1.frames = Frame.invoking theMethod args0 :: below0 := rfl
set_option maxRecDepth 65536 in
theorem w_args : argsFit about1.vm theMethod args0 = true := by decide +kernel
set_option maxRecDepth 65536 in
theorem w_heap : heapFits about1 = true := by decide +kernel
set_option maxRecDepth 65536 in
theorem w_runnable : about1.curStatus? = some .runnable := by decide +kernel
set_option maxRecDepth 65536 in
theorem w_alone : about1.alone = true := by decide +kernel
set_option maxRecDepth 65536 in
theorem w_named : about1.methodNamed? x = some theMethod := by decide +kernel
set_option maxRecDepth 65536 in
theorem w_hears : about1.hears theMethod below0 = true := by decide +kernel
set_option maxRecDepth 65536 in
theorem w_ripe : about1.ripe theMethod args0 below0 = true := by decide +kernel
theorem w_running : about1.status = .running := rfl
set_option maxRecDepth 65536 in
theorem w_room : about1.hasRoom e0.platform room_1 = true :=
  launch0.hasRoom_least _ room_1 (by decide +kernel) (by decide +kernel) (by decide +kernel) (by decide +kernel) (by decide +kernel) (by decide +kernel)
theorem allAtoms_all (ts : List Jvm.Cond) (a : Array Jvm.Value) (st : Jvm.State) : (allAtoms ts).before a st = ts.all (fun c => c.before a st) := by
  induction ts with
  | nil => rfl
  | cons c t ih =>
    show (Jvm.Cond.and c (allAtoms t)).before a st = _
    rw [Jvm.Cond.before_and, ih, List.all_cons]
def words1 : List Jvm.Cond := Jvm.Cond.code x code maxLocals ret :: tables_1
/-- a 'code' word, met by the world's own term for the bytes: nothing is compared byte by byte -/
theorem code_word {y : MethodName} {bytes : ByteArray} {mx : Nat} {rt : Option FieldType} {a : Array Value} {s : State} {m : MethodId} {meth : Method} {c : Code} (h1 : s.methodNamed? y = some m) (h2 : s.vm.method? m = some meth) (h3 : meth.code = some c) (h4 : c.code = bytes)
    (h5 : (c.maxLocals == mx && c.exceptionTable.isEmpty && decide (c.maxStack ≤ mostOperands) && decide (meth.sig.returnType = rt) && !meth.locks && decide (parseMethodDescriptor y.desc = some meth.sig)) = true) : (Jvm.Cond.code y bytes mx rt).before a s = true := by
  simp only [Bool.and_eq_true, beq_iff_eq, Bool.not_eq_true', decide_eq_true_eq] at h5
  obtain ⟨⟨⟨⟨⟨g1, g2⟩, g3⟩, g4⟩, g5⟩, g6⟩ := h5
  simp [Cond.before, Cond.holds, Cond.value, h1, h2, h3, h4, g1, g2, g3, g4, g5, g6]
def isCode : Jvm.Cond → Bool
  | .code _ _ _ _ => true
  | _ => false
theorem all_split {L : List Jvm.Cond} {P : Jvm.Cond → Bool} (h1 : L.all (fun c => isCode c || P c) = true) (h2 : ∀ c ∈ L.filter isCode, P c = true) : L.all P = true := by
  refine List.all_eq_true.mpr fun c hc => ?_
  have h := List.all_eq_true.mp h1 c hc
  rcases Bool.eq_false_or_eq_true (isCode c) with hi | hi
  · exact h2 c (List.mem_filter.mpr ⟨hc, hi⟩)
  · simpa [hi] using h
set_option maxRecDepth 65536 in
theorem w_c0 : (Jvm.Cond.code x code maxLocals ret).before args0 about1 = true := code_word (m := ⟨1, 1⟩) (meth := k1m1) (c := k1c1) (by decide +kernel) rfl rfl rfl (by decide +kernel)
set_option maxRecDepth 65536 in
theorem w_c1 : (Jvm.Cond.code ({ cls := "org/tourney/ValueGraph", name := "<init>", desc := "(II)V" } : Jvm.MethodName) prog_61_method_1_code (4 : Nat) (Option.none : Option Jvm.ClassFile.FieldType)).before args0 about1 = true := code_word (m := ⟨2, 0⟩) (meth := k2m0) (c := k2c0) (by decide +kernel) rfl rfl rfl (by decide +kernel)
set_option maxRecDepth 65536 in
theorem w_c2 : (Jvm.Cond.code ({ cls := "java/lang/Object", name := "<init>", desc := "()V" } : Jvm.MethodName) object_method_1_code (1 : Nat) (Option.none : Option Jvm.ClassFile.FieldType)).before args0 about1 = true := code_word (m := ⟨0, 0⟩) (meth := k0m0) (c := k0c0) (by decide +kernel) rfl rfl rfl (by decide +kernel)
set_option maxRecDepth 65536 in
theorem w_c3 : (Jvm.Cond.code ({ cls := "java/util/Arrays", name := "fill", desc := "([II)V" } : Jvm.MethodName) jdk_65_method_103_code (4 : Nat) (Option.none : Option Jvm.ClassFile.FieldType)).before args0 about1 = true := code_word (m := ⟨3, 1⟩) (meth := k3m1) (c := k3c1) (by decide +kernel) rfl rfl rfl (by decide +kernel)
set_option maxRecDepth 65536 in
theorem w_c4 : (Jvm.Cond.code ({ cls := "java/lang/Math", name := "max", desc := "(II)I" } : Jvm.MethodName) jdk_29_method_65_code (2 : Nat) (Option.some Jvm.ClassFile.FieldType.int)).before args0 about1 = true := code_word (m := ⟨4, 1⟩) (meth := k4m1) (c := k4c1) (by decide +kernel) rfl rfl rfl (by decide +kernel)
set_option maxRecDepth 65536 in
theorem w_c5 : (Jvm.Cond.code ({ cls := "org/tourney/ValueGraph", name := "open", desc := "(I)V" } : Jvm.MethodName) prog_61_method_3_code (2 : Nat) (Option.none : Option Jvm.ClassFile.FieldType)).before args0 about1 = true := code_word (m := ⟨2, 1⟩) (meth := k2m1) (c := k2c1) (by decide +kernel) rfl rfl rfl (by decide +kernel)
set_option maxRecDepth 65536 in
theorem w_c6 : (Jvm.Cond.code ({ cls := "org/tourney/ValueGraph", name := "openCount", desc := "()I" } : Jvm.MethodName) prog_61_method_6_code (1 : Nat) (Option.some Jvm.ClassFile.FieldType.int)).before args0 about1 = true := code_word (m := ⟨2, 3⟩) (meth := k2m3) (c := k2c3) (by decide +kernel) rfl rfl rfl (by decide +kernel)
set_option maxRecDepth 65536 in
theorem w_c7 : (Jvm.Cond.code ({ cls := "org/tourney/ValueGraph", name := "openPosition", desc := "(I)I" } : Jvm.MethodName) prog_61_method_7_code (2 : Nat) (Option.some Jvm.ClassFile.FieldType.int)).before args0 about1 = true := code_word (m := ⟨2, 4⟩) (meth := k2m4) (c := k2c4) (by decide +kernel) rfl rfl rfl (by decide +kernel)
set_option maxRecDepth 65536 in
theorem w_c8 : (Jvm.Cond.code ({ cls := "org/tourney/ValueGraph", name := "firstEdge", desc := "(I)I" } : Jvm.MethodName) prog_61_method_8_code (2 : Nat) (Option.some Jvm.ClassFile.FieldType.int)).before args0 about1 = true := code_word (m := ⟨2, 5⟩) (meth := k2m5) (c := k2c5) (by decide +kernel) rfl rfl rfl (by decide +kernel)
set_option maxRecDepth 65536 in
theorem w_c9 : (Jvm.Cond.code ({ cls := "org/tourney/ValueGraph", name := "endEdge", desc := "(I)I" } : Jvm.MethodName) prog_61_method_9_code (2 : Nat) (Option.some Jvm.ClassFile.FieldType.int)).before args0 about1 = true := code_word (m := ⟨2, 6⟩) (meth := k2m6) (c := k2c6) (by decide +kernel) rfl rfl rfl (by decide +kernel)
set_option maxRecDepth 65536 in
theorem w_c10 : (Jvm.Cond.code ({ cls := "org/tourney/ValueGraph", name := "addEdge", desc := "(I)I" } : Jvm.MethodName) prog_61_method_4_code (3 : Nat) (Option.some Jvm.ClassFile.FieldType.int)).before args0 about1 = true := code_word (m := ⟨2, 2⟩) (meth := k2m2) (c := k2c2) (by decide +kernel) rfl rfl rfl (by decide +kernel)
def codes1 : List Jvm.Cond := [Jvm.Cond.code x code maxLocals ret, Jvm.Cond.code ({ cls := "org/tourney/ValueGraph", name := "<init>", desc := "(II)V" } : Jvm.MethodName) prog_61_method_1_code (4 : Nat) (Option.none : Option Jvm.ClassFile.FieldType), Jvm.Cond.code ({ cls := "java/lang/Object", name := "<init>", desc := "()V" } : Jvm.MethodName) object_method_1_code (1 : Nat) (Option.none : Option Jvm.ClassFile.FieldType), Jvm.Cond.code ({ cls := "java/util/Arrays", name := "fill", desc := "([II)V" } : Jvm.MethodName) jdk_65_method_103_code (4 : Nat) (Option.none : Option Jvm.ClassFile.FieldType), Jvm.Cond.code ({ cls := "java/lang/Math", name := "max", desc := "(II)I" } : Jvm.MethodName) jdk_29_method_65_code (2 : Nat) (Option.some Jvm.ClassFile.FieldType.int), Jvm.Cond.code ({ cls := "org/tourney/ValueGraph", name := "open", desc := "(I)V" } : Jvm.MethodName) prog_61_method_3_code (2 : Nat) (Option.none : Option Jvm.ClassFile.FieldType), Jvm.Cond.code ({ cls := "org/tourney/ValueGraph", name := "openCount", desc := "()I" } : Jvm.MethodName) prog_61_method_6_code (1 : Nat) (Option.some Jvm.ClassFile.FieldType.int), Jvm.Cond.code ({ cls := "org/tourney/ValueGraph", name := "openPosition", desc := "(I)I" } : Jvm.MethodName) prog_61_method_7_code (2 : Nat) (Option.some Jvm.ClassFile.FieldType.int), Jvm.Cond.code ({ cls := "org/tourney/ValueGraph", name := "firstEdge", desc := "(I)I" } : Jvm.MethodName) prog_61_method_8_code (2 : Nat) (Option.some Jvm.ClassFile.FieldType.int), Jvm.Cond.code ({ cls := "org/tourney/ValueGraph", name := "endEdge", desc := "(I)I" } : Jvm.MethodName) prog_61_method_9_code (2 : Nat) (Option.some Jvm.ClassFile.FieldType.int), Jvm.Cond.code ({ cls := "org/tourney/ValueGraph", name := "addEdge", desc := "(I)I" } : Jvm.MethodName) prog_61_method_4_code (3 : Nat) (Option.some Jvm.ClassFile.FieldType.int)]
set_option maxRecDepth 65536 in
theorem codes_eq : words1.filter isCode = codes1 := rfl
theorem w_codes : ∀ c ∈ words1.filter isCode, c.before args0 about1 = true := by
  rw [codes_eq]
  intro c hc
  simp only [codes1, List.mem_cons, List.not_mem_nil, or_false] at hc
  rcases hc with rfl | rfl | rfl | rfl | rfl | rfl | rfl | rfl | rfl | rfl | rfl
  · exact w_c0
  · exact w_c1
  · exact w_c2
  · exact w_c3
  · exact w_c4
  · exact w_c5
  · exact w_c6
  · exact w_c7
  · exact w_c8
  · exact w_c9
  · exact w_c10
set_option maxRecDepth 65536 in
theorem w_t1 : (words1.take 24).all (fun c => isCode c || c.before args0 about1) = true := by decide +kernel
set_option maxRecDepth 65536 in
theorem w_t2 : ((words1.drop 24).take 24).all (fun c => isCode c || c.before args0 about1) = true := by decide +kernel
set_option maxRecDepth 65536 in
theorem w_t3 : (((words1.drop 24).drop 24).take 24).all (fun c => isCode c || c.before args0 about1) = true := by decide +kernel
set_option maxRecDepth 65536 in
theorem w_t4 : ((((words1.drop 24).drop 24).drop 24).take 24).all (fun c => isCode c || c.before args0 about1) = true := by decide +kernel
set_option maxRecDepth 65536 in
theorem w_t5 : ((((words1.drop 24).drop 24).drop 24).drop 24).all (fun c => isCode c || c.before args0 about1) = true := by decide +kernel
theorem w_tables : (allAtoms (Jvm.Cond.code x code maxLocals ret :: tables_1)).before args0 about1 = true := by
  rw [allAtoms_all]
  show words1.all (fun c => c.before args0 about1) = true
  refine all_split ?_ w_codes
  rw [← List.take_append_drop 24 words1, List.all_append, w_t1, ← List.take_append_drop 24 (words1.drop 24), List.all_append, w_t2, ← List.take_append_drop 24 ((words1.drop 24).drop 24), List.all_append, w_t3, ← List.take_append_drop 24 (((words1.drop 24).drop 24).drop 24), List.all_append, w_t4, w_t5]
  rfl
set_option maxRecDepth 65536 in
theorem w_case : (Jvm.Cond.and given_1 narrow_1).before args0 about1 = true := by decide +kernel
theorem w_applies : (headSpec (Jvm.Cond.code x code maxLocals ret :: tables_1) room_1).applies x e0.platform about1 = true :=
  (Spec.applies_iff w_frames).mpr ⟨w_running, w_runnable, w_alone, w_named, w_hears, w_ripe, w_room, w_tables⟩
theorem atStart : AtStart classFile x code maxLocals ret World_1 tables_1 room_1 Calls_1 rest_1 Pre_1 launch0 p0 e0 about1 theMethod args0 below0 :=
  ⟨lists_1, trivial, launch0.admits_env _ _ _, launch0.least_env, fairChoices_fair.cas, fairChoices_fair.clock, w_frames, w_args, w_heap, w_applies, trivial, trivial, w_case⟩
end start1
theorem witness_1 : WitnessClaimed_1 := ⟨start1.p0, start1.e0, start1.about1, start1.theMethod, start1.args0, start1.below0, start1.atStart⟩
end Jvm.Pilot.@@N@@
