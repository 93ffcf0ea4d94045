import JvmDerived
import JvmDerived.Pilot.@@N@@Statement
import JvmDerived.Pilot.@@N@@Code
set_option linter.unusedVariables false
set_option linter.unusedSimpArgs false
namespace Jvm.OwnW
open Sem ClassFile Op Lib Jvm.Stand Jvm.Free Jvm.LawKit Jvm.RoadKit
/-! A plain heap (objects made since the start, in order), values whose references count from the start's size; W: from here the method comes back, and Q holds of what it returns and leaves. -/
abbrev Key : Type := String × String × String
abbrev AObj : Type := (String × List (Key × Value)) ⊕ (FieldType × List Value)
abbrev AHeap : Type := List AObj
abbrev Meth : Type := MethodName × ByteArray × Nat × Option FieldType × Room
def up (n : Nat) : Value → Value
  | .ref k => .ref (n + k)
  | .retAddr a => .ref a
  | v => v
/-- a reference: null, an object of the plain heap, or one from elsewhere (written '.retAddr', which no method here makes) -/
def rfn : Value → Bool
  | .ref _ => true
  | .null => true
  | .retAddr _ => true
  | _ => false
def upS (n : Nat) : Slot → Slot
  | .val v => .val (up n v)
  | x => x
abbrev loc (n : Nat) (ls : List Slot) : Array Slot := (ls.map (upS n)).toArray
abbrev stk (n : Nat) (st : List Value) : List Value := st.map (up n)
def OR (Z : State) (n : Nat) (h : Heap) (a : Addr) : AObj → Prop
  | .inl x => Exa Z h a x.1 ∧ (∀ (i : Nat) (q : Key × Value), x.2[i]? = some q → Fld Z h a q.1.1 q.1.2.1 q.1.2.2 (up n q.2)) ∧ ∀ (i j : Nat) (q r : Key × Value), i ≠ j → x.2[i]? = some q → x.2[j]? = some r → RoadKit.slotOf Z q.1.1 q.1.2.1 q.1.2.2 ≠ RoadKit.slotOf Z r.1.1 r.1.2.1 r.1.2.2
  | .inr x => ∃ cl : Cell, Arr Z h a cl x.1 ∧ cl.slots = (x.2.map (up n)).toArray
/-- a cell of which nothing is said -/
def junk : AObj := .inr (.object "", [])
def isJ : AObj → Bool
  | .inl _ => false
  | .inr x => match x.1 with
    | .object c => c == ""
    | _ => false
def HR (Z : State) (n : Nat) (h : Heap) (H : AHeap) : Prop := h.size = n + H.length ∧ ∀ k o, H[k]? = some o → isJ o = false → OR Z n h (n + k) o
def Ctx (Z : State) (M : Meth) (p : Program) (s : State) (m : MethodId) (meth : Method) (c : Code) : Prop :=
  p.tables.exec = Jvm.exec ∧ Z.Warmed39 s.vm ∧ s.vm.findClass M.1.cls = some m.cls ∧ c.code = M.2.1 ∧ c.maxLocals = M.2.2.1 ∧ meth.sig.returnType = M.2.2.2.1 ∧ meth.locks = false ∧ meth.name = M.1.name
/-- the end's frame: the plain one, or (a String's constant may have been resolved) the wide one -/
def EndR (b : Bool) (s : State) (o : Outcome) (t : State) (L : List Loc) (k n : Nat) : Prop := match b with
  | false => FrameEnd s o t L k n
  | true => (∃ v : Option Value, o = Outcome.returned v) ∧ s.Warmed39 t.vm ∧ s.Booked t.vm t.heap.size ∧ s.sameButNew ({ t with vm := s.vm } : State) L k n
theorem EndR.of {b : Bool} {s : State} {o : Outcome} {t : State} {L : List Loc} {k n : Nat} (h : FrameEnd s o t L k n) : EndR b s o t L k n := by
  cases b
  · exact h
  · exact ⟨h.1, (h.2.1.since t.heap.size).1, (h.2.1.since t.heap.size).2, h.2.2⟩
def FinR (b : Bool) (Z : State) (n : Nat) (M : Meth) (Q : Option Value → AHeap → Prop) (p : Program) (e : Env) (below : List Frame) (s S : State) : Prop :=
  ∃ s₂ v L H', Steps p.tables e below S s₂ ∧ s₂.status = .running ∧ Ended s₂ below (.returned (v.map (up n))) ∧ Q v H' ∧ HR Z n s₂.heap H' ∧ Fr n L ∧ EndR b s (.returned (v.map (up n))) s₂ L M.2.2.2.2.cells M.2.2.2.2.slots
def WB (b : Bool) (l : Launch) (Z : State) (n : Nat) (M : Meth) (pc : Nat) (ls : List Slot) (st : List Value) (H : AHeap) (ce sl : Nat) (Q : Option Value → AHeap → Prop) : Prop :=
  ∀ (p : Program) (e : Env) (s : State) (m : MethodId) (args : Array Value) (below : List Frame) (meth : Method) (c : Code), Ctx Z M p s m meth c → ∀ (T : State) (locs : List Loc),
    Stand p l e M.2.2.2.2 s m args below meth c T locs ce sl → HR Z n T.heap H → Fr n locs → FinR b Z n M Q p e below s (T.setTop (mkF m pc (loc n ls) (stk n st)))
abbrev W (l : Launch) (Z : State) (n : Nat) (M : Meth) (pc : Nat) (ls : List Slot) (st : List Value) (H : AHeap) (ce sl : Nat) (Q : Option Value → AHeap → Prop) : Prop := WB false l Z n M pc ls st H ce sl Q
/-- the instruction at pc, its length, the pc behind -/
def D (M : Meth) (pc : Nat) (i : Instr) (len pc' : Nat) : Prop := decode M.2.1 pc = .ok (i, len) ∧ pc' = pc + len
/-- a branch: the pc behind, the target -/
def DB (M : Meth) (pc : Nat) (i : Instr) (o : Int) (pc' t : Nat) : Prop := decode M.2.1 pc = .ok (i, 3) ∧ pc' = pc + 3 ∧ 0 ≤ (pc : Int) + o ∧ ((pc : Int) + o).toNat = t

section Facts
variable {Z : State} {n : Nat} {h h' : Heap} {a b : Addr} {x : AObj} {H : AHeap} {sl k : Nat} {v : Value}
theorem up_cat (n : Nat) (v : Value) : (up n v).category = v.category := by cases v <;> rfl
theorem up_rfn (n : Nat) {v : Value} (h : rfn v = true) : (up n v).isRef = true := by cases v <;> first | rfl | (simp [rfn] at h)
theorem up_isRef (n : Nat) {v : Value} (h : v.isRef = true) : (up n v).isRef = true := by cases v <;> first | rfl | (simp [Value.isRef] at h)
theorem rfn_cat {v : Value} (h : rfn v = true) : v.category = 1 := by cases v <;> first | rfl | (simp [rfn] at h)
theorem up_default (n : Nat) (ty : FieldType) : up n (defaultValue ty) = defaultValue ty := by cases ty <;> rfl
theorem up_inj {n : Nat} {v w : Value} (hv : v.isRef = true) (hw : w.isRef = true) (e : up n v = up n w) : v = w := by
  cases v <;> cases w <;> simp_all [up, Value.isRef]
theorem OR.other (W : Wr h h' a sl v) (hne : b ≠ a) : ∀ {x : AObj}, OR Z n h b x → OR Z n h' b x
  | .inl x, o => ⟨o.1.wr W, fun i q hq => (o.2.1 i q hq).other W (Or.inl hne), o.2.2⟩
  | .inr x, ⟨cl, A, e⟩ => ⟨cl, A.other W hne, e⟩
theorem OR.ext (E : Ext h h') : ∀ {x : AObj}, OR Z n h b x → OR Z n h' b x
  | .inl x, o => ⟨o.1.ext E, fun i q hq => (o.2.1 i q hq).ext E, o.2.2⟩
  | .inr x, ⟨cl, A, e⟩ => ⟨cl, A.ext E, e⟩
theorem HR.put (hH : HR Z n h H) (W : Wr h h' (n + k) sl v) (hx : OR Z n h' (n + k) x) : HR Z n h' (H.set k x) := by
  refine ⟨by rw [W.size, List.length_set]; exact hH.1, fun j o hj hJ => ?_⟩
  rw [List.getElem?_set] at hj
  split at hj
  · rename_i e
    subst e
    split at hj
    · cases hj; exact hx
    · cases hj
  · rename_i e
    exact (hH.2 j o hj hJ).other W (fun q => e (Nat.add_left_cancel q).symm)
theorem HR.push (hH : HR Z n h H) (E : Ext h h') (hs : h'.size = h.size + 1) (hx : OR Z n h' h.size x) : HR Z n h' (H ++ [x]) := by
  refine ⟨by rw [hs, hH.1, List.length_append]; rfl, fun j o hj hJ => ?_⟩
  rw [List.getElem?_append] at hj
  split at hj
  · exact (hH.2 j o hj hJ).ext E
  · rename_i e
    have hj' := hj
    cases hq : j - H.length with
    | zero =>
      have hge : H.length ≤ j := Nat.le_of_not_lt e
      have hle : j ≤ H.length := Nat.sub_eq_zero_iff_le.mp hq
      have this : n + j = h.size := by rw [hH.1, Nat.le_antisymm hle hge]
      rw [hq] at hj
      cases hj
      rw [this]; exact hx
    | succ q => rw [hq] at hj; cases hj
theorem OR.field {C : String} {fs : List (Key × Value)} {j : Nat} {O nm d : String} {old w : Value} (o : OR Z n h a (.inl (C, fs))) (hj : fs[j]? = some ((O, nm, d), old)) (W : Wr h h' a (RoadKit.slotOf Z O nm d) (up n w)) : OR Z n h' a (.inl (C, fs.set j ((O, nm, d), w))) := by
  have key : ∀ i q, (fs.set j ((O, nm, d), w))[i]? = some q → ∃ q', fs[i]? = some q' ∧ q'.1 = q.1 ∧ (i = j → q = ((O, nm, d), w)) ∧ (i ≠ j → q' = q) := by
    intro i q hq
    rw [List.getElem?_set] at hq
    split at hq
    · rename_i e
      subst e
      split at hq
      · cases hq; exact ⟨_, hj, rfl, fun _ => rfl, fun q => absurd rfl q⟩
      · cases hq
    · rename_i e
      exact ⟨q, hq, rfl, fun q => absurd q.symm e, fun _ => rfl⟩
  obtain ⟨o1, o2, o3⟩ := o
  refine ⟨o1.wr W, fun i q hq => ?_, fun i i' q r hne hq hr => ?_⟩
  · obtain ⟨q', g1, g2, g3, g4⟩ := key i q hq
    by_cases e : i = j
    · rw [g3 e]
      subst e
      cases hj.symm.trans g1
      have o4 : Fld Z h a O nm d (up n old) := o2 i _ hj
      exact o4.same W
    · obtain rfl := g4 e
      have hne : RoadKit.slotOf Z q'.1.1 q'.1.2.1 q'.1.2.2 ≠ RoadKit.slotOf Z O nm d := o3 i j q' ((O, nm, d), old) e g1 hj
      exact (o2 i q' g1).other W (Or.inr hne)
  · obtain ⟨q', g1, g2, -⟩ := key i q hq
    obtain ⟨r', k1, k2, -⟩ := key i' r hr
    have := o3 i i' q' r' hne g1 k1
    rw [g2, k2] at this; exact this
theorem OR.elem {ty : FieldType} {vs : List Value} {i : Nat} {w : Value} (o : OR Z n h a (.inr (ty, vs))) (W : Wr h h' a i (up n w)) : OR Z n h' a (.inr (ty, vs.set i w)) := by
  obtain ⟨cl, A, e⟩ := o
  refine ⟨_, A.same W, ?_⟩
  show cl.slots.setIfInBounds i (up n w) = _
  rw [e, List.setIfInBounds_toArray, List.map_set]
end Facts

/-- a class as the sheet lays it: its words, its fields at their first values -/
def OkC (a0 : Array Value) (Z : State) (C : String) (k : Nat) (fs : List (Key × Value)) : Prop :=
  (Cond.instantiable C k).before a0 Z = true ∧ (Cond.initialized C).before a0 Z = true ∧ (∀ q ∈ fs, ∃ ty, Laid Z a0 C q.1.1 q.1.2.1 q.1.2.2 ∧ parseFieldDescriptor q.1.2.2 = some ty ∧ q.2 = defaultValue ty) ∧ fs.Pairwise (fun q r => q.1.2.1 ≠ r.1.2.1)
theorem OkC.slots {a0 : Array Value} {Z : State} {C : String} {k : Nat} {fs : List (Key × Value)} (K : OkC a0 Z C k fs) : ∀ (i j : Nat) (q r : Key × Value), i ≠ j → fs[i]? = some q → fs[j]? = some r → RoadKit.slotOf Z q.1.1 q.1.2.1 q.1.2.2 ≠ RoadKit.slotOf Z r.1.1 r.1.2.1 r.1.2.2 := by
  intro i j q r hne hq hr
  obtain ⟨t, L, p1, -⟩ := K.2.2.1 q (List.mem_of_getElem? hq)
  obtain ⟨t', L', p2, -⟩ := K.2.2.1 r (List.mem_of_getElem? hr)
  obtain ⟨hi, ei⟩ := List.getElem?_eq_some_iff.mp hq
  obtain ⟨hj, ej⟩ := List.getElem?_eq_some_iff.mp hr
  have P := List.pairwise_iff_getElem.mp K.2.2.2
  refine slot_ne L L' ?_ p1 p2
  rcases Nat.lt_or_gt_of_ne hne with g | g
  · have := P i j hi hj g; rw [ei, ej] at this; exact this
  · have := P j i hj hi g; rw [ei, ej] at this; exact Ne.symm this

section Locals
variable {n : Nat} {ls : List Slot} {i : Nat} {x : Slot} {v : Value}
theorem loc_get (hl : ls[i]? = some x) : (loc n ls)[i]? = some (upS n x) := by
  simp [loc, hl]
def one (ls : List Slot) (i : Nat) : Bool := match ls[i]? with
  | some .unset => true
  | some (.val w) => w.category == 1
  | _ => false
/-- a long may be stored at i: the two places are there, and no other long is cut in two -/
def two (ls : List Slot) (i : Nat) : Bool := match ls[i]?, ls[i + 1]? with
  | some .unset, some .unset => true
  | some .unset, some (.val w) => w.category == 1
  | some (.val u), some .unset => u.category == 1
  | some (.val u), some (.val w) => u.category == 1 && w.category == 1
  | some (.val u), some .second => u.category == 2
  | _, _ => false
theorem loc_set (n : Nat) (ls : List Slot) (i : Nat) (x : Slot) : (loc n ls).setIfInBounds i (upS n x) = loc n (ls.set i x) := by
  simp [loc, List.map_set]
theorem store_1 (ho : one ls i = true) (hv : v.category = 1) : storeLocals (loc n ls) i (up n v) = some (loc n (ls.set i (.val v))) := by
  have : ∃ o, ls[i]? = some o ∧ (o = .unset ∨ ∃ w, o = .val w ∧ w.category = 1) := by
    unfold one at ho
    split at ho
    · rename_i h; exact ⟨_, h, Or.inl rfl⟩
    · rename_i w h; exact ⟨_, h, Or.inr ⟨w, rfl, by simpa using ho⟩⟩
    · cases ho
  obtain ⟨o, h1, h2⟩ := this
  rw [XS.store1 (loc_get (n := n) h1) ?_ ((up_cat n v).trans hv)]
  · exact congrArg some (loc_set n ls i (.val v))
  · rcases h2 with rfl | ⟨w, rfl, hw⟩
    · exact Or.inl rfl
    · exact Or.inr ⟨up n w, rfl, (up_cat n w).trans hw⟩
theorem setAt_eq {l : Array Slot} {i : Nat} (x : Slot) (h : i < l.size) : setAt l i x = some (l.setIfInBounds i x) := by simp [setAt, h]
theorem store_2 {y : Int64} (ho : two ls i = true) : storeLocals (loc n ls) i (.long y) = some (loc n ((ls.set i (.val (.long y))).set (i + 1) .second)) := by
  have e2 : (loc n ls).setIfInBounds i (.val (.long y)) = loc n (ls.set i (.val (.long y))) := loc_set n ls i (.val (.long y))
  have e3 : (loc n (ls.set i (.val (.long y)))).setIfInBounds (i + 1) .second = loc n ((ls.set i (.val (.long y))).set (i + 1) .second) := loc_set n _ (i + 1) .second
  have key : ∀ a b, ls[i]? = some a → ls[i + 1]? = some b → i < (loc n ls).size ∧ i + 1 < (loc n ls).size ∧ (loc n ls)[i]? = some (upS n a) ∧ (loc n ls)[i + 1]? = some (upS n b) := by
    intro a b h1 h2
    have g1 := (List.getElem?_eq_some_iff.mp h1).1
    have g2 := (List.getElem?_eq_some_iff.mp h2).1
    exact ⟨by simpa [loc] using g1, by simpa [loc] using g2, loc_get h1, loc_get h2⟩
  unfold two at ho
  split at ho
  · rename_i h1 h2
    obtain ⟨s1, s2, g1, g2⟩ := key _ _ h1 h2
    have g3 : ((loc n ls).setIfInBounds i (.val (.long y)))[i + 1]? = some .unset := by rw [Array.getElem?_setIfInBounds_ne (by omega)]; exact g2
    simp only [storeLocals, storeSelf, g1, upS, setAt_eq _ s1, Option.bind_eq_bind, Option.bind_some, Value.category, if_true, g3]
    rw [setAt_eq _ (by simpa using s2), e2, e3]
  · rename_i w h1 h2
    obtain ⟨s1, s2, g1, g2⟩ := key _ _ h1 h2
    have g3 : ((loc n ls).setIfInBounds i (.val (.long y)))[i + 1]? = some (.val (up n w)) := by rw [Array.getElem?_setIfInBounds_ne (by omega)]; exact g2
    have hw : (up n w).category = 1 := (up_cat n w).trans (by simpa using ho)
    have hw2 : ¬ (up n w).category = 2 := by rw [hw]; decide
    simp only [storeLocals, storeSelf, g1, upS, setAt_eq _ s1, Option.bind_eq_bind, Option.bind_some, show (Value.long y).category = 2 from rfl, if_true, g3, if_neg hw2]
    rw [setAt_eq _ (by simpa using s2), e2, e3]
  · rename_i u h1 h2
    obtain ⟨s1, s2, g1, g2⟩ := key _ _ h1 h2
    have g3 : ((loc n ls).setIfInBounds i (.val (.long y)))[i + 1]? = some .unset := by rw [Array.getElem?_setIfInBounds_ne (by omega)]; exact g2
    have hu : (up n u).category = 1 := (up_cat n u).trans (by simpa using ho)
    simp only [storeLocals, storeSelf, g1, upS, setAt_eq _ s1, Option.bind_eq_bind, Option.bind_some, hu, show ((1 : Nat) = 2) = False from by simp, if_false, g3]
    simp only [Value.category, if_true]
    rw [setAt_eq _ (by simpa using s2), e2, e3]
  · rename_i u w h1 h2
    obtain ⟨s1, s2, g1, g2⟩ := key _ _ h1 h2
    simp only [Bool.and_eq_true, beq_iff_eq] at ho
    have g3 : ((loc n ls).setIfInBounds i (.val (.long y)))[i + 1]? = some (.val (up n w)) := by rw [Array.getElem?_setIfInBounds_ne (by omega)]; exact g2
    have hu : (up n u).category = 1 := (up_cat n u).trans ho.1
    have hw : (up n w).category = 1 := (up_cat n w).trans ho.2
    simp only [storeLocals, storeSelf, g1, upS, setAt_eq _ s1, Option.bind_eq_bind, Option.bind_some, hu, hw, show ((1 : Nat) = 2) = False from by simp, if_false, g3]
    simp only [Value.category, if_true]
    rw [setAt_eq _ (by simpa using s2), e2, e3]
  · rename_i u h1 h2
    obtain ⟨s1, s2, g1, g2⟩ := key _ _ h1 h2
    have hu : (up n u).category = 2 := (up_cat n u).trans (by simpa using ho)
    have s3 : i < ((loc n ls).setIfInBounds (i + 1) .unset).size := by simpa using s1
    have g3 : (((loc n ls).setIfInBounds (i + 1) .unset).setIfInBounds i (.val (.long y)))[i + 1]? = some .unset := by rw [Array.getElem?_setIfInBounds_ne (by omega)]; simp [show i + 1 < ls.length by simpa [loc] using s2]
    simp only [storeLocals, storeSelf, g1, upS, setAt_eq _ s2, setAt_eq _ s3, Option.bind_eq_bind, Option.bind_some, hu, if_true, g3]
    simp only [Value.category, if_true]
    rw [setAt_eq _ (by simpa using s2)]
    rw [← e3, ← e2]
    congr 1
    apply Array.ext_getElem?
    intro j
    simp only [Array.getElem?_setIfInBounds, Array.size_setIfInBounds]
    by_cases q : i + 1 = j
    · simp [q]
    · by_cases q2 : i = j <;> simp [q, q2]
  · cases ho
end Locals

section Rules
variable {b : Bool} {l : Launch} {Z : State} {n : Nat} {M : Meth} {pc pc' : Nat} {ls ls' : List Slot} {st st' : List Value} {H H' : AHeap} {ce sl ce' sl' : Nat} {Q : Option Value → AHeap → Prop} {a0 : Array Value}
theorem W.step (go : ∀ (p : Program) (e : Env) (s : State) (m : MethodId) (args : Array Value) (below : List Frame) (meth : Method) (c : Code), Ctx Z M p s m meth c → ∀ (T : State) (locs : List Loc), Stand p l e M.2.2.2.2 s m args below meth c T locs ce sl → HR Z n T.heap H → Fr n locs →
      ∃ T' locs', Stand p l e M.2.2.2.2 s m args below meth c T' locs' ce' sl' ∧ HR Z n T'.heap H' ∧ Fr n locs' ∧ ∀ target, Steps p.tables e below (T'.setTop (mkF m pc' (loc n ls') (stk n st'))) target → Steps p.tables e below (T.setTop (mkF m pc (loc n ls) (stk n st))) target)
    (k : WB b l Z n M pc' ls' st' H' ce' sl' Q) : WB b l Z n M pc ls st H ce sl Q := fun p e s m args below meth c C T locs X hH hF => by
  obtain ⟨T', locs', X', hH', hF', stp⟩ := go p e s m args below meth c C T locs X hH hF
  obtain ⟨s₂, v, L, H'', h1, r⟩ := k p e s m args below meth c C T' locs' X' hH' hF'
  exact ⟨s₂, v, L, H'', stp _ h1, r⟩
theorem W.pure (go : ∀ (p : Program) (e : Env) (s : State) (m : MethodId) (args : Array Value) (below : List Frame) (meth : Method) (c : Code), Ctx Z M p s m meth c → ∀ (T : State) (locs : List Loc), Stand p l e M.2.2.2.2 s m args below meth c T locs ce sl →
      ∀ target, Steps p.tables e below (T.setTop (mkF m pc' (loc n ls') (stk n st'))) target → Steps p.tables e below (T.setTop (mkF m pc (loc n ls) (stk n st))) target)
    (k : WB b l Z n M pc' ls' st' H ce sl Q) : WB b l Z n M pc ls st H ce sl Q :=
  W.step (fun p e s m args below meth c C T locs X hH hF => ⟨T, locs, X, hH, hF, go p e s m args below meth c C T locs X⟩) k
theorem W.more (h1 : ce ≤ ce') (h2 : sl ≤ sl') (k : WB b l Z n M pc ls st H ce' sl' Q) : WB b l Z n M pc ls st H ce sl Q :=
  W.step (fun p e s m args below meth c C T locs X hH hF => ⟨T, locs, X.more h1 h2, hH, hF, fun _ h => h⟩) k
theorem W.mono {Q' : Option Value → AHeap → Prop} (k : WB b l Z n M pc ls st H ce sl Q') (hq : ∀ v H', Q' v H' → Q v H') : WB b l Z n M pc ls st H ce sl Q := fun p e s m args below meth c C T locs X hH hF => by
  obtain ⟨s₂, v, L, H'', h1, h2, h3, h4, r⟩ := k p e s m args below meth c C T locs X hH hF
  exact ⟨s₂, v, L, H'', h1, h2, h3, hq _ _ h4, r⟩
theorem W.iadd {x y : Int32} (hd : D M pc .iadd 1 pc') (k : WB b l Z n M pc' ls (.int (x + y) :: st) H ce sl Q) : WB b l Z n M pc ls (.int y :: .int x :: st) H ce sl Q := by
  obtain ⟨hd, rfl⟩ := hd
  exact W.pure (fun p e s m args below meth c C T locs X target h => XS.iadd X.here C.1 rfl (hb C.2.2.2.1 hd) rfl h) k
theorem W.isub {x y : Int32} (hd : D M pc .isub 1 pc') (k : WB b l Z n M pc' ls (.int (x - y) :: st) H ce sl Q) : WB b l Z n M pc ls (.int y :: .int x :: st) H ce sl Q := by
  obtain ⟨hd, rfl⟩ := hd
  exact W.pure (fun p e s m args below meth c C T locs X target h => XS.isub X.here C.1 rfl (hb C.2.2.2.1 hd) rfl h) k
theorem W.imul {x y : Int32} (hd : D M pc .imul 1 pc') (k : WB b l Z n M pc' ls (.int (x * y) :: st) H ce sl Q) : WB b l Z n M pc ls (.int y :: .int x :: st) H ce sl Q := by
  obtain ⟨hd, rfl⟩ := hd
  exact W.pure (fun p e s m args below meth c C T locs X target h => XS.imul X.here C.1 rfl (hb C.2.2.2.1 hd) rfl h) k
theorem W.iand {x y : Int32} (hd : D M pc .iand 1 pc') (k : WB b l Z n M pc' ls (.int (x &&& y) :: st) H ce sl Q) : WB b l Z n M pc ls (.int y :: .int x :: st) H ce sl Q := by
  obtain ⟨hd, rfl⟩ := hd
  exact W.pure (fun p e s m args below meth c C T locs X target h => XS.iand X.here C.1 rfl (hb C.2.2.2.1 hd) rfl h) k
theorem W.ior {x y : Int32} (hd : D M pc .ior 1 pc') (k : WB b l Z n M pc' ls (.int (x ||| y) :: st) H ce sl Q) : WB b l Z n M pc ls (.int y :: .int x :: st) H ce sl Q := by
  obtain ⟨hd, rfl⟩ := hd
  exact W.pure (fun p e s m args below meth c C T locs X target h => XT.ior X.here C.1 rfl (hb C.2.2.2.1 hd) rfl h) k
theorem W.ixor {x y : Int32} (hd : D M pc .ixor 1 pc') (k : WB b l Z n M pc' ls (.int (x ^^^ y) :: st) H ce sl Q) : WB b l Z n M pc ls (.int y :: .int x :: st) H ce sl Q := by
  obtain ⟨hd, rfl⟩ := hd
  exact W.pure (fun p e s m args below meth c C T locs X target h => XT.ixor X.here C.1 rfl (hb C.2.2.2.1 hd) rfl h) k
theorem W.ishl {x y : Int32} (hd : D M pc .ishl 1 pc') (k : WB b l Z n M pc' ls (.int (x <<< (y &&& 31)) :: st) H ce sl Q) : WB b l Z n M pc ls (.int y :: .int x :: st) H ce sl Q := by
  obtain ⟨hd, rfl⟩ := hd
  exact W.pure (fun p e s m args below meth c C T locs X target h => XT.ishl X.here C.1 rfl (hb C.2.2.2.1 hd) rfl h) k
theorem W.ishr {x y : Int32} (hd : D M pc .ishr 1 pc') (k : WB b l Z n M pc' ls (.int (x >>> (y &&& 31)) :: st) H ce sl Q) : WB b l Z n M pc ls (.int y :: .int x :: st) H ce sl Q := by
  obtain ⟨hd, rfl⟩ := hd
  exact W.pure (fun p e s m args below meth c C T locs X target h => XT.ishr X.here C.1 rfl (hb C.2.2.2.1 hd) rfl h) k
theorem W.iushr {x y : Int32} (hd : D M pc .iushr 1 pc') (k : WB b l Z n M pc' ls (.int (XT.ushr x y) :: st) H ce sl Q) : WB b l Z n M pc ls (.int y :: .int x :: st) H ce sl Q := by
  obtain ⟨hd, rfl⟩ := hd
  exact W.pure (fun p e s m args below meth c C T locs X target h => XT.iushr X.here C.1 rfl (hb C.2.2.2.1 hd) rfl h) k
theorem W.ladd {x y : Int64} (hd : D M pc .ladd 1 pc') (k : WB b l Z n M pc' ls (.long (x + y) :: st) H ce sl Q) : WB b l Z n M pc ls (.long y :: .long x :: st) H ce sl Q := by
  obtain ⟨hd, rfl⟩ := hd
  exact W.pure (fun p e s m args below meth c C T locs X target h => XT.ladd X.here C.1 rfl (hb C.2.2.2.1 hd) rfl h) k
theorem W.lsub {x y : Int64} (hd : D M pc .lsub 1 pc') (k : WB b l Z n M pc' ls (.long (x - y) :: st) H ce sl Q) : WB b l Z n M pc ls (.long y :: .long x :: st) H ce sl Q := by
  obtain ⟨hd, rfl⟩ := hd
  exact W.pure (fun p e s m args below meth c C T locs X target h => XT.lsub X.here C.1 rfl (hb C.2.2.2.1 hd) rfl h) k
theorem W.lmul {x y : Int64} (hd : D M pc .lmul 1 pc') (k : WB b l Z n M pc' ls (.long (x * y) :: st) H ce sl Q) : WB b l Z n M pc ls (.long y :: .long x :: st) H ce sl Q := by
  obtain ⟨hd, rfl⟩ := hd
  exact W.pure (fun p e s m args below meth c C T locs X target h => XT.lmul X.here C.1 rfl (hb C.2.2.2.1 hd) rfl h) k
theorem W.land {x y : Int64} (hd : D M pc .land 1 pc') (k : WB b l Z n M pc' ls (.long (x &&& y) :: st) H ce sl Q) : WB b l Z n M pc ls (.long y :: .long x :: st) H ce sl Q := by
  obtain ⟨hd, rfl⟩ := hd
  exact W.pure (fun p e s m args below meth c C T locs X target h => XT.land X.here C.1 rfl (hb C.2.2.2.1 hd) rfl h) k
theorem W.lor {x y : Int64} (hd : D M pc .lor 1 pc') (k : WB b l Z n M pc' ls (.long (x ||| y) :: st) H ce sl Q) : WB b l Z n M pc ls (.long y :: .long x :: st) H ce sl Q := by
  obtain ⟨hd, rfl⟩ := hd
  exact W.pure (fun p e s m args below meth c C T locs X target h => XT.lor X.here C.1 rfl (hb C.2.2.2.1 hd) rfl h) k
theorem W.lxor {x y : Int64} (hd : D M pc .lxor 1 pc') (k : WB b l Z n M pc' ls (.long (x ^^^ y) :: st) H ce sl Q) : WB b l Z n M pc ls (.long y :: .long x :: st) H ce sl Q := by
  obtain ⟨hd, rfl⟩ := hd
  exact W.pure (fun p e s m args below meth c C T locs X target h => XT.lxor X.here C.1 rfl (hb C.2.2.2.1 hd) rfl h) k
theorem W.lshl {x : Int64} {y : Int32} (hd : D M pc .lshl 1 pc') (k : WB b l Z n M pc' ls (.long (x <<< (y &&& 0x3f).toInt64) :: st) H ce sl Q) : WB b l Z n M pc ls (.int y :: .long x :: st) H ce sl Q := by
  obtain ⟨hd, rfl⟩ := hd
  exact W.pure (fun p e s m args below meth c C T locs X target h => XS.lshl X.here C.1 rfl (hb C.2.2.2.1 hd) rfl h) k
theorem W.lshr {x : Int64} {y : Int32} (hd : D M pc .lshr 1 pc') (k : WB b l Z n M pc' ls (.long (x >>> (y &&& 0x3f).toInt64) :: st) H ce sl Q) : WB b l Z n M pc ls (.int y :: .long x :: st) H ce sl Q := by
  obtain ⟨hd, rfl⟩ := hd
  exact W.pure (fun p e s m args below meth c C T locs X target h => XS.lshr X.here C.1 rfl (hb C.2.2.2.1 hd) rfl h) k
theorem W.lushr {x : Int64} {y : Int32} (hd : D M pc .lushr 1 pc') (k : WB b l Z n M pc' ls (.long (XT.ushrL x y) :: st) H ce sl Q) : WB b l Z n M pc ls (.int y :: .long x :: st) H ce sl Q := by
  obtain ⟨hd, rfl⟩ := hd
  exact W.pure (fun p e s m args below meth c C T locs X target h => XT.lushr X.here C.1 rfl (hb C.2.2.2.1 hd) rfl h) k
theorem W.idiv {x y : Int32} (hd : D M pc .idiv 1 pc') (hy : y ≠ 0) (k : WB b l Z n M pc' ls (.int (x / y) :: st) H ce sl Q) : WB b l Z n M pc ls (.int y :: .int x :: st) H ce sl Q := by
  obtain ⟨hd, rfl⟩ := hd
  exact W.pure (fun p e s m args below meth c C T locs X target h => XS.idiv X.here C.1 rfl (hb C.2.2.2.1 hd) rfl hy h) k
theorem W.irem {x y : Int32} (hd : D M pc .irem 1 pc') (hy : y ≠ 0) (k : WB b l Z n M pc' ls (.int (x % y) :: st) H ce sl Q) : WB b l Z n M pc ls (.int y :: .int x :: st) H ce sl Q := by
  obtain ⟨hd, rfl⟩ := hd
  exact W.pure (fun p e s m args below meth c C T locs X target h => iremM X C.1 rfl (hb C.2.2.2.1 hd) rfl hy h) k
theorem W.ldiv {x y : Int64} (hd : D M pc .ldiv 1 pc') (hy : y ≠ 0) (k : WB b l Z n M pc' ls (.long (x / y) :: st) H ce sl Q) : WB b l Z n M pc ls (.long y :: .long x :: st) H ce sl Q := by
  obtain ⟨hd, rfl⟩ := hd
  exact W.pure (fun p e s m args below meth c C T locs X target h => XT.ldiv X.here C.1 rfl (hb C.2.2.2.1 hd) rfl hy h) k
theorem W.lrem {x y : Int64} (hd : D M pc .lrem 1 pc') (hy : y ≠ 0) (k : WB b l Z n M pc' ls (.long (x % y) :: st) H ce sl Q) : WB b l Z n M pc ls (.long y :: .long x :: st) H ce sl Q := by
  obtain ⟨hd, rfl⟩ := hd
  exact W.pure (fun p e s m args below meth c C T locs X target h => XT.lrem X.here C.1 rfl (hb C.2.2.2.1 hd) rfl hy (by rw [lrem_mod]; exact h)) k
theorem W.ineg {x : Int32} (hd : D M pc .ineg 1 pc') (k : WB b l Z n M pc' ls (.int (-x) :: st) H ce sl Q) : WB b l Z n M pc ls (.int x :: st) H ce sl Q := by
  obtain ⟨hd, rfl⟩ := hd
  exact W.pure (fun p e s m args below meth c C T locs X target h => XS.ineg X.here C.1 rfl (hb C.2.2.2.1 hd) rfl h) k
theorem W.lneg {x : Int64} (hd : D M pc .lneg 1 pc') (k : WB b l Z n M pc' ls (.long (-x) :: st) H ce sl Q) : WB b l Z n M pc ls (.long x :: st) H ce sl Q := by
  obtain ⟨hd, rfl⟩ := hd
  exact W.pure (fun p e s m args below meth c C T locs X target h => XT.lneg X.here C.1 rfl (hb C.2.2.2.1 hd) rfl h) k
theorem W.i2l {x : Int32} (hd : D M pc .i2l 1 pc') (k : WB b l Z n M pc' ls (.long (x.toInt64) :: st) H ce sl Q) : WB b l Z n M pc ls (.int x :: st) H ce sl Q := by
  obtain ⟨hd, rfl⟩ := hd
  exact W.pure (fun p e s m args below meth c C T locs X target h => XT.i2l X.here C.1 rfl (hb C.2.2.2.1 hd) rfl h) k
theorem W.l2i {x : Int64} (hd : D M pc .l2i 1 pc') (k : WB b l Z n M pc' ls (.int (x.toInt32) :: st) H ce sl Q) : WB b l Z n M pc ls (.long x :: st) H ce sl Q := by
  obtain ⟨hd, rfl⟩ := hd
  exact W.pure (fun p e s m args below meth c C T locs X target h => XT.l2i X.here C.1 rfl (hb C.2.2.2.1 hd) rfl h) k
theorem W.i2b {x : Int32} (hd : D M pc .i2b 1 pc') (k : WB b l Z n M pc' ls (.int (x.toInt8.toInt32) :: st) H ce sl Q) : WB b l Z n M pc ls (.int x :: st) H ce sl Q := by
  obtain ⟨hd, rfl⟩ := hd
  exact W.pure (fun p e s m args below meth c C T locs X target h => XT.i2b X.here C.1 rfl (hb C.2.2.2.1 hd) rfl h) k
theorem W.i2s {x : Int32} (hd : D M pc .i2s 1 pc') (k : WB b l Z n M pc' ls (.int (x.toInt16.toInt32) :: st) H ce sl Q) : WB b l Z n M pc ls (.int x :: st) H ce sl Q := by
  obtain ⟨hd, rfl⟩ := hd
  exact W.pure (fun p e s m args below meth c C T locs X target h => XT.i2s X.here C.1 rfl (hb C.2.2.2.1 hd) rfl h) k
theorem W.lcmp {x y : Int64} (hd : D M pc .lcmp 1 pc') (k : WB b l Z n M pc' ls (.int (XT.cmpL x y) :: st) H ce sl Q) : WB b l Z n M pc ls (.long y :: .long x :: st) H ce sl Q := by
  obtain ⟨hd, rfl⟩ := hd
  exact W.pure (fun p e s m args below meth c C T locs X target h => XT.lcmp X.here C.1 rfl (hb C.2.2.2.1 hd) rfl h) k
theorem W.iconst {i : Int} (v : Int32) (hd : D M pc (.iconst i) 1 pc') (hv : Int32.ofInt i = v) (k : WB b l Z n M pc' ls (.int v :: st) H ce sl Q) : WB b l Z n M pc ls st H ce sl Q := by
  obtain ⟨hd, rfl⟩ := hd
  exact W.pure (fun p e s m args below meth c C T locs X target h => XT.iconstV X.here C.1 rfl v (hb C.2.2.2.1 hd) hv h) k
theorem W.bipush {i : Int} (v : Int32) (hd : D M pc (.bipush i) 2 pc') (hv : (Int8.ofInt i).toInt32 = v) (k : WB b l Z n M pc' ls (.int v :: st) H ce sl Q) : WB b l Z n M pc ls st H ce sl Q := by
  obtain ⟨hd, rfl⟩ := hd
  exact W.pure (fun p e s m args below meth c C T locs X target h => XT.bipushV X.here C.1 rfl v (hb C.2.2.2.1 hd) hv h) k
theorem W.sipush {i : Int} (v : Int32) (hd : D M pc (.sipush i) 3 pc') (hv : (Int16.ofInt i).toInt32 = v) (k : WB b l Z n M pc' ls (.int v :: st) H ce sl Q) : WB b l Z n M pc ls st H ce sl Q := by
  obtain ⟨hd, rfl⟩ := hd
  exact W.pure (fun p e s m args below meth c C T locs X target h => XT.sipushV X.here C.1 rfl v (hb C.2.2.2.1 hd) hv h) k
theorem W.lconst {i : Fin 2} (v : Int64) (hd : D M pc (.lconst i) 1 pc') (hv : Int64.ofNat i = v) (k : WB b l Z n M pc' ls (.long v :: st) H ce sl Q) : WB b l Z n M pc ls st H ce sl Q := by
  obtain ⟨hd, rfl⟩ := hd
  exact W.pure (fun p e s m args below meth c C T locs X target h => XT.lconstV X.here C.1 rfl v (hb C.2.2.2.1 hd) hv h) k
theorem W.aconst  (hd : D M pc .aconst_null 1 pc') (k : WB b l Z n M pc' ls (.null :: st) H ce sl Q) : WB b l Z n M pc ls st H ce sl Q := by
  obtain ⟨hd, rfl⟩ := hd
  exact W.pure (fun p e s m args below meth c C T locs X target h => XS.aconstNull X.here C.1 rfl (hb C.2.2.2.1 hd) h) k
theorem W.ldc {i : Nat} {v : Int32} (hd : D M pc (.ldc i) 2 pc') (w : (Cond.constant M.1.cls i v).before a0 Z = true) (k : WB b l Z n M pc' ls (.int v :: st) H ce sl Q) : WB b l Z n M pc ls st H ce sl Q := by
  obtain ⟨hd, rfl⟩ := hd
  exact W.pure (fun p e s m args below meth c C T locs X target h => X.ldcI C.1 C.2.2.1 (mvT C.2.1 w) rfl (hb C.2.2.2.1 hd) h) k
theorem W.ldc2 {i : Nat} {v : Int64} (hd : D M pc (.ldc2_w i) 3 pc') (w : (Cond.constantLong M.1.cls i v).before a0 Z = true) (k : WB b l Z n M pc' ls (.long v :: st) H ce sl Q) : WB b l Z n M pc ls st H ce sl Q := by
  obtain ⟨hd, rfl⟩ := hd
  exact W.pure (fun p e s m args below meth c C T locs X target h => X.ldc2J C.1 C.2.2.1 (mvT C.2.1 w) rfl (hb C.2.2.2.1 hd) h) k
theorem W.iloadN {i : Fin 4} {v : Int32} (hd : D M pc (.iload_n i) 1 pc') (hl : ls[i.val]? = some (.val (.int v))) (k : WB b l Z n M pc' ls (.int v :: st) H ce sl Q) : WB b l Z n M pc ls st H ce sl Q := by
  obtain ⟨hd, rfl⟩ := hd
  exact W.pure (fun p e s m args below meth c C T locs X target h => XS.iloadN X.here C.1 rfl (hb C.2.2.2.1 hd) (loc_get hl) h) k
theorem W.iload {i : Nat} {v : Int32} (hd : D M pc (.iload i) 2 pc') (hl : ls[i]? = some (.val (.int v))) (k : WB b l Z n M pc' ls (.int v :: st) H ce sl Q) : WB b l Z n M pc ls st H ce sl Q := by
  obtain ⟨hd, rfl⟩ := hd
  exact W.pure (fun p e s m args below meth c C T locs X target h => XS.iload X.here C.1 rfl (hb C.2.2.2.1 hd) (loc_get hl) h) k
theorem W.lloadN {i : Fin 4} {v : Int64} (hd : D M pc (.lload_n i) 1 pc') (hl : ls[i.val]? = some (.val (.long v))) (k : WB b l Z n M pc' ls (.long v :: st) H ce sl Q) : WB b l Z n M pc ls st H ce sl Q := by
  obtain ⟨hd, rfl⟩ := hd
  exact W.pure (fun p e s m args below meth c C T locs X target h => XT.lloadN X.here C.1 rfl (hb C.2.2.2.1 hd) (loc_get hl) h) k
theorem W.lload {i : Nat} {v : Int64} (hd : D M pc (.lload i) 2 pc') (hl : ls[i]? = some (.val (.long v))) (k : WB b l Z n M pc' ls (.long v :: st) H ce sl Q) : WB b l Z n M pc ls st H ce sl Q := by
  obtain ⟨hd, rfl⟩ := hd
  exact W.pure (fun p e s m args below meth c C T locs X target h => XT.lload X.here C.1 rfl (hb C.2.2.2.1 hd) (loc_get hl) h) k
theorem W.aloadN {i : Fin 4} {v : Value} (hd : D M pc (.aload_n i) 1 pc') (hl : ls[i.val]? = some (.val v)) (hv : rfn v = true) (k : WB b l Z n M pc' ls (v :: st) H ce sl Q) : WB b l Z n M pc ls st H ce sl Q := by
  obtain ⟨hd, rfl⟩ := hd
  exact W.pure (fun p e s m args below meth c C T locs X target h => XS.aloadN X.here C.1 rfl (hb C.2.2.2.1 hd) (loc_get hl) (up_rfn n hv) h) k
theorem W.aload {i : Nat} {v : Value} (hd : D M pc (.aload i) 2 pc') (hl : ls[i]? = some (.val v)) (hv : rfn v = true) (k : WB b l Z n M pc' ls (v :: st) H ce sl Q) : WB b l Z n M pc ls st H ce sl Q := by
  obtain ⟨hd, rfl⟩ := hd
  exact W.pure (fun p e s m args below meth c C T locs X target h => XS.aload X.here C.1 rfl (hb C.2.2.2.1 hd) (loc_get hl) (up_rfn n hv) h) k
theorem W.istoreN {i : Fin 4} {v : Int32} (hd : D M pc (.istore_n i) 1 pc') (ho : one ls i.val = true) (k : WB b l Z n M pc' (ls.set i.val (.val (.int v))) st H ce sl Q) : WB b l Z n M pc ls (.int v :: st) H ce sl Q := by
  obtain ⟨hd, rfl⟩ := hd
  exact W.pure (fun p e s m args below meth c C T locs X target h => XS.istoreN X.here C.1 rfl (hb C.2.2.2.1 hd) rfl (store_1 (v := .int v) ho rfl) h) k
theorem W.istore {i : Nat} {v : Int32} (hd : D M pc (.istore i) 2 pc') (ho : one ls i = true) (k : WB b l Z n M pc' (ls.set i (.val (.int v))) st H ce sl Q) : WB b l Z n M pc ls (.int v :: st) H ce sl Q := by
  obtain ⟨hd, rfl⟩ := hd
  exact W.pure (fun p e s m args below meth c C T locs X target h => XS.istore X.here C.1 rfl (hb C.2.2.2.1 hd) rfl (store_1 (v := .int v) ho rfl) h) k
theorem W.astoreN {i : Fin 4} {v : Value} (hd : D M pc (.astore_n i) 1 pc') (ho : one ls i.val = true) (hv : rfn v = true) (k : WB b l Z n M pc' (ls.set i.val (.val v)) st H ce sl Q) : WB b l Z n M pc ls (v :: st) H ce sl Q := by
  obtain ⟨hd, rfl⟩ := hd
  exact W.pure (fun p e s m args below meth c C T locs X target h => XS.astoreN X.here C.1 rfl (hb C.2.2.2.1 hd) rfl (up_rfn n hv) (store_1 ho (rfn_cat hv)) h) k
theorem W.astore {i : Nat} {v : Value} (hd : D M pc (.astore i) 2 pc') (ho : one ls i = true) (hv : rfn v = true) (k : WB b l Z n M pc' (ls.set i (.val v)) st H ce sl Q) : WB b l Z n M pc ls (v :: st) H ce sl Q := by
  obtain ⟨hd, rfl⟩ := hd
  exact W.pure (fun p e s m args below meth c C T locs X target h => XS.astore X.here C.1 rfl (hb C.2.2.2.1 hd) rfl (up_rfn n hv) (store_1 ho (rfn_cat hv)) h) k
theorem W.lstoreN {i : Fin 4} {v : Int64} (hd : D M pc (.lstore_n i) 1 pc') (ho : two ls i.val = true) (k : WB b l Z n M pc' ((ls.set i.val (.val (.long v))).set (i.val + 1) .second) st H ce sl Q) : WB b l Z n M pc ls (.long v :: st) H ce sl Q := by
  obtain ⟨hd, rfl⟩ := hd
  exact W.pure (fun p e s m args below meth c C T locs X target h => XT.lstoreN X.here C.1 rfl (hb C.2.2.2.1 hd) rfl (store_2 ho) h) k
theorem W.lstore {i : Nat} {v : Int64} (hd : D M pc (.lstore i) 2 pc') (ho : two ls i = true) (k : WB b l Z n M pc' ((ls.set i (.val (.long v))).set (i + 1) .second) st H ce sl Q) : WB b l Z n M pc ls (.long v :: st) H ce sl Q := by
  obtain ⟨hd, rfl⟩ := hd
  exact W.pure (fun p e s m args below meth c C T locs X target h => XT.lstore X.here C.1 rfl (hb C.2.2.2.1 hd) rfl (store_2 ho) h) k
theorem W.iinc {i : Nat} {cst : Int} {x : Int32} (v : Int32) (hd : D M pc (.iinc i cst) 3 pc') (hv : Int32.ofInt cst = v) (hl : ls[i]? = some (.val (.int x))) (k : WB b l Z n M pc' (ls.set i (.val (.int (x + v)))) st H ce sl Q) : WB b l Z n M pc ls st H ce sl Q := by
  obtain ⟨hd, rfl⟩ := hd
  exact W.pure (fun p e s m args below meth c C T locs X target h => XT.iincV X.here C.1 rfl v (hb C.2.2.2.1 hd) hv (loc_get hl) (store_1 (v := .int (x + v)) (by simp [one, hl, Value.category]) rfl) h) k
theorem W.dup {v : Value} (hd : D M pc .dup 1 pc') (hv : v.category = 1) (k : WB b l Z n M pc' ls (v :: v :: st) H ce sl Q) : WB b l Z n M pc ls (v :: st) H ce sl Q := by
  obtain ⟨hd, rfl⟩ := hd
  exact W.pure (fun p e s m args below meth c C T locs X target h => XS.dup X.here C.1 rfl (hb C.2.2.2.1 hd) rfl ((up_cat n v).trans hv) h) k
theorem W.pop {v : Value} (hd : D M pc .pop 1 pc') (hv : v.category = 1) (k : WB b l Z n M pc' ls st H ce sl Q) : WB b l Z n M pc ls (v :: st) H ce sl Q := by
  obtain ⟨hd, rfl⟩ := hd
  exact W.pure (fun p e s m args below meth c C T locs X target h => XT.pop X.here C.1 rfl (hb C.2.2.2.1 hd) rfl ((up_cat n v).trans hv) h) k
theorem W.dupX1 {v w : Value} (hd : D M pc .dup_x1 1 pc') (hv : v.category = 1) (hw : w.category = 1) (k : WB b l Z n M pc' ls (v :: w :: v :: st) H ce sl Q) : WB b l Z n M pc ls (v :: w :: st) H ce sl Q := by
  obtain ⟨hd, rfl⟩ := hd
  exact W.pure (fun p e s m args below meth c C T locs X target h => XT.dupX1 X.here C.1 rfl (hb C.2.2.2.1 hd) rfl ((up_cat n v).trans hv) ((up_cat n w).trans hw) h) k
theorem W.dup2 {v w : Value} (hd : D M pc .dup2 1 pc') (hv : v.category = 1) (hw : w.category = 1) (k : WB b l Z n M pc' ls (v :: w :: v :: w :: st) H ce sl Q) : WB b l Z n M pc ls (v :: w :: st) H ce sl Q := by
  obtain ⟨hd, rfl⟩ := hd
  exact W.pure (fun p e s m args below meth c C T locs X target h => XT.dup2 X.here C.1 rfl (hb C.2.2.2.1 hd) rfl ((up_cat n v).trans hv) ((up_cat n w).trans hw) h) k
theorem W.dup2L {x : Int64} (hd : D M pc .dup2 1 pc') (k : WB b l Z n M pc' ls (.long x :: .long x :: st) H ce sl Q) : WB b l Z n M pc ls (.long x :: st) H ce sl Q := by
  obtain ⟨hd, rfl⟩ := hd
  exact W.pure (fun p e s m args below meth c C T locs X target h => XT.dup2L X.here C.1 rfl (hb C.2.2.2.1 hd) rfl h) k
theorem W.goto {o : Int} {t : Nat} (hd : DB M pc (.goto o) o pc' t) (k : WB b l Z n M t ls st H ce sl Q) : WB b l Z n M pc ls st H ce sl Q :=
  W.pure (fun p e s m args below meth c C T locs X target h => XS.goto X.here C.1 rfl rfl (hb C.2.2.2.1 hd.1) hd.2.2.1 hd.2.2.2 h) k
theorem W.if_eq {x : Int32} {o : Int} {t : Nat} (hd : DB M pc (.ifCond .eq o) o pc' t) (ky : (x = 0) → WB b l Z n M t ls st H ce sl Q) (kn : (¬ x = 0) → WB b l Z n M pc' ls st H ce sl Q) : WB b l Z n M pc ls (.int x :: st) H ce sl Q := by
  obtain ⟨h1, rfl, h3, h4⟩ := hd
  by_cases q : (x = 0)
  · exact W.pure (fun p e s m args below meth c C T locs X target h => XS.ifYes X.here C.1 rfl rfl (hb C.2.2.2.1 h1) rfl (XT.i0_eq_t q) h3 h4 h) (ky q)
  · exact W.pure (fun p e s m args below meth c C T locs X target h => XS.ifNo X.here C.1 rfl (hb C.2.2.2.1 h1) rfl (XT.i0_eq_f q) h) (kn q)
theorem W.ifl_eq {x y : Int64} {o : Int} {t : Nat} (hd : DB M pc (.ifCond .eq o) o pc' t) (ky : (x = y) → WB b l Z n M t ls st H ce sl Q) (kn : (¬ x = y) → WB b l Z n M pc' ls st H ce sl Q) : WB b l Z n M pc ls (.int (XT.cmpL x y) :: st) H ce sl Q := by
  obtain ⟨h1, rfl, h3, h4⟩ := hd
  by_cases q : (x = y)
  · exact W.pure (fun p e s m args below meth c C T locs X target h => XS.ifYes X.here C.1 rfl rfl (hb C.2.2.2.1 h1) rfl (XT.ll_eq_t q) h3 h4 h) (ky q)
  · exact W.pure (fun p e s m args below meth c C T locs X target h => XS.ifNo X.here C.1 rfl (hb C.2.2.2.1 h1) rfl (XT.ll_eq_f q) h) (kn q)
theorem W.icmp_eq {x y : Int32} {o : Int} {t : Nat} (hd : DB M pc (.if_icmp .eq o) o pc' t) (ky : (x = y) → WB b l Z n M t ls st H ce sl Q) (kn : (¬ x = y) → WB b l Z n M pc' ls st H ce sl Q) : WB b l Z n M pc ls (.int y :: .int x :: st) H ce sl Q := by
  obtain ⟨h1, rfl, h3, h4⟩ := hd
  by_cases q : (x = y)
  · exact W.pure (fun p e s m args below meth c C T locs X target h => XS.icmpYes X.here C.1 rfl rfl (hb C.2.2.2.1 h1) rfl (XT.ii_eq_t q) h3 h4 h) (ky q)
  · exact W.pure (fun p e s m args below meth c C T locs X target h => XS.icmpNo X.here C.1 rfl (hb C.2.2.2.1 h1) rfl (XT.ii_eq_f q) h) (kn q)
theorem W.if_ne {x : Int32} {o : Int} {t : Nat} (hd : DB M pc (.ifCond .ne o) o pc' t) (ky : (¬ x = 0) → WB b l Z n M t ls st H ce sl Q) (kn : (x = 0) → WB b l Z n M pc' ls st H ce sl Q) : WB b l Z n M pc ls (.int x :: st) H ce sl Q := by
  obtain ⟨h1, rfl, h3, h4⟩ := hd
  by_cases q : (x = 0)
  · exact W.pure (fun p e s m args below meth c C T locs X target h => XS.ifNo X.here C.1 rfl (hb C.2.2.2.1 h1) rfl (XT.i0_ne_f q) h) (kn q)
  · exact W.pure (fun p e s m args below meth c C T locs X target h => XS.ifYes X.here C.1 rfl rfl (hb C.2.2.2.1 h1) rfl (XT.i0_ne_t q) h3 h4 h) (ky q)
theorem W.ifl_ne {x y : Int64} {o : Int} {t : Nat} (hd : DB M pc (.ifCond .ne o) o pc' t) (ky : (¬ x = y) → WB b l Z n M t ls st H ce sl Q) (kn : (x = y) → WB b l Z n M pc' ls st H ce sl Q) : WB b l Z n M pc ls (.int (XT.cmpL x y) :: st) H ce sl Q := by
  obtain ⟨h1, rfl, h3, h4⟩ := hd
  by_cases q : (x = y)
  · exact W.pure (fun p e s m args below meth c C T locs X target h => XS.ifNo X.here C.1 rfl (hb C.2.2.2.1 h1) rfl (XT.ll_ne_f q) h) (kn q)
  · exact W.pure (fun p e s m args below meth c C T locs X target h => XS.ifYes X.here C.1 rfl rfl (hb C.2.2.2.1 h1) rfl (XT.ll_ne_t q) h3 h4 h) (ky q)
theorem W.icmp_ne {x y : Int32} {o : Int} {t : Nat} (hd : DB M pc (.if_icmp .ne o) o pc' t) (ky : (¬ x = y) → WB b l Z n M t ls st H ce sl Q) (kn : (x = y) → WB b l Z n M pc' ls st H ce sl Q) : WB b l Z n M pc ls (.int y :: .int x :: st) H ce sl Q := by
  obtain ⟨h1, rfl, h3, h4⟩ := hd
  by_cases q : (x = y)
  · exact W.pure (fun p e s m args below meth c C T locs X target h => XS.icmpNo X.here C.1 rfl (hb C.2.2.2.1 h1) rfl (XT.ii_ne_f q) h) (kn q)
  · exact W.pure (fun p e s m args below meth c C T locs X target h => XS.icmpYes X.here C.1 rfl rfl (hb C.2.2.2.1 h1) rfl (XT.ii_ne_t q) h3 h4 h) (ky q)
theorem W.if_lt {x : Int32} {o : Int} {t : Nat} (hd : DB M pc (.ifCond .lt o) o pc' t) (ky : (x < 0) → WB b l Z n M t ls st H ce sl Q) (kn : (¬ x < 0) → WB b l Z n M pc' ls st H ce sl Q) : WB b l Z n M pc ls (.int x :: st) H ce sl Q := by
  obtain ⟨h1, rfl, h3, h4⟩ := hd
  by_cases q : (x < 0)
  · exact W.pure (fun p e s m args below meth c C T locs X target h => XS.ifYes X.here C.1 rfl rfl (hb C.2.2.2.1 h1) rfl (XT.i0_lt_t q) h3 h4 h) (ky q)
  · exact W.pure (fun p e s m args below meth c C T locs X target h => XS.ifNo X.here C.1 rfl (hb C.2.2.2.1 h1) rfl (XT.i0_lt_f q) h) (kn q)
theorem W.ifl_lt {x y : Int64} {o : Int} {t : Nat} (hd : DB M pc (.ifCond .lt o) o pc' t) (ky : (x < y) → WB b l Z n M t ls st H ce sl Q) (kn : (¬ x < y) → WB b l Z n M pc' ls st H ce sl Q) : WB b l Z n M pc ls (.int (XT.cmpL x y) :: st) H ce sl Q := by
  obtain ⟨h1, rfl, h3, h4⟩ := hd
  by_cases q : (x < y)
  · exact W.pure (fun p e s m args below meth c C T locs X target h => XS.ifYes X.here C.1 rfl rfl (hb C.2.2.2.1 h1) rfl (XT.ll_lt_t q) h3 h4 h) (ky q)
  · exact W.pure (fun p e s m args below meth c C T locs X target h => XS.ifNo X.here C.1 rfl (hb C.2.2.2.1 h1) rfl (XT.ll_lt_f q) h) (kn q)
theorem W.icmp_lt {x y : Int32} {o : Int} {t : Nat} (hd : DB M pc (.if_icmp .lt o) o pc' t) (ky : (x < y) → WB b l Z n M t ls st H ce sl Q) (kn : (¬ x < y) → WB b l Z n M pc' ls st H ce sl Q) : WB b l Z n M pc ls (.int y :: .int x :: st) H ce sl Q := by
  obtain ⟨h1, rfl, h3, h4⟩ := hd
  by_cases q : (x < y)
  · exact W.pure (fun p e s m args below meth c C T locs X target h => XS.icmpYes X.here C.1 rfl rfl (hb C.2.2.2.1 h1) rfl (XT.ii_lt_t q) h3 h4 h) (ky q)
  · exact W.pure (fun p e s m args below meth c C T locs X target h => XS.icmpNo X.here C.1 rfl (hb C.2.2.2.1 h1) rfl (XT.ii_lt_f q) h) (kn q)
theorem W.if_ge {x : Int32} {o : Int} {t : Nat} (hd : DB M pc (.ifCond .ge o) o pc' t) (ky : (¬ x < 0) → WB b l Z n M t ls st H ce sl Q) (kn : (x < 0) → WB b l Z n M pc' ls st H ce sl Q) : WB b l Z n M pc ls (.int x :: st) H ce sl Q := by
  obtain ⟨h1, rfl, h3, h4⟩ := hd
  by_cases q : (x < 0)
  · exact W.pure (fun p e s m args below meth c C T locs X target h => XS.ifNo X.here C.1 rfl (hb C.2.2.2.1 h1) rfl (XT.i0_ge_f q) h) (kn q)
  · exact W.pure (fun p e s m args below meth c C T locs X target h => XS.ifYes X.here C.1 rfl rfl (hb C.2.2.2.1 h1) rfl (XT.i0_ge_t q) h3 h4 h) (ky q)
theorem W.ifl_ge {x y : Int64} {o : Int} {t : Nat} (hd : DB M pc (.ifCond .ge o) o pc' t) (ky : (¬ x < y) → WB b l Z n M t ls st H ce sl Q) (kn : (x < y) → WB b l Z n M pc' ls st H ce sl Q) : WB b l Z n M pc ls (.int (XT.cmpL x y) :: st) H ce sl Q := by
  obtain ⟨h1, rfl, h3, h4⟩ := hd
  by_cases q : (x < y)
  · exact W.pure (fun p e s m args below meth c C T locs X target h => XS.ifNo X.here C.1 rfl (hb C.2.2.2.1 h1) rfl (XT.ll_ge_f q) h) (kn q)
  · exact W.pure (fun p e s m args below meth c C T locs X target h => XS.ifYes X.here C.1 rfl rfl (hb C.2.2.2.1 h1) rfl (XT.ll_ge_t q) h3 h4 h) (ky q)
theorem W.icmp_ge {x y : Int32} {o : Int} {t : Nat} (hd : DB M pc (.if_icmp .ge o) o pc' t) (ky : (¬ x < y) → WB b l Z n M t ls st H ce sl Q) (kn : (x < y) → WB b l Z n M pc' ls st H ce sl Q) : WB b l Z n M pc ls (.int y :: .int x :: st) H ce sl Q := by
  obtain ⟨h1, rfl, h3, h4⟩ := hd
  by_cases q : (x < y)
  · exact W.pure (fun p e s m args below meth c C T locs X target h => XS.icmpNo X.here C.1 rfl (hb C.2.2.2.1 h1) rfl (XT.ii_ge_f q) h) (kn q)
  · exact W.pure (fun p e s m args below meth c C T locs X target h => XS.icmpYes X.here C.1 rfl rfl (hb C.2.2.2.1 h1) rfl (XT.ii_ge_t q) h3 h4 h) (ky q)
theorem W.if_gt {x : Int32} {o : Int} {t : Nat} (hd : DB M pc (.ifCond .gt o) o pc' t) (ky : (0 < x) → WB b l Z n M t ls st H ce sl Q) (kn : (¬ 0 < x) → WB b l Z n M pc' ls st H ce sl Q) : WB b l Z n M pc ls (.int x :: st) H ce sl Q := by
  obtain ⟨h1, rfl, h3, h4⟩ := hd
  by_cases q : (0 < x)
  · exact W.pure (fun p e s m args below meth c C T locs X target h => XS.ifYes X.here C.1 rfl rfl (hb C.2.2.2.1 h1) rfl (XT.i0_gt_t q) h3 h4 h) (ky q)
  · exact W.pure (fun p e s m args below meth c C T locs X target h => XS.ifNo X.here C.1 rfl (hb C.2.2.2.1 h1) rfl (XT.i0_gt_f q) h) (kn q)
theorem W.ifl_gt {x y : Int64} {o : Int} {t : Nat} (hd : DB M pc (.ifCond .gt o) o pc' t) (ky : (y < x) → WB b l Z n M t ls st H ce sl Q) (kn : (¬ y < x) → WB b l Z n M pc' ls st H ce sl Q) : WB b l Z n M pc ls (.int (XT.cmpL x y) :: st) H ce sl Q := by
  obtain ⟨h1, rfl, h3, h4⟩ := hd
  by_cases q : (y < x)
  · exact W.pure (fun p e s m args below meth c C T locs X target h => XS.ifYes X.here C.1 rfl rfl (hb C.2.2.2.1 h1) rfl (XT.ll_gt_t q) h3 h4 h) (ky q)
  · exact W.pure (fun p e s m args below meth c C T locs X target h => XS.ifNo X.here C.1 rfl (hb C.2.2.2.1 h1) rfl (XT.ll_gt_f q) h) (kn q)
theorem W.icmp_gt {x y : Int32} {o : Int} {t : Nat} (hd : DB M pc (.if_icmp .gt o) o pc' t) (ky : (y < x) → WB b l Z n M t ls st H ce sl Q) (kn : (¬ y < x) → WB b l Z n M pc' ls st H ce sl Q) : WB b l Z n M pc ls (.int y :: .int x :: st) H ce sl Q := by
  obtain ⟨h1, rfl, h3, h4⟩ := hd
  by_cases q : (y < x)
  · exact W.pure (fun p e s m args below meth c C T locs X target h => XS.icmpYes X.here C.1 rfl rfl (hb C.2.2.2.1 h1) rfl (XT.ii_gt_t q) h3 h4 h) (ky q)
  · exact W.pure (fun p e s m args below meth c C T locs X target h => XS.icmpNo X.here C.1 rfl (hb C.2.2.2.1 h1) rfl (XT.ii_gt_f q) h) (kn q)
theorem W.if_le {x : Int32} {o : Int} {t : Nat} (hd : DB M pc (.ifCond .le o) o pc' t) (ky : (¬ 0 < x) → WB b l Z n M t ls st H ce sl Q) (kn : (0 < x) → WB b l Z n M pc' ls st H ce sl Q) : WB b l Z n M pc ls (.int x :: st) H ce sl Q := by
  obtain ⟨h1, rfl, h3, h4⟩ := hd
  by_cases q : (0 < x)
  · exact W.pure (fun p e s m args below meth c C T locs X target h => XS.ifNo X.here C.1 rfl (hb C.2.2.2.1 h1) rfl (XT.i0_le_f q) h) (kn q)
  · exact W.pure (fun p e s m args below meth c C T locs X target h => XS.ifYes X.here C.1 rfl rfl (hb C.2.2.2.1 h1) rfl (XT.i0_le_t q) h3 h4 h) (ky q)
theorem W.ifl_le {x y : Int64} {o : Int} {t : Nat} (hd : DB M pc (.ifCond .le o) o pc' t) (ky : (¬ y < x) → WB b l Z n M t ls st H ce sl Q) (kn : (y < x) → WB b l Z n M pc' ls st H ce sl Q) : WB b l Z n M pc ls (.int (XT.cmpL x y) :: st) H ce sl Q := by
  obtain ⟨h1, rfl, h3, h4⟩ := hd
  by_cases q : (y < x)
  · exact W.pure (fun p e s m args below meth c C T locs X target h => XS.ifNo X.here C.1 rfl (hb C.2.2.2.1 h1) rfl (XT.ll_le_f q) h) (kn q)
  · exact W.pure (fun p e s m args below meth c C T locs X target h => XS.ifYes X.here C.1 rfl rfl (hb C.2.2.2.1 h1) rfl (XT.ll_le_t q) h3 h4 h) (ky q)
theorem W.icmp_le {x y : Int32} {o : Int} {t : Nat} (hd : DB M pc (.if_icmp .le o) o pc' t) (ky : (¬ y < x) → WB b l Z n M t ls st H ce sl Q) (kn : (y < x) → WB b l Z n M pc' ls st H ce sl Q) : WB b l Z n M pc ls (.int y :: .int x :: st) H ce sl Q := by
  obtain ⟨h1, rfl, h3, h4⟩ := hd
  by_cases q : (y < x)
  · exact W.pure (fun p e s m args below meth c C T locs X target h => XS.icmpNo X.here C.1 rfl (hb C.2.2.2.1 h1) rfl (XT.ii_le_f q) h) (kn q)
  · exact W.pure (fun p e s m args below meth c C T locs X target h => XS.icmpYes X.here C.1 rfl rfl (hb C.2.2.2.1 h1) rfl (XT.ii_le_t q) h3 h4 h) (ky q)
theorem W.acmp_eq {v w : Value} {o : Int} {t : Nat} (hd : DB M pc (.if_acmp .eq o) o pc' t) (hv : v.isRef = true) (hw : w.isRef = true) (ky : (v = w) → WB b l Z n M t ls st H ce sl Q) (kn : (¬ v = w) → WB b l Z n M pc' ls st H ce sl Q) : WB b l Z n M pc ls (w :: v :: st) H ce sl Q := by
  obtain ⟨h1, rfl, h3, h4⟩ := hd
  by_cases q : (v = w)
  · exact W.pure (fun p e s m args below meth c C T locs X target h => XT.acmpYes X.here C.1 rfl rfl (hb C.2.2.2.1 h1) rfl (up_isRef n hv) (up_isRef n hw) (XT.aa_eq_t (congrArg (up n) q)) h3 h4 h) (ky q)
  · exact W.pure (fun p e s m args below meth c C T locs X target h => XT.acmpNo X.here C.1 rfl (hb C.2.2.2.1 h1) rfl (up_isRef n hv) (up_isRef n hw) (XT.aa_eq_f (fun z => q (up_inj hv hw z))) h) (kn q)
theorem W.acmp_ne {v w : Value} {o : Int} {t : Nat} (hd : DB M pc (.if_acmp .ne o) o pc' t) (hv : v.isRef = true) (hw : w.isRef = true) (ky : (¬ v = w) → WB b l Z n M t ls st H ce sl Q) (kn : (v = w) → WB b l Z n M pc' ls st H ce sl Q) : WB b l Z n M pc ls (w :: v :: st) H ce sl Q := by
  obtain ⟨h1, rfl, h3, h4⟩ := hd
  by_cases q : (v = w)
  · exact W.pure (fun p e s m args below meth c C T locs X target h => XT.acmpNo X.here C.1 rfl (hb C.2.2.2.1 h1) rfl (up_isRef n hv) (up_isRef n hw) (XT.aa_ne_f (congrArg (up n) q)) h) (kn q)
  · exact W.pure (fun p e s m args below meth c C T locs X target h => XT.acmpYes X.here C.1 rfl rfl (hb C.2.2.2.1 h1) rfl (up_isRef n hv) (up_isRef n hw) (XT.aa_ne_t (fun z => q (up_inj hv hw z))) h3 h4 h) (ky q)
theorem up_null {n : Nat} {v : Value} (hv : v.isRef = true) (h : ¬ v = .null) : ¬ up n v = .null := by cases v <;> simp_all [up, Value.isRef]
theorem W.ifnull {v : Value} {o : Int} {t : Nat} (hd : DB M pc (.ifnull o) o pc' t) (hv : v.isRef = true) (ky : (v = .null) → WB b l Z n M t ls st H ce sl Q) (kn : (¬ v = .null) → WB b l Z n M pc' ls st H ce sl Q) : WB b l Z n M pc ls (v :: st) H ce sl Q := by
  obtain ⟨h1, rfl, h3, h4⟩ := hd
  by_cases q : (v = .null)
  · exact W.pure (fun p e s m args below meth c C T locs X target h => XT.nullYes X.here C.1 rfl rfl (hb C.2.2.2.1 h1) rfl (congrArg (up n) q) h3 h4 h) (ky q)
  · exact W.pure (fun p e s m args below meth c C T locs X target h => XT.nullNo X.here C.1 rfl (hb C.2.2.2.1 h1) rfl (up_isRef n hv) (up_null hv q) h) (kn q)
theorem W.ifnonnull {v : Value} {o : Int} {t : Nat} (hd : DB M pc (.ifnonnull o) o pc' t) (hv : v.isRef = true) (ky : (¬ v = .null) → WB b l Z n M t ls st H ce sl Q) (kn : (v = .null) → WB b l Z n M pc' ls st H ce sl Q) : WB b l Z n M pc ls (v :: st) H ce sl Q := by
  obtain ⟨h1, rfl, h3, h4⟩ := hd
  by_cases q : (v = .null)
  · exact W.pure (fun p e s m args below meth c C T locs X target h => XT.nonnullNo X.here C.1 rfl (hb C.2.2.2.1 h1) rfl (congrArg (up n) q) h) (kn q)
  · exact W.pure (fun p e s m args below meth c C T locs X target h => XT.nonnullYes X.here C.1 rfl rfl (hb C.2.2.2.1 h1) rfl (up_isRef n hv) (up_null hv q) h3 h4 h) (ky q)
theorem W.nop_ {H2 : AHeap} (e : H2 = H) (k : WB b l Z n M pc ls st H2 ce sl Q) : WB b l Z n M pc ls st H ce sl Q := e ▸ k
/-! heap: reads -/
theorem W.getfield {i : Nat} {C O nm d : String} {fs : List (Key × Value)} {v : Value} {k : Nat} (j : Nat) (hd : D M pc (.getfield i) 3 pc') (w : (Cond.fieldLink M.1.cls i O nm d).before a0 Z = true) (hk : H[k]? = some (.inl (C, fs))) (hj : fs[j]? = some ((O, nm, d), v))
    (kk : WB b l Z n M pc' ls (v :: st) H ce sl Q) : WB b l Z n M pc ls (.ref k :: st) H ce sl Q := by
  obtain ⟨hd, rfl⟩ := hd
  refine W.step (fun p e s m args below meth c C T locs X hH hF => ?_) kk
  obtain ⟨T', X', e', stp⟩ := getF X C.1 C.2.1 C.2.2.1 (host := "") (Or.inl w) Via.refl rfl ((hH.2 k _ hk rfl).2.1 j _ hj) (g := mkF m pc (loc n ls) (stk n (.ref k :: st))) rfl rfl (hb C.2.2.2.1 hd)
  exact ⟨T', locs, X', e' ▸ hH, hF, stp⟩
theorem W.putfield {i : Nat} {C O nm d : String} {fs : List (Key × Value)} {v old : Value} {k kk : Nat} {ty : FieldType} (j : Nat) (hd : D M pc (.putfield i) 3 pc') (w : (Cond.fieldLink M.1.cls i O nm d).before a0 Z = true) (hk : H[k]? = some (.inl (C, fs))) (hj : fs[j]? = some ((O, nm, d), old))
    (L : (Cond.lays C O nm d).before a0 Z = true ∨ ((Cond.laysFinal C O nm d).before a0 Z = true ∧ M.1.cls = O ∧ M.1.name = "<init>")) (wi : (Cond.instantiable C kk).before a0 Z = true) (hty : parseFieldDescriptor d = some ty) (hn : ∀ n, narrow ty (up n v) = up n v) (hf : ∀ n, fits ty (up n v) = true)
    (k' : WB b l Z n M pc' ls st (H.set k (.inl (C, fs.set j ((O, nm, d), v)))) ce sl Q) : WB b l Z n M pc ls (v :: .ref k :: st) H ce sl Q := by
  obtain ⟨hd, rfl⟩ := hd
  refine W.step (fun p e s m args below meth c C T locs X hH hF => ?_) k'
  have O1 := hH.2 k _ hk rfl
  obtain ⟨T', h', X', e', Wq, stp⟩ := putF X C.1 C.2.1 C.2.2.1 (host := "") (Or.inl w) Via.refl rfl (O1.2.1 j _ hj) O1.1 (L.imp id (fun q => ⟨q.1, q.2.1, C.2.2.2.2.2.2.2.trans q.2.2⟩)) wi hty (hn n) (hf n) (g := mkF m pc (loc n ls) (stk n (v :: .ref k :: st))) rfl rfl (hb C.2.2.2.1 hd)
  subst e'
  exact ⟨T', _, X', hH.put Wq (OR.field (hH.2 k _ hk rfl) hj Wq), Fr.snoc X' hF (Nat.le_add_right n k), stp⟩
theorem arr_at {ty : FieldType} {vs : List Value} {cl : Cell} {i : Nat} {v : Value} {j : Int32} (e : cl.slots = (vs.map (up n)).toArray) (hj : ¬ j < 0 ∧ j.toNatClampNeg = i) (hv : vs[i]? = some v) : ¬ (j < 0 ∨ cl.slots.size ≤ j.toNatClampNeg) ∧ cl.slots[j.toNatClampNeg]? = some (up n v) := by
  have hlt := (List.getElem?_eq_some_iff.mp hv).1
  refine ⟨fun q => q.elim hj.1 fun q => ?_, ?_⟩
  · rw [e, hj.2, List.size_toArray, List.length_map] at q; omega
  · rw [e, hj.2]; simp [hv]
theorem W.arraylength {k : Nat} {ty : FieldType} {vs : List Value} (z : Int32) (hd : D M pc .arraylength 1 pc') (hk : H[k]? = some (.inr (ty, vs))) (hJ : isJ (.inr (ty, vs)) = false) (hN : Int32.ofNat vs.length = z) (kk : WB b l Z n M pc' ls (.int z :: st) H ce sl Q) : WB b l Z n M pc ls (.ref k :: st) H ce sl Q := by
  obtain ⟨hd, rfl⟩ := hd
  refine W.step (fun p e s m args below meth c C T locs X hH hF => ?_) kk
  obtain ⟨cl, A, e'⟩ := hH.2 k _ hk hJ
  refine ⟨T, locs, X, hH, hF, fun target h => X.arraylength C.1 A.1 (State.isArrayOf_alike C.2.1.alike A.2.1) (g := mkF m pc (loc n ls) (stk n (.ref k :: st))) rfl rfl (hb C.2.2.2.1 hd) _ ?_⟩
  have : cl.slots.size.toInt32 = z := by rw [e', List.size_toArray, List.length_map, ← hN]
  rw [this]; exact h
theorem W.iaload {k i : Nat} {vs : List Value} {v : Value} {j : Int32} (hd : D M pc .iaload 1 pc') (hk : H[k]? = some (.inr (.int, vs))) (hj : ¬ j < 0 ∧ j.toNatClampNeg = i) (hv : vs[i]? = some v) (kk : WB b l Z n M pc' ls (v :: st) H ce sl Q) : WB b l Z n M pc ls (.int j :: .ref k :: st) H ce sl Q := by
  obtain ⟨hd, rfl⟩ := hd
  refine W.step (fun p e s m args below meth c C T locs X hH hF => ?_) kk
  obtain ⟨cl, A, e'⟩ := hH.2 k _ hk rfl
  obtain ⟨q1, q2⟩ := arr_at (ty := .int) e' hj hv
  exact ⟨T, locs, X, hH, hF, fun target h => X.iaload C.1 A.1 (State.isArrayOf_alike C.2.1.alike A.2.1) A.2.2 q1 q2 (g := mkF m pc (loc n ls) (stk n (.int j :: .ref k :: st))) rfl rfl (hb C.2.2.2.1 hd) _ h⟩
theorem W.laload {k i : Nat} {vs : List Value} {v : Value} {j : Int32} (hd : D M pc .laload 1 pc') (hk : H[k]? = some (.inr (.long, vs))) (hj : ¬ j < 0 ∧ j.toNatClampNeg = i) (hv : vs[i]? = some v) (kk : WB b l Z n M pc' ls (v :: st) H ce sl Q) : WB b l Z n M pc ls (.int j :: .ref k :: st) H ce sl Q := by
  obtain ⟨hd, rfl⟩ := hd
  refine W.step (fun p e s m args below meth c C T locs X hH hF => ?_) kk
  obtain ⟨cl, A, e'⟩ := hH.2 k _ hk rfl
  obtain ⟨q1, q2⟩ := arr_at (ty := .int) e' hj hv
  exact ⟨T, locs, X, hH, hF, fun target h => X.laload C.1 A.1 (State.isArrayOf_alike C.2.1.alike A.2.1) A.2.2 q1 q2 (g := mkF m pc (loc n ls) (stk n (.int j :: .ref k :: st))) rfl rfl (hb C.2.2.2.1 hd) _ h⟩
theorem W.baload {k i : Nat} {vs : List Value} {v : Value} {j : Int32} (hd : D M pc .baload 1 pc') (hk : H[k]? = some (.inr (.byte, vs))) (hj : ¬ j < 0 ∧ j.toNatClampNeg = i) (hv : vs[i]? = some v) (kk : WB b l Z n M pc' ls (v :: st) H ce sl Q) : WB b l Z n M pc ls (.int j :: .ref k :: st) H ce sl Q := by
  obtain ⟨hd, rfl⟩ := hd
  refine W.step (fun p e s m args below meth c C T locs X hH hF => ?_) kk
  obtain ⟨cl, A, e'⟩ := hH.2 k _ hk rfl
  obtain ⟨q1, q2⟩ := arr_at (ty := .int) e' hj hv
  exact ⟨T, locs, X, hH, hF, fun target h => X.baloadBytes C.1 A.1 (State.isArrayOf_alike C.2.1.alike A.2.1) A.2.2 q1 q2 (g := mkF m pc (loc n ls) (stk n (.int j :: .ref k :: st))) rfl rfl (hb C.2.2.2.1 hd) _ h⟩
theorem W.zaload {k i : Nat} {vs : List Value} {v : Value} {j : Int32} (hd : D M pc .baload 1 pc') (hk : H[k]? = some (.inr (.boolean, vs))) (hj : ¬ j < 0 ∧ j.toNatClampNeg = i) (hv : vs[i]? = some v) (kk : WB b l Z n M pc' ls (v :: st) H ce sl Q) : WB b l Z n M pc ls (.int j :: .ref k :: st) H ce sl Q := by
  obtain ⟨hd, rfl⟩ := hd
  refine W.step (fun p e s m args below meth c C T locs X hH hF => ?_) kk
  obtain ⟨cl, A, e'⟩ := hH.2 k _ hk rfl
  obtain ⟨q1, q2⟩ := arr_at (ty := .int) e' hj hv
  exact ⟨T, locs, X, hH, hF, fun target h => X.baloadBooleans C.1 A.1 (State.isArrayOf_alike C.2.1.alike A.2.1) A.2.2 q1 q2 (g := mkF m pc (loc n ls) (stk n (.int j :: .ref k :: st))) rfl rfl (hb C.2.2.2.1 hd) _ h⟩
/-! heap: stores into arrays -/
theorem arr_in' {vs : List Value} {cl : Cell} {i : Nat} {j : Int32} (e : cl.slots = (vs.map (up n)).toArray) (hj : ¬ j < 0 ∧ j.toNatClampNeg = i) (hv : i < vs.length) : ¬ (j < 0 ∨ cl.slots.size ≤ j.toNatClampNeg) := by
  refine fun q => q.elim hj.1 fun q => ?_
  rw [e, hj.2] at q; simp at q; omega
theorem W.iastore {k i : Nat} {vs : List Value} {x : Int32} {j : Int32} (hd : D M pc .iastore 1 pc') (hk : H[k]? = some (.inr (.int, vs))) (hj : ¬ j < 0 ∧ j.toNatClampNeg = i) (hv : i < vs.length) (kk : WB b l Z n M pc' ls st (H.set k (.inr (.int, vs.set i (.int x)))) ce sl Q) : WB b l Z n M pc ls (.int x :: .int j :: .ref k :: st) H ce sl Q := by
  obtain ⟨hd, rfl⟩ := hd
  refine W.step (fun p e s m args below meth c C T locs X hH hF => ?_) kk
  have O1 := hH.2 k _ hk rfl
  obtain ⟨cl, A, e'⟩ := O1
  obtain ⟨T', h', X', eh, Wq, stp⟩ := stI X C.1 C.2.1 rfl A (arr_in' e' hj hv) (g := mkF m pc (loc n ls) (stk n (.int x :: .int j :: .ref k :: st))) rfl rfl (hb C.2.2.2.1 hd)
  subst eh
  rw [hj.2] at Wq
  exact ⟨T', _, X', hH.put Wq (OR.elem (w := .int x) ⟨cl, A, e'⟩ Wq), Fr.snoc X' hF (Nat.le_add_right n k), stp⟩
theorem W.lastore {k i : Nat} {vs : List Value} {x : Int64} {j : Int32} (hd : D M pc .lastore 1 pc') (hk : H[k]? = some (.inr (.long, vs))) (hj : ¬ j < 0 ∧ j.toNatClampNeg = i) (hv : i < vs.length) (kk : WB b l Z n M pc' ls st (H.set k (.inr (.long, vs.set i (.long x)))) ce sl Q) : WB b l Z n M pc ls (.long x :: .int j :: .ref k :: st) H ce sl Q := by
  obtain ⟨hd, rfl⟩ := hd
  refine W.step (fun p e s m args below meth c C T locs X hH hF => ?_) kk
  have O1 := hH.2 k _ hk rfl
  obtain ⟨cl, A, e'⟩ := O1
  obtain ⟨T', h', X', eh, Wq, stp⟩ := stJ X C.1 C.2.1 rfl A (arr_in' e' hj hv) (g := mkF m pc (loc n ls) (stk n (.long x :: .int j :: .ref k :: st))) rfl rfl (hb C.2.2.2.1 hd)
  subst eh
  rw [hj.2] at Wq
  exact ⟨T', _, X', hH.put Wq (OR.elem (w := .long x) ⟨cl, A, e'⟩ Wq), Fr.snoc X' hF (Nat.le_add_right n k), stp⟩
theorem W.bastore {k i : Nat} {vs : List Value} {x : Int32} {j : Int32} (hd : D M pc .bastore 1 pc') (hk : H[k]? = some (.inr (.byte, vs))) (hj : ¬ j < 0 ∧ j.toNatClampNeg = i) (hv : i < vs.length) (kk : WB b l Z n M pc' ls st (H.set k (.inr (.byte, vs.set i (.int x.toInt8.toInt32)))) ce sl Q) : WB b l Z n M pc ls (.int x :: .int j :: .ref k :: st) H ce sl Q := by
  obtain ⟨hd, rfl⟩ := hd
  refine W.step (fun p e s m args below meth c C T locs X hH hF => ?_) kk
  have O1 := hH.2 k _ hk rfl
  obtain ⟨cl, A, e'⟩ := O1
  obtain ⟨T', h', X', eh, Wq, stp⟩ := stB X C.1 C.2.1 rfl A (arr_in' e' hj hv) (g := mkF m pc (loc n ls) (stk n (.int x :: .int j :: .ref k :: st))) rfl rfl (hb C.2.2.2.1 hd)
  subst eh
  rw [hj.2] at Wq
  exact ⟨T', _, X', hH.put Wq (OR.elem (w := .int x.toInt8.toInt32) ⟨cl, A, e'⟩ Wq), Fr.snoc X' hF (Nat.le_add_right n k), stp⟩
theorem W.zastore {k i : Nat} {vs : List Value} {x : Int32} {j : Int32} (hd : D M pc .bastore 1 pc') (hk : H[k]? = some (.inr (.boolean, vs))) (hj : ¬ j < 0 ∧ j.toNatClampNeg = i) (hv : i < vs.length) (kk : WB b l Z n M pc' ls st (H.set k (.inr (.boolean, vs.set i (.int (x &&& 1))))) ce sl Q) : WB b l Z n M pc ls (.int x :: .int j :: .ref k :: st) H ce sl Q := by
  obtain ⟨hd, rfl⟩ := hd
  refine W.step (fun p e s m args below meth c C T locs X hH hF => ?_) kk
  have O1 := hH.2 k _ hk rfl
  obtain ⟨cl, A, e'⟩ := O1
  obtain ⟨T', h', X', eh, Wq, stp⟩ := stZ X C.1 C.2.1 rfl A (arr_in' e' hj hv) (g := mkF m pc (loc n ls) (stk n (.int x :: .int j :: .ref k :: st))) rfl rfl (hb C.2.2.2.1 hd)
  subst eh
  rw [hj.2] at Wq
  exact ⟨T', _, X', hH.put Wq (OR.elem (w := .int (x &&& 1)) ⟨cl, A, e'⟩ Wq), Fr.snoc X' hF (Nat.le_add_right n k), stp⟩
/-! heap: makers -/
theorem ext_push (h : Heap) (x : Cell) : Ext h (h.push x) ∧ (h.push x).size = h.size + 1 ∧ (h.push x)[h.size]? = some x :=
  ⟨⟨by simp, fun a c q => by rw [Array.getElem?_push_lt (Array.getElem?_eq_some_iff.mp q).1]; exact (Array.getElem?_eq_getElem _).symm.trans q⟩, by simp, by simp⟩
theorem W.new {i nk N : Nat} {C : String} {fs : List (Key × Value)} (hd : D M pc (.new i) 3 pc') (w : (Cond.classLink M.1.cls i C).before a0 Z = true) (K : OkC a0 Z C nk fs) (hN : H.length = N) (hc : ce + 1 ≤ M.2.2.2.2.cells) (hl : sl + nk ≤ M.2.2.2.2.slots)
    (kk : WB b l Z n M pc' ls (.ref N :: st) (H ++ [.inl (C, fs)]) (ce + 1) (sl + nk) Q) : WB b l Z n M pc ls st H ce sl Q := by
  obtain ⟨hd, rfl⟩ := hd
  refine W.step (fun p e s m args below meth c Cx T locs X hH hF => ?_) kk
  obtain ⟨vm', cC, kC, h1, h2, h3, h4, X', stp⟩ := X.newCold Cx.1 Cx.2.2.1 (mv Cx.2.1 w) (mv Cx.2.1 K.1) (mv Cx.2.1 K.2.1) (g := mkF m pc (loc n ls) (stk n st)) rfl (hb Cx.2.2.2.1 hd) hc hl
  obtain ⟨E, S, G⟩ := ext_push T.heap { cls := cC, slots := kC.instanceTypes.map defaultValue, vm := .none }
  have hfc : Z.vm.findClass C = some cC := by rw [← Cx.2.1.alike.findClass]; exact h1
  obtain ⟨kZ, z1, -⟩ := Vm.findClass_spec hfc
  obtain ⟨k', z2, z3⟩ := Cx.2.1.alike.2.2 _ _ z1
  cases h2.symm.trans z2
  have ei : kC.instanceTypes = kZ.instanceTypes := by rw [z3]
  refine ⟨_, locs, X', hH.push E S ⟨⟨_, kZ, G, hfc, z1, rfl, fun _ => by simp [ei]⟩, fun j q hq => ?_, K.slots⟩, hF, fun target h => stp target ?_⟩
  · obtain ⟨ty, L, ht, hv⟩ := K.2.2.1 q (List.mem_of_getElem? hq)
    obtain ⟨c1, k1, cf, kf, i1, f, a1, a2, a3, a4, a5, a6, -⟩ := L.spec
    cases hfc.symm.trans a1
    cases z1.symm.trans a2
    exact ⟨_, cf, kf, i1, f, G, a3, a4, by simp, rfl, a5, by rw [hv, up_default]; simp [ei, a6, (State.fieldFound?_type a3 ht).2]⟩
  · have : T.heap.size = n + N := by rw [hH.1, hN]
    rw [this]; exact h
theorem W.newarray {aty : ArrayType} {N cnt cap : Nat} {z : Int32} (hd : D M pc (.newarray aty) 2 pc') (w : (Cond.arrayClass (newarray.typeOf aty)).before a0 Z = true) (hz : ¬ z < 0 ∧ z.toNatClampNeg = cnt) (hN : H.length = N) (hcap : cnt ≤ cap) (hb8 : cap * 8 ≤ 536870912) (hc : ce + 1 ≤ M.2.2.2.2.cells) (hl : sl + cap ≤ M.2.2.2.2.slots)
    (kk : WB b l Z n M pc' ls (.ref N :: st) (H ++ [.inr (newarray.typeOf aty, List.replicate cnt (defaultValue (newarray.typeOf aty)))]) (ce + 1) (sl + cap) Q) : WB b l Z n M pc ls (.int z :: st) H ce sl Q := by
  obtain ⟨hd, rfl⟩ := hd
  obtain ⟨hz0, rfl⟩ := hz
  refine W.step (fun p e s m args below meth c Cx T locs X hH hF => ?_) kk
  have hcb : componentBytes (newarray.typeOf aty) ≤ 8 := by cases aty <;> decide
  obtain ⟨cA, kA, comp, h1, h2, h3, X', stp⟩ := X.newarrayPrim Cx.1 (mvA Cx.2.1 w) (g := mkF m pc (loc n ls) (stk n (.int z :: st))) rfl (hb Cx.2.2.2.1 hd) rfl hz0 (Nat.le_trans (Nat.mul_le_mul hcap hcb) hb8) hc (Nat.le_trans (Nat.add_le_add_left hcap _) hl)
  obtain ⟨E, S, G⟩ := ext_push T.heap { cls := cA, slots := Array.replicate z.toNatClampNeg (defaultValue (newarray.typeOf aty)), vm := .none }
  have hfc := h1
  rw [Cx.2.1.alike.findClass] at hfc
  obtain ⟨kZ, z1, -⟩ := Vm.findClass_spec hfc
  obtain ⟨k', z2, z3⟩ := Cx.2.1.alike.2.2 _ _ z1
  cases h2.symm.trans z2
  refine ⟨_, locs, X'.more (Nat.le_refl _) (Nat.add_le_add_left hcap _), hH.push E S ⟨_, ⟨G, ⟨by simp, kZ, z1, comp, by rw [← h3, z3]⟩, by simp⟩, ?_⟩, hF, fun target h => stp target ?_⟩
  · simp [up_default]
  · have : T.heap.size = n + N := by rw [hH.1, hN]
    rw [this]; exact h
/-! returns -/
theorem W.fin {v : Option Value} (hv : M.2.2.2.1 = none → v = none) (hc : ce ≤ M.2.2.2.2.cells) (hl : sl ≤ M.2.2.2.2.slots)
    (go : ∀ (p : Program) (e : Env) (s : State) (m : MethodId) (args : Array Value) (below : List Frame) (meth : Method) (c : Code), Ctx Z M p s m meth c → ∀ (T : State) (locs : List Loc), Stand p l e M.2.2.2.2 s m args below meth c T locs ce sl →
      ∀ fs : List Frame, (∀ (f : JFrame) (acts : List Action), f.method = m → f.locked = none → f.entered = [] → (doReturn e (T.setTop f) acts (v.map (up n))).1 = T.setFrames fs) → Steps p.tables e below (T.setTop (mkF m pc (loc n ls) (stk n st))) (T.setFrames fs))
    (q : Q v H) : WB b l Z n M pc ls st H ce sl Q := fun p e s m args below meth c C T locs X hH hF => by
  obtain ⟨fs, hr, hrun, hended, hW, hsame⟩ := X.leave (v := v.map (up n)) (fun h => by rw [hv (C.2.2.2.2.2.1.symm.trans h)]; rfl) C.2.2.2.2.2.2.1
  exact ⟨_, v, locs, H, go p e s m args below meth c C T locs X fs hr, hrun, hended, q, hH, hF, EndR.of ⟨⟨_, rfl⟩, hW, hsame.mono hc hl⟩⟩
theorem W.leave (hd : D M pc .return_ 1 pc') (hr : M.2.2.2.1 = none) (hc : ce ≤ M.2.2.2.2.cells) (hl : sl ≤ M.2.2.2.2.slots) (q : Q none H) : WB b l Z n M pc ls [] H ce sl Q :=
  W.fin (v := none) (fun _ => rfl) hc hl (fun p e s m args below meth c C T locs X fs h => X.returnOut C.1 (C.2.2.2.2.2.1.trans hr) (hb C.2.2.2.1 hd.1) h) q
theorem W.ireturn {x : Int32} (hd : D M pc .ireturn 1 pc') (hr : M.2.2.2.1 = some .int) (hc : ce ≤ M.2.2.2.2.cells) (hl : sl ≤ M.2.2.2.2.slots) (q : Q (some (.int x)) H) : WB b l Z n M pc ls (.int x :: st) H ce sl Q :=
  W.fin (v := some (.int x)) (fun h => by rw [hr] at h; cases h) hc hl (fun p e s m args below meth c C T locs X fs h => retOut X C.1 (t := .int) (w := .int x) (i := .ireturn) (C.2.2.2.2.2.1.trans hr) rfl (Or.inl ⟨rfl, Or.inl rfl, _, rfl⟩) (hb C.2.2.2.1 hd.1) h) q
theorem W.lreturn {x : Int64} (hd : D M pc .lreturn 1 pc') (hr : M.2.2.2.1 = some .long) (hc : ce ≤ M.2.2.2.2.cells) (hl : sl ≤ M.2.2.2.2.slots) (q : Q (some (.long x)) H) : WB b l Z n M pc ls (.long x :: st) H ce sl Q :=
  W.fin (v := some (.long x)) (fun h => by rw [hr] at h; cases h) hc hl (fun p e s m args below meth c C T locs X fs h => retOut X C.1 (t := .long) (w := .long x) (i := .lreturn) (C.2.2.2.2.2.1.trans hr) rfl (Or.inr (Or.inl ⟨rfl, rfl, _, rfl⟩)) (hb C.2.2.2.1 hd.1) h) q
/-- a boolean, byte, char or short: what is left of the int -/
theorem W.nreturn {x : Int32} (t : FieldType) (hd : D M pc .ireturn 1 pc') (hr : M.2.2.2.1 = some t) (ht : t = .boolean ∨ t = .byte ∨ t = .char ∨ t = .short) (hc : ce ≤ M.2.2.2.2.cells) (hl : sl ≤ M.2.2.2.2.slots) (q : Q (some (.int (nar t x))) H) : WB b l Z n M pc ls (.int x :: st) H ce sl Q :=
  W.fin (v := some (.int (nar t x))) (fun h => by rw [hr] at h; cases h) hc hl (fun p e s m args below meth c C T locs X fs h => retN X C.1 (C.2.2.2.2.2.1.trans hr) ht (hb C.2.2.2.1 hd.1) h) q
theorem W.areturn {v : Value} {t : FieldType} (hd : D M pc .areturn 1 pc') (hr : M.2.2.2.1 = some t) (ht : t.isReference = true) (hv : rfn v = true) (hc : ce ≤ M.2.2.2.2.cells) (hl : sl ≤ M.2.2.2.2.slots) (q : Q (some v) H) : WB b l Z n M pc ls (v :: st) H ce sl Q :=
  W.fin (v := some v) (fun h => by rw [hr] at h; cases h) hc hl (fun p e s m args below meth c C T locs X fs h => retOut X C.1 (t := t) (w := up n v) (i := .areturn) (C.2.2.2.2.2.1.trans hr) (by cases v <;> simp [rfn] at hv <;> cases t <;> simp_all [FieldType.isReference, narrow, up]) (Or.inr (Or.inr (Or.inr (Or.inr ⟨rfl, ht, up_rfn n hv⟩)))) (hb C.2.2.2.1 hd.1) h) q
/-! calls -/
def entryL (as : List Value) (k : Nat) : List Slot := Jvm.Sym.laidSlots as ++ List.replicate (k - (Jvm.Sym.laidSlots as).length) .unset
theorem laid_up (n : Nat) : ∀ as : List Value, Jvm.Sym.laidSlots (as.map (up n)) = (Jvm.Sym.laidSlots as).map (upS n)
  | [] => rfl
  | v :: as => by
    have ih := laid_up n as
    simp only [List.map_cons, Jvm.Sym.laidSlots, up_cat]
    split <;> simp [ih, upS]
theorem entry_up (n : Nat) (as : List Value) (k : Nat) (m : MethodId) : entryFrame m (as.map (up n)).toArray k = mkF m 0 (loc n (entryL as k)) [] := by
  have : argsToLocals (as.map (up n)).toArray k = loc n (entryL as k) := Array.toList_inj.mp (by
    rw [Jvm.Sym.argsToLocals_toList]
    simp [entryL, laid_up, loc, upS])
  unfold entryFrame
  rw [this]
theorem W.met {as : List Value} (hW : WB b l Z n M 0 (entryL as M.2.2.1) [] H 0 0 Q) (pn : plainFor M.1 = true) {h : Heap} (hH : HR Z n h H) (ws : List Jvm.Cond) :
    MetFree l M.1 (head1 (Cond.code M.1 M.2.1 M.2.2.1 M.2.2.2.1 :: ws) M.2.2.2.2) (fun a U => a = (as.map (up n)).toArray ∧ Z.Warmed39 U.vm ∧ U.heap = h) (fun _ _ _ _ _ => True)
      (fun _ U o U' => ∃ v L, o = .returned v ∧ (∃ v0 H', v = v0.map (up n) ∧ Q v0 H' ∧ HR Z n U'.heap H' ∧ Fr n L) ∧ EndR b U o U' L M.2.2.2.2.cells M.2.2.2.2.slots) := by
  refine MetFree.of_bodySF pn hisR ?_
  intro p e s m args below meth c s₁ Bd hml hP hK
  obtain ⟨rfl, hZ, hh⟩ := hP
  have X0 : Stand p l e M.2.2.2.2 s m _ below meth c s₁ [] 0 0 := Stand.of_body Bd
  have e0 : s₁.heap = h := by rw [← hh, Bd.state]; rfl
  obtain ⟨s₂, v, L, H', h1, h2, h3, h4, h5, h6, h7⟩ := hW p e s m _ below meth c ⟨Bd.exec, hZ, findClass_of_methodNamed Bd.named, Bd.bytes, hml, Bd.returns, Bd.notSynchronized, (name_of_methodNamed Bd.named Bd.method).1⟩ s₁ [] X0 (e0 ▸ hH) (Fr.nil n)
  exact ⟨s₂, _, castTop (entry_up n as _ m) h1, h2, h3, _, L, rfl, ⟨v, H', rfl, h4, h5, h6⟩, h7⟩
def RetQ (Z : State) (n : Nat) (Q : Option Value → AHeap → Prop) (v : Option Value) (h2 : Heap) (L : List Loc) : Prop := ∃ v0 H', v = v0.map (up n) ∧ Q v0 H' ∧ HR Z n h2 H' ∧ Fr n L
theorem W.metF {as : List Value} (hW : W l Z n M 0 (entryL as M.2.2.1) [] H 0 0 Q) (pn : plainFor M.1 = true) {h : Heap} (hH : HR Z n h H) (ws : List Jvm.Cond) :
    MetFree l M.1 (head1 (Cond.code M.1 M.2.1 M.2.2.1 M.2.2.2.1 :: ws) M.2.2.2.2) (fun a U => a = (as.map (up n)).toArray ∧ Z.Warmed39 U.vm ∧ U.heap = h) (fun _ _ _ _ _ => True)
      (fun _ U o U' => ∃ v L, o = .returned v ∧ RetQ Z n Q v U'.heap L ∧ FrameEnd U o U' L M.2.2.2.2.cells M.2.2.2.2.slots) := W.met hW pn hH ws
/-- what every call asks of the callee's own words -/
def OkM (a0 : Array Value) (Z : State) (M : Meth) (k : Nat) : Prop :=
  (Cond.code M.1 M.2.1 M.2.2.1 M.2.2.2.1).before a0 Z = true ∧ (Cond.initialized M.1.cls).before a0 Z = true ∧ plainFor M.1 = true ∧ (M.1.cls ≠ "java/lang/invoke/MethodHandle" ∧ M.1.cls ≠ "java/lang/invoke/VarHandle") ∧ ∀ sig, parseMethodDescriptor M.1.desc = some sig → k = sig.parameters.length
theorem arity {d : String} {ps : List FieldType} {r : Option FieldType} {k : Nat} (hd : parseMethodDescriptor d = some ⟨ps, r⟩) (hl : k = ps.length) : ∀ sig, parseMethodDescriptor d = some sig → k = sig.parameters.length := fun sig h => by
  cases hd.symm.trans h; exact hl
def wt (st : List Value) : Nat := (st.map fun v => v.category).sum
theorem wt_up (n : Nat) : ∀ st : List Value, ((stk n st).map fun v => v.category).sum = wt st
  | [] => rfl
  | v :: st => by
    have ih := wt_up n st
    simp only [stk, wt, List.map_cons, List.sum_cons, up_cat] at ih ⊢
    rw [ih]
/-- the callee's frames, words, cells and slots fit -/
def fitsRoom (M M' : Meth) (rest : List Value) (ce sl : Nat) : Bool :=
  decide (M'.2.2.2.2.frames + 1 ≤ M.2.2.2.2.frames) && decide (wt rest + (M'.2.2.1 + 11) + M'.2.2.2.2.locals ≤ M.2.2.2.2.locals) && decide (ce + M'.2.2.2.2.cells ≤ M.2.2.2.2.cells) && decide (sl + M'.2.2.2.2.slots ≤ M.2.2.2.2.slots)
theorem fits_ {M M' : Meth} {rest : List Value} {ce sl : Nat} (h : fitsRoom M M' rest ce sl = true) : M'.2.2.2.2.frames + 1 ≤ M.2.2.2.2.frames ∧ wt rest + (M'.2.2.1 + 11) + M'.2.2.2.2.locals ≤ M.2.2.2.2.locals ∧ ce + M'.2.2.2.2.cells ≤ M.2.2.2.2.cells ∧ sl + M'.2.2.2.2.slots ≤ M.2.2.2.2.slots := by
  simp only [fitsRoom, Bool.and_eq_true, decide_eq_true_eq] at h
  exact ⟨h.1.1.1, h.1.1.2, h.1.2, h.2⟩
theorem size_loc (n : Nat) (ls : List Slot) : (loc n ls).size = ls.length := by simp [loc]
theorem W.calls {M' : Meth} {i : Nat} {as rest : List Value} {Qc : Option Value → AHeap → Prop} (hd : D M pc (.invokestatic i) 3 pc') (w : (Cond.methodLink M.1.cls i M'.1).before a0 Z = true) (ws : (Cond.static M'.1).before a0 Z = true) (K : OkM a0 Z M' as.length) (hs : st = as.reverse ++ rest) (hz : ls.length = M.2.2.1) (hf : fitsRoom M M' rest ce sl = true)
    (hM : W l Z n M' 0 (entryL as M'.2.2.1) [] H 0 0 Qc) (kk : ∀ v H', Qc v H' → WB b l Z n M pc' ls (v.toList ++ rest) H' (ce + M'.2.2.2.2.cells) (sl + M'.2.2.2.2.slots) Q) : WB b l Z n M pc ls st H ce sl Q := by
  obtain ⟨hd, rfl⟩ := hd
  subst hs
  intro p e s m args below meth c C T locs X hH hF
  obtain ⟨f1, f2, f3, f4⟩ := fits_ hf
  obtain ⟨_, _, ⟨T', L', c', s'⟩, -, X', ⟨Lc, ⟨v0, H', hv, q1, q2, q3⟩, l1, l2, l3⟩, stp⟩ := Jvm.LawKit.callS X C.1 (y := M'.1) C.2.2.1 (mvT C.2.1 w) (mvT C.2.1 ws) (mvT C.2.1 K.2.1) (mvT C.2.1 K.1) K.2.2.2.1 (backOf (Q := RetQ Z n Qc) (W := wt rest) (W.metF hM K.2.2.1 hH []) C.2.1 K.1 K.2.1 f1 f2) (g := mkF m pc (loc n ls) (stk n (as.reverse ++ rest))) rfl
    ((size_loc n ls).trans (hz.trans C.2.2.2.2.1.symm)) (argsL := as.map (up n)) (rest := stk n rest) (fun sig h => by rw [List.length_map]; exact K.2.2.2.2 sig h) (by simp [stk, List.map_append, List.map_reverse]) (by rw [wt_up]; exact Nat.le_of_eq (Nat.zero_add _)) (hb C.2.2.2.1 hd) (fun _ _ => ⟨rfl, rfl, f3, f4⟩)
  dsimp only [Pt.U, Pt.locs, Pt.cells, Pt.slots] at X' l1 l2 l3 stp q2
  subst l1 l2 l3 hv
  obtain ⟨s₂, v, L, H'', g1, g2⟩ := kk v0 H' q1 p e s m args below meth c C T' _ X' q2 (Fr.app hF q3)
  refine ⟨s₂, v, L, H'', stp _ ?_, g2⟩
  have : stk n (v0.toList ++ rest) = (v0.map (up n)).toList ++ stk n rest := by cases v0 <;> simp [stk]
  rw [this] at g1; exact g1
theorem W.callv {M' : Meth} {i k : Nat} {C : String} {fs : List (Key × Value)} {as rest : List Value} {Qc : Option Value → AHeap → Prop} (hd : D M pc (.invokevirtual i) 3 pc') (w : (Cond.methodLink M.1.cls i M'.1).before a0 Z = true) (wd : (Cond.declares M'.1).before a0 Z = true) (wi : (Cond.instanceMethod M'.1).before a0 Z = true) (wsel : (Cond.selects C M'.1 M'.1).before a0 Z = true) (K : OkM a0 Z M' as.length) (hk : H[k]? = some (.inl (C, fs))) (hs : st = as.reverse ++ .ref k :: rest) (hz : ls.length = M.2.2.1) (hf : fitsRoom M M' rest ce sl = true)
    (hM : W l Z n M' 0 (entryL (.ref k :: as) M'.2.2.1) [] H 0 0 Qc) (kk : ∀ v H', Qc v H' → WB b l Z n M pc' ls (v.toList ++ rest) H' (ce + M'.2.2.2.2.cells) (sl + M'.2.2.2.2.slots) Q) : WB b l Z n M pc ls st H ce sl Q := by
  obtain ⟨hd, rfl⟩ := hd
  subst hs
  intro p e s m args below meth c Cx T locs X hH hF
  obtain ⟨f1, f2, f3, f4⟩ := fits_ hf
  obtain ⟨cq, kq, qa, qb, qc⟩ := isOf (T := T) Cx.2.1 rfl (hH.2 k _ hk rfl).1
  obtain ⟨_, _, ⟨T', L', c', s'⟩, -, X', ⟨Lc, ⟨v0, H', hv, q1, q2, q3⟩, l1, l2, l3⟩, stp⟩ := X.virtualBack Cx.1 (y := M'.1) (z := M'.1) Cx.2.2.1 (mvT Cx.2.1 w) (mvT Cx.2.1 wd) (notFace_of_selects (args := #[]) (mvT Cx.2.1 wsel)) (mvT Cx.2.1 wsel) (mvT Cx.2.1 wi) K.2.2.2.1 (backOf (Q := RetQ Z n Qc) (W := wt rest) (W.metF hM K.2.2.1 hH []) Cx.2.1 K.1 K.2.1 f1 f2) qa qc (g := mkF m pc (loc n ls) (stk n (as.reverse ++ .ref k :: rest))) rfl
    ((size_loc n ls).trans (hz.trans Cx.2.2.2.2.1.symm)) (Steps.refl _) (argsL := as.map (up n)) (rest := stk n rest) (fun sig h => by rw [List.length_map]; exact K.2.2.2.2 sig h) (by simp [stk, List.map_append, List.map_reverse, up]) (by rw [wt_up]; exact Nat.le_of_eq (Nat.zero_add _)) (hb Cx.2.2.2.1 hd) (fun _ _ => ⟨rfl, rfl, f3, f4⟩)
  dsimp only [Pt.U, Pt.locs, Pt.cells, Pt.slots] at X' l1 l2 l3 stp q2
  subst l1 l2 l3 hv
  obtain ⟨s₂, v, L, H'', g1, g2⟩ := kk v0 H' q1 p e s m args below meth c Cx T' _ X' q2 (Fr.app hF q3)
  refine ⟨s₂, v, L, H'', stp.trans ?_, g2⟩
  have : stk n (v0.toList ++ rest) = (v0.map (up n)).toList ++ stk n rest := by cases v0 <;> simp [stk]
  rw [this] at g1; exact g1
theorem W.callp {M' : Meth} {i k kk0 : Nat} {fs : List (Key × Value)} {as rest : List Value} {Qc : Option Value → AHeap → Prop} (hd : D M pc (.invokevirtual i) 3 pc') (w : (Cond.methodLink M.1.cls i M'.1).before a0 Z = true) (wi : (Cond.instanceMethod M'.1).before a0 Z = true) (wp : (Cond.privateMethod M'.1).before a0 Z = true) (wk : (Cond.instantiable M'.1.cls kk0).before a0 Z = true) (K : OkM a0 Z M' as.length) (hk : H[k]? = some (.inl (M'.1.cls, fs))) (hs : st = as.reverse ++ .ref k :: rest) (hz : ls.length = M.2.2.1) (hf : fitsRoom M M' rest ce sl = true)
    (hM : W l Z n M' 0 (entryL (.ref k :: as) M'.2.2.1) [] H 0 0 Qc) (kk : ∀ v H', Qc v H' → WB b l Z n M pc' ls (v.toList ++ rest) H' (ce + M'.2.2.2.2.cells) (sl + M'.2.2.2.2.slots) Q) : WB b l Z n M pc ls st H ce sl Q := by
  obtain ⟨hd, rfl⟩ := hd
  subst hs
  intro p e s m args below meth c Cx T locs X hH hF
  obtain ⟨f1, f2, f3, f4⟩ := fits_ hf
  obtain ⟨cell, hc1, hc2⟩ := (hH.2 k _ hk rfl).1.cell
  have hpriv : s.PrivateAt M'.1 := Cond.privateMethod_at (mvP Cx.2.1 wp (args := #[]))
  obtain ⟨c2, k2, i1, i2, i3, i4, -⟩ := Cond.instantiable_spec (mvT (args := args) Cx.2.1 wk)
  have hni : k2.isInterface = false := by simp only [Bool.or_eq_false_iff] at i4; exact i4.1
  have hsel : (Cond.selects M'.1.cls M'.1 M'.1).before args s = true := selects_self_of_private i1 i2 hni hpriv (mvT Cx.2.1 wi) K.2.2.2.1
  obtain ⟨_, _, ⟨T', L', c', s'⟩, -, X', ⟨Lc, ⟨v0, H', hv, q1, q2, q3⟩, l1, l2, l3⟩, stp⟩ := X.privateBack Cx.1 (y := M'.1) Cx.2.2.1 (mvT Cx.2.1 w) (mvT Cx.2.1 wi) hsel hpriv (mvT Cx.2.1 K.1) K.2.2.2.1 (backOf (Q := RetQ Z n Qc) (W := wt rest) (W.metF hM K.2.2.1 hH []) Cx.2.1 K.1 K.2.1 f1 f2) (g := mkF m pc (loc n ls) (stk n (as.reverse ++ .ref k :: rest))) rfl
    ((size_loc n ls).trans (hz.trans Cx.2.2.2.2.1.symm)) (Steps.refl _) (a := n + k) hc1 hc2 (argsL := as.map (up n)) (rest := stk n rest) (fun sig h => by rw [List.length_map]; exact K.2.2.2.2 sig h) (by simp [stk, List.map_append, List.map_reverse, up]) (by rw [wt_up]; exact Nat.le_of_eq (Nat.zero_add _)) (hb Cx.2.2.2.1 hd) (fun _ _ => ⟨rfl, rfl, f3, f4⟩)
  dsimp only [Pt.U, Pt.locs, Pt.cells, Pt.slots] at X' l1 l2 l3 stp q2
  subst l1 l2 l3 hv
  obtain ⟨s₂, v, L, H'', g1, g2⟩ := kk v0 H' q1 p e s m args below meth c Cx T' _ X' q2 (Fr.app hF q3)
  refine ⟨s₂, v, L, H'', stp.trans ?_, g2⟩
  have : stk n (v0.toList ++ rest) = (v0.map (up n)).toList ++ stk n rest := by cases v0 <;> simp [stk]
  rw [this] at g1; exact g1
theorem W.init {M' : Meth} {i k : Nat} {as rest : List Value} {Qc : Option Value → AHeap → Prop} (hd : D M pc (.invokespecial i) 3 pc') (hnm : M'.1.name = "<init>") (hrt : M'.2.2.2.1 = none) (w : (Cond.methodLink M.1.cls i M'.1).before a0 Z = true) (wi : (Cond.instanceMethod M'.1).before a0 Z = true) (K : OkM a0 Z M' as.length) (hs : st = as.reverse ++ .ref k :: rest) (hz : ls.length = M.2.2.1) (hf : fitsRoom M M' rest ce sl = true)
    (hM : W l Z n M' 0 (entryL (.ref k :: as) M'.2.2.1) [] H 0 0 Qc) (kk : ∀ v H', Qc v H' → WB b l Z n M pc' ls (v.toList ++ rest) H' (ce + M'.2.2.2.2.cells) (sl + M'.2.2.2.2.slots) Q) : WB b l Z n M pc ls st H ce sl Q := by
  obtain ⟨hd, rfl⟩ := hd
  subst hs
  intro p e s m args below meth c Cx T locs X hH hF
  obtain ⟨f1, f2, f3, f4⟩ := fits_ hf
  have wc := K.1
  rw [hrt] at wc
  obtain ⟨_, _, ⟨T', L', c', s'⟩, -, X', ⟨Lc, ⟨v0, H', hv, q1, q2, q3⟩, l1, l2, l3⟩, stp⟩ := X.specialBack Cx.1 (y := M'.1) hnm Cx.2.2.1 (mvT Cx.2.1 w) (mvT Cx.2.1 wi) (mvT Cx.2.1 wc) K.2.2.2.1 (backOf (Q := RetQ Z n Qc) (W := wt rest) (W.metF hM K.2.2.1 hH []) Cx.2.1 K.1 K.2.1 f1 f2) (g := mkF m pc (loc n ls) (stk n (as.reverse ++ .ref k :: rest))) rfl
    ((size_loc n ls).trans (hz.trans Cx.2.2.2.2.1.symm)) (Steps.refl _) (a := n + k) (argsL := as.map (up n)) (rest := stk n rest) (fun sig h => by rw [List.length_map]; exact K.2.2.2.2 sig h) (by simp [stk, List.map_append, List.map_reverse, up]) (by rw [wt_up]; exact Nat.le_of_eq (Nat.zero_add _)) (hb Cx.2.2.2.1 hd) (fun _ _ => ⟨rfl, rfl, f3, f4⟩)
  dsimp only [Pt.U, Pt.locs, Pt.cells, Pt.slots] at X' l1 l2 l3 stp q2
  subst l1 l2 l3 hv
  obtain ⟨s₂, v, L, H'', g1, g2⟩ := kk v0 H' q1 p e s m args below meth c Cx T' _ X' q2 (Fr.app hF q3)
  refine ⟨s₂, v, L, H'', stp.trans ?_, g2⟩
  have : stk n (v0.toList ++ rest) = (v0.map (up n)).toList ++ stk n rest := by cases v0 <;> simp [stk]
  rw [this] at g1; exact g1
theorem W.initO {i k : Nat} {rest : List Value} (hd : D M pc (.invokespecial i) 3 pc') (w1 : (Cond.methodLink M.1.cls i Lib.objectInit).before a0 Z = true) (w2 : (Cond.instanceMethod Lib.objectInit).before a0 Z = true) (w3 : (Cond.code Lib.objectInit ⟨#[0xb1]⟩ 1 none).before a0 Z = true) (hz : ls.length = M.2.2.1) (hf : decide (1 ≤ M.2.2.2.2.frames) && decide (wt rest + 12 ≤ M.2.2.2.2.locals) = true)
    (kk : WB b l Z n M pc' ls rest H ce sl Q) : WB b l Z n M pc ls (.ref k :: rest) H ce sl Q := by
  obtain ⟨hd, rfl⟩ := hd
  simp only [Bool.and_eq_true, decide_eq_true_eq] at hf
  refine W.step (fun p e s m args below meth c Cx T locs X hH hF => ?_) kk
  obtain ⟨T', X', e', stp⟩ := RoadKit.initO X Cx.1 Cx.2.1 Cx.2.2.1 w1 w2 w3 rfl (g := mkF m pc (loc n ls) (stk n (.ref k :: rest))) rfl ((size_loc n ls).trans (hz.trans Cx.2.2.2.2.1.symm)) rfl (hb Cx.2.2.2.1 hd) hf.1 (W := wt rest) (by rw [wt_up]; exact Nat.le_of_eq (Nat.zero_add _)) hf.2
  exact ⟨T', locs, X', e' ▸ hH, hF, stp⟩
/-- from W of the whole method to the run's end, over the heap at the start -/
theorem W.start {as : List Value} (hW : WB b l Z Z.heap.size M 0 (entryL as M.2.2.1) [] [] 0 0 Q) (pn : plainName M.1.cls = true) (ws : List Jvm.Cond) :
    MetFree l M.1 (head1 (Cond.code M.1 M.2.1 M.2.2.1 M.2.2.2.1 :: ws) M.2.2.2.2) (fun a U => a = (as.map (up Z.heap.size)).toArray ∧ Z.Warmed39 U.vm ∧ U.heap = Z.heap) (fun _ _ _ _ _ => True)
      (fun _ U o U' => ∃ v L, o = .returned v ∧ (∃ v0 H', v = v0.map (up Z.heap.size) ∧ Q v0 H' ∧ HR Z Z.heap.size U'.heap H' ∧ Fr Z.heap.size L) ∧ EndR b U o U' L M.2.2.2.2.cells M.2.2.2.2.slots) :=
  W.met hW (plainFor_of_name pn) ⟨rfl, fun k o h _ => by cases h⟩ ws

/-- what it returns, and the heap it leaves -/
def Is (v : Option Value) (H1 : AHeap) : Option Value → AHeap → Prop := fun v' H' => v' = v ∧ H' = H1
theorem W.callsV {M' : Meth} {i : Nat} {as rest : List Value} {u : Value} {H1 : AHeap} (hd : D M pc (.invokestatic i) 3 pc') (w : (Cond.methodLink M.1.cls i M'.1).before a0 Z = true) (ws : (Cond.static M'.1).before a0 Z = true) (hM : W l Z n M' 0 (entryL as M'.2.2.1) [] H 0 0 (Is (some u) H1)) (K : OkM a0 Z M' as.length) (hs : st = as.reverse ++ rest) (hz : ls.length = M.2.2.1) (hf : fitsRoom M M' rest ce sl = true)
    (kk : WB b l Z n M pc' ls (u :: rest) H1 (ce + M'.2.2.2.2.cells) (sl + M'.2.2.2.2.slots) Q) : WB b l Z n M pc ls st H ce sl Q := W.calls hd w ws K hs hz hf hM fun v H' q => by obtain ⟨rfl, rfl⟩ := q; exact kk
theorem W.callsN {M' : Meth} {i : Nat} {as rest : List Value} {H1 : AHeap} (hd : D M pc (.invokestatic i) 3 pc') (w : (Cond.methodLink M.1.cls i M'.1).before a0 Z = true) (ws : (Cond.static M'.1).before a0 Z = true) (hM : W l Z n M' 0 (entryL as M'.2.2.1) [] H 0 0 (Is none H1)) (K : OkM a0 Z M' as.length) (hs : st = as.reverse ++ rest) (hz : ls.length = M.2.2.1) (hf : fitsRoom M M' rest ce sl = true)
    (kk : WB b l Z n M pc' ls rest H1 (ce + M'.2.2.2.2.cells) (sl + M'.2.2.2.2.slots) Q) : WB b l Z n M pc ls st H ce sl Q := W.calls hd w ws K hs hz hf hM fun v H' q => by obtain ⟨rfl, rfl⟩ := q; exact kk
theorem W.callvV {M' : Meth} {i k : Nat} {C : String} {fs : List (Key × Value)} {as rest : List Value} {u : Value} {H1 : AHeap} (hd : D M pc (.invokevirtual i) 3 pc') (w : (Cond.methodLink M.1.cls i M'.1).before a0 Z = true) (wd : (Cond.declares M'.1).before a0 Z = true) (wi : (Cond.instanceMethod M'.1).before a0 Z = true) (wsel : (Cond.selects C M'.1 M'.1).before a0 Z = true) (hM : W l Z n M' 0 (entryL (.ref k :: as) M'.2.2.1) [] H 0 0 (Is (some u) H1)) (K : OkM a0 Z M' as.length) (hk : H[k]? = some (.inl (C, fs))) (hs : st = as.reverse ++ .ref k :: rest) (hz : ls.length = M.2.2.1) (hf : fitsRoom M M' rest ce sl = true)
    (kk : WB b l Z n M pc' ls (u :: rest) H1 (ce + M'.2.2.2.2.cells) (sl + M'.2.2.2.2.slots) Q) : WB b l Z n M pc ls st H ce sl Q := W.callv hd w wd wi wsel K hk hs hz hf hM fun v H' q => by obtain ⟨rfl, rfl⟩ := q; exact kk
theorem W.callvN {M' : Meth} {i k : Nat} {C : String} {fs : List (Key × Value)} {as rest : List Value} {H1 : AHeap} (hd : D M pc (.invokevirtual i) 3 pc') (w : (Cond.methodLink M.1.cls i M'.1).before a0 Z = true) (wd : (Cond.declares M'.1).before a0 Z = true) (wi : (Cond.instanceMethod M'.1).before a0 Z = true) (wsel : (Cond.selects C M'.1 M'.1).before a0 Z = true) (hM : W l Z n M' 0 (entryL (.ref k :: as) M'.2.2.1) [] H 0 0 (Is none H1)) (K : OkM a0 Z M' as.length) (hk : H[k]? = some (.inl (C, fs))) (hs : st = as.reverse ++ .ref k :: rest) (hz : ls.length = M.2.2.1) (hf : fitsRoom M M' rest ce sl = true)
    (kk : WB b l Z n M pc' ls rest H1 (ce + M'.2.2.2.2.cells) (sl + M'.2.2.2.2.slots) Q) : WB b l Z n M pc ls st H ce sl Q := W.callv hd w wd wi wsel K hk hs hz hf hM fun v H' q => by obtain ⟨rfl, rfl⟩ := q; exact kk
theorem W.callpV {M' : Meth} {i k kk0 : Nat} {fs : List (Key × Value)} {as rest : List Value} {u : Value} {H1 : AHeap} (hd : D M pc (.invokevirtual i) 3 pc') (w : (Cond.methodLink M.1.cls i M'.1).before a0 Z = true) (wi : (Cond.instanceMethod M'.1).before a0 Z = true) (wp : (Cond.privateMethod M'.1).before a0 Z = true) (wk : (Cond.instantiable M'.1.cls kk0).before a0 Z = true) (hM : W l Z n M' 0 (entryL (.ref k :: as) M'.2.2.1) [] H 0 0 (Is (some u) H1)) (K : OkM a0 Z M' as.length) (hk : H[k]? = some (.inl (M'.1.cls, fs))) (hs : st = as.reverse ++ .ref k :: rest) (hz : ls.length = M.2.2.1) (hf : fitsRoom M M' rest ce sl = true)
    (kk : WB b l Z n M pc' ls (u :: rest) H1 (ce + M'.2.2.2.2.cells) (sl + M'.2.2.2.2.slots) Q) : WB b l Z n M pc ls st H ce sl Q := W.callp hd w wi wp wk K hk hs hz hf hM fun v H' q => by obtain ⟨rfl, rfl⟩ := q; exact kk
theorem W.callpN {M' : Meth} {i k kk0 : Nat} {fs : List (Key × Value)} {as rest : List Value} {H1 : AHeap} (hd : D M pc (.invokevirtual i) 3 pc') (w : (Cond.methodLink M.1.cls i M'.1).before a0 Z = true) (wi : (Cond.instanceMethod M'.1).before a0 Z = true) (wp : (Cond.privateMethod M'.1).before a0 Z = true) (wk : (Cond.instantiable M'.1.cls kk0).before a0 Z = true) (hM : W l Z n M' 0 (entryL (.ref k :: as) M'.2.2.1) [] H 0 0 (Is none H1)) (K : OkM a0 Z M' as.length) (hk : H[k]? = some (.inl (M'.1.cls, fs))) (hs : st = as.reverse ++ .ref k :: rest) (hz : ls.length = M.2.2.1) (hf : fitsRoom M M' rest ce sl = true)
    (kk : WB b l Z n M pc' ls rest H1 (ce + M'.2.2.2.2.cells) (sl + M'.2.2.2.2.slots) Q) : WB b l Z n M pc ls st H ce sl Q := W.callp hd w wi wp wk K hk hs hz hf hM fun v H' q => by obtain ⟨rfl, rfl⟩ := q; exact kk
theorem W.initN {M' : Meth} {i k : Nat} {as rest : List Value} {H1 : AHeap} (hd : D M pc (.invokespecial i) 3 pc') (hnm : M'.1.name = "<init>") (hrt : M'.2.2.2.1 = none) (w : (Cond.methodLink M.1.cls i M'.1).before a0 Z = true) (wi : (Cond.instanceMethod M'.1).before a0 Z = true) (hM : W l Z n M' 0 (entryL (.ref k :: as) M'.2.2.1) [] H 0 0 (Is none H1)) (K : OkM a0 Z M' as.length) (hs : st = as.reverse ++ .ref k :: rest) (hz : ls.length = M.2.2.1) (hf : fitsRoom M M' rest ce sl = true)
    (kk : WB b l Z n M pc' ls rest H1 (ce + M'.2.2.2.2.cells) (sl + M'.2.2.2.2.slots) Q) : WB b l Z n M pc ls st H ce sl Q := W.init hd hnm hrt w wi K hs hz hf hM fun v H' q => by obtain ⟨rfl, rfl⟩ := q; exact kk
theorem W.callpX {M' : Meth} {i k kk0 : Nat} {fs : List (Key × Value)} {as rest : List Value} {P : Value → AHeap → Prop} (hd : D M pc (.invokevirtual i) 3 pc') (w : (Cond.methodLink M.1.cls i M'.1).before a0 Z = true) (wi : (Cond.instanceMethod M'.1).before a0 Z = true) (wp : (Cond.privateMethod M'.1).before a0 Z = true) (wk : (Cond.instantiable M'.1.cls kk0).before a0 Z = true) (hM : W l Z n M' 0 (entryL (.ref k :: as) M'.2.2.1) [] H 0 0 (fun v H' => ∃ u, v = some u ∧ P u H')) (K : OkM a0 Z M' as.length) (hk : H[k]? = some (.inl (M'.1.cls, fs))) (hs : st = as.reverse ++ .ref k :: rest) (hz : ls.length = M.2.2.1) (hf : fitsRoom M M' rest ce sl = true)
    (kk : ∀ u H', P u H' → WB b l Z n M pc' ls (u :: rest) H' (ce + M'.2.2.2.2.cells) (sl + M'.2.2.2.2.slots) Q) : WB b l Z n M pc ls st H ce sl Q := W.callp hd w wi wp wk K hk hs hz hf hM fun v H' q => by obtain ⟨u, rfl, q⟩ := q; exact kk u H' q
theorem W.callsX {M' : Meth} {i : Nat} {as rest : List Value} {P : Value → AHeap → Prop} (hd : D M pc (.invokestatic i) 3 pc') (w : (Cond.methodLink M.1.cls i M'.1).before a0 Z = true) (ws : (Cond.static M'.1).before a0 Z = true) (hM : W l Z n M' 0 (entryL as M'.2.2.1) [] H 0 0 (fun v H' => ∃ u, v = some u ∧ P u H')) (K : OkM a0 Z M' as.length) (hs : st = as.reverse ++ rest) (hz : ls.length = M.2.2.1) (hf : fitsRoom M M' rest ce sl = true)
    (kk : ∀ u H', P u H' → WB b l Z n M pc' ls (u :: rest) H' (ce + M'.2.2.2.2.cells) (sl + M'.2.2.2.2.slots) Q) : WB b l Z n M pc ls st H ce sl Q := W.calls hd w ws K hs hz hf hM fun v H' q => by obtain ⟨u, rfl, q⟩ := q; exact kk u H' q
theorem W.callsY {M' : Meth} {i : Nat} {as rest : List Value} {P : AHeap → Prop} (hd : D M pc (.invokestatic i) 3 pc') (w : (Cond.methodLink M.1.cls i M'.1).before a0 Z = true) (ws : (Cond.static M'.1).before a0 Z = true) (hM : W l Z n M' 0 (entryL as M'.2.2.1) [] H 0 0 (fun v H' => v = none ∧ P H')) (K : OkM a0 Z M' as.length) (hs : st = as.reverse ++ rest) (hz : ls.length = M.2.2.1) (hf : fitsRoom M M' rest ce sl = true)
    (kk : ∀ H', P H' → WB b l Z n M pc' ls rest H' (ce + M'.2.2.2.2.cells) (sl + M'.2.2.2.2.slots) Q) : WB b l Z n M pc ls st H ce sl Q := W.calls hd w ws K hs hz hf hM fun v H' q => by obtain ⟨rfl, q⟩ := q; exact kk H' q
theorem W.callvX {M' : Meth} {i k : Nat} {C : String} {fs : List (Key × Value)} {as rest : List Value} {P : Value → AHeap → Prop} (hd : D M pc (.invokevirtual i) 3 pc') (w : (Cond.methodLink M.1.cls i M'.1).before a0 Z = true) (wd : (Cond.declares M'.1).before a0 Z = true) (wi : (Cond.instanceMethod M'.1).before a0 Z = true) (wsel : (Cond.selects C M'.1 M'.1).before a0 Z = true) (hM : W l Z n M' 0 (entryL (.ref k :: as) M'.2.2.1) [] H 0 0 (fun v H' => ∃ u, v = some u ∧ P u H')) (K : OkM a0 Z M' as.length) (hk : H[k]? = some (.inl (C, fs))) (hs : st = as.reverse ++ .ref k :: rest) (hz : ls.length = M.2.2.1) (hf : fitsRoom M M' rest ce sl = true)
    (kk : ∀ u H', P u H' → WB b l Z n M pc' ls (u :: rest) H' (ce + M'.2.2.2.2.cells) (sl + M'.2.2.2.2.slots) Q) : WB b l Z n M pc ls st H ce sl Q := W.callv hd w wd wi wsel K hk hs hz hf hM fun v H' q => by obtain ⟨u, rfl, q⟩ := q; exact kk u H' q
theorem W.callvY {M' : Meth} {i k : Nat} {C : String} {fs : List (Key × Value)} {as rest : List Value} {P : AHeap → Prop} (hd : D M pc (.invokevirtual i) 3 pc') (w : (Cond.methodLink M.1.cls i M'.1).before a0 Z = true) (wd : (Cond.declares M'.1).before a0 Z = true) (wi : (Cond.instanceMethod M'.1).before a0 Z = true) (wsel : (Cond.selects C M'.1 M'.1).before a0 Z = true) (hM : W l Z n M' 0 (entryL (.ref k :: as) M'.2.2.1) [] H 0 0 (fun v H' => v = none ∧ P H')) (K : OkM a0 Z M' as.length) (hk : H[k]? = some (.inl (C, fs))) (hs : st = as.reverse ++ .ref k :: rest) (hz : ls.length = M.2.2.1) (hf : fitsRoom M M' rest ce sl = true)
    (kk : ∀ H', P H' → WB b l Z n M pc' ls rest H' (ce + M'.2.2.2.2.cells) (sl + M'.2.2.2.2.slots) Q) : WB b l Z n M pc ls st H ce sl Q := W.callv hd w wd wi wsel K hk hs hz hf hM fun v H' q => by obtain ⟨rfl, q⟩ := q; exact kk H' q
/-- ldc of a String: behind it the walk goes on over the tables that the constant left -/
theorem W.ldcStr {i nn : Nat} {text : String} (hd : D M pc (.ldc i) 2 pc') (w : (Cond.stringLink M.1.cls i text).before a0 Z = true) (wS : ∀ a ∈ Bundle.stringAtoms, a.before a0 Z = true) (hn : 4 * text.toList.length ≤ nn) (hbig : nn ≤ 536870912) (hc : ce + 2 ≤ M.2.2.2.2.cells) (hl : sl + (nn + 4) ≤ M.2.2.2.2.slots)
    (kk : ∀ (a : Addr) (d : Nat), WB false l Z n M pc' ls (.retAddr a :: st) (H ++ List.replicate d junk) (ce + 2) (sl + (nn + 4)) (fun v H' => Q v H' ∧ H.length + d ≤ H'.length)) : WB true l Z n M pc ls st H ce sl Q := by
  obtain ⟨hd, rfl⟩ := hd
  intro p e s m args below meth c C T locs X hH hF
  have X0 : Stand p l e M.2.2.2.2 (s.setVm s.vm) m args below meth c T locs ce sl := X
  obtain ⟨a, T', h', k1, X', e', E, hS', hk1, hZ', hown', stp⟩ := ldcS (Z := Z) (a0 := a0) X0 C.1 C.2.1 (own := M.1.cls) (text := text) (index := i) C.2.2.1 w wS rfl (k0 := 0) ((State.WarmedH.refl s).since 0) (Nat.zero_le _) (g := mkF m pc (loc n ls) (stk n st)) rfl (hb C.2.2.2.1 hd) hn hbig hc hl
  subst e'
  have hH' : HR Z n T'.heap (H ++ List.replicate (T'.heap.size - T.heap.size) junk) := by
    have h1 := E.1
    refine ⟨by rw [List.length_append, List.length_replicate]; have := hH.1; omega, fun k o hk hJ => ?_⟩
    rw [List.getElem?_append] at hk
    split at hk
    · exact (hH.2 k o hk hJ).ext E
    · have := List.eq_of_mem_replicate (List.mem_of_getElem? hk)
      rw [this] at hJ; cases hJ
  obtain ⟨s₂, v, L, H'', g1, g2, g3, ⟨g4, g4'⟩, g5, g6, g7⟩ := kk a (T'.heap.size - T.heap.size) p e (s.setVm T'.vm) m args below meth c ⟨C.1, hZ', hown', C.2.2.2⟩ T' locs X' hH' hF
  have hsz : k1 ≤ s₂.heap.size := by have h1 := E.1; have h2 := hH.1; have h3 := g5.1; omega
  obtain ⟨q1, q2, q3⟩ := hS'.ended (U := s₂) g7.2.1 hsz g7.2.2
  exact ⟨s₂, v, L, H'', stp _ g1, g2, g3, g4, g5, g6, g7.1, q1, q2, q3⟩
theorem nar_ref (n : Nat) {v : Value} {c : String} (h : v.isRef = true) : narrow (.object c) (up n v) = up n v := by
  cases v <;> first | rfl | (simp [Value.isRef] at h)
theorem fits_ref' (n : Nat) {v : Value} {c : String} (h : v.isRef = true) : fits (.object c) (up n v) = true := by
  cases v <;> first | rfl | (simp [Value.isRef] at h)
theorem rfn_of {v : Value} (h : v.isRef = true) : rfn v = true := by cases v <;> first | rfl | (simp [Value.isRef] at h)
end Rules
/-! bits of ints and longs -/
theorem bx32 {a b : Int32} (h : ∀ i, i < 32 → a.toBitVec.getLsbD i = b.toBitVec.getLsbD i) : a = b := Int32.toBitVec_inj.mp (BitVec.eq_of_getLsbD_eq h)
theorem bx64 {a b : Int64} (h : ∀ i, i < 64 → a.toBitVec.getLsbD i = b.toBitVec.getLsbD i) : a = b := Int64.toBitVec_inj.mp (BitVec.eq_of_getLsbD_eq h)
theorem sm32 : ∀ m : Fin 32, ((BitVec.ofNat 32 m.1).smod 32).toNat = m.1 := by decide
theorem sm64 : ∀ m : Fin 64, ((BitVec.ofNat 64 m.1).smod 64).toNat = m.1 := by decide
theorem amt32 {k : Int32} {m : Nat} (hk : k.toBitVec.toNat = m) (hm : m < 32) : (k.toBitVec.smod 32).toNat = m := by
  have : k.toBitVec = BitVec.ofNat 32 m := BitVec.eq_of_toNat_eq (by rw [hk, BitVec.toNat_ofNat]; omega)
  rw [this]; exact sm32 ⟨m, hm⟩
theorem amt64 {k : Int64} {m : Nat} (hk : k.toBitVec.toNat = m) (hm : m < 64) : (k.toBitVec.smod 64).toNat = m := by
  have : k.toBitVec = BitVec.ofNat 64 m := BitVec.eq_of_toNat_eq (by rw [hk, BitVec.toNat_ofNat]; omega)
  rw [this]; exact sm64 ⟨m, hm⟩
theorem shl_bit {x k : Int32} {m : Nat} (hk : k.toBitVec.toNat = m) (hm : m < 32) (i : Nat) : (x <<< k).toBitVec.getLsbD i = (decide (i < 32) && !decide (i < m) && x.toBitVec.getLsbD (i - m)) := by
  show (x.toBitVec <<< (k.toBitVec.smod 32)).getLsbD i = _
  rw [BitVec.shiftLeft_eq', amt32 hk hm, BitVec.getLsbD_shiftLeft]
theorem shlL_bit {x k : Int64} {m : Nat} (hk : k.toBitVec.toNat = m) (hm : m < 64) (i : Nat) : (x <<< k).toBitVec.getLsbD i = (decide (i < 64) && !decide (i < m) && x.toBitVec.getLsbD (i - m)) := by
  show (x.toBitVec <<< (k.toBitVec.smod 64)).getLsbD i = _
  rw [BitVec.shiftLeft_eq', amt64 hk hm, BitVec.getLsbD_shiftLeft]
theorem ushr_bit {v k : Int32} {m : Nat} (hk : (k &&& 31).toBitVec.toNat = m) (i : Nat) : (XT.ushr v k).toBitVec.getLsbD i = v.toBitVec.getLsbD (m + i) := by
  have hm : m < 32 := by
    subst hk
    have : (k &&& 31).toBitVec = k.toBitVec &&& 31#32 := rfl
    rw [this, BitVec.toNat_and]
    exact Nat.lt_of_le_of_lt Nat.and_le_right (by decide)
  show (v.toBitVec >>> ((k &&& 31).toBitVec % 32)).getLsbD i = _
  have h2 : ((k &&& 31).toBitVec % 32).toNat = m := by rw [BitVec.toNat_umod, hk]; exact Nat.mod_eq_of_lt hm
  rw [BitVec.ushiftRight_eq', h2, BitVec.getLsbD_ushiftRight]
theorem ushrL_bit {v : Int64} {k : Int32} {m : Nat} (hk : (k.toInt64 &&& 63).toBitVec.toNat = m) (i : Nat) : (XT.ushrL v k).toBitVec.getLsbD i = v.toBitVec.getLsbD (m + i) := by
  have hm : m < 64 := by
    subst hk
    have : (k.toInt64 &&& 63).toBitVec = k.toInt64.toBitVec &&& 63#64 := rfl
    rw [this, BitVec.toNat_and]
    exact Nat.lt_of_le_of_lt Nat.and_le_right (by decide)
  show (v.toBitVec >>> ((k.toInt64 &&& 63).toBitVec % 64)).getLsbD i = _
  have h2 : ((k.toInt64 &&& 63).toBitVec % 64).toNat = m := by rw [BitVec.toNat_umod, hk]; exact Nat.mod_eq_of_lt hm
  rw [BitVec.ushiftRight_eq', h2, BitVec.getLsbD_ushiftRight]
theorem byte_bit (x : Int32) (i : Nat) : (x.toInt8.toInt32).toBitVec.getLsbD i = (decide (i < 32) && x.toBitVec.getLsbD (if i < 8 then i else 7)) := by
  show ((x.toBitVec.signExtend 8).signExtend 32).getLsbD i = _
  rw [BitVec.getLsbD_signExtend, BitVec.msb_eq_getLsbD_last, BitVec.getLsbD_signExtend, BitVec.getLsbD_signExtend]
  by_cases h : i < 8
  · simp [h, show i < 32 by omega]
  · simp [h]
theorem and_bit (x y : Int32) (i : Nat) : (x &&& y).toBitVec.getLsbD i = (x.toBitVec.getLsbD i && y.toBitVec.getLsbD i) := BitVec.getLsbD_and
theorem or_bit (x y : Int32) (i : Nat) : (x ||| y).toBitVec.getLsbD i = (x.toBitVec.getLsbD i || y.toBitVec.getLsbD i) := BitVec.getLsbD_or
theorem andL_bit (x y : Int64) (i : Nat) : (x &&& y).toBitVec.getLsbD i = (x.toBitVec.getLsbD i && y.toBitVec.getLsbD i) := BitVec.getLsbD_and
theorem orL_bit (x y : Int64) (i : Nat) : (x ||| y).toBitVec.getLsbD i = (x.toBitVec.getLsbD i || y.toBitVec.getLsbD i) := BitVec.getLsbD_or
theorem i2l_bit (x : Int32) (i : Nat) : x.toInt64.toBitVec.getLsbD i = (decide (i < 64) && x.toBitVec.getLsbD (if i < 32 then i else 31)) := by
  show (x.toBitVec.signExtend 64).getLsbD i = _
  rw [BitVec.getLsbD_signExtend, BitVec.msb_eq_getLsbD_last]
  by_cases h : i < 32 <;> simp [h]
theorem l2i_bit (x : Int64) (i : Nat) : x.toInt32.toBitVec.getLsbD i = (decide (i < 32) && x.toBitVec.getLsbD i) := by
  show (x.toBitVec.signExtend 32).getLsbD i = _
  rw [BitVec.getLsbD_signExtend]
  by_cases h : i < 32
  · simp [h, show i < 64 by omega]
  · simp [h]
theorem lit_bit (m i : Nat) : (Int32.ofNat m).toBitVec.getLsbD i = (decide (i < 32) && m.testBit i) := by
  show (BitVec.ofNat 32 m).getLsbD i = _
  rw [BitVec.getLsbD_ofNat]
theorem litL_bit (m i : Nat) : (Int64.ofNat m).toBitVec.getLsbD i = (decide (i < 64) && m.testBit i) := by
  show (BitVec.ofNat 64 m).getLsbD i = _
  rw [BitVec.getLsbD_ofNat]
theorem m255 (i : Nat) : (255 : Int32).toBitVec.getLsbD i = decide (i < 8) := by
  have : (255 : Int32) = Int32.ofNat (2 ^ 8 - 1) := rfl
  rw [this, lit_bit, Nat.testBit_two_pow_sub_one]
  by_cases h : i < 8 <;> simp [h]; omega
theorem and_nat (x y : Int32) (m : Nat) (hy : y.toBitVec.toNat = m) : (x &&& y).toBitVec.toNat ≤ m := by
  show (x.toBitVec &&& y.toBitVec).toNat ≤ m
  rw [BitVec.toNat_and, hy]; exact Nat.and_le_right
theorem of_nat32 {x : Int32} {m : Nat} (h : x.toBitVec.toNat = m) : x = Int32.ofNat m := by
  apply Int32.toBitVec_inj.mp
  apply BitVec.eq_of_toNat_eq
  show _ = (BitVec.ofNat 32 m).toNat
  rw [BitVec.toNat_ofNat, h]
  have := x.toBitVec.isLt
  omega
theorem and_three (x : Int32) : x &&& 3 = 0 ∨ x &&& 3 = 1 ∨ x &&& 3 = 2 ∨ x &&& 3 = 3 := by
  have h := and_nat x 3 3 rfl
  have hc : (x &&& 3).toBitVec.toNat = 0 ∨ (x &&& 3).toBitVec.toNat = 1 ∨ (x &&& 3).toBitVec.toNat = 2 ∨ (x &&& 3).toBitVec.toNat = 3 := by omega
  rcases hc with q | q | q | q
  · exact Or.inl (of_nat32 q)
  · exact Or.inr (Or.inl (of_nat32 q))
  · exact Or.inr (Or.inr (Or.inl (of_nat32 q)))
  · exact Or.inr (Or.inr (Or.inr (of_nat32 q)))
theorem nar_byte (y : Int32) : nar .byte (y.toInt8.toInt32) = y.toInt8.toInt32 := by
  show y.toInt8.toInt32.toInt8.toInt32 = y.toInt8.toInt32
  simp
theorem ushr_zero (x : Int32) (k : Int32) (hk : (k &&& 31).toBitVec.toNat = 0) : XT.ushr x k = x := bx32 fun i _ => by rw [ushr_bit hk, Nat.zero_add]
theorem rem_nat (x d : Int32) (m : Nat) (hx : 0 ≤ x.toInt) (hd : d.toInt = m) (hm : 0 < m) (hb : m < 2 ^ 31) : ∃ k, k < m ∧ x % d = Int32.ofNat k := by
  have h1 : (x % d).toInt = x.toInt % m := by rw [Int32.toInt_mod, hd, Int.tmod_eq_emod_of_nonneg hx]
  have h2 := Int.emod_nonneg x.toInt (show (m : Int) ≠ 0 by omega)
  have h3 := Int.emod_lt_of_pos x.toInt (show (0 : Int) < m by omega)
  refine ⟨(x.toInt % m).toNat, by omega, ?_⟩
  apply Int32.toInt_inj.mp
  rw [h1, Int32.toInt_ofNat_of_lt (by omega)]
  omega
end Jvm.OwnW
namespace Jvm.Pilot.@@N@@
open Jvm Jvm.ClassFile Sem Op Lib Jvm.Free Jvm.Stand Jvm.LawKit Jvm.RoadKit Bundle Jvm.Pilot.@@N@@.Jvm.D Jvm.OwnW

theorem wd {c : Jvm.Cond} (k : Nat) (h : tables_1[k]? = some c) : c ∈ tables_1 := List.mem_of_getElem? h
def m0 : Meth := (x, code, maxLocals, ret, room_1)
def m1 : Meth := (⟨"org/tourney/ValueGraph", "<init>", "(II)V"⟩, prog_61_method_1_code, 4, none, { frames := 1, cells := 20, slots := 121, locals := 23 })
def m3 : Meth := (⟨"java/util/Arrays", "fill", "([II)V"⟩, jdk_65_method_103_code, 4, none, { frames := 0, cells := 0, slots := 0, locals := 0 })
def m4 : Meth := (⟨"java/lang/Math", "max", "(II)I"⟩, jdk_29_method_65_code, 2, some .int, { frames := 0, cells := 0, slots := 0, locals := 0 })
def m5 : Meth := (⟨"org/tourney/ValueGraph", "open", "(I)V"⟩, prog_61_method_3_code, 2, none, { frames := 0, cells := 0, slots := 0, locals := 0 })
def m6 : Meth := (⟨"org/tourney/ValueGraphIsInSomeMatchingPinLaw", "addEdges", "(Lorg/tourney/ValueGraph;II[I[I)I"⟩, method_2_code, 9, some .int, { frames := 1, cells := 0, slots := 0, locals := 22 })
def m7 : Meth := (⟨"org/tourney/ValueGraph", "addEdge", "(I)I"⟩, prog_61_method_4_code, 3, some .int, { frames := 0, cells := 0, slots := 0, locals := 0 })
def m8 : Meth := (⟨"org/tourney/ValueGraph", "match", "(Lorg/tourney/Deadline;)Z"⟩, prog_61_method_11_code, 4, some .boolean, { frames := 3, cells := 0, slots := 0, locals := 71 })
def m9 : Meth := (⟨"org/tourney/ValueGraph", "augment", "(ILorg/tourney/Deadline;)Z"⟩, prog_61_method_12_code, 9, some .boolean, { frames := 2, cells := 0, slots := 0, locals := 43 })
def m10 : Meth := (⟨"org/tourney/ValueGraph", "nextStamp", "()V"⟩, prog_61_method_15_code, 1, none, { frames := 1, cells := 0, slots := 0, locals := 23 })
def m11 : Meth := (⟨"org/tourney/ValueGraph", "freeEdge", "(I)I"⟩, prog_61_method_13_code, 3, some .int, { frames := 0, cells := 0, slots := 0, locals := 0 })
def m12 : Meth := (⟨"org/tourney/ValueGraph", "findComponents", "()V"⟩, prog_61_method_17_code, 9, none, { frames := 1, cells := 0, slots := 0, locals := 25 })
def m13 : Meth := (⟨"org/tourney/ValueGraph", "nextSuccessor", "(II)I"⟩, prog_61_method_18_code, 6, some .int, { frames := 0, cells := 0, slots := 0, locals := 0 })
def m14 : Meth := (⟨"org/tourney/ValueGraph", "isInSomeMatching", "(II)Z"⟩, prog_61_method_16_code, 4, some .boolean, { frames := 0, cells := 0, slots := 0, locals := 0 })
def m15 : Meth := (⟨"java/lang/Math", "min", "(II)I"⟩, jdk_29_method_69_code, 2, some .int, { frames := 0, cells := 0, slots := 0, locals := 0 })
theorem d0_0 : D m0 0 (.iload_n 0) 1 1 := ⟨by decide +kernel, rfl⟩
theorem d0_1 : D m0 1 (.ldc 13) 2 3 := ⟨by decide +kernel, rfl⟩
theorem d0_3 : D m0 3 (.iand) 1 4 := ⟨by decide +kernel, rfl⟩
theorem d0_4 : D m0 4 (.iconst 3) 1 5 := ⟨by decide +kernel, rfl⟩
theorem d0_5 : D m0 5 (.irem) 1 6 := ⟨by decide +kernel, rfl⟩
theorem d0_6 : D m0 6 (.istore_n 3) 1 7 := ⟨by decide +kernel, rfl⟩
theorem d0_7 : D m0 7 (.iload_n 3) 1 8 := ⟨by decide +kernel, rfl⟩
theorem d0_8 : D m0 8 (.iconst 1) 1 9 := ⟨by decide +kernel, rfl⟩
theorem d0_9 : D m0 9 (.iadd) 1 10 := ⟨by decide +kernel, rfl⟩
theorem d0_10 : D m0 10 (.iload_n 0) 1 11 := ⟨by decide +kernel, rfl⟩
theorem d0_11 : D m0 11 (.bipush 31) 2 13 := ⟨by decide +kernel, rfl⟩
theorem d0_13 : D m0 13 (.iushr) 1 14 := ⟨by decide +kernel, rfl⟩
theorem d0_14 : D m0 14 (.iconst 1) 1 15 := ⟨by decide +kernel, rfl⟩
theorem d0_15 : D m0 15 (.iand) 1 16 := ⟨by decide +kernel, rfl⟩
theorem d0_16 : D m0 16 (.iadd) 1 17 := ⟨by decide +kernel, rfl⟩
theorem d0_17 : D m0 17 (.iconst 3) 1 18 := ⟨by decide +kernel, rfl⟩
theorem d0_18 : D m0 18 (.irem) 1 19 := ⟨by decide +kernel, rfl⟩
theorem d0_19 : D m0 19 (.istore 4) 2 21 := ⟨by decide +kernel, rfl⟩
theorem d0_21 : D m0 21 (.iload_n 1) 1 22 := ⟨by decide +kernel, rfl⟩
theorem d0_22 : D m0 22 (.bipush 7) 2 24 := ⟨by decide +kernel, rfl⟩
theorem d0_24 : D m0 24 (.iand) 1 25 := ⟨by decide +kernel, rfl⟩
theorem d0_25 : D m0 25 (.istore 5) 2 27 := ⟨by decide +kernel, rfl⟩
theorem d0_27 : D m0 27 (.iload_n 1) 1 28 := ⟨by decide +kernel, rfl⟩
theorem d0_28 : D m0 28 (.iconst 3) 1 29 := ⟨by decide +kernel, rfl⟩
theorem d0_29 : D m0 29 (.iushr) 1 30 := ⟨by decide +kernel, rfl⟩
theorem d0_30 : D m0 30 (.bipush 7) 2 32 := ⟨by decide +kernel, rfl⟩
theorem d0_32 : D m0 32 (.iand) 1 33 := ⟨by decide +kernel, rfl⟩
theorem d0_33 : D m0 33 (.istore 6) 2 35 := ⟨by decide +kernel, rfl⟩
theorem d0_35 : D m0 35 (.iload_n 1) 1 36 := ⟨by decide +kernel, rfl⟩
theorem d0_36 : D m0 36 (.bipush 6) 2 38 := ⟨by decide +kernel, rfl⟩
theorem d0_38 : D m0 38 (.iushr) 1 39 := ⟨by decide +kernel, rfl⟩
theorem d0_39 : D m0 39 (.ldc 14) 2 41 := ⟨by decide +kernel, rfl⟩
theorem d0_41 : D m0 41 (.iand) 1 42 := ⟨by decide +kernel, rfl⟩
theorem d0_42 : D m0 42 (.iconst 3) 1 43 := ⟨by decide +kernel, rfl⟩
theorem d0_43 : D m0 43 (.irem) 1 44 := ⟨by decide +kernel, rfl⟩
theorem d0_44 : D m0 44 (.istore 7) 2 46 := ⟨by decide +kernel, rfl⟩
theorem d0_46 : D m0 46 (.iload_n 1) 1 47 := ⟨by decide +kernel, rfl⟩
theorem d0_47 : D m0 47 (.bipush 22) 2 49 := ⟨by decide +kernel, rfl⟩
theorem d0_49 : D m0 49 (.iushr) 1 50 := ⟨by decide +kernel, rfl⟩
theorem d0_50 : D m0 50 (.sipush 255) 3 53 := ⟨by decide +kernel, rfl⟩
theorem d0_53 : D m0 53 (.iand) 1 54 := ⟨by decide +kernel, rfl⟩
theorem d0_54 : D m0 54 (.iconst 3) 1 55 := ⟨by decide +kernel, rfl⟩
theorem d0_55 : D m0 55 (.irem) 1 56 := ⟨by decide +kernel, rfl⟩
theorem d0_56 : D m0 56 (.istore 8) 2 58 := ⟨by decide +kernel, rfl⟩
theorem d0_58 : D m0 58 (.iload 6) 2 60 := ⟨by decide +kernel, rfl⟩
theorem d0_60 : D m0 60 (.iconst 1) 1 61 := ⟨by decide +kernel, rfl⟩
theorem d0_61 : DB m0 61 (.if_icmp .eq 15) 15 64 76 := ⟨by decide +kernel, rfl, by decide, by decide⟩
theorem d0_64 : D m0 64 (.iload 6) 2 66 := ⟨by decide +kernel, rfl⟩
theorem d0_66 : D m0 66 (.iconst 2) 1 67 := ⟨by decide +kernel, rfl⟩
theorem d0_67 : DB m0 67 (.if_icmp .eq 9) 9 70 76 := ⟨by decide +kernel, rfl, by decide, by decide⟩
theorem d0_70 : D m0 70 (.iload 6) 2 72 := ⟨by decide +kernel, rfl⟩
theorem d0_72 : D m0 72 (.iconst 4) 1 73 := ⟨by decide +kernel, rfl⟩
theorem d0_73 : DB m0 73 (.if_icmp .ne 7) 7 76 80 := ⟨by decide +kernel, rfl, by decide, by decide⟩
theorem d0_76 : D m0 76 (.iconst 1) 1 77 := ⟨by decide +kernel, rfl⟩
theorem d0_77 : DB m0 77 (.goto 4) 4 80 81 := ⟨by decide +kernel, rfl, by decide, by decide⟩
theorem d0_80 : D m0 80 (.iconst 0) 1 81 := ⟨by decide +kernel, rfl⟩
theorem d0_81 : D m0 81 (.istore 9) 2 83 := ⟨by decide +kernel, rfl⟩
theorem d0_83 : D m0 83 (.iload 9) 2 85 := ⟨by decide +kernel, rfl⟩
theorem d0_85 : DB m0 85 (.ifCond .eq 12) 12 88 97 := ⟨by decide +kernel, rfl, by decide, by decide⟩
theorem d0_88 : D m0 88 (.iload 5) 2 90 := ⟨by decide +kernel, rfl⟩
theorem d0_90 : D m0 90 (.iload 6) 2 92 := ⟨by decide +kernel, rfl⟩
theorem d0_92 : DB m0 92 (.if_icmp .ne 5) 5 95 97 := ⟨by decide +kernel, rfl, by decide, by decide⟩
theorem d0_95 : D m0 95 (.iconst 1) 1 96 := ⟨by decide +kernel, rfl⟩
theorem d0_96 : D m0 96 (.ireturn) 1 97 := ⟨by decide +kernel, rfl⟩
theorem d0_97 : D m0 97 (.iload 9) 2 99 := ⟨by decide +kernel, rfl⟩
theorem d0_99 : DB m0 99 (.ifCond .eq 45) 45 102 144 := ⟨by decide +kernel, rfl, by decide, by decide⟩
theorem d0_102 : D m0 102 (.iload 5) 2 104 := ⟨by decide +kernel, rfl⟩
theorem d0_104 : D m0 104 (.iload 6) 2 106 := ⟨by decide +kernel, rfl⟩
theorem d0_106 : D m0 106 (.iand) 1 107 := ⟨by decide +kernel, rfl⟩
theorem d0_107 : DB m0 107 (.ifCond .eq 37) 37 110 144 := ⟨by decide +kernel, rfl, by decide, by decide⟩
theorem d0_110 : D m0 110 (.iload_n 3) 1 111 := ⟨by decide +kernel, rfl⟩
theorem d0_111 : D m0 111 (.istore 10) 2 113 := ⟨by decide +kernel, rfl⟩
theorem d0_113 : D m0 113 (.iload 4) 2 115 := ⟨by decide +kernel, rfl⟩
theorem d0_115 : D m0 115 (.istore_n 3) 1 116 := ⟨by decide +kernel, rfl⟩
theorem d0_116 : D m0 116 (.iload 10) 2 118 := ⟨by decide +kernel, rfl⟩
theorem d0_118 : D m0 118 (.istore 4) 2 120 := ⟨by decide +kernel, rfl⟩
theorem d0_120 : D m0 120 (.iload 5) 2 122 := ⟨by decide +kernel, rfl⟩
theorem d0_122 : D m0 122 (.istore 10) 2 124 := ⟨by decide +kernel, rfl⟩
theorem d0_124 : D m0 124 (.iload 6) 2 126 := ⟨by decide +kernel, rfl⟩
theorem d0_126 : D m0 126 (.istore 5) 2 128 := ⟨by decide +kernel, rfl⟩
theorem d0_128 : D m0 128 (.iload 10) 2 130 := ⟨by decide +kernel, rfl⟩
theorem d0_130 : D m0 130 (.istore 6) 2 132 := ⟨by decide +kernel, rfl⟩
theorem d0_132 : D m0 132 (.iload 7) 2 134 := ⟨by decide +kernel, rfl⟩
theorem d0_134 : D m0 134 (.istore 10) 2 136 := ⟨by decide +kernel, rfl⟩
theorem d0_136 : D m0 136 (.iload 8) 2 138 := ⟨by decide +kernel, rfl⟩
theorem d0_138 : D m0 138 (.istore 7) 2 140 := ⟨by decide +kernel, rfl⟩
theorem d0_140 : D m0 140 (.iload 10) 2 142 := ⟨by decide +kernel, rfl⟩
theorem d0_142 : D m0 142 (.istore 8) 2 144 := ⟨by decide +kernel, rfl⟩
theorem d0_144 : D m0 144 (.iconst 3) 1 145 := ⟨by decide +kernel, rfl⟩
theorem d0_145 : D m0 145 (.newarray .int) 2 147 := ⟨by decide +kernel, rfl⟩
theorem d0_147 : D m0 147 (.astore 10) 2 149 := ⟨by decide +kernel, rfl⟩
theorem d0_149 : D m0 149 (.iconst 3) 1 150 := ⟨by decide +kernel, rfl⟩
theorem d0_150 : D m0 150 (.newarray .int) 2 152 := ⟨by decide +kernel, rfl⟩
theorem d0_152 : D m0 152 (.astore 11) 2 154 := ⟨by decide +kernel, rfl⟩
theorem d0_154 : D m0 154 (.iconst 3) 1 155 := ⟨by decide +kernel, rfl⟩
theorem d0_155 : D m0 155 (.newarray .int) 2 157 := ⟨by decide +kernel, rfl⟩
theorem d0_157 : D m0 157 (.astore 12) 2 159 := ⟨by decide +kernel, rfl⟩
theorem d0_159 : D m0 159 (.iconst 3) 1 160 := ⟨by decide +kernel, rfl⟩
theorem d0_160 : D m0 160 (.newarray .int) 2 162 := ⟨by decide +kernel, rfl⟩
theorem d0_162 : D m0 162 (.astore 13) 2 164 := ⟨by decide +kernel, rfl⟩
theorem d0_164 : D m0 164 (.new 8) 3 167 := ⟨by decide +kernel, rfl⟩
theorem d0_167 : D m0 167 (.dup) 1 168 := ⟨by decide +kernel, rfl⟩
theorem d0_168 : D m0 168 (.iconst 3) 1 169 := ⟨by decide +kernel, rfl⟩
theorem d0_169 : D m0 169 (.iconst 3) 1 170 := ⟨by decide +kernel, rfl⟩
theorem d0_170 : D m0 170 (.invokespecial 15) 3 173 := ⟨by decide +kernel, rfl⟩
theorem d0_173 : D m0 173 (.astore 14) 2 175 := ⟨by decide +kernel, rfl⟩
theorem d0_175 : D m0 175 (.aload 14) 2 177 := ⟨by decide +kernel, rfl⟩
theorem d0_177 : D m0 177 (.iload_n 3) 1 178 := ⟨by decide +kernel, rfl⟩
theorem d0_178 : D m0 178 (.invokevirtual 18) 3 181 := ⟨by decide +kernel, rfl⟩
theorem d0_181 : D m0 181 (.aload 14) 2 183 := ⟨by decide +kernel, rfl⟩
theorem d0_183 : D m0 183 (.iload 5) 2 185 := ⟨by decide +kernel, rfl⟩
theorem d0_185 : D m0 185 (.iload 7) 2 187 := ⟨by decide +kernel, rfl⟩
theorem d0_187 : D m0 187 (.aload 10) 2 189 := ⟨by decide +kernel, rfl⟩
theorem d0_189 : D m0 189 (.aload 11) 2 191 := ⟨by decide +kernel, rfl⟩
theorem d0_191 : D m0 191 (.invokestatic 22) 3 194 := ⟨by decide +kernel, rfl⟩
theorem d0_194 : D m0 194 (.istore 15) 2 196 := ⟨by decide +kernel, rfl⟩
theorem d0_196 : D m0 196 (.aload 14) 2 198 := ⟨by decide +kernel, rfl⟩
theorem d0_198 : D m0 198 (.iload 4) 2 200 := ⟨by decide +kernel, rfl⟩
theorem d0_200 : D m0 200 (.invokevirtual 18) 3 203 := ⟨by decide +kernel, rfl⟩
theorem d0_203 : D m0 203 (.aload 14) 2 205 := ⟨by decide +kernel, rfl⟩
theorem d0_205 : D m0 205 (.iload 6) 2 207 := ⟨by decide +kernel, rfl⟩
theorem d0_207 : D m0 207 (.iload 8) 2 209 := ⟨by decide +kernel, rfl⟩
theorem d0_209 : D m0 209 (.aload 12) 2 211 := ⟨by decide +kernel, rfl⟩
theorem d0_211 : D m0 211 (.aload 13) 2 213 := ⟨by decide +kernel, rfl⟩
theorem d0_213 : D m0 213 (.invokestatic 22) 3 216 := ⟨by decide +kernel, rfl⟩
theorem d0_216 : D m0 216 (.istore 16) 2 218 := ⟨by decide +kernel, rfl⟩
theorem d0_218 : D m0 218 (.iload 5) 2 220 := ⟨by decide +kernel, rfl⟩
theorem d0_220 : DB m0 220 (.ifCond .eq 12) 12 223 232 := ⟨by decide +kernel, rfl, by decide, by decide⟩
theorem d0_223 : D m0 223 (.iload 6) 2 225 := ⟨by decide +kernel, rfl⟩
theorem d0_225 : DB m0 225 (.ifCond .eq 7) 7 228 232 := ⟨by decide +kernel, rfl, by decide, by decide⟩
theorem d0_228 : D m0 228 (.iconst 1) 1 229 := ⟨by decide +kernel, rfl⟩
theorem d0_229 : DB m0 229 (.goto 4) 4 232 233 := ⟨by decide +kernel, rfl, by decide, by decide⟩
theorem d0_232 : D m0 232 (.iconst 0) 1 233 := ⟨by decide +kernel, rfl⟩
theorem d0_233 : D m0 233 (.istore 17) 2 235 := ⟨by decide +kernel, rfl⟩
theorem d0_235 : D m0 235 (.aload 14) 2 237 := ⟨by decide +kernel, rfl⟩
theorem d0_237 : D m0 237 (.aconst_null) 1 238 := ⟨by decide +kernel, rfl⟩
theorem d0_238 : D m0 238 (.invokevirtual 28) 3 241 := ⟨by decide +kernel, rfl⟩
theorem d0_241 : D m0 241 (.istore 18) 2 243 := ⟨by decide +kernel, rfl⟩
theorem d0_243 : D m0 243 (.iload 17) 2 245 := ⟨by decide +kernel, rfl⟩
theorem d0_245 : DB m0 245 (.ifCond .ne 14) 14 248 259 := ⟨by decide +kernel, rfl, by decide, by decide⟩
theorem d0_248 : D m0 248 (.iload 18) 2 250 := ⟨by decide +kernel, rfl⟩
theorem d0_250 : DB m0 250 (.ifCond .ne 7) 7 253 257 := ⟨by decide +kernel, rfl, by decide, by decide⟩
theorem d0_253 : D m0 253 (.iconst 1) 1 254 := ⟨by decide +kernel, rfl⟩
theorem d0_254 : DB m0 254 (.goto 4) 4 257 258 := ⟨by decide +kernel, rfl, by decide, by decide⟩
theorem d0_257 : D m0 257 (.iconst 0) 1 258 := ⟨by decide +kernel, rfl⟩
theorem d0_258 : D m0 258 (.ireturn) 1 259 := ⟨by decide +kernel, rfl⟩
theorem d0_259 : D m0 259 (.iload 18) 2 261 := ⟨by decide +kernel, rfl⟩
theorem d0_261 : DB m0 261 (.ifCond .ne 5) 5 264 266 := ⟨by decide +kernel, rfl, by decide, by decide⟩
theorem d0_264 : D m0 264 (.iconst 0) 1 265 := ⟨by decide +kernel, rfl⟩
theorem d0_265 : D m0 265 (.ireturn) 1 266 := ⟨by decide +kernel, rfl⟩
theorem d0_266 : D m0 266 (.aload 14) 2 268 := ⟨by decide +kernel, rfl⟩
theorem d0_268 : D m0 268 (.invokevirtual 32) 3 271 := ⟨by decide +kernel, rfl⟩
theorem d0_271 : D m0 271 (.iload_n 2) 1 272 := ⟨by decide +kernel, rfl⟩
theorem d0_272 : D m0 272 (.iconst 1) 1 273 := ⟨by decide +kernel, rfl⟩
theorem d0_273 : D m0 273 (.iand) 1 274 := ⟨by decide +kernel, rfl⟩
theorem d0_274 : DB m0 274 (.ifCond .eq 7) 7 277 281 := ⟨by decide +kernel, rfl, by decide, by decide⟩
theorem d0_277 : D m0 277 (.iconst 1) 1 278 := ⟨by decide +kernel, rfl⟩
theorem d0_278 : DB m0 278 (.goto 4) 4 281 282 := ⟨by decide +kernel, rfl, by decide, by decide⟩
theorem d0_281 : D m0 281 (.iconst 0) 1 282 := ⟨by decide +kernel, rfl⟩
theorem d0_282 : D m0 282 (.istore 19) 2 284 := ⟨by decide +kernel, rfl⟩
theorem d0_284 : D m0 284 (.iload 19) 2 286 := ⟨by decide +kernel, rfl⟩
theorem d0_286 : DB m0 286 (.ifCond .eq 8) 8 289 294 := ⟨by decide +kernel, rfl, by decide, by decide⟩
theorem d0_289 : D m0 289 (.iload 16) 2 291 := ⟨by decide +kernel, rfl⟩
theorem d0_291 : DB m0 291 (.goto 5) 5 294 296 := ⟨by decide +kernel, rfl, by decide, by decide⟩
theorem d0_294 : D m0 294 (.iload 15) 2 296 := ⟨by decide +kernel, rfl⟩
theorem d0_296 : D m0 296 (.istore 20) 2 298 := ⟨by decide +kernel, rfl⟩
theorem d0_298 : D m0 298 (.iload_n 2) 1 299 := ⟨by decide +kernel, rfl⟩
theorem d0_299 : D m0 299 (.iconst 1) 1 300 := ⟨by decide +kernel, rfl⟩
theorem d0_300 : D m0 300 (.iushr) 1 301 := ⟨by decide +kernel, rfl⟩
theorem d0_301 : D m0 301 (.iload 20) 2 303 := ⟨by decide +kernel, rfl⟩
theorem d0_303 : D m0 303 (.irem) 1 304 := ⟨by decide +kernel, rfl⟩
theorem d0_304 : D m0 304 (.istore 21) 2 306 := ⟨by decide +kernel, rfl⟩
theorem d0_306 : D m0 306 (.iload 19) 2 308 := ⟨by decide +kernel, rfl⟩
theorem d0_308 : DB m0 308 (.ifCond .eq 8) 8 311 316 := ⟨by decide +kernel, rfl, by decide, by decide⟩
theorem d0_311 : D m0 311 (.iload 4) 2 313 := ⟨by decide +kernel, rfl⟩
theorem d0_313 : DB m0 313 (.goto 4) 4 316 317 := ⟨by decide +kernel, rfl, by decide, by decide⟩
theorem d0_316 : D m0 316 (.iload_n 3) 1 317 := ⟨by decide +kernel, rfl⟩
theorem d0_317 : D m0 317 (.istore 22) 2 319 := ⟨by decide +kernel, rfl⟩
theorem d0_319 : D m0 319 (.iload 19) 2 321 := ⟨by decide +kernel, rfl⟩
theorem d0_321 : DB m0 321 (.ifCond .eq 11) 11 324 332 := ⟨by decide +kernel, rfl, by decide, by decide⟩
theorem d0_324 : D m0 324 (.aload 12) 2 326 := ⟨by decide +kernel, rfl⟩
theorem d0_326 : D m0 326 (.iload 21) 2 328 := ⟨by decide +kernel, rfl⟩
theorem d0_328 : D m0 328 (.iaload) 1 329 := ⟨by decide +kernel, rfl⟩
theorem d0_329 : DB m0 329 (.goto 8) 8 332 337 := ⟨by decide +kernel, rfl, by decide, by decide⟩
theorem d0_332 : D m0 332 (.aload 10) 2 334 := ⟨by decide +kernel, rfl⟩
theorem d0_334 : D m0 334 (.iload 21) 2 336 := ⟨by decide +kernel, rfl⟩
theorem d0_336 : D m0 336 (.iaload) 1 337 := ⟨by decide +kernel, rfl⟩
theorem d0_337 : D m0 337 (.istore 23) 2 339 := ⟨by decide +kernel, rfl⟩
theorem d0_339 : D m0 339 (.iload 19) 2 341 := ⟨by decide +kernel, rfl⟩
theorem d0_341 : DB m0 341 (.ifCond .eq 11) 11 344 352 := ⟨by decide +kernel, rfl, by decide, by decide⟩
theorem d0_344 : D m0 344 (.aload 13) 2 346 := ⟨by decide +kernel, rfl⟩
theorem d0_346 : D m0 346 (.iload 21) 2 348 := ⟨by decide +kernel, rfl⟩
theorem d0_348 : D m0 348 (.iaload) 1 349 := ⟨by decide +kernel, rfl⟩
theorem d0_349 : DB m0 349 (.goto 8) 8 352 357 := ⟨by decide +kernel, rfl, by decide, by decide⟩
theorem d0_352 : D m0 352 (.aload 11) 2 354 := ⟨by decide +kernel, rfl⟩
theorem d0_354 : D m0 354 (.iload 21) 2 356 := ⟨by decide +kernel, rfl⟩
theorem d0_356 : D m0 356 (.iaload) 1 357 := ⟨by decide +kernel, rfl⟩
theorem d0_357 : D m0 357 (.istore 24) 2 359 := ⟨by decide +kernel, rfl⟩
theorem d0_359 : D m0 359 (.iload 19) 2 361 := ⟨by decide +kernel, rfl⟩
theorem d0_361 : DB m0 361 (.ifCond .eq 8) 8 364 369 := ⟨by decide +kernel, rfl, by decide, by decide⟩
theorem d0_364 : D m0 364 (.iload 5) 2 366 := ⟨by decide +kernel, rfl⟩
theorem d0_366 : DB m0 366 (.goto 5) 5 369 371 := ⟨by decide +kernel, rfl, by decide, by decide⟩
theorem d0_369 : D m0 369 (.iload 6) 2 371 := ⟨by decide +kernel, rfl⟩
theorem d0_371 : D m0 371 (.istore 25) 2 373 := ⟨by decide +kernel, rfl⟩
theorem d0_373 : D m0 373 (.iload 25) 2 375 := ⟨by decide +kernel, rfl⟩
theorem d0_375 : D m0 375 (.iconst 1) 1 376 := ⟨by decide +kernel, rfl⟩
theorem d0_376 : D m0 376 (.iload 23) 2 378 := ⟨by decide +kernel, rfl⟩
theorem d0_378 : D m0 378 (.ishl) 1 379 := ⟨by decide +kernel, rfl⟩
theorem d0_379 : D m0 379 (.iconst (-1)) 1 380 := ⟨by decide +kernel, rfl⟩
theorem d0_380 : D m0 380 (.ixor) 1 381 := ⟨by decide +kernel, rfl⟩
theorem d0_381 : D m0 381 (.iand) 1 382 := ⟨by decide +kernel, rfl⟩
theorem d0_382 : DB m0 382 (.ifCond .eq 7) 7 385 389 := ⟨by decide +kernel, rfl, by decide, by decide⟩
theorem d0_385 : D m0 385 (.iconst 1) 1 386 := ⟨by decide +kernel, rfl⟩
theorem d0_386 : DB m0 386 (.goto 4) 4 389 390 := ⟨by decide +kernel, rfl, by decide, by decide⟩
theorem d0_389 : D m0 389 (.iconst 0) 1 390 := ⟨by decide +kernel, rfl⟩
theorem d0_390 : D m0 390 (.istore 26) 2 392 := ⟨by decide +kernel, rfl⟩
theorem d0_392 : D m0 392 (.aload 14) 2 394 := ⟨by decide +kernel, rfl⟩
theorem d0_394 : D m0 394 (.iload 22) 2 396 := ⟨by decide +kernel, rfl⟩
theorem d0_396 : D m0 396 (.iload 24) 2 398 := ⟨by decide +kernel, rfl⟩
theorem d0_398 : D m0 398 (.invokevirtual 35) 3 401 := ⟨by decide +kernel, rfl⟩
theorem d0_401 : D m0 401 (.iload 26) 2 403 := ⟨by decide +kernel, rfl⟩
theorem d0_403 : DB m0 403 (.if_icmp .ne 7) 7 406 410 := ⟨by decide +kernel, rfl, by decide, by decide⟩
theorem d0_406 : D m0 406 (.iconst 1) 1 407 := ⟨by decide +kernel, rfl⟩
theorem d0_407 : DB m0 407 (.goto 4) 4 410 411 := ⟨by decide +kernel, rfl, by decide, by decide⟩
theorem d0_410 : D m0 410 (.iconst 0) 1 411 := ⟨by decide +kernel, rfl⟩
theorem d0_411 : D m0 411 (.ireturn) 1 412 := ⟨by decide +kernel, rfl⟩
theorem d1_0 : D m1 0 (.aload_n 0) 1 1 := ⟨by decide +kernel, rfl⟩
theorem d1_1 : D m1 1 (.invokespecial 1) 3 4 := ⟨by decide +kernel, rfl⟩
theorem d1_4 : D m1 4 (.aload_n 0) 1 5 := ⟨by decide +kernel, rfl⟩
theorem d1_5 : D m1 5 (.iload_n 1) 1 6 := ⟨by decide +kernel, rfl⟩
theorem d1_6 : D m1 6 (.putfield 7) 3 9 := ⟨by decide +kernel, rfl⟩
theorem d1_9 : D m1 9 (.aload_n 0) 1 10 := ⟨by decide +kernel, rfl⟩
theorem d1_10 : D m1 10 (.iload_n 2) 1 11 := ⟨by decide +kernel, rfl⟩
theorem d1_11 : D m1 11 (.putfield 13) 3 14 := ⟨by decide +kernel, rfl⟩
theorem d1_14 : D m1 14 (.aload_n 0) 1 15 := ⟨by decide +kernel, rfl⟩
theorem d1_15 : D m1 15 (.iload_n 1) 1 16 := ⟨by decide +kernel, rfl⟩
theorem d1_16 : D m1 16 (.newarray .int) 2 18 := ⟨by decide +kernel, rfl⟩
theorem d1_18 : D m1 18 (.putfield 16) 3 21 := ⟨by decide +kernel, rfl⟩
theorem d1_21 : D m1 21 (.aload_n 0) 1 22 := ⟨by decide +kernel, rfl⟩
theorem d1_22 : D m1 22 (.iload_n 2) 1 23 := ⟨by decide +kernel, rfl⟩
theorem d1_23 : D m1 23 (.newarray .int) 2 25 := ⟨by decide +kernel, rfl⟩
theorem d1_25 : D m1 25 (.putfield 20) 3 28 := ⟨by decide +kernel, rfl⟩
theorem d1_28 : D m1 28 (.aload_n 0) 1 29 := ⟨by decide +kernel, rfl⟩
theorem d1_29 : D m1 29 (.getfield 16) 3 32 := ⟨by decide +kernel, rfl⟩
theorem d1_32 : D m1 32 (.iconst (-1)) 1 33 := ⟨by decide +kernel, rfl⟩
theorem d1_33 : D m1 33 (.invokestatic 23) 3 36 := ⟨by decide +kernel, rfl⟩
theorem d1_36 : D m1 36 (.aload_n 0) 1 37 := ⟨by decide +kernel, rfl⟩
theorem d1_37 : D m1 37 (.getfield 20) 3 40 := ⟨by decide +kernel, rfl⟩
theorem d1_40 : D m1 40 (.iconst (-1)) 1 41 := ⟨by decide +kernel, rfl⟩
theorem d1_41 : D m1 41 (.invokestatic 23) 3 44 := ⟨by decide +kernel, rfl⟩
theorem d1_44 : D m1 44 (.aload_n 0) 1 45 := ⟨by decide +kernel, rfl⟩
theorem d1_45 : D m1 45 (.iload_n 1) 1 46 := ⟨by decide +kernel, rfl⟩
theorem d1_46 : D m1 46 (.newarray .int) 2 48 := ⟨by decide +kernel, rfl⟩
theorem d1_48 : D m1 48 (.putfield 29) 3 51 := ⟨by decide +kernel, rfl⟩
theorem d1_51 : D m1 51 (.aload_n 0) 1 52 := ⟨by decide +kernel, rfl⟩
theorem d1_52 : D m1 52 (.iload_n 1) 1 53 := ⟨by decide +kernel, rfl⟩
theorem d1_53 : D m1 53 (.newarray .int) 2 55 := ⟨by decide +kernel, rfl⟩
theorem d1_55 : D m1 55 (.putfield 32) 3 58 := ⟨by decide +kernel, rfl⟩
theorem d1_58 : D m1 58 (.aload_n 0) 1 59 := ⟨by decide +kernel, rfl⟩
theorem d1_59 : D m1 59 (.iload_n 1) 1 60 := ⟨by decide +kernel, rfl⟩
theorem d1_60 : D m1 60 (.newarray .int) 2 62 := ⟨by decide +kernel, rfl⟩
theorem d1_62 : D m1 62 (.putfield 35) 3 65 := ⟨by decide +kernel, rfl⟩
theorem d1_65 : D m1 65 (.aload_n 0) 1 66 := ⟨by decide +kernel, rfl⟩
theorem d1_66 : D m1 66 (.bipush 16) 2 68 := ⟨by decide +kernel, rfl⟩
theorem d1_68 : D m1 68 (.iload_n 1) 1 69 := ⟨by decide +kernel, rfl⟩
theorem d1_69 : D m1 69 (.invokestatic 38) 3 72 := ⟨by decide +kernel, rfl⟩
theorem d1_72 : D m1 72 (.newarray .int) 2 74 := ⟨by decide +kernel, rfl⟩
theorem d1_74 : D m1 74 (.putfield 44) 3 77 := ⟨by decide +kernel, rfl⟩
theorem d1_77 : D m1 77 (.aload_n 0) 1 78 := ⟨by decide +kernel, rfl⟩
theorem d1_78 : D m1 78 (.iload_n 1) 1 79 := ⟨by decide +kernel, rfl⟩
theorem d1_79 : D m1 79 (.newarray .boolean) 2 81 := ⟨by decide +kernel, rfl⟩
theorem d1_81 : D m1 81 (.putfield 47) 3 84 := ⟨by decide +kernel, rfl⟩
theorem d1_84 : D m1 84 (.aload_n 0) 1 85 := ⟨by decide +kernel, rfl⟩
theorem d1_85 : D m1 85 (.iload_n 2) 1 86 := ⟨by decide +kernel, rfl⟩
theorem d1_86 : D m1 86 (.newarray .int) 2 88 := ⟨by decide +kernel, rfl⟩
theorem d1_88 : D m1 88 (.putfield 51) 3 91 := ⟨by decide +kernel, rfl⟩
theorem d1_91 : D m1 91 (.aload_n 0) 1 92 := ⟨by decide +kernel, rfl⟩
theorem d1_92 : D m1 92 (.iload_n 1) 1 93 := ⟨by decide +kernel, rfl⟩
theorem d1_93 : D m1 93 (.newarray .int) 2 95 := ⟨by decide +kernel, rfl⟩
theorem d1_95 : D m1 95 (.putfield 54) 3 98 := ⟨by decide +kernel, rfl⟩
theorem d1_98 : D m1 98 (.aload_n 0) 1 99 := ⟨by decide +kernel, rfl⟩
theorem d1_99 : D m1 99 (.iload_n 1) 1 100 := ⟨by decide +kernel, rfl⟩
theorem d1_100 : D m1 100 (.newarray .int) 2 102 := ⟨by decide +kernel, rfl⟩
theorem d1_102 : D m1 102 (.putfield 57) 3 105 := ⟨by decide +kernel, rfl⟩
theorem d1_105 : D m1 105 (.aload_n 0) 1 106 := ⟨by decide +kernel, rfl⟩
theorem d1_106 : D m1 106 (.iload_n 1) 1 107 := ⟨by decide +kernel, rfl⟩
theorem d1_107 : D m1 107 (.newarray .int) 2 109 := ⟨by decide +kernel, rfl⟩
theorem d1_109 : D m1 109 (.putfield 60) 3 112 := ⟨by decide +kernel, rfl⟩
theorem d1_112 : D m1 112 (.aload_n 0) 1 113 := ⟨by decide +kernel, rfl⟩
theorem d1_113 : D m1 113 (.iload_n 1) 1 114 := ⟨by decide +kernel, rfl⟩
theorem d1_114 : D m1 114 (.iconst 1) 1 115 := ⟨by decide +kernel, rfl⟩
theorem d1_115 : D m1 115 (.iadd) 1 116 := ⟨by decide +kernel, rfl⟩
theorem d1_116 : D m1 116 (.newarray .int) 2 118 := ⟨by decide +kernel, rfl⟩
theorem d1_118 : D m1 118 (.putfield 63) 3 121 := ⟨by decide +kernel, rfl⟩
theorem d1_121 : D m1 121 (.iload_n 1) 1 122 := ⟨by decide +kernel, rfl⟩
theorem d1_122 : D m1 122 (.iload_n 2) 1 123 := ⟨by decide +kernel, rfl⟩
theorem d1_123 : D m1 123 (.iadd) 1 124 := ⟨by decide +kernel, rfl⟩
theorem d1_124 : D m1 124 (.iconst 1) 1 125 := ⟨by decide +kernel, rfl⟩
theorem d1_125 : D m1 125 (.iadd) 1 126 := ⟨by decide +kernel, rfl⟩
theorem d1_126 : D m1 126 (.istore_n 3) 1 127 := ⟨by decide +kernel, rfl⟩
theorem d1_127 : D m1 127 (.aload_n 0) 1 128 := ⟨by decide +kernel, rfl⟩
theorem d1_128 : D m1 128 (.iload_n 3) 1 129 := ⟨by decide +kernel, rfl⟩
theorem d1_129 : D m1 129 (.newarray .int) 2 131 := ⟨by decide +kernel, rfl⟩
theorem d1_131 : D m1 131 (.putfield 66) 3 134 := ⟨by decide +kernel, rfl⟩
theorem d1_134 : D m1 134 (.aload_n 0) 1 135 := ⟨by decide +kernel, rfl⟩
theorem d1_135 : D m1 135 (.iload_n 3) 1 136 := ⟨by decide +kernel, rfl⟩
theorem d1_136 : D m1 136 (.newarray .int) 2 138 := ⟨by decide +kernel, rfl⟩
theorem d1_138 : D m1 138 (.putfield 69) 3 141 := ⟨by decide +kernel, rfl⟩
theorem d1_141 : D m1 141 (.aload_n 0) 1 142 := ⟨by decide +kernel, rfl⟩
theorem d1_142 : D m1 142 (.iload_n 3) 1 143 := ⟨by decide +kernel, rfl⟩
theorem d1_143 : D m1 143 (.newarray .int) 2 145 := ⟨by decide +kernel, rfl⟩
theorem d1_145 : D m1 145 (.putfield 72) 3 148 := ⟨by decide +kernel, rfl⟩
theorem d1_148 : D m1 148 (.aload_n 0) 1 149 := ⟨by decide +kernel, rfl⟩
theorem d1_149 : D m1 149 (.iload_n 3) 1 150 := ⟨by decide +kernel, rfl⟩
theorem d1_150 : D m1 150 (.newarray .int) 2 152 := ⟨by decide +kernel, rfl⟩
theorem d1_152 : D m1 152 (.putfield 75) 3 155 := ⟨by decide +kernel, rfl⟩
theorem d1_155 : D m1 155 (.aload_n 0) 1 156 := ⟨by decide +kernel, rfl⟩
theorem d1_156 : D m1 156 (.iload_n 3) 1 157 := ⟨by decide +kernel, rfl⟩
theorem d1_157 : D m1 157 (.newarray .boolean) 2 159 := ⟨by decide +kernel, rfl⟩
theorem d1_159 : D m1 159 (.putfield 78) 3 162 := ⟨by decide +kernel, rfl⟩
theorem d1_162 : D m1 162 (.aload_n 0) 1 163 := ⟨by decide +kernel, rfl⟩
theorem d1_163 : D m1 163 (.iload_n 3) 1 164 := ⟨by decide +kernel, rfl⟩
theorem d1_164 : D m1 164 (.newarray .int) 2 166 := ⟨by decide +kernel, rfl⟩
theorem d1_166 : D m1 166 (.putfield 81) 3 169 := ⟨by decide +kernel, rfl⟩
theorem d1_169 : D m1 169 (.aload_n 0) 1 170 := ⟨by decide +kernel, rfl⟩
theorem d1_170 : D m1 170 (.iload_n 3) 1 171 := ⟨by decide +kernel, rfl⟩
theorem d1_171 : D m1 171 (.newarray .int) 2 173 := ⟨by decide +kernel, rfl⟩
theorem d1_173 : D m1 173 (.putfield 84) 3 176 := ⟨by decide +kernel, rfl⟩
theorem d1_176 : D m1 176 (.aload_n 0) 1 177 := ⟨by decide +kernel, rfl⟩
theorem d1_177 : D m1 177 (.iload_n 3) 1 178 := ⟨by decide +kernel, rfl⟩
theorem d1_178 : D m1 178 (.newarray .int) 2 180 := ⟨by decide +kernel, rfl⟩
theorem d1_180 : D m1 180 (.putfield 87) 3 183 := ⟨by decide +kernel, rfl⟩
theorem d1_183 : D m1 183 (.return_) 1 184 := ⟨by decide +kernel, rfl⟩
theorem d3_0 : D m3 0 (.iconst 0) 1 1 := ⟨by decide +kernel, rfl⟩
theorem d3_1 : D m3 1 (.istore_n 2) 1 2 := ⟨by decide +kernel, rfl⟩
theorem d3_2 : D m3 2 (.aload_n 0) 1 3 := ⟨by decide +kernel, rfl⟩
theorem d3_3 : D m3 3 (.arraylength) 1 4 := ⟨by decide +kernel, rfl⟩
theorem d3_4 : D m3 4 (.istore_n 3) 1 5 := ⟨by decide +kernel, rfl⟩
theorem d3_5 : D m3 5 (.iload_n 2) 1 6 := ⟨by decide +kernel, rfl⟩
theorem d3_6 : D m3 6 (.iload_n 3) 1 7 := ⟨by decide +kernel, rfl⟩
theorem d3_7 : DB m3 7 (.if_icmp .ge 13) 13 10 20 := ⟨by decide +kernel, rfl, by decide, by decide⟩
theorem d3_10 : D m3 10 (.aload_n 0) 1 11 := ⟨by decide +kernel, rfl⟩
theorem d3_11 : D m3 11 (.iload_n 2) 1 12 := ⟨by decide +kernel, rfl⟩
theorem d3_12 : D m3 12 (.iload_n 1) 1 13 := ⟨by decide +kernel, rfl⟩
theorem d3_13 : D m3 13 (.iastore) 1 14 := ⟨by decide +kernel, rfl⟩
theorem d3_14 : D m3 14 (.iinc 2 1) 3 17 := ⟨by decide +kernel, rfl⟩
theorem d3_17 : DB m3 17 (.goto (-12)) (-12) 20 5 := ⟨by decide +kernel, rfl, by decide, by decide⟩
theorem d3_20 : D m3 20 (.return_) 1 21 := ⟨by decide +kernel, rfl⟩
theorem d4_0 : D m4 0 (.iload_n 0) 1 1 := ⟨by decide +kernel, rfl⟩
theorem d4_1 : D m4 1 (.iload_n 1) 1 2 := ⟨by decide +kernel, rfl⟩
theorem d4_2 : DB m4 2 (.if_icmp .lt 7) 7 5 9 := ⟨by decide +kernel, rfl, by decide, by decide⟩
theorem d4_5 : D m4 5 (.iload_n 0) 1 6 := ⟨by decide +kernel, rfl⟩
theorem d4_6 : DB m4 6 (.goto 4) 4 9 10 := ⟨by decide +kernel, rfl, by decide, by decide⟩
theorem d4_9 : D m4 9 (.iload_n 1) 1 10 := ⟨by decide +kernel, rfl⟩
theorem d4_10 : D m4 10 (.ireturn) 1 11 := ⟨by decide +kernel, rfl⟩
theorem d5_0 : D m5 0 (.aload_n 0) 1 1 := ⟨by decide +kernel, rfl⟩
theorem d5_1 : D m5 1 (.getfield 29) 3 4 := ⟨by decide +kernel, rfl⟩
theorem d5_4 : D m5 4 (.aload_n 0) 1 5 := ⟨by decide +kernel, rfl⟩
theorem d5_5 : D m5 5 (.dup) 1 6 := ⟨by decide +kernel, rfl⟩
theorem d5_6 : D m5 6 (.getfield 90) 3 9 := ⟨by decide +kernel, rfl⟩
theorem d5_9 : D m5 9 (.dup_x1) 1 10 := ⟨by decide +kernel, rfl⟩
theorem d5_10 : D m5 10 (.iconst 1) 1 11 := ⟨by decide +kernel, rfl⟩
theorem d5_11 : D m5 11 (.iadd) 1 12 := ⟨by decide +kernel, rfl⟩
theorem d5_12 : D m5 12 (.putfield 90) 3 15 := ⟨by decide +kernel, rfl⟩
theorem d5_15 : D m5 15 (.iload_n 1) 1 16 := ⟨by decide +kernel, rfl⟩
theorem d5_16 : D m5 16 (.iastore) 1 17 := ⟨by decide +kernel, rfl⟩
theorem d5_17 : D m5 17 (.aload_n 0) 1 18 := ⟨by decide +kernel, rfl⟩
theorem d5_18 : D m5 18 (.getfield 32) 3 21 := ⟨by decide +kernel, rfl⟩
theorem d5_21 : D m5 21 (.iload_n 1) 1 22 := ⟨by decide +kernel, rfl⟩
theorem d5_22 : D m5 22 (.aload_n 0) 1 23 := ⟨by decide +kernel, rfl⟩
theorem d5_23 : D m5 23 (.getfield 93) 3 26 := ⟨by decide +kernel, rfl⟩
theorem d5_26 : D m5 26 (.iastore) 1 27 := ⟨by decide +kernel, rfl⟩
theorem d5_27 : D m5 27 (.aload_n 0) 1 28 := ⟨by decide +kernel, rfl⟩
theorem d5_28 : D m5 28 (.getfield 35) 3 31 := ⟨by decide +kernel, rfl⟩
theorem d5_31 : D m5 31 (.iload_n 1) 1 32 := ⟨by decide +kernel, rfl⟩
theorem d5_32 : D m5 32 (.aload_n 0) 1 33 := ⟨by decide +kernel, rfl⟩
theorem d5_33 : D m5 33 (.getfield 93) 3 36 := ⟨by decide +kernel, rfl⟩
theorem d5_36 : D m5 36 (.iastore) 1 37 := ⟨by decide +kernel, rfl⟩
theorem d5_37 : D m5 37 (.aload_n 0) 1 38 := ⟨by decide +kernel, rfl⟩
theorem d5_38 : D m5 38 (.getfield 47) 3 41 := ⟨by decide +kernel, rfl⟩
theorem d5_41 : D m5 41 (.iload_n 1) 1 42 := ⟨by decide +kernel, rfl⟩
theorem d5_42 : D m5 42 (.iconst 0) 1 43 := ⟨by decide +kernel, rfl⟩
theorem d5_43 : D m5 43 (.bastore) 1 44 := ⟨by decide +kernel, rfl⟩
theorem d5_44 : D m5 44 (.return_) 1 45 := ⟨by decide +kernel, rfl⟩
theorem d6_0 : D m6 0 (.iconst 0) 1 1 := ⟨by decide +kernel, rfl⟩
theorem d6_1 : D m6 1 (.istore 5) 2 3 := ⟨by decide +kernel, rfl⟩
theorem d6_3 : D m6 3 (.iload_n 2) 1 4 := ⟨by decide +kernel, rfl⟩
theorem d6_4 : D m6 4 (.istore 6) 2 6 := ⟨by decide +kernel, rfl⟩
theorem d6_6 : D m6 6 (.iload_n 1) 1 7 := ⟨by decide +kernel, rfl⟩
theorem d6_7 : D m6 7 (.iload 6) 2 9 := ⟨by decide +kernel, rfl⟩
theorem d6_9 : D m6 9 (.iushr) 1 10 := ⟨by decide +kernel, rfl⟩
theorem d6_10 : D m6 10 (.iconst 1) 1 11 := ⟨by decide +kernel, rfl⟩
theorem d6_11 : D m6 11 (.iand) 1 12 := ⟨by decide +kernel, rfl⟩
theorem d6_12 : DB m6 12 (.ifCond .eq 23) 23 15 35 := ⟨by decide +kernel, rfl, by decide, by decide⟩
theorem d6_15 : D m6 15 (.aload 4) 2 17 := ⟨by decide +kernel, rfl⟩
theorem d6_17 : D m6 17 (.iload 5) 2 19 := ⟨by decide +kernel, rfl⟩
theorem d6_19 : D m6 19 (.aload_n 0) 1 20 := ⟨by decide +kernel, rfl⟩
theorem d6_20 : D m6 20 (.iload 6) 2 22 := ⟨by decide +kernel, rfl⟩
theorem d6_22 : D m6 22 (.invokevirtual 7) 3 25 := ⟨by decide +kernel, rfl⟩
theorem d6_25 : D m6 25 (.iastore) 1 26 := ⟨by decide +kernel, rfl⟩
theorem d6_26 : D m6 26 (.aload_n 3) 1 27 := ⟨by decide +kernel, rfl⟩
theorem d6_27 : D m6 27 (.iload 5) 2 29 := ⟨by decide +kernel, rfl⟩
theorem d6_29 : D m6 29 (.iload 6) 2 31 := ⟨by decide +kernel, rfl⟩
theorem d6_31 : D m6 31 (.iastore) 1 32 := ⟨by decide +kernel, rfl⟩
theorem d6_32 : D m6 32 (.iinc 5 1) 3 35 := ⟨by decide +kernel, rfl⟩
theorem d6_35 : D m6 35 (.iload_n 2) 1 36 := ⟨by decide +kernel, rfl⟩
theorem d6_36 : D m6 36 (.iconst 1) 1 37 := ⟨by decide +kernel, rfl⟩
theorem d6_37 : D m6 37 (.iadd) 1 38 := ⟨by decide +kernel, rfl⟩
theorem d6_38 : D m6 38 (.iconst 3) 1 39 := ⟨by decide +kernel, rfl⟩
theorem d6_39 : D m6 39 (.irem) 1 40 := ⟨by decide +kernel, rfl⟩
theorem d6_40 : D m6 40 (.istore 7) 2 42 := ⟨by decide +kernel, rfl⟩
theorem d6_42 : D m6 42 (.iload_n 1) 1 43 := ⟨by decide +kernel, rfl⟩
theorem d6_43 : D m6 43 (.iload 7) 2 45 := ⟨by decide +kernel, rfl⟩
theorem d6_45 : D m6 45 (.iushr) 1 46 := ⟨by decide +kernel, rfl⟩
theorem d6_46 : D m6 46 (.iconst 1) 1 47 := ⟨by decide +kernel, rfl⟩
theorem d6_47 : D m6 47 (.iand) 1 48 := ⟨by decide +kernel, rfl⟩
theorem d6_48 : DB m6 48 (.ifCond .eq 23) 23 51 71 := ⟨by decide +kernel, rfl, by decide, by decide⟩
theorem d6_51 : D m6 51 (.aload 4) 2 53 := ⟨by decide +kernel, rfl⟩
theorem d6_53 : D m6 53 (.iload 5) 2 55 := ⟨by decide +kernel, rfl⟩
theorem d6_55 : D m6 55 (.aload_n 0) 1 56 := ⟨by decide +kernel, rfl⟩
theorem d6_56 : D m6 56 (.iload 7) 2 58 := ⟨by decide +kernel, rfl⟩
theorem d6_58 : D m6 58 (.invokevirtual 7) 3 61 := ⟨by decide +kernel, rfl⟩
theorem d6_61 : D m6 61 (.iastore) 1 62 := ⟨by decide +kernel, rfl⟩
theorem d6_62 : D m6 62 (.aload_n 3) 1 63 := ⟨by decide +kernel, rfl⟩
theorem d6_63 : D m6 63 (.iload 5) 2 65 := ⟨by decide +kernel, rfl⟩
theorem d6_65 : D m6 65 (.iload 7) 2 67 := ⟨by decide +kernel, rfl⟩
theorem d6_67 : D m6 67 (.iastore) 1 68 := ⟨by decide +kernel, rfl⟩
theorem d6_68 : D m6 68 (.iinc 5 1) 3 71 := ⟨by decide +kernel, rfl⟩
theorem d6_71 : D m6 71 (.iload_n 2) 1 72 := ⟨by decide +kernel, rfl⟩
theorem d6_72 : D m6 72 (.iconst 2) 1 73 := ⟨by decide +kernel, rfl⟩
theorem d6_73 : D m6 73 (.iadd) 1 74 := ⟨by decide +kernel, rfl⟩
theorem d6_74 : D m6 74 (.iconst 3) 1 75 := ⟨by decide +kernel, rfl⟩
theorem d6_75 : D m6 75 (.irem) 1 76 := ⟨by decide +kernel, rfl⟩
theorem d6_76 : D m6 76 (.istore 8) 2 78 := ⟨by decide +kernel, rfl⟩
theorem d6_78 : D m6 78 (.iload_n 1) 1 79 := ⟨by decide +kernel, rfl⟩
theorem d6_79 : D m6 79 (.iload 8) 2 81 := ⟨by decide +kernel, rfl⟩
theorem d6_81 : D m6 81 (.iushr) 1 82 := ⟨by decide +kernel, rfl⟩
theorem d6_82 : D m6 82 (.iconst 1) 1 83 := ⟨by decide +kernel, rfl⟩
theorem d6_83 : D m6 83 (.iand) 1 84 := ⟨by decide +kernel, rfl⟩
theorem d6_84 : DB m6 84 (.ifCond .eq 23) 23 87 107 := ⟨by decide +kernel, rfl, by decide, by decide⟩
theorem d6_87 : D m6 87 (.aload 4) 2 89 := ⟨by decide +kernel, rfl⟩
theorem d6_89 : D m6 89 (.iload 5) 2 91 := ⟨by decide +kernel, rfl⟩
theorem d6_91 : D m6 91 (.aload_n 0) 1 92 := ⟨by decide +kernel, rfl⟩
theorem d6_92 : D m6 92 (.iload 8) 2 94 := ⟨by decide +kernel, rfl⟩
theorem d6_94 : D m6 94 (.invokevirtual 7) 3 97 := ⟨by decide +kernel, rfl⟩
theorem d6_97 : D m6 97 (.iastore) 1 98 := ⟨by decide +kernel, rfl⟩
theorem d6_98 : D m6 98 (.aload_n 3) 1 99 := ⟨by decide +kernel, rfl⟩
theorem d6_99 : D m6 99 (.iload 5) 2 101 := ⟨by decide +kernel, rfl⟩
theorem d6_101 : D m6 101 (.iload 8) 2 103 := ⟨by decide +kernel, rfl⟩
theorem d6_103 : D m6 103 (.iastore) 1 104 := ⟨by decide +kernel, rfl⟩
theorem d6_104 : D m6 104 (.iinc 5 1) 3 107 := ⟨by decide +kernel, rfl⟩
theorem d6_107 : D m6 107 (.iload 5) 2 109 := ⟨by decide +kernel, rfl⟩
theorem d6_109 : D m6 109 (.ireturn) 1 110 := ⟨by decide +kernel, rfl⟩
theorem d7_0 : D m7 0 (.aload_n 0) 1 1 := ⟨by decide +kernel, rfl⟩
theorem d7_1 : D m7 1 (.getfield 93) 3 4 := ⟨by decide +kernel, rfl⟩
theorem d7_4 : D m7 4 (.aload_n 0) 1 5 := ⟨by decide +kernel, rfl⟩
theorem d7_5 : D m7 5 (.getfield 44) 3 8 := ⟨by decide +kernel, rfl⟩
theorem d7_8 : D m7 8 (.arraylength) 1 9 := ⟨by decide +kernel, rfl⟩
theorem d7_9 : DB m7 9 (.if_icmp .ne 20) 20 12 29 := ⟨by decide +kernel, rfl, by decide, by decide⟩
theorem d7_12 : D m7 12 (.aload_n 0) 1 13 := ⟨by decide +kernel, rfl⟩
theorem d7_13 : D m7 13 (.aload_n 0) 1 14 := ⟨by decide +kernel, rfl⟩
theorem d7_14 : D m7 14 (.getfield 44) 3 17 := ⟨by decide +kernel, rfl⟩
theorem d7_17 : D m7 17 (.iconst 2) 1 18 := ⟨by decide +kernel, rfl⟩
theorem d7_18 : D m7 18 (.aload_n 0) 1 19 := ⟨by decide +kernel, rfl⟩
theorem d7_19 : D m7 19 (.getfield 93) 3 22 := ⟨by decide +kernel, rfl⟩
theorem d7_22 : D m7 22 (.imul) 1 23 := ⟨by decide +kernel, rfl⟩
theorem d7_23 : D m7 23 (.invokestatic 96) 3 26 := ⟨by decide +kernel, rfl⟩
theorem d7_26 : D m7 26 (.putfield 44) 3 29 := ⟨by decide +kernel, rfl⟩
theorem d7_29 : D m7 29 (.aload_n 0) 1 30 := ⟨by decide +kernel, rfl⟩
theorem d7_30 : D m7 30 (.getfield 29) 3 33 := ⟨by decide +kernel, rfl⟩
theorem d7_33 : D m7 33 (.aload_n 0) 1 34 := ⟨by decide +kernel, rfl⟩
theorem d7_34 : D m7 34 (.getfield 90) 3 37 := ⟨by decide +kernel, rfl⟩
theorem d7_37 : D m7 37 (.iconst 1) 1 38 := ⟨by decide +kernel, rfl⟩
theorem d7_38 : D m7 38 (.isub) 1 39 := ⟨by decide +kernel, rfl⟩
theorem d7_39 : D m7 39 (.iaload) 1 40 := ⟨by decide +kernel, rfl⟩
theorem d7_40 : D m7 40 (.istore_n 2) 1 41 := ⟨by decide +kernel, rfl⟩
theorem d7_41 : D m7 41 (.aload_n 0) 1 42 := ⟨by decide +kernel, rfl⟩
theorem d7_42 : D m7 42 (.getfield 47) 3 45 := ⟨by decide +kernel, rfl⟩
theorem d7_45 : D m7 45 (.iload_n 2) 1 46 := ⟨by decide +kernel, rfl⟩
theorem d7_46 : D m7 46 (.dup2) 1 47 := ⟨by decide +kernel, rfl⟩
theorem d7_47 : D m7 47 (.baload) 1 48 := ⟨by decide +kernel, rfl⟩
theorem d7_48 : D m7 48 (.aload_n 0) 1 49 := ⟨by decide +kernel, rfl⟩
theorem d7_49 : D m7 49 (.getfield 16) 3 52 := ⟨by decide +kernel, rfl⟩
theorem d7_52 : D m7 52 (.iload_n 2) 1 53 := ⟨by decide +kernel, rfl⟩
theorem d7_53 : D m7 53 (.iaload) 1 54 := ⟨by decide +kernel, rfl⟩
theorem d7_54 : D m7 54 (.iload_n 1) 1 55 := ⟨by decide +kernel, rfl⟩
theorem d7_55 : DB m7 55 (.if_icmp .ne 7) 7 58 62 := ⟨by decide +kernel, rfl, by decide, by decide⟩
theorem d7_58 : D m7 58 (.iconst 1) 1 59 := ⟨by decide +kernel, rfl⟩
theorem d7_59 : DB m7 59 (.goto 4) 4 62 63 := ⟨by decide +kernel, rfl, by decide, by decide⟩
theorem d7_62 : D m7 62 (.iconst 0) 1 63 := ⟨by decide +kernel, rfl⟩
theorem d7_63 : D m7 63 (.ior) 1 64 := ⟨by decide +kernel, rfl⟩
theorem d7_64 : D m7 64 (.bastore) 1 65 := ⟨by decide +kernel, rfl⟩
theorem d7_65 : D m7 65 (.aload_n 0) 1 66 := ⟨by decide +kernel, rfl⟩
theorem d7_66 : D m7 66 (.getfield 44) 3 69 := ⟨by decide +kernel, rfl⟩
theorem d7_69 : D m7 69 (.aload_n 0) 1 70 := ⟨by decide +kernel, rfl⟩
theorem d7_70 : D m7 70 (.getfield 93) 3 73 := ⟨by decide +kernel, rfl⟩
theorem d7_73 : D m7 73 (.iload_n 1) 1 74 := ⟨by decide +kernel, rfl⟩
theorem d7_74 : D m7 74 (.iastore) 1 75 := ⟨by decide +kernel, rfl⟩
theorem d7_75 : D m7 75 (.aload_n 0) 1 76 := ⟨by decide +kernel, rfl⟩
theorem d7_76 : D m7 76 (.getfield 35) 3 79 := ⟨by decide +kernel, rfl⟩
theorem d7_79 : D m7 79 (.iload_n 2) 1 80 := ⟨by decide +kernel, rfl⟩
theorem d7_80 : D m7 80 (.aload_n 0) 1 81 := ⟨by decide +kernel, rfl⟩
theorem d7_81 : D m7 81 (.dup) 1 82 := ⟨by decide +kernel, rfl⟩
theorem d7_82 : D m7 82 (.getfield 93) 3 85 := ⟨by decide +kernel, rfl⟩
theorem d7_85 : D m7 85 (.iconst 1) 1 86 := ⟨by decide +kernel, rfl⟩
theorem d7_86 : D m7 86 (.iadd) 1 87 := ⟨by decide +kernel, rfl⟩
theorem d7_87 : D m7 87 (.dup_x1) 1 88 := ⟨by decide +kernel, rfl⟩
theorem d7_88 : D m7 88 (.putfield 93) 3 91 := ⟨by decide +kernel, rfl⟩
theorem d7_91 : D m7 91 (.iastore) 1 92 := ⟨by decide +kernel, rfl⟩
theorem d7_92 : D m7 92 (.aload_n 0) 1 93 := ⟨by decide +kernel, rfl⟩
theorem d7_93 : D m7 93 (.getfield 93) 3 96 := ⟨by decide +kernel, rfl⟩
theorem d7_96 : D m7 96 (.iconst 1) 1 97 := ⟨by decide +kernel, rfl⟩
theorem d7_97 : D m7 97 (.isub) 1 98 := ⟨by decide +kernel, rfl⟩
theorem d7_98 : D m7 98 (.ireturn) 1 99 := ⟨by decide +kernel, rfl⟩
theorem d8_0 : D m8 0 (.iconst 0) 1 1 := ⟨by decide +kernel, rfl⟩
theorem d8_1 : D m8 1 (.istore_n 2) 1 2 := ⟨by decide +kernel, rfl⟩
theorem d8_2 : D m8 2 (.iload_n 2) 1 3 := ⟨by decide +kernel, rfl⟩
theorem d8_3 : D m8 3 (.aload_n 0) 1 4 := ⟨by decide +kernel, rfl⟩
theorem d8_4 : D m8 4 (.getfield 90) 3 7 := ⟨by decide +kernel, rfl⟩
theorem d8_7 : DB m8 7 (.if_icmp .ge 40) 40 10 47 := ⟨by decide +kernel, rfl, by decide, by decide⟩
theorem d8_10 : D m8 10 (.aload_n 0) 1 11 := ⟨by decide +kernel, rfl⟩
theorem d8_11 : D m8 11 (.getfield 29) 3 14 := ⟨by decide +kernel, rfl⟩
theorem d8_14 : D m8 14 (.iload_n 2) 1 15 := ⟨by decide +kernel, rfl⟩
theorem d8_15 : D m8 15 (.iaload) 1 16 := ⟨by decide +kernel, rfl⟩
theorem d8_16 : D m8 16 (.istore_n 3) 1 17 := ⟨by decide +kernel, rfl⟩
theorem d8_17 : D m8 17 (.aload_n 0) 1 18 := ⟨by decide +kernel, rfl⟩
theorem d8_18 : D m8 18 (.getfield 16) 3 21 := ⟨by decide +kernel, rfl⟩
theorem d8_21 : D m8 21 (.iload_n 3) 1 22 := ⟨by decide +kernel, rfl⟩
theorem d8_22 : D m8 22 (.iaload) 1 23 := ⟨by decide +kernel, rfl⟩
theorem d8_23 : D m8 23 (.iconst (-1)) 1 24 := ⟨by decide +kernel, rfl⟩
theorem d8_24 : DB m8 24 (.if_icmp .eq 17) 17 27 41 := ⟨by decide +kernel, rfl, by decide, by decide⟩
theorem d8_27 : D m8 27 (.aload_n 0) 1 28 := ⟨by decide +kernel, rfl⟩
theorem d8_28 : D m8 28 (.getfield 47) 3 31 := ⟨by decide +kernel, rfl⟩
theorem d8_31 : D m8 31 (.iload_n 3) 1 32 := ⟨by decide +kernel, rfl⟩
theorem d8_32 : D m8 32 (.baload) 1 33 := ⟨by decide +kernel, rfl⟩
theorem d8_33 : DB m8 33 (.ifCond .ne 8) 8 36 41 := ⟨by decide +kernel, rfl, by decide, by decide⟩
theorem d8_36 : D m8 36 (.aload_n 0) 1 37 := ⟨by decide +kernel, rfl⟩
theorem d8_37 : D m8 37 (.iload_n 3) 1 38 := ⟨by decide +kernel, rfl⟩
theorem d8_38 : D m8 38 (.invokevirtual 100) 3 41 := ⟨by decide +kernel, rfl⟩
theorem d8_41 : D m8 41 (.iinc 2 1) 3 44 := ⟨by decide +kernel, rfl⟩
theorem d8_44 : DB m8 44 (.goto (-42)) (-42) 47 2 := ⟨by decide +kernel, rfl, by decide, by decide⟩
theorem d8_47 : D m8 47 (.iconst 0) 1 48 := ⟨by decide +kernel, rfl⟩
theorem d8_48 : D m8 48 (.istore_n 2) 1 49 := ⟨by decide +kernel, rfl⟩
theorem d8_49 : D m8 49 (.iload_n 2) 1 50 := ⟨by decide +kernel, rfl⟩
theorem d8_50 : D m8 50 (.aload_n 0) 1 51 := ⟨by decide +kernel, rfl⟩
theorem d8_51 : D m8 51 (.getfield 90) 3 54 := ⟨by decide +kernel, rfl⟩
theorem d8_54 : DB m8 54 (.if_icmp .ge 37) 37 57 91 := ⟨by decide +kernel, rfl, by decide, by decide⟩
theorem d8_57 : D m8 57 (.aload_n 0) 1 58 := ⟨by decide +kernel, rfl⟩
theorem d8_58 : D m8 58 (.getfield 29) 3 61 := ⟨by decide +kernel, rfl⟩
theorem d8_61 : D m8 61 (.iload_n 2) 1 62 := ⟨by decide +kernel, rfl⟩
theorem d8_62 : D m8 62 (.iaload) 1 63 := ⟨by decide +kernel, rfl⟩
theorem d8_63 : D m8 63 (.istore_n 3) 1 64 := ⟨by decide +kernel, rfl⟩
theorem d8_64 : D m8 64 (.aload_n 0) 1 65 := ⟨by decide +kernel, rfl⟩
theorem d8_65 : D m8 65 (.getfield 16) 3 68 := ⟨by decide +kernel, rfl⟩
theorem d8_68 : D m8 68 (.iload_n 3) 1 69 := ⟨by decide +kernel, rfl⟩
theorem d8_69 : D m8 69 (.iaload) 1 70 := ⟨by decide +kernel, rfl⟩
theorem d8_70 : D m8 70 (.iconst (-1)) 1 71 := ⟨by decide +kernel, rfl⟩
theorem d8_71 : DB m8 71 (.if_icmp .ne 14) 14 74 85 := ⟨by decide +kernel, rfl, by decide, by decide⟩
theorem d8_74 : D m8 74 (.aload_n 0) 1 75 := ⟨by decide +kernel, rfl⟩
theorem d8_75 : D m8 75 (.iload_n 3) 1 76 := ⟨by decide +kernel, rfl⟩
theorem d8_76 : D m8 76 (.aload_n 1) 1 77 := ⟨by decide +kernel, rfl⟩
theorem d8_77 : D m8 77 (.invokevirtual 107) 3 80 := ⟨by decide +kernel, rfl⟩
theorem d8_80 : DB m8 80 (.ifCond .ne 5) 5 83 85 := ⟨by decide +kernel, rfl, by decide, by decide⟩
theorem d8_83 : D m8 83 (.iconst 0) 1 84 := ⟨by decide +kernel, rfl⟩
theorem d8_84 : D m8 84 (.ireturn) 1 85 := ⟨by decide +kernel, rfl⟩
theorem d8_85 : D m8 85 (.iinc 2 1) 3 88 := ⟨by decide +kernel, rfl⟩
theorem d8_88 : DB m8 88 (.goto (-39)) (-39) 91 49 := ⟨by decide +kernel, rfl, by decide, by decide⟩
theorem d8_91 : D m8 91 (.iconst 1) 1 92 := ⟨by decide +kernel, rfl⟩
theorem d8_92 : D m8 92 (.ireturn) 1 93 := ⟨by decide +kernel, rfl⟩
theorem d9_0 : D m9 0 (.aload_n 0) 1 1 := ⟨by decide +kernel, rfl⟩
theorem d9_1 : D m9 1 (.invokevirtual 111) 3 4 := ⟨by decide +kernel, rfl⟩
theorem d9_4 : D m9 4 (.iconst 0) 1 5 := ⟨by decide +kernel, rfl⟩
theorem d9_5 : D m9 5 (.istore_n 3) 1 6 := ⟨by decide +kernel, rfl⟩
theorem d9_6 : D m9 6 (.aload_n 0) 1 7 := ⟨by decide +kernel, rfl⟩
theorem d9_7 : D m9 7 (.getfield 54) 3 10 := ⟨by decide +kernel, rfl⟩
theorem d9_10 : D m9 10 (.iconst 0) 1 11 := ⟨by decide +kernel, rfl⟩
theorem d9_11 : D m9 11 (.iload_n 1) 1 12 := ⟨by decide +kernel, rfl⟩
theorem d9_12 : D m9 12 (.iastore) 1 13 := ⟨by decide +kernel, rfl⟩
theorem d9_13 : D m9 13 (.aload_n 0) 1 14 := ⟨by decide +kernel, rfl⟩
theorem d9_14 : D m9 14 (.getfield 57) 3 17 := ⟨by decide +kernel, rfl⟩
theorem d9_17 : D m9 17 (.iconst 0) 1 18 := ⟨by decide +kernel, rfl⟩
theorem d9_18 : D m9 18 (.aload_n 0) 1 19 := ⟨by decide +kernel, rfl⟩
theorem d9_19 : D m9 19 (.getfield 32) 3 22 := ⟨by decide +kernel, rfl⟩
theorem d9_22 : D m9 22 (.iload_n 1) 1 23 := ⟨by decide +kernel, rfl⟩
theorem d9_23 : D m9 23 (.iaload) 1 24 := ⟨by decide +kernel, rfl⟩
theorem d9_24 : D m9 24 (.iastore) 1 25 := ⟨by decide +kernel, rfl⟩
theorem d9_25 : D m9 25 (.aload_n 0) 1 26 := ⟨by decide +kernel, rfl⟩
theorem d9_26 : D m9 26 (.iload_n 1) 1 27 := ⟨by decide +kernel, rfl⟩
theorem d9_27 : D m9 27 (.invokevirtual 114) 3 30 := ⟨by decide +kernel, rfl⟩
theorem d9_30 : D m9 30 (.istore 4) 2 32 := ⟨by decide +kernel, rfl⟩
theorem d9_32 : D m9 32 (.iload 4) 2 34 := ⟨by decide +kernel, rfl⟩
theorem d9_34 : DB m9 34 (.ifCond .ge 164) 164 37 198 := ⟨by decide +kernel, rfl, by decide, by decide⟩
theorem d9_37 : D m9 37 (.iload_n 3) 1 38 := ⟨by decide +kernel, rfl⟩
theorem d9_38 : DB m9 38 (.ifCond .lt 160) 160 41 198 := ⟨by decide +kernel, rfl, by decide, by decide⟩
theorem d9_41 : D m9 41 (.aload_n 0) 1 42 := ⟨by decide +kernel, rfl⟩
theorem d9_42 : D m9 42 (.getfield 54) 3 45 := ⟨by decide +kernel, rfl⟩
theorem d9_45 : D m9 45 (.iload_n 3) 1 46 := ⟨by decide +kernel, rfl⟩
theorem d9_46 : D m9 46 (.iaload) 1 47 := ⟨by decide +kernel, rfl⟩
theorem d9_47 : D m9 47 (.istore 5) 2 49 := ⟨by decide +kernel, rfl⟩
theorem d9_49 : D m9 49 (.aload_n 0) 1 50 := ⟨by decide +kernel, rfl⟩
theorem d9_50 : D m9 50 (.getfield 57) 3 53 := ⟨by decide +kernel, rfl⟩
theorem d9_53 : D m9 53 (.iload_n 3) 1 54 := ⟨by decide +kernel, rfl⟩
theorem d9_54 : D m9 54 (.iaload) 1 55 := ⟨by decide +kernel, rfl⟩
theorem d9_55 : D m9 55 (.istore 6) 2 57 := ⟨by decide +kernel, rfl⟩
theorem d9_57 : D m9 57 (.iload 6) 2 59 := ⟨by decide +kernel, rfl⟩
theorem d9_59 : D m9 59 (.aload_n 0) 1 60 := ⟨by decide +kernel, rfl⟩
theorem d9_60 : D m9 60 (.getfield 35) 3 63 := ⟨by decide +kernel, rfl⟩
theorem d9_63 : D m9 63 (.iload 5) 2 65 := ⟨by decide +kernel, rfl⟩
theorem d9_65 : D m9 65 (.iaload) 1 66 := ⟨by decide +kernel, rfl⟩
theorem d9_66 : DB m9 66 (.if_icmp .ne 9) 9 69 75 := ⟨by decide +kernel, rfl, by decide, by decide⟩
theorem d9_69 : D m9 69 (.iinc 3 (-1)) 3 72 := ⟨by decide +kernel, rfl⟩
theorem d9_72 : DB m9 72 (.goto (-40)) (-40) 75 32 := ⟨by decide +kernel, rfl, by decide, by decide⟩
theorem d9_75 : D m9 75 (.aload_n 0) 1 76 := ⟨by decide +kernel, rfl⟩
theorem d9_76 : D m9 76 (.getfield 57) 3 79 := ⟨by decide +kernel, rfl⟩
theorem d9_79 : D m9 79 (.iload_n 3) 1 80 := ⟨by decide +kernel, rfl⟩
theorem d9_80 : D m9 80 (.iload 6) 2 82 := ⟨by decide +kernel, rfl⟩
theorem d9_82 : D m9 82 (.iconst 1) 1 83 := ⟨by decide +kernel, rfl⟩
theorem d9_83 : D m9 83 (.iadd) 1 84 := ⟨by decide +kernel, rfl⟩
theorem d9_84 : D m9 84 (.iastore) 1 85 := ⟨by decide +kernel, rfl⟩
theorem d9_85 : D m9 85 (.aload_n 0) 1 86 := ⟨by decide +kernel, rfl⟩
theorem d9_86 : D m9 86 (.getfield 44) 3 89 := ⟨by decide +kernel, rfl⟩
theorem d9_89 : D m9 89 (.iload 6) 2 91 := ⟨by decide +kernel, rfl⟩
theorem d9_91 : D m9 91 (.iaload) 1 92 := ⟨by decide +kernel, rfl⟩
theorem d9_92 : D m9 92 (.istore 7) 2 94 := ⟨by decide +kernel, rfl⟩
theorem d9_94 : D m9 94 (.aload_n 0) 1 95 := ⟨by decide +kernel, rfl⟩
theorem d9_95 : D m9 95 (.getfield 51) 3 98 := ⟨by decide +kernel, rfl⟩
theorem d9_98 : D m9 98 (.iload 7) 2 100 := ⟨by decide +kernel, rfl⟩
theorem d9_100 : D m9 100 (.iaload) 1 101 := ⟨by decide +kernel, rfl⟩
theorem d9_101 : D m9 101 (.aload_n 0) 1 102 := ⟨by decide +kernel, rfl⟩
theorem d9_102 : D m9 102 (.getfield 118) 3 105 := ⟨by decide +kernel, rfl⟩
theorem d9_105 : DB m9 105 (.if_icmp .ne 6) 6 108 111 := ⟨by decide +kernel, rfl, by decide, by decide⟩
theorem d9_108 : DB m9 108 (.goto (-76)) (-76) 111 32 := ⟨by decide +kernel, rfl, by decide, by decide⟩
theorem d9_111 : D m9 111 (.aload_n 0) 1 112 := ⟨by decide +kernel, rfl⟩
theorem d9_112 : D m9 112 (.getfield 51) 3 115 := ⟨by decide +kernel, rfl⟩
theorem d9_115 : D m9 115 (.iload 7) 2 117 := ⟨by decide +kernel, rfl⟩
theorem d9_117 : D m9 117 (.aload_n 0) 1 118 := ⟨by decide +kernel, rfl⟩
theorem d9_118 : D m9 118 (.getfield 118) 3 121 := ⟨by decide +kernel, rfl⟩
theorem d9_121 : D m9 121 (.iastore) 1 122 := ⟨by decide +kernel, rfl⟩
theorem d9_122 : D m9 122 (.aload_n 0) 1 123 := ⟨by decide +kernel, rfl⟩
theorem d9_123 : D m9 123 (.getfield 60) 3 126 := ⟨by decide +kernel, rfl⟩
theorem d9_126 : D m9 126 (.iload_n 3) 1 127 := ⟨by decide +kernel, rfl⟩
theorem d9_127 : D m9 127 (.iload 6) 2 129 := ⟨by decide +kernel, rfl⟩
theorem d9_129 : D m9 129 (.iastore) 1 130 := ⟨by decide +kernel, rfl⟩
theorem d9_130 : D m9 130 (.aload_n 0) 1 131 := ⟨by decide +kernel, rfl⟩
theorem d9_131 : D m9 131 (.getfield 20) 3 134 := ⟨by decide +kernel, rfl⟩
theorem d9_134 : D m9 134 (.iload 7) 2 136 := ⟨by decide +kernel, rfl⟩
theorem d9_136 : D m9 136 (.iaload) 1 137 := ⟨by decide +kernel, rfl⟩
theorem d9_137 : D m9 137 (.istore 8) 2 139 := ⟨by decide +kernel, rfl⟩
theorem d9_139 : D m9 139 (.aload_n 2) 1 140 := ⟨by decide +kernel, rfl⟩
theorem d9_140 : D m9 140 (.ldc2_w 121) 3 143 := ⟨by decide +kernel, rfl⟩
theorem d9_143 : D m9 143 (.aload_n 0) 1 144 := ⟨by decide +kernel, rfl⟩
theorem d9_144 : D m9 144 (.getfield 35) 3 147 := ⟨by decide +kernel, rfl⟩
theorem d9_147 : D m9 147 (.iload 8) 2 149 := ⟨by decide +kernel, rfl⟩
theorem d9_149 : D m9 149 (.iaload) 1 150 := ⟨by decide +kernel, rfl⟩
theorem d9_150 : D m9 150 (.aload_n 0) 1 151 := ⟨by decide +kernel, rfl⟩
theorem d9_151 : D m9 151 (.getfield 32) 3 154 := ⟨by decide +kernel, rfl⟩
theorem d9_154 : D m9 154 (.iload 8) 2 156 := ⟨by decide +kernel, rfl⟩
theorem d9_156 : D m9 156 (.iaload) 1 157 := ⟨by decide +kernel, rfl⟩
theorem d9_157 : D m9 157 (.isub) 1 158 := ⟨by decide +kernel, rfl⟩
theorem d9_158 : D m9 158 (.i2l) 1 159 := ⟨by decide +kernel, rfl⟩
theorem d9_159 : D m9 159 (.lmul) 1 160 := ⟨by decide +kernel, rfl⟩
theorem d9_160 : D m9 160 (.invokevirtual 123) 3 163 := ⟨by decide +kernel, rfl⟩
theorem d9_163 : D m9 163 (.iinc 3 1) 3 166 := ⟨by decide +kernel, rfl⟩
theorem d9_166 : D m9 166 (.aload_n 0) 1 167 := ⟨by decide +kernel, rfl⟩
theorem d9_167 : D m9 167 (.getfield 54) 3 170 := ⟨by decide +kernel, rfl⟩
theorem d9_170 : D m9 170 (.iload_n 3) 1 171 := ⟨by decide +kernel, rfl⟩
theorem d9_171 : D m9 171 (.iload 8) 2 173 := ⟨by decide +kernel, rfl⟩
theorem d9_173 : D m9 173 (.iastore) 1 174 := ⟨by decide +kernel, rfl⟩
theorem d9_174 : D m9 174 (.aload_n 0) 1 175 := ⟨by decide +kernel, rfl⟩
theorem d9_175 : D m9 175 (.getfield 57) 3 178 := ⟨by decide +kernel, rfl⟩
theorem d9_178 : D m9 178 (.iload_n 3) 1 179 := ⟨by decide +kernel, rfl⟩
theorem d9_179 : D m9 179 (.aload_n 0) 1 180 := ⟨by decide +kernel, rfl⟩
theorem d9_180 : D m9 180 (.getfield 32) 3 183 := ⟨by decide +kernel, rfl⟩
theorem d9_183 : D m9 183 (.iload 8) 2 185 := ⟨by decide +kernel, rfl⟩
theorem d9_185 : D m9 185 (.iaload) 1 186 := ⟨by decide +kernel, rfl⟩
theorem d9_186 : D m9 186 (.iastore) 1 187 := ⟨by decide +kernel, rfl⟩
theorem d9_187 : D m9 187 (.aload_n 0) 1 188 := ⟨by decide +kernel, rfl⟩
theorem d9_188 : D m9 188 (.iload 8) 2 190 := ⟨by decide +kernel, rfl⟩
theorem d9_190 : D m9 190 (.invokevirtual 114) 3 193 := ⟨by decide +kernel, rfl⟩
theorem d9_193 : D m9 193 (.istore 4) 2 195 := ⟨by decide +kernel, rfl⟩
theorem d9_195 : DB m9 195 (.goto (-163)) (-163) 198 32 := ⟨by decide +kernel, rfl, by decide, by decide⟩
theorem d9_198 : D m9 198 (.iload 4) 2 200 := ⟨by decide +kernel, rfl⟩
theorem d9_200 : DB m9 200 (.ifCond .ge 5) 5 203 205 := ⟨by decide +kernel, rfl, by decide, by decide⟩
theorem d9_203 : D m9 203 (.iconst 0) 1 204 := ⟨by decide +kernel, rfl⟩
theorem d9_204 : D m9 204 (.ireturn) 1 205 := ⟨by decide +kernel, rfl⟩
theorem d9_205 : D m9 205 (.aload_n 0) 1 206 := ⟨by decide +kernel, rfl⟩
theorem d9_206 : D m9 206 (.getfield 60) 3 209 := ⟨by decide +kernel, rfl⟩
theorem d9_209 : D m9 209 (.iload_n 3) 1 210 := ⟨by decide +kernel, rfl⟩
theorem d9_210 : D m9 210 (.iload 4) 2 212 := ⟨by decide +kernel, rfl⟩
theorem d9_212 : D m9 212 (.iastore) 1 213 := ⟨by decide +kernel, rfl⟩
theorem d9_213 : D m9 213 (.iload_n 3) 1 214 := ⟨by decide +kernel, rfl⟩
theorem d9_214 : D m9 214 (.istore 5) 2 216 := ⟨by decide +kernel, rfl⟩
theorem d9_216 : D m9 216 (.iload 5) 2 218 := ⟨by decide +kernel, rfl⟩
theorem d9_218 : DB m9 218 (.ifCond .lt 50) 50 221 268 := ⟨by decide +kernel, rfl, by decide, by decide⟩
theorem d9_221 : D m9 221 (.aload_n 0) 1 222 := ⟨by decide +kernel, rfl⟩
theorem d9_222 : D m9 222 (.getfield 54) 3 225 := ⟨by decide +kernel, rfl⟩
theorem d9_225 : D m9 225 (.iload 5) 2 227 := ⟨by decide +kernel, rfl⟩
theorem d9_227 : D m9 227 (.iaload) 1 228 := ⟨by decide +kernel, rfl⟩
theorem d9_228 : D m9 228 (.istore 6) 2 230 := ⟨by decide +kernel, rfl⟩
theorem d9_230 : D m9 230 (.aload_n 0) 1 231 := ⟨by decide +kernel, rfl⟩
theorem d9_231 : D m9 231 (.getfield 44) 3 234 := ⟨by decide +kernel, rfl⟩
theorem d9_234 : D m9 234 (.aload_n 0) 1 235 := ⟨by decide +kernel, rfl⟩
theorem d9_235 : D m9 235 (.getfield 60) 3 238 := ⟨by decide +kernel, rfl⟩
theorem d9_238 : D m9 238 (.iload 5) 2 240 := ⟨by decide +kernel, rfl⟩
theorem d9_240 : D m9 240 (.iaload) 1 241 := ⟨by decide +kernel, rfl⟩
theorem d9_241 : D m9 241 (.iaload) 1 242 := ⟨by decide +kernel, rfl⟩
theorem d9_242 : D m9 242 (.istore 7) 2 244 := ⟨by decide +kernel, rfl⟩
theorem d9_244 : D m9 244 (.aload_n 0) 1 245 := ⟨by decide +kernel, rfl⟩
theorem d9_245 : D m9 245 (.getfield 16) 3 248 := ⟨by decide +kernel, rfl⟩
theorem d9_248 : D m9 248 (.iload 6) 2 250 := ⟨by decide +kernel, rfl⟩
theorem d9_250 : D m9 250 (.iload 7) 2 252 := ⟨by decide +kernel, rfl⟩
theorem d9_252 : D m9 252 (.iastore) 1 253 := ⟨by decide +kernel, rfl⟩
theorem d9_253 : D m9 253 (.aload_n 0) 1 254 := ⟨by decide +kernel, rfl⟩
theorem d9_254 : D m9 254 (.getfield 20) 3 257 := ⟨by decide +kernel, rfl⟩
theorem d9_257 : D m9 257 (.iload 7) 2 259 := ⟨by decide +kernel, rfl⟩
theorem d9_259 : D m9 259 (.iload 6) 2 261 := ⟨by decide +kernel, rfl⟩
theorem d9_261 : D m9 261 (.iastore) 1 262 := ⟨by decide +kernel, rfl⟩
theorem d9_262 : D m9 262 (.iinc 5 (-1)) 3 265 := ⟨by decide +kernel, rfl⟩
theorem d9_265 : DB m9 265 (.goto (-49)) (-49) 268 216 := ⟨by decide +kernel, rfl, by decide, by decide⟩
theorem d9_268 : D m9 268 (.iconst 1) 1 269 := ⟨by decide +kernel, rfl⟩
theorem d9_269 : D m9 269 (.ireturn) 1 270 := ⟨by decide +kernel, rfl⟩
theorem d10_0 : D m10 0 (.aload_n 0) 1 1 := ⟨by decide +kernel, rfl⟩
theorem d10_1 : D m10 1 (.dup) 1 2 := ⟨by decide +kernel, rfl⟩
theorem d10_2 : D m10 2 (.getfield 118) 3 5 := ⟨by decide +kernel, rfl⟩
theorem d10_5 : D m10 5 (.iconst 1) 1 6 := ⟨by decide +kernel, rfl⟩
theorem d10_6 : D m10 6 (.iadd) 1 7 := ⟨by decide +kernel, rfl⟩
theorem d10_7 : D m10 7 (.dup_x1) 1 8 := ⟨by decide +kernel, rfl⟩
theorem d10_8 : D m10 8 (.putfield 118) 3 11 := ⟨by decide +kernel, rfl⟩
theorem d10_11 : D m10 11 (.ldc 131) 2 13 := ⟨by decide +kernel, rfl⟩
theorem d10_13 : DB m10 13 (.if_icmp .ne 16) 16 16 29 := ⟨by decide +kernel, rfl, by decide, by decide⟩
theorem d10_16 : D m10 16 (.aload_n 0) 1 17 := ⟨by decide +kernel, rfl⟩
theorem d10_17 : D m10 17 (.getfield 51) 3 20 := ⟨by decide +kernel, rfl⟩
theorem d10_20 : D m10 20 (.iconst 0) 1 21 := ⟨by decide +kernel, rfl⟩
theorem d10_21 : D m10 21 (.invokestatic 23) 3 24 := ⟨by decide +kernel, rfl⟩
theorem d10_24 : D m10 24 (.aload_n 0) 1 25 := ⟨by decide +kernel, rfl⟩
theorem d10_25 : D m10 25 (.iconst 1) 1 26 := ⟨by decide +kernel, rfl⟩
theorem d10_26 : D m10 26 (.putfield 118) 3 29 := ⟨by decide +kernel, rfl⟩
theorem d10_29 : D m10 29 (.return_) 1 30 := ⟨by decide +kernel, rfl⟩
theorem d11_0 : D m11 0 (.aload_n 0) 1 1 := ⟨by decide +kernel, rfl⟩
theorem d11_1 : D m11 1 (.getfield 32) 3 4 := ⟨by decide +kernel, rfl⟩
theorem d11_4 : D m11 4 (.iload_n 1) 1 5 := ⟨by decide +kernel, rfl⟩
theorem d11_5 : D m11 5 (.iaload) 1 6 := ⟨by decide +kernel, rfl⟩
theorem d11_6 : D m11 6 (.istore_n 2) 1 7 := ⟨by decide +kernel, rfl⟩
theorem d11_7 : D m11 7 (.iload_n 2) 1 8 := ⟨by decide +kernel, rfl⟩
theorem d11_8 : D m11 8 (.aload_n 0) 1 9 := ⟨by decide +kernel, rfl⟩
theorem d11_9 : D m11 9 (.getfield 35) 3 12 := ⟨by decide +kernel, rfl⟩
theorem d11_12 : D m11 12 (.iload_n 1) 1 13 := ⟨by decide +kernel, rfl⟩
theorem d11_13 : D m11 13 (.iaload) 1 14 := ⟨by decide +kernel, rfl⟩
theorem d11_14 : DB m11 14 (.if_icmp .ge 26) 26 17 40 := ⟨by decide +kernel, rfl, by decide, by decide⟩
theorem d11_17 : D m11 17 (.aload_n 0) 1 18 := ⟨by decide +kernel, rfl⟩
theorem d11_18 : D m11 18 (.getfield 20) 3 21 := ⟨by decide +kernel, rfl⟩
theorem d11_21 : D m11 21 (.aload_n 0) 1 22 := ⟨by decide +kernel, rfl⟩
theorem d11_22 : D m11 22 (.getfield 44) 3 25 := ⟨by decide +kernel, rfl⟩
theorem d11_25 : D m11 25 (.iload_n 2) 1 26 := ⟨by decide +kernel, rfl⟩
theorem d11_26 : D m11 26 (.iaload) 1 27 := ⟨by decide +kernel, rfl⟩
theorem d11_27 : D m11 27 (.iaload) 1 28 := ⟨by decide +kernel, rfl⟩
theorem d11_28 : D m11 28 (.iconst (-1)) 1 29 := ⟨by decide +kernel, rfl⟩
theorem d11_29 : DB m11 29 (.if_icmp .ne 5) 5 32 34 := ⟨by decide +kernel, rfl, by decide, by decide⟩
theorem d11_32 : D m11 32 (.iload_n 2) 1 33 := ⟨by decide +kernel, rfl⟩
theorem d11_33 : D m11 33 (.ireturn) 1 34 := ⟨by decide +kernel, rfl⟩
theorem d11_34 : D m11 34 (.iinc 2 1) 3 37 := ⟨by decide +kernel, rfl⟩
theorem d11_37 : DB m11 37 (.goto (-30)) (-30) 40 7 := ⟨by decide +kernel, rfl, by decide, by decide⟩
theorem d11_40 : D m11 40 (.iconst (-1)) 1 41 := ⟨by decide +kernel, rfl⟩
theorem d11_41 : D m11 41 (.ireturn) 1 42 := ⟨by decide +kernel, rfl⟩
theorem d12_0 : D m12 0 (.aload_n 0) 1 1 := ⟨by decide +kernel, rfl⟩
theorem d12_1 : D m12 1 (.dup) 1 2 := ⟨by decide +kernel, rfl⟩
theorem d12_2 : D m12 2 (.getfield 132) 3 5 := ⟨by decide +kernel, rfl⟩
theorem d12_5 : D m12 5 (.iconst 1) 1 6 := ⟨by decide +kernel, rfl⟩
theorem d12_6 : D m12 6 (.iadd) 1 7 := ⟨by decide +kernel, rfl⟩
theorem d12_7 : D m12 7 (.dup_x1) 1 8 := ⟨by decide +kernel, rfl⟩
theorem d12_8 : D m12 8 (.putfield 132) 3 11 := ⟨by decide +kernel, rfl⟩
theorem d12_11 : D m12 11 (.ldc 131) 2 13 := ⟨by decide +kernel, rfl⟩
theorem d12_13 : DB m12 13 (.if_icmp .ne 16) 16 16 29 := ⟨by decide +kernel, rfl, by decide, by decide⟩
theorem d12_16 : D m12 16 (.aload_n 0) 1 17 := ⟨by decide +kernel, rfl⟩
theorem d12_17 : D m12 17 (.getfield 69) 3 20 := ⟨by decide +kernel, rfl⟩
theorem d12_20 : D m12 20 (.iconst 0) 1 21 := ⟨by decide +kernel, rfl⟩
theorem d12_21 : D m12 21 (.invokestatic 23) 3 24 := ⟨by decide +kernel, rfl⟩
theorem d12_24 : D m12 24 (.aload_n 0) 1 25 := ⟨by decide +kernel, rfl⟩
theorem d12_25 : D m12 25 (.iconst 1) 1 26 := ⟨by decide +kernel, rfl⟩
theorem d12_26 : D m12 26 (.putfield 132) 3 29 := ⟨by decide +kernel, rfl⟩
theorem d12_29 : D m12 29 (.iconst 0) 1 30 := ⟨by decide +kernel, rfl⟩
theorem d12_30 : D m12 30 (.istore_n 1) 1 31 := ⟨by decide +kernel, rfl⟩
theorem d12_31 : D m12 31 (.iconst 0) 1 32 := ⟨by decide +kernel, rfl⟩
theorem d12_32 : D m12 32 (.istore_n 2) 1 33 := ⟨by decide +kernel, rfl⟩
theorem d12_33 : D m12 33 (.iconst 0) 1 34 := ⟨by decide +kernel, rfl⟩
theorem d12_34 : D m12 34 (.istore_n 3) 1 35 := ⟨by decide +kernel, rfl⟩
theorem d12_35 : D m12 35 (.iconst 0) 1 36 := ⟨by decide +kernel, rfl⟩
theorem d12_36 : D m12 36 (.istore 4) 2 38 := ⟨by decide +kernel, rfl⟩
theorem d12_38 : D m12 38 (.iload 4) 2 40 := ⟨by decide +kernel, rfl⟩
theorem d12_40 : D m12 40 (.aload_n 0) 1 41 := ⟨by decide +kernel, rfl⟩
theorem d12_41 : D m12 41 (.getfield 90) 3 44 := ⟨by decide +kernel, rfl⟩
theorem d12_44 : DB m12 44 (.if_icmp .ge 403) 403 47 447 := ⟨by decide +kernel, rfl, by decide, by decide⟩
theorem d12_47 : D m12 47 (.aload_n 0) 1 48 := ⟨by decide +kernel, rfl⟩
theorem d12_48 : D m12 48 (.getfield 69) 3 51 := ⟨by decide +kernel, rfl⟩
theorem d12_51 : D m12 51 (.aload_n 0) 1 52 := ⟨by decide +kernel, rfl⟩
theorem d12_52 : D m12 52 (.getfield 29) 3 55 := ⟨by decide +kernel, rfl⟩
theorem d12_55 : D m12 55 (.iload 4) 2 57 := ⟨by decide +kernel, rfl⟩
theorem d12_57 : D m12 57 (.iaload) 1 58 := ⟨by decide +kernel, rfl⟩
theorem d12_58 : D m12 58 (.iaload) 1 59 := ⟨by decide +kernel, rfl⟩
theorem d12_59 : D m12 59 (.aload_n 0) 1 60 := ⟨by decide +kernel, rfl⟩
theorem d12_60 : D m12 60 (.getfield 132) 3 63 := ⟨by decide +kernel, rfl⟩
theorem d12_63 : DB m12 63 (.if_icmp .ne 6) 6 66 69 := ⟨by decide +kernel, rfl, by decide, by decide⟩
theorem d12_66 : DB m12 66 (.goto 375) 375 69 441 := ⟨by decide +kernel, rfl, by decide, by decide⟩
theorem d12_69 : D m12 69 (.iconst 0) 1 70 := ⟨by decide +kernel, rfl⟩
theorem d12_70 : D m12 70 (.istore 5) 2 72 := ⟨by decide +kernel, rfl⟩
theorem d12_72 : D m12 72 (.aload_n 0) 1 73 := ⟨by decide +kernel, rfl⟩
theorem d12_73 : D m12 73 (.getfield 84) 3 76 := ⟨by decide +kernel, rfl⟩
theorem d12_76 : D m12 76 (.iconst 0) 1 77 := ⟨by decide +kernel, rfl⟩
theorem d12_77 : D m12 77 (.aload_n 0) 1 78 := ⟨by decide +kernel, rfl⟩
theorem d12_78 : D m12 78 (.getfield 29) 3 81 := ⟨by decide +kernel, rfl⟩
theorem d12_81 : D m12 81 (.iload 4) 2 83 := ⟨by decide +kernel, rfl⟩
theorem d12_83 : D m12 83 (.iaload) 1 84 := ⟨by decide +kernel, rfl⟩
theorem d12_84 : D m12 84 (.iastore) 1 85 := ⟨by decide +kernel, rfl⟩
theorem d12_85 : D m12 85 (.aload_n 0) 1 86 := ⟨by decide +kernel, rfl⟩
theorem d12_86 : D m12 86 (.getfield 87) 3 89 := ⟨by decide +kernel, rfl⟩
theorem d12_89 : D m12 89 (.iconst 0) 1 90 := ⟨by decide +kernel, rfl⟩
theorem d12_90 : D m12 90 (.aload_n 0) 1 91 := ⟨by decide +kernel, rfl⟩
theorem d12_91 : D m12 91 (.getfield 32) 3 94 := ⟨by decide +kernel, rfl⟩
theorem d12_94 : D m12 94 (.aload_n 0) 1 95 := ⟨by decide +kernel, rfl⟩
theorem d12_95 : D m12 95 (.getfield 29) 3 98 := ⟨by decide +kernel, rfl⟩
theorem d12_98 : D m12 98 (.iload 4) 2 100 := ⟨by decide +kernel, rfl⟩
theorem d12_100 : D m12 100 (.iaload) 1 101 := ⟨by decide +kernel, rfl⟩
theorem d12_101 : D m12 101 (.iaload) 1 102 := ⟨by decide +kernel, rfl⟩
theorem d12_102 : D m12 102 (.iastore) 1 103 := ⟨by decide +kernel, rfl⟩
theorem d12_103 : D m12 103 (.aload_n 0) 1 104 := ⟨by decide +kernel, rfl⟩
theorem d12_104 : D m12 104 (.getfield 69) 3 107 := ⟨by decide +kernel, rfl⟩
theorem d12_107 : D m12 107 (.aload_n 0) 1 108 := ⟨by decide +kernel, rfl⟩
theorem d12_108 : D m12 108 (.getfield 84) 3 111 := ⟨by decide +kernel, rfl⟩
theorem d12_111 : D m12 111 (.iconst 0) 1 112 := ⟨by decide +kernel, rfl⟩
theorem d12_112 : D m12 112 (.iaload) 1 113 := ⟨by decide +kernel, rfl⟩
theorem d12_113 : D m12 113 (.aload_n 0) 1 114 := ⟨by decide +kernel, rfl⟩
theorem d12_114 : D m12 114 (.getfield 132) 3 117 := ⟨by decide +kernel, rfl⟩
theorem d12_117 : D m12 117 (.iastore) 1 118 := ⟨by decide +kernel, rfl⟩
theorem d12_118 : D m12 118 (.aload_n 0) 1 119 := ⟨by decide +kernel, rfl⟩
theorem d12_119 : D m12 119 (.getfield 66) 3 122 := ⟨by decide +kernel, rfl⟩
theorem d12_122 : D m12 122 (.aload_n 0) 1 123 := ⟨by decide +kernel, rfl⟩
theorem d12_123 : D m12 123 (.getfield 84) 3 126 := ⟨by decide +kernel, rfl⟩
theorem d12_126 : D m12 126 (.iconst 0) 1 127 := ⟨by decide +kernel, rfl⟩
theorem d12_127 : D m12 127 (.iaload) 1 128 := ⟨by decide +kernel, rfl⟩
theorem d12_128 : D m12 128 (.iload_n 1) 1 129 := ⟨by decide +kernel, rfl⟩
theorem d12_129 : D m12 129 (.iastore) 1 130 := ⟨by decide +kernel, rfl⟩
theorem d12_130 : D m12 130 (.aload_n 0) 1 131 := ⟨by decide +kernel, rfl⟩
theorem d12_131 : D m12 131 (.getfield 72) 3 134 := ⟨by decide +kernel, rfl⟩
theorem d12_134 : D m12 134 (.aload_n 0) 1 135 := ⟨by decide +kernel, rfl⟩
theorem d12_135 : D m12 135 (.getfield 84) 3 138 := ⟨by decide +kernel, rfl⟩
theorem d12_138 : D m12 138 (.iconst 0) 1 139 := ⟨by decide +kernel, rfl⟩
theorem d12_139 : D m12 139 (.iaload) 1 140 := ⟨by decide +kernel, rfl⟩
theorem d12_140 : D m12 140 (.iload_n 1) 1 141 := ⟨by decide +kernel, rfl⟩
theorem d12_141 : D m12 141 (.iinc 1 1) 3 144 := ⟨by decide +kernel, rfl⟩
theorem d12_144 : D m12 144 (.iastore) 1 145 := ⟨by decide +kernel, rfl⟩
theorem d12_145 : D m12 145 (.aload_n 0) 1 146 := ⟨by decide +kernel, rfl⟩
theorem d12_146 : D m12 146 (.getfield 78) 3 149 := ⟨by decide +kernel, rfl⟩
theorem d12_149 : D m12 149 (.aload_n 0) 1 150 := ⟨by decide +kernel, rfl⟩
theorem d12_150 : D m12 150 (.getfield 84) 3 153 := ⟨by decide +kernel, rfl⟩
theorem d12_153 : D m12 153 (.iconst 0) 1 154 := ⟨by decide +kernel, rfl⟩
theorem d12_154 : D m12 154 (.iaload) 1 155 := ⟨by decide +kernel, rfl⟩
theorem d12_155 : D m12 155 (.iconst 1) 1 156 := ⟨by decide +kernel, rfl⟩
theorem d12_156 : D m12 156 (.bastore) 1 157 := ⟨by decide +kernel, rfl⟩
theorem d12_157 : D m12 157 (.aload_n 0) 1 158 := ⟨by decide +kernel, rfl⟩
theorem d12_158 : D m12 158 (.getfield 81) 3 161 := ⟨by decide +kernel, rfl⟩
theorem d12_161 : D m12 161 (.iload_n 2) 1 162 := ⟨by decide +kernel, rfl⟩
theorem d12_162 : D m12 162 (.iinc 2 1) 3 165 := ⟨by decide +kernel, rfl⟩
theorem d12_165 : D m12 165 (.aload_n 0) 1 166 := ⟨by decide +kernel, rfl⟩
theorem d12_166 : D m12 166 (.getfield 84) 3 169 := ⟨by decide +kernel, rfl⟩
theorem d12_169 : D m12 169 (.iconst 0) 1 170 := ⟨by decide +kernel, rfl⟩
theorem d12_170 : D m12 170 (.iaload) 1 171 := ⟨by decide +kernel, rfl⟩
theorem d12_171 : D m12 171 (.iastore) 1 172 := ⟨by decide +kernel, rfl⟩
theorem d12_172 : D m12 172 (.iload 5) 2 174 := ⟨by decide +kernel, rfl⟩
theorem d12_174 : DB m12 174 (.ifCond .lt 267) 267 177 441 := ⟨by decide +kernel, rfl, by decide, by decide⟩
theorem d12_177 : D m12 177 (.aload_n 0) 1 178 := ⟨by decide +kernel, rfl⟩
theorem d12_178 : D m12 178 (.getfield 84) 3 181 := ⟨by decide +kernel, rfl⟩
theorem d12_181 : D m12 181 (.iload 5) 2 183 := ⟨by decide +kernel, rfl⟩
theorem d12_183 : D m12 183 (.iaload) 1 184 := ⟨by decide +kernel, rfl⟩
theorem d12_184 : D m12 184 (.istore 6) 2 186 := ⟨by decide +kernel, rfl⟩
theorem d12_186 : D m12 186 (.aload_n 0) 1 187 := ⟨by decide +kernel, rfl⟩
theorem d12_187 : D m12 187 (.iload 6) 2 189 := ⟨by decide +kernel, rfl⟩
theorem d12_189 : D m12 189 (.iload 5) 2 191 := ⟨by decide +kernel, rfl⟩
theorem d12_191 : D m12 191 (.invokevirtual 135) 3 194 := ⟨by decide +kernel, rfl⟩
theorem d12_194 : D m12 194 (.istore 7) 2 196 := ⟨by decide +kernel, rfl⟩
theorem d12_196 : D m12 196 (.iload 7) 2 198 := ⟨by decide +kernel, rfl⟩
theorem d12_198 : DB m12 198 (.ifCond .lt 145) 145 201 343 := ⟨by decide +kernel, rfl, by decide, by decide⟩
theorem d12_201 : D m12 201 (.aload_n 0) 1 202 := ⟨by decide +kernel, rfl⟩
theorem d12_202 : D m12 202 (.getfield 69) 3 205 := ⟨by decide +kernel, rfl⟩
theorem d12_205 : D m12 205 (.iload 7) 2 207 := ⟨by decide +kernel, rfl⟩
theorem d12_207 : D m12 207 (.iaload) 1 208 := ⟨by decide +kernel, rfl⟩
theorem d12_208 : D m12 208 (.aload_n 0) 1 209 := ⟨by decide +kernel, rfl⟩
theorem d12_209 : D m12 209 (.getfield 132) 3 212 := ⟨by decide +kernel, rfl⟩
theorem d12_212 : DB m12 212 (.if_icmp .eq 94) 94 215 306 := ⟨by decide +kernel, rfl, by decide, by decide⟩
theorem d12_215 : D m12 215 (.aload_n 0) 1 216 := ⟨by decide +kernel, rfl⟩
theorem d12_216 : D m12 216 (.getfield 69) 3 219 := ⟨by decide +kernel, rfl⟩
theorem d12_219 : D m12 219 (.iload 7) 2 221 := ⟨by decide +kernel, rfl⟩
theorem d12_221 : D m12 221 (.aload_n 0) 1 222 := ⟨by decide +kernel, rfl⟩
theorem d12_222 : D m12 222 (.getfield 132) 3 225 := ⟨by decide +kernel, rfl⟩
theorem d12_225 : D m12 225 (.iastore) 1 226 := ⟨by decide +kernel, rfl⟩
theorem d12_226 : D m12 226 (.aload_n 0) 1 227 := ⟨by decide +kernel, rfl⟩
theorem d12_227 : D m12 227 (.getfield 66) 3 230 := ⟨by decide +kernel, rfl⟩
theorem d12_230 : D m12 230 (.iload 7) 2 232 := ⟨by decide +kernel, rfl⟩
theorem d12_232 : D m12 232 (.iload_n 1) 1 233 := ⟨by decide +kernel, rfl⟩
theorem d12_233 : D m12 233 (.iastore) 1 234 := ⟨by decide +kernel, rfl⟩
theorem d12_234 : D m12 234 (.aload_n 0) 1 235 := ⟨by decide +kernel, rfl⟩
theorem d12_235 : D m12 235 (.getfield 72) 3 238 := ⟨by decide +kernel, rfl⟩
theorem d12_238 : D m12 238 (.iload 7) 2 240 := ⟨by decide +kernel, rfl⟩
theorem d12_240 : D m12 240 (.iload_n 1) 1 241 := ⟨by decide +kernel, rfl⟩
theorem d12_241 : D m12 241 (.iinc 1 1) 3 244 := ⟨by decide +kernel, rfl⟩
theorem d12_244 : D m12 244 (.iastore) 1 245 := ⟨by decide +kernel, rfl⟩
theorem d12_245 : D m12 245 (.aload_n 0) 1 246 := ⟨by decide +kernel, rfl⟩
theorem d12_246 : D m12 246 (.getfield 78) 3 249 := ⟨by decide +kernel, rfl⟩
theorem d12_249 : D m12 249 (.iload 7) 2 251 := ⟨by decide +kernel, rfl⟩
theorem d12_251 : D m12 251 (.iconst 1) 1 252 := ⟨by decide +kernel, rfl⟩
theorem d12_252 : D m12 252 (.bastore) 1 253 := ⟨by decide +kernel, rfl⟩
theorem d12_253 : D m12 253 (.aload_n 0) 1 254 := ⟨by decide +kernel, rfl⟩
theorem d12_254 : D m12 254 (.getfield 81) 3 257 := ⟨by decide +kernel, rfl⟩
theorem d12_257 : D m12 257 (.iload_n 2) 1 258 := ⟨by decide +kernel, rfl⟩
theorem d12_258 : D m12 258 (.iinc 2 1) 3 261 := ⟨by decide +kernel, rfl⟩
theorem d12_261 : D m12 261 (.iload 7) 2 263 := ⟨by decide +kernel, rfl⟩
theorem d12_263 : D m12 263 (.iastore) 1 264 := ⟨by decide +kernel, rfl⟩
theorem d12_264 : D m12 264 (.iinc 5 1) 3 267 := ⟨by decide +kernel, rfl⟩
theorem d12_267 : D m12 267 (.aload_n 0) 1 268 := ⟨by decide +kernel, rfl⟩
theorem d12_268 : D m12 268 (.getfield 84) 3 271 := ⟨by decide +kernel, rfl⟩
theorem d12_271 : D m12 271 (.iload 5) 2 273 := ⟨by decide +kernel, rfl⟩
theorem d12_273 : D m12 273 (.iload 7) 2 275 := ⟨by decide +kernel, rfl⟩
theorem d12_275 : D m12 275 (.iastore) 1 276 := ⟨by decide +kernel, rfl⟩
theorem d12_276 : D m12 276 (.aload_n 0) 1 277 := ⟨by decide +kernel, rfl⟩
theorem d12_277 : D m12 277 (.getfield 87) 3 280 := ⟨by decide +kernel, rfl⟩
theorem d12_280 : D m12 280 (.iload 5) 2 282 := ⟨by decide +kernel, rfl⟩
theorem d12_282 : D m12 282 (.iload 7) 2 284 := ⟨by decide +kernel, rfl⟩
theorem d12_284 : D m12 284 (.aload_n 0) 1 285 := ⟨by decide +kernel, rfl⟩
theorem d12_285 : D m12 285 (.getfield 7) 3 288 := ⟨by decide +kernel, rfl⟩
theorem d12_288 : DB m12 288 (.if_icmp .ge 13) 13 291 301 := ⟨by decide +kernel, rfl, by decide, by decide⟩
theorem d12_291 : D m12 291 (.aload_n 0) 1 292 := ⟨by decide +kernel, rfl⟩
theorem d12_292 : D m12 292 (.getfield 32) 3 295 := ⟨by decide +kernel, rfl⟩
theorem d12_295 : D m12 295 (.iload 7) 2 297 := ⟨by decide +kernel, rfl⟩
theorem d12_297 : D m12 297 (.iaload) 1 298 := ⟨by decide +kernel, rfl⟩
theorem d12_298 : DB m12 298 (.goto 4) 4 301 302 := ⟨by decide +kernel, rfl, by decide, by decide⟩
theorem d12_301 : D m12 301 (.iconst 0) 1 302 := ⟨by decide +kernel, rfl⟩
theorem d12_302 : D m12 302 (.iastore) 1 303 := ⟨by decide +kernel, rfl⟩
theorem d12_303 : DB m12 303 (.goto (-131)) (-131) 306 172 := ⟨by decide +kernel, rfl, by decide, by decide⟩
theorem d12_306 : D m12 306 (.aload_n 0) 1 307 := ⟨by decide +kernel, rfl⟩
theorem d12_307 : D m12 307 (.getfield 78) 3 310 := ⟨by decide +kernel, rfl⟩
theorem d12_310 : D m12 310 (.iload 7) 2 312 := ⟨by decide +kernel, rfl⟩
theorem d12_312 : D m12 312 (.baload) 1 313 := ⟨by decide +kernel, rfl⟩
theorem d12_313 : DB m12 313 (.ifCond .eq (-141)) (-141) 316 172 := ⟨by decide +kernel, rfl, by decide, by decide⟩
theorem d12_316 : D m12 316 (.aload_n 0) 1 317 := ⟨by decide +kernel, rfl⟩
theorem d12_317 : D m12 317 (.getfield 72) 3 320 := ⟨by decide +kernel, rfl⟩
theorem d12_320 : D m12 320 (.iload 6) 2 322 := ⟨by decide +kernel, rfl⟩
theorem d12_322 : D m12 322 (.aload_n 0) 1 323 := ⟨by decide +kernel, rfl⟩
theorem d12_323 : D m12 323 (.getfield 72) 3 326 := ⟨by decide +kernel, rfl⟩
theorem d12_326 : D m12 326 (.iload 6) 2 328 := ⟨by decide +kernel, rfl⟩
theorem d12_328 : D m12 328 (.iaload) 1 329 := ⟨by decide +kernel, rfl⟩
theorem d12_329 : D m12 329 (.aload_n 0) 1 330 := ⟨by decide +kernel, rfl⟩
theorem d12_330 : D m12 330 (.getfield 66) 3 333 := ⟨by decide +kernel, rfl⟩
theorem d12_333 : D m12 333 (.iload 7) 2 335 := ⟨by decide +kernel, rfl⟩
theorem d12_335 : D m12 335 (.iaload) 1 336 := ⟨by decide +kernel, rfl⟩
theorem d12_336 : D m12 336 (.invokestatic 138) 3 339 := ⟨by decide +kernel, rfl⟩
theorem d12_339 : D m12 339 (.iastore) 1 340 := ⟨by decide +kernel, rfl⟩
theorem d12_340 : DB m12 340 (.goto (-168)) (-168) 343 172 := ⟨by decide +kernel, rfl, by decide, by decide⟩
theorem d12_343 : D m12 343 (.aload_n 0) 1 344 := ⟨by decide +kernel, rfl⟩
theorem d12_344 : D m12 344 (.getfield 72) 3 347 := ⟨by decide +kernel, rfl⟩
theorem d12_347 : D m12 347 (.iload 6) 2 349 := ⟨by decide +kernel, rfl⟩
theorem d12_349 : D m12 349 (.iaload) 1 350 := ⟨by decide +kernel, rfl⟩
theorem d12_350 : D m12 350 (.aload_n 0) 1 351 := ⟨by decide +kernel, rfl⟩
theorem d12_351 : D m12 351 (.getfield 66) 3 354 := ⟨by decide +kernel, rfl⟩
theorem d12_354 : D m12 354 (.iload 6) 2 356 := ⟨by decide +kernel, rfl⟩
theorem d12_356 : D m12 356 (.iaload) 1 357 := ⟨by decide +kernel, rfl⟩
theorem d12_357 : DB m12 357 (.if_icmp .ne 40) 40 360 397 := ⟨by decide +kernel, rfl, by decide, by decide⟩
theorem d12_360 : D m12 360 (.aload_n 0) 1 361 := ⟨by decide +kernel, rfl⟩
theorem d12_361 : D m12 361 (.getfield 81) 3 364 := ⟨by decide +kernel, rfl⟩
theorem d12_364 : D m12 364 (.iinc 2 (-1)) 3 367 := ⟨by decide +kernel, rfl⟩
theorem d12_367 : D m12 367 (.iload_n 2) 1 368 := ⟨by decide +kernel, rfl⟩
theorem d12_368 : D m12 368 (.iaload) 1 369 := ⟨by decide +kernel, rfl⟩
theorem d12_369 : D m12 369 (.istore 8) 2 371 := ⟨by decide +kernel, rfl⟩
theorem d12_371 : D m12 371 (.aload_n 0) 1 372 := ⟨by decide +kernel, rfl⟩
theorem d12_372 : D m12 372 (.getfield 78) 3 375 := ⟨by decide +kernel, rfl⟩
theorem d12_375 : D m12 375 (.iload 8) 2 377 := ⟨by decide +kernel, rfl⟩
theorem d12_377 : D m12 377 (.iconst 0) 1 378 := ⟨by decide +kernel, rfl⟩
theorem d12_378 : D m12 378 (.bastore) 1 379 := ⟨by decide +kernel, rfl⟩
theorem d12_379 : D m12 379 (.aload_n 0) 1 380 := ⟨by decide +kernel, rfl⟩
theorem d12_380 : D m12 380 (.getfield 75) 3 383 := ⟨by decide +kernel, rfl⟩
theorem d12_383 : D m12 383 (.iload 8) 2 385 := ⟨by decide +kernel, rfl⟩
theorem d12_385 : D m12 385 (.iload_n 3) 1 386 := ⟨by decide +kernel, rfl⟩
theorem d12_386 : D m12 386 (.iastore) 1 387 := ⟨by decide +kernel, rfl⟩
theorem d12_387 : D m12 387 (.iload 8) 2 389 := ⟨by decide +kernel, rfl⟩
theorem d12_389 : D m12 389 (.iload 6) 2 391 := ⟨by decide +kernel, rfl⟩
theorem d12_391 : DB m12 391 (.if_icmp .ne (-31)) (-31) 394 360 := ⟨by decide +kernel, rfl, by decide, by decide⟩
theorem d12_394 : D m12 394 (.iinc 3 1) 3 397 := ⟨by decide +kernel, rfl⟩
theorem d12_397 : D m12 397 (.iinc 5 (-1)) 3 400 := ⟨by decide +kernel, rfl⟩
theorem d12_400 : D m12 400 (.iload 5) 2 402 := ⟨by decide +kernel, rfl⟩
theorem d12_402 : DB m12 402 (.ifCond .lt 36) 36 405 438 := ⟨by decide +kernel, rfl, by decide, by decide⟩
theorem d12_405 : D m12 405 (.aload_n 0) 1 406 := ⟨by decide +kernel, rfl⟩
theorem d12_406 : D m12 406 (.getfield 84) 3 409 := ⟨by decide +kernel, rfl⟩
theorem d12_409 : D m12 409 (.iload 5) 2 411 := ⟨by decide +kernel, rfl⟩
theorem d12_411 : D m12 411 (.iaload) 1 412 := ⟨by decide +kernel, rfl⟩
theorem d12_412 : D m12 412 (.istore 8) 2 414 := ⟨by decide +kernel, rfl⟩
theorem d12_414 : D m12 414 (.aload_n 0) 1 415 := ⟨by decide +kernel, rfl⟩
theorem d12_415 : D m12 415 (.getfield 72) 3 418 := ⟨by decide +kernel, rfl⟩
theorem d12_418 : D m12 418 (.iload 8) 2 420 := ⟨by decide +kernel, rfl⟩
theorem d12_420 : D m12 420 (.aload_n 0) 1 421 := ⟨by decide +kernel, rfl⟩
theorem d12_421 : D m12 421 (.getfield 72) 3 424 := ⟨by decide +kernel, rfl⟩
theorem d12_424 : D m12 424 (.iload 8) 2 426 := ⟨by decide +kernel, rfl⟩
theorem d12_426 : D m12 426 (.iaload) 1 427 := ⟨by decide +kernel, rfl⟩
theorem d12_427 : D m12 427 (.aload_n 0) 1 428 := ⟨by decide +kernel, rfl⟩
theorem d12_428 : D m12 428 (.getfield 72) 3 431 := ⟨by decide +kernel, rfl⟩
theorem d12_431 : D m12 431 (.iload 6) 2 433 := ⟨by decide +kernel, rfl⟩
theorem d12_433 : D m12 433 (.iaload) 1 434 := ⟨by decide +kernel, rfl⟩
theorem d12_434 : D m12 434 (.invokestatic 138) 3 437 := ⟨by decide +kernel, rfl⟩
theorem d12_437 : D m12 437 (.iastore) 1 438 := ⟨by decide +kernel, rfl⟩
theorem d12_438 : DB m12 438 (.goto (-266)) (-266) 441 172 := ⟨by decide +kernel, rfl, by decide, by decide⟩
theorem d12_441 : D m12 441 (.iinc 4 1) 3 444 := ⟨by decide +kernel, rfl⟩
theorem d12_444 : DB m12 444 (.goto (-406)) (-406) 447 38 := ⟨by decide +kernel, rfl, by decide, by decide⟩
theorem d12_447 : D m12 447 (.return_) 1 448 := ⟨by decide +kernel, rfl⟩
theorem d13_0 : D m13 0 (.aload_n 0) 1 1 := ⟨by decide +kernel, rfl⟩
theorem d13_1 : D m13 1 (.getfield 7) 3 4 := ⟨by decide +kernel, rfl⟩
theorem d13_4 : D m13 4 (.aload_n 0) 1 5 := ⟨by decide +kernel, rfl⟩
theorem d13_5 : D m13 5 (.getfield 13) 3 8 := ⟨by decide +kernel, rfl⟩
theorem d13_8 : D m13 8 (.iadd) 1 9 := ⟨by decide +kernel, rfl⟩
theorem d13_9 : D m13 9 (.istore_n 3) 1 10 := ⟨by decide +kernel, rfl⟩
theorem d13_10 : D m13 10 (.iload_n 1) 1 11 := ⟨by decide +kernel, rfl⟩
theorem d13_11 : D m13 11 (.aload_n 0) 1 12 := ⟨by decide +kernel, rfl⟩
theorem d13_12 : D m13 12 (.getfield 7) 3 15 := ⟨by decide +kernel, rfl⟩
theorem d13_15 : DB m13 15 (.if_icmp .ge 81) 81 18 96 := ⟨by decide +kernel, rfl, by decide, by decide⟩
theorem d13_18 : D m13 18 (.aload_n 0) 1 19 := ⟨by decide +kernel, rfl⟩
theorem d13_19 : D m13 19 (.getfield 87) 3 22 := ⟨by decide +kernel, rfl⟩
theorem d13_22 : D m13 22 (.iload_n 2) 1 23 := ⟨by decide +kernel, rfl⟩
theorem d13_23 : D m13 23 (.iaload) 1 24 := ⟨by decide +kernel, rfl⟩
theorem d13_24 : D m13 24 (.istore 4) 2 26 := ⟨by decide +kernel, rfl⟩
theorem d13_26 : D m13 26 (.iload 4) 2 28 := ⟨by decide +kernel, rfl⟩
theorem d13_28 : D m13 28 (.aload_n 0) 1 29 := ⟨by decide +kernel, rfl⟩
theorem d13_29 : D m13 29 (.getfield 35) 3 32 := ⟨by decide +kernel, rfl⟩
theorem d13_32 : D m13 32 (.iload_n 1) 1 33 := ⟨by decide +kernel, rfl⟩
theorem d13_33 : D m13 33 (.iaload) 1 34 := ⟨by decide +kernel, rfl⟩
theorem d13_34 : DB m13 34 (.if_icmp .ge 48) 48 37 82 := ⟨by decide +kernel, rfl, by decide, by decide⟩
theorem d13_37 : D m13 37 (.aload_n 0) 1 38 := ⟨by decide +kernel, rfl⟩
theorem d13_38 : D m13 38 (.getfield 44) 3 41 := ⟨by decide +kernel, rfl⟩
theorem d13_41 : D m13 41 (.iload 4) 2 43 := ⟨by decide +kernel, rfl⟩
theorem d13_43 : D m13 43 (.iaload) 1 44 := ⟨by decide +kernel, rfl⟩
theorem d13_44 : D m13 44 (.aload_n 0) 1 45 := ⟨by decide +kernel, rfl⟩
theorem d13_45 : D m13 45 (.getfield 16) 3 48 := ⟨by decide +kernel, rfl⟩
theorem d13_48 : D m13 48 (.iload_n 1) 1 49 := ⟨by decide +kernel, rfl⟩
theorem d13_49 : D m13 49 (.iaload) 1 50 := ⟨by decide +kernel, rfl⟩
theorem d13_50 : DB m13 50 (.if_icmp .eq 26) 26 53 76 := ⟨by decide +kernel, rfl, by decide, by decide⟩
theorem d13_53 : D m13 53 (.aload_n 0) 1 54 := ⟨by decide +kernel, rfl⟩
theorem d13_54 : D m13 54 (.getfield 87) 3 57 := ⟨by decide +kernel, rfl⟩
theorem d13_57 : D m13 57 (.iload_n 2) 1 58 := ⟨by decide +kernel, rfl⟩
theorem d13_58 : D m13 58 (.iload 4) 2 60 := ⟨by decide +kernel, rfl⟩
theorem d13_60 : D m13 60 (.iconst 1) 1 61 := ⟨by decide +kernel, rfl⟩
theorem d13_61 : D m13 61 (.iadd) 1 62 := ⟨by decide +kernel, rfl⟩
theorem d13_62 : D m13 62 (.iastore) 1 63 := ⟨by decide +kernel, rfl⟩
theorem d13_63 : D m13 63 (.aload_n 0) 1 64 := ⟨by decide +kernel, rfl⟩
theorem d13_64 : D m13 64 (.getfield 7) 3 67 := ⟨by decide +kernel, rfl⟩
theorem d13_67 : D m13 67 (.aload_n 0) 1 68 := ⟨by decide +kernel, rfl⟩
theorem d13_68 : D m13 68 (.getfield 44) 3 71 := ⟨by decide +kernel, rfl⟩
theorem d13_71 : D m13 71 (.iload 4) 2 73 := ⟨by decide +kernel, rfl⟩
theorem d13_73 : D m13 73 (.iaload) 1 74 := ⟨by decide +kernel, rfl⟩
theorem d13_74 : D m13 74 (.iadd) 1 75 := ⟨by decide +kernel, rfl⟩
theorem d13_75 : D m13 75 (.ireturn) 1 76 := ⟨by decide +kernel, rfl⟩
theorem d13_76 : D m13 76 (.iinc 4 1) 3 79 := ⟨by decide +kernel, rfl⟩
theorem d13_79 : DB m13 79 (.goto (-53)) (-53) 82 26 := ⟨by decide +kernel, rfl, by decide, by decide⟩
theorem d13_82 : D m13 82 (.aload_n 0) 1 83 := ⟨by decide +kernel, rfl⟩
theorem d13_83 : D m13 83 (.getfield 87) 3 86 := ⟨by decide +kernel, rfl⟩
theorem d13_86 : D m13 86 (.iload_n 2) 1 87 := ⟨by decide +kernel, rfl⟩
theorem d13_87 : D m13 87 (.aload_n 0) 1 88 := ⟨by decide +kernel, rfl⟩
theorem d13_88 : D m13 88 (.getfield 35) 3 91 := ⟨by decide +kernel, rfl⟩
theorem d13_91 : D m13 91 (.iload_n 1) 1 92 := ⟨by decide +kernel, rfl⟩
theorem d13_92 : D m13 92 (.iaload) 1 93 := ⟨by decide +kernel, rfl⟩
theorem d13_93 : D m13 93 (.iastore) 1 94 := ⟨by decide +kernel, rfl⟩
theorem d13_94 : D m13 94 (.iconst (-1)) 1 95 := ⟨by decide +kernel, rfl⟩
theorem d13_95 : D m13 95 (.ireturn) 1 96 := ⟨by decide +kernel, rfl⟩
theorem d13_96 : D m13 96 (.aload_n 0) 1 97 := ⟨by decide +kernel, rfl⟩
theorem d13_97 : D m13 97 (.getfield 87) 3 100 := ⟨by decide +kernel, rfl⟩
theorem d13_100 : D m13 100 (.iload_n 2) 1 101 := ⟨by decide +kernel, rfl⟩
theorem d13_101 : D m13 101 (.dup2) 1 102 := ⟨by decide +kernel, rfl⟩
theorem d13_102 : D m13 102 (.iaload) 1 103 := ⟨by decide +kernel, rfl⟩
theorem d13_103 : D m13 103 (.dup_x2) 1 104 := ⟨by decide +kernel, rfl⟩
theorem d13_104 : D m13 104 (.iconst 1) 1 105 := ⟨by decide +kernel, rfl⟩
theorem d13_105 : D m13 105 (.iadd) 1 106 := ⟨by decide +kernel, rfl⟩
theorem d13_106 : D m13 106 (.iastore) 1 107 := ⟨by decide +kernel, rfl⟩
theorem d13_107 : D m13 107 (.istore 4) 2 109 := ⟨by decide +kernel, rfl⟩
theorem d13_109 : D m13 109 (.iload_n 1) 1 110 := ⟨by decide +kernel, rfl⟩
theorem d13_110 : D m13 110 (.iload_n 3) 1 111 := ⟨by decide +kernel, rfl⟩
theorem d13_111 : DB m13 111 (.if_icmp .ge 36) 36 114 147 := ⟨by decide +kernel, rfl, by decide, by decide⟩
theorem d13_114 : D m13 114 (.iload 4) 2 116 := ⟨by decide +kernel, rfl⟩
theorem d13_116 : DB m13 116 (.ifCond .le 5) 5 119 121 := ⟨by decide +kernel, rfl, by decide, by decide⟩
theorem d13_119 : D m13 119 (.iconst (-1)) 1 120 := ⟨by decide +kernel, rfl⟩
theorem d13_120 : D m13 120 (.ireturn) 1 121 := ⟨by decide +kernel, rfl⟩
theorem d13_121 : D m13 121 (.aload_n 0) 1 122 := ⟨by decide +kernel, rfl⟩
theorem d13_122 : D m13 122 (.getfield 20) 3 125 := ⟨by decide +kernel, rfl⟩
theorem d13_125 : D m13 125 (.iload_n 1) 1 126 := ⟨by decide +kernel, rfl⟩
theorem d13_126 : D m13 126 (.aload_n 0) 1 127 := ⟨by decide +kernel, rfl⟩
theorem d13_127 : D m13 127 (.getfield 7) 3 130 := ⟨by decide +kernel, rfl⟩
theorem d13_130 : D m13 130 (.isub) 1 131 := ⟨by decide +kernel, rfl⟩
theorem d13_131 : D m13 131 (.iaload) 1 132 := ⟨by decide +kernel, rfl⟩
theorem d13_132 : D m13 132 (.istore 5) 2 134 := ⟨by decide +kernel, rfl⟩
theorem d13_134 : D m13 134 (.iload 5) 2 136 := ⟨by decide +kernel, rfl⟩
theorem d13_136 : D m13 136 (.iconst (-1)) 1 137 := ⟨by decide +kernel, rfl⟩
theorem d13_137 : DB m13 137 (.if_icmp .ne 7) 7 140 144 := ⟨by decide +kernel, rfl, by decide, by decide⟩
theorem d13_140 : D m13 140 (.iload_n 3) 1 141 := ⟨by decide +kernel, rfl⟩
theorem d13_141 : DB m13 141 (.goto 5) 5 144 146 := ⟨by decide +kernel, rfl, by decide, by decide⟩
theorem d13_144 : D m13 144 (.iload 5) 2 146 := ⟨by decide +kernel, rfl⟩
theorem d13_146 : D m13 146 (.ireturn) 1 147 := ⟨by decide +kernel, rfl⟩
theorem d13_147 : D m13 147 (.iload 4) 2 149 := ⟨by decide +kernel, rfl⟩
theorem d13_149 : D m13 149 (.aload_n 0) 1 150 := ⟨by decide +kernel, rfl⟩
theorem d13_150 : D m13 150 (.getfield 90) 3 153 := ⟨by decide +kernel, rfl⟩
theorem d13_153 : DB m13 153 (.if_icmp .ge 23) 23 156 176 := ⟨by decide +kernel, rfl, by decide, by decide⟩
theorem d13_156 : D m13 156 (.aload_n 0) 1 157 := ⟨by decide +kernel, rfl⟩
theorem d13_157 : D m13 157 (.getfield 7) 3 160 := ⟨by decide +kernel, rfl⟩
theorem d13_160 : D m13 160 (.aload_n 0) 1 161 := ⟨by decide +kernel, rfl⟩
theorem d13_161 : D m13 161 (.getfield 16) 3 164 := ⟨by decide +kernel, rfl⟩
theorem d13_164 : D m13 164 (.aload_n 0) 1 165 := ⟨by decide +kernel, rfl⟩
theorem d13_165 : D m13 165 (.getfield 29) 3 168 := ⟨by decide +kernel, rfl⟩
theorem d13_168 : D m13 168 (.iload 4) 2 170 := ⟨by decide +kernel, rfl⟩
theorem d13_170 : D m13 170 (.iaload) 1 171 := ⟨by decide +kernel, rfl⟩
theorem d13_171 : D m13 171 (.iaload) 1 172 := ⟨by decide +kernel, rfl⟩
theorem d13_172 : D m13 172 (.iadd) 1 173 := ⟨by decide +kernel, rfl⟩
theorem d13_173 : DB m13 173 (.goto 4) 4 176 177 := ⟨by decide +kernel, rfl, by decide, by decide⟩
theorem d13_176 : D m13 176 (.iconst (-1)) 1 177 := ⟨by decide +kernel, rfl⟩
theorem d13_177 : D m13 177 (.ireturn) 1 178 := ⟨by decide +kernel, rfl⟩
theorem d14_0 : D m14 0 (.aload_n 0) 1 1 := ⟨by decide +kernel, rfl⟩
theorem d14_1 : D m14 1 (.getfield 44) 3 4 := ⟨by decide +kernel, rfl⟩
theorem d14_4 : D m14 4 (.iload_n 2) 1 5 := ⟨by decide +kernel, rfl⟩
theorem d14_5 : D m14 5 (.iaload) 1 6 := ⟨by decide +kernel, rfl⟩
theorem d14_6 : D m14 6 (.istore_n 3) 1 7 := ⟨by decide +kernel, rfl⟩
theorem d14_7 : D m14 7 (.aload_n 0) 1 8 := ⟨by decide +kernel, rfl⟩
theorem d14_8 : D m14 8 (.getfield 16) 3 11 := ⟨by decide +kernel, rfl⟩
theorem d14_11 : D m14 11 (.iload_n 1) 1 12 := ⟨by decide +kernel, rfl⟩
theorem d14_12 : D m14 12 (.iaload) 1 13 := ⟨by decide +kernel, rfl⟩
theorem d14_13 : D m14 13 (.iload_n 3) 1 14 := ⟨by decide +kernel, rfl⟩
theorem d14_14 : DB m14 14 (.if_icmp .eq 23) 23 17 37 := ⟨by decide +kernel, rfl, by decide, by decide⟩
theorem d14_17 : D m14 17 (.aload_n 0) 1 18 := ⟨by decide +kernel, rfl⟩
theorem d14_18 : D m14 18 (.getfield 75) 3 21 := ⟨by decide +kernel, rfl⟩
theorem d14_21 : D m14 21 (.aload_n 0) 1 22 := ⟨by decide +kernel, rfl⟩
theorem d14_22 : D m14 22 (.getfield 7) 3 25 := ⟨by decide +kernel, rfl⟩
theorem d14_25 : D m14 25 (.iload_n 3) 1 26 := ⟨by decide +kernel, rfl⟩
theorem d14_26 : D m14 26 (.iadd) 1 27 := ⟨by decide +kernel, rfl⟩
theorem d14_27 : D m14 27 (.iaload) 1 28 := ⟨by decide +kernel, rfl⟩
theorem d14_28 : D m14 28 (.aload_n 0) 1 29 := ⟨by decide +kernel, rfl⟩
theorem d14_29 : D m14 29 (.getfield 75) 3 32 := ⟨by decide +kernel, rfl⟩
theorem d14_32 : D m14 32 (.iload_n 1) 1 33 := ⟨by decide +kernel, rfl⟩
theorem d14_33 : D m14 33 (.iaload) 1 34 := ⟨by decide +kernel, rfl⟩
theorem d14_34 : DB m14 34 (.if_icmp .ne 7) 7 37 41 := ⟨by decide +kernel, rfl, by decide, by decide⟩
theorem d14_37 : D m14 37 (.iconst 1) 1 38 := ⟨by decide +kernel, rfl⟩
theorem d14_38 : DB m14 38 (.goto 4) 4 41 42 := ⟨by decide +kernel, rfl, by decide, by decide⟩
theorem d14_41 : D m14 41 (.iconst 0) 1 42 := ⟨by decide +kernel, rfl⟩
theorem d14_42 : D m14 42 (.ireturn) 1 43 := ⟨by decide +kernel, rfl⟩
theorem d15_0 : D m15 0 (.iload_n 0) 1 1 := ⟨by decide +kernel, rfl⟩
theorem d15_1 : D m15 1 (.iload_n 1) 1 2 := ⟨by decide +kernel, rfl⟩
theorem d15_2 : DB m15 2 (.if_icmp .gt 7) 7 5 9 := ⟨by decide +kernel, rfl, by decide, by decide⟩
theorem d15_5 : D m15 5 (.iload_n 0) 1 6 := ⟨by decide +kernel, rfl⟩
theorem d15_6 : DB m15 6 (.goto 4) 4 9 10 := ⟨by decide +kernel, rfl, by decide, by decide⟩
theorem d15_9 : D m15 9 (.iload_n 1) 1 10 := ⟨by decide +kernel, rfl⟩
theorem d15_10 : D m15 10 (.ireturn) 1 11 := ⟨by decide +kernel, rfl⟩
theorem pn0 : plainName "org/tourney/ValueGraphIsInSomeMatchingPinLaw" = true := by first | (simp [plainName, overriddenIn]; done) | decide +kernel
theorem pn1 : plainName "org/tourney/ValueGraph" = true := by first | (simp [plainName, overriddenIn]; done) | decide +kernel
theorem pd1 : parseMethodDescriptor "(II)V" = some ⟨[.int, .int], none⟩ := by decide +kernel
theorem ok1 {Z : State} {a0 : Array Value} (hw : ∀ d ∈ tables_1, d.before a0 Z = true) : OkM a0 Z m1 2 := ⟨hw _ (wd 8 rfl), hw _ (wd 5 rfl), plainFor_of_name pn1, ⟨by decide, by decide⟩, arity pd1 rfl⟩
theorem pn2 : plainName "java/util/Arrays" = true := by first | (simp [plainName, overriddenIn]; done) | decide +kernel
theorem pd3 : parseMethodDescriptor "([II)V" = some ⟨[(.array .int), .int], none⟩ := by decide +kernel
theorem ok3 {Z : State} {a0 : Array Value} (hw : ∀ d ∈ tables_1, d.before a0 Z = true) : OkM a0 Z m3 2 := ⟨hw _ (wd 23 rfl), hw _ (wd 22 rfl), plainFor_of_name pn2, ⟨by decide, by decide⟩, arity pd3 rfl⟩
theorem pd4 : parseMethodDescriptor "(II)I" = some ⟨[.int, .int], some .int⟩ := by decide +kernel
theorem ok4 {Z : State} {a0 : Array Value} (hw : ∀ d ∈ tables_1, d.before a0 Z = true) : OkM a0 Z m4 2 := ⟨hw _ (wd 33 rfl), hw _ (wd 32 rfl), Jvm.Free.JP.mathPlain rfl (by decide +kernel), ⟨by decide, by decide⟩, arity pd4 rfl⟩
theorem pd5 : parseMethodDescriptor "(I)V" = some ⟨[.int], none⟩ := by decide +kernel
theorem ok5 {Z : State} {a0 : Array Value} (hw : ∀ d ∈ tables_1, d.before a0 Z = true) : OkM a0 Z m5 1 := ⟨hw _ (wd 69 rfl), hw _ (wd 5 rfl), plainFor_of_name pn1, ⟨by decide, by decide⟩, arity pd5 rfl⟩
theorem pd6 : parseMethodDescriptor "(Lorg/tourney/ValueGraph;II[I[I)I" = some ⟨[(.object "org/tourney/ValueGraph"), .int, .int, (.array .int), (.array .int)], some .int⟩ := by decide +kernel
theorem ok6 {Z : State} {a0 : Array Value} (hw : ∀ d ∈ tables_1, d.before a0 Z = true) : OkM a0 Z m6 5 := ⟨hw _ (wd 77 rfl), hw _ (wd 76 rfl), plainFor_of_name pn0, ⟨by decide, by decide⟩, arity pd6 rfl⟩
theorem pd7 : parseMethodDescriptor "(I)I" = some ⟨[.int], some .int⟩ := by decide +kernel
theorem ok7 {Z : State} {a0 : Array Value} (hw : ∀ d ∈ tables_1, d.before a0 Z = true) : OkM a0 Z m7 1 := ⟨hw _ (wd 82 rfl), hw _ (wd 5 rfl), plainFor_of_name pn1, ⟨by decide, by decide⟩, arity pd7 rfl⟩
theorem pd8 : parseMethodDescriptor "(Lorg/tourney/Deadline;)Z" = some ⟨[(.object "org/tourney/Deadline")], some .boolean⟩ := by decide +kernel
theorem ok8 {Z : State} {a0 : Array Value} (hw : ∀ d ∈ tables_1, d.before a0 Z = true) : OkM a0 Z m8 1 := ⟨hw _ (wd 87 rfl), hw _ (wd 5 rfl), plainFor_of_name pn1, ⟨by decide, by decide⟩, arity pd8 rfl⟩
theorem pd9 : parseMethodDescriptor "(ILorg/tourney/Deadline;)Z" = some ⟨[.int, (.object "org/tourney/Deadline")], some .boolean⟩ := by decide +kernel
theorem ok9 {Z : State} {a0 : Array Value} (hw : ∀ d ∈ tables_1, d.before a0 Z = true) : OkM a0 Z m9 2 := ⟨hw _ (wd 91 rfl), hw _ (wd 5 rfl), plainFor_of_name pn1, ⟨by decide, by decide⟩, arity pd9 rfl⟩
theorem pd10 : parseMethodDescriptor "()V" = some ⟨[], none⟩ := by decide +kernel
theorem ok10 {Z : State} {a0 : Array Value} (hw : ∀ d ∈ tables_1, d.before a0 Z = true) : OkM a0 Z m10 0 := ⟨hw _ (wd 95 rfl), hw _ (wd 5 rfl), plainFor_of_name pn1, ⟨by decide, by decide⟩, arity pd10 rfl⟩
theorem pd11 : parseMethodDescriptor "(I)I" = some ⟨[.int], some .int⟩ := by decide +kernel
theorem ok11 {Z : State} {a0 : Array Value} (hw : ∀ d ∈ tables_1, d.before a0 Z = true) : OkM a0 Z m11 1 := ⟨hw _ (wd 102 rfl), hw _ (wd 5 rfl), plainFor_of_name pn1, ⟨by decide, by decide⟩, arity pd11 rfl⟩
theorem pd12 : parseMethodDescriptor "()V" = some ⟨[], none⟩ := by decide +kernel
theorem ok12 {Z : State} {a0 : Array Value} (hw : ∀ d ∈ tables_1, d.before a0 Z = true) : OkM a0 Z m12 0 := ⟨hw _ (wd 107 rfl), hw _ (wd 5 rfl), plainFor_of_name pn1, ⟨by decide, by decide⟩, arity pd12 rfl⟩
theorem pd13 : parseMethodDescriptor "(II)I" = some ⟨[.int, .int], some .int⟩ := by decide +kernel
theorem ok13 {Z : State} {a0 : Array Value} (hw : ∀ d ∈ tables_1, d.before a0 Z = true) : OkM a0 Z m13 2 := ⟨hw _ (wd 113 rfl), hw _ (wd 5 rfl), plainFor_of_name pn1, ⟨by decide, by decide⟩, arity pd13 rfl⟩
theorem pd14 : parseMethodDescriptor "(II)Z" = some ⟨[.int, .int], some .boolean⟩ := by decide +kernel
theorem ok14 {Z : State} {a0 : Array Value} (hw : ∀ d ∈ tables_1, d.before a0 Z = true) : OkM a0 Z m14 2 := ⟨hw _ (wd 118 rfl), hw _ (wd 5 rfl), plainFor_of_name pn1, ⟨by decide, by decide⟩, arity pd14 rfl⟩
theorem pd15 : parseMethodDescriptor "(II)I" = some ⟨[.int, .int], some .int⟩ := by decide +kernel
theorem ok15 {Z : State} {a0 : Array Value} (hw : ∀ d ∈ tables_1, d.before a0 Z = true) : OkM a0 Z m15 2 := ⟨hw _ (wd 121 rfl), hw _ (wd 32 rfl), Jvm.Free.JP.mathPlain rfl (by decide +kernel), ⟨by decide, by decide⟩, arity pd15 rfl⟩
def fs0 : List (Key × Value) := [(("org/tourney/ValueGraph", "positions", "I"), .int 0), (("org/tourney/ValueGraph", "values", "I"), .int 0), (("org/tourney/ValueGraph", "matchedValue", "[I"), .null), (("org/tourney/ValueGraph", "matchedPosition", "[I"), .null), (("org/tourney/ValueGraph", "openPositions", "[I"), .null), (("org/tourney/ValueGraph", "edgeStart", "[I"), .null), (("org/tourney/ValueGraph", "edgeEnd", "[I"), .null), (("org/tourney/ValueGraph", "edgeValue", "[I"), .null), (("org/tourney/ValueGraph", "keepsMatch", "[Z"), .null), (("org/tourney/ValueGraph", "reached", "[I"), .null), (("org/tourney/ValueGraph", "pathPositions", "[I"), .null), (("org/tourney/ValueGraph", "pathCursors", "[I"), .null), (("org/tourney/ValueGraph", "pathTried", "[I"), .null), (("org/tourney/ValueGraph", "sizeCounts", "[I"), .null), (("org/tourney/ValueGraph", "discovery", "[I"), .null), (("org/tourney/ValueGraph", "discoveredIn", "[I"), .null), (("org/tourney/ValueGraph", "lowest", "[I"), .null), (("org/tourney/ValueGraph", "component", "[I"), .null), (("org/tourney/ValueGraph", "isOpen", "[Z"), .null), (("org/tourney/ValueGraph", "openNodes", "[I"), .null), (("org/tourney/ValueGraph", "dfsNodes", "[I"), .null), (("org/tourney/ValueGraph", "dfsCursors", "[I"), .null), (("org/tourney/ValueGraph", "openCount", "I"), .int 0), (("org/tourney/ValueGraph", "edgeCount", "I"), .int 0), (("org/tourney/ValueGraph", "stamp", "I"), .int 0), (("org/tourney/ValueGraph", "search", "I"), .int 0)]
theorem okc0 {Z : State} {a0 : Array Value} (hw : ∀ d ∈ tables_1, d.before a0 Z = true) : OkC a0 Z "org/tourney/ValueGraph" 26 fs0 := by
  refine ⟨hw _ (wd 4 rfl), hw _ (wd 5 rfl), fun q hq => ?_, by simp [fs0]⟩
  simp only [fs0, List.mem_cons, List.not_mem_nil, or_false] at hq
  rcases hq with rfl | rfl | rfl | rfl | rfl | rfl | rfl | rfl | rfl | rfl | rfl | rfl | rfl | rfl | rfl | rfl | rfl | rfl | rfl | rfl | rfl | rfl | rfl | rfl | rfl | rfl
  · exact ⟨.int, Or.inr (hw _ (wd 13 rfl)), by decide, rfl⟩
  · exact ⟨.int, Or.inr (hw _ (wd 15 rfl)), by decide, rfl⟩
  · exact ⟨(.array .int), Or.inr (hw _ (wd 17 rfl)), by decide, rfl⟩
  · exact ⟨(.array .int), Or.inr (hw _ (wd 19 rfl)), by decide, rfl⟩
  · exact ⟨(.array .int), Or.inr (hw _ (wd 25 rfl)), by decide, rfl⟩
  · exact ⟨(.array .int), Or.inr (hw _ (wd 27 rfl)), by decide, rfl⟩
  · exact ⟨(.array .int), Or.inr (hw _ (wd 29 rfl)), by decide, rfl⟩
  · exact ⟨(.array .int), Or.inl (hw _ (wd 35 rfl)), by decide, rfl⟩
  · exact ⟨(.array .boolean), Or.inr (hw _ (wd 38 rfl)), by decide, rfl⟩
  · exact ⟨(.array .int), Or.inr (hw _ (wd 40 rfl)), by decide, rfl⟩
  · exact ⟨(.array .int), Or.inr (hw _ (wd 42 rfl)), by decide, rfl⟩
  · exact ⟨(.array .int), Or.inr (hw _ (wd 44 rfl)), by decide, rfl⟩
  · exact ⟨(.array .int), Or.inr (hw _ (wd 46 rfl)), by decide, rfl⟩
  · exact ⟨(.array .int), Or.inr (hw _ (wd 48 rfl)), by decide, rfl⟩
  · exact ⟨(.array .int), Or.inr (hw _ (wd 50 rfl)), by decide, rfl⟩
  · exact ⟨(.array .int), Or.inr (hw _ (wd 52 rfl)), by decide, rfl⟩
  · exact ⟨(.array .int), Or.inr (hw _ (wd 54 rfl)), by decide, rfl⟩
  · exact ⟨(.array .int), Or.inr (hw _ (wd 56 rfl)), by decide, rfl⟩
  · exact ⟨(.array .boolean), Or.inr (hw _ (wd 58 rfl)), by decide, rfl⟩
  · exact ⟨(.array .int), Or.inr (hw _ (wd 60 rfl)), by decide, rfl⟩
  · exact ⟨(.array .int), Or.inr (hw _ (wd 62 rfl)), by decide, rfl⟩
  · exact ⟨(.array .int), Or.inr (hw _ (wd 64 rfl)), by decide, rfl⟩
  · exact ⟨.int, Or.inl (hw _ (wd 71 rfl)), by decide, rfl⟩
  · exact ⟨.int, Or.inl (hw _ (wd 73 rfl)), by decide, rfl⟩
  · exact ⟨.int, Or.inl (hw _ (wd 97 rfl)), by decide, rfl⟩
  · exact ⟨.int, Or.inl (hw _ (wd 109 rfl)), by decide, rfl⟩
section OwnN
variable {b : Bool} {l : Launch} {Z : State} {n : Nat} {M : Meth} {pc pc' : Nat} {ls : List Slot} {st : List Value} {H : AHeap} {ce sl : Nat} {Q : Option Value → AHeap → Prop} {a0 : Array Value}
theorem own_dup3 {tb : Tables} [Ours tb] {e : Env} {below : List Frame} {T target : State} {m : MethodId} {c : Code} {g : JFrame} (h : At T m c below) (hx : tb.exec = Jvm.exec) (hg : g.method = m) {x y z : Value} {rest : List Value} (hd : decode c.code g.pc = .ok (.dup_x2, 1)) (hs : g.stack = x :: y :: z :: rest) (hc : x.category = 1) (hc' : y.category = 1) (hc2 : z.category = 1)
    (hr : Steps tb e below (T.setTop { g with pc := g.pc + 1, stack := x :: y :: z :: x :: rest }) target) : Steps tb e below (T.setTop g) target := by
  subst hg
  jvm_step h [h.top, hx, hd, hs, hc, hc', hc2]
  exact hr
theorem W.dupX2 {v w u : Value} (hd : D M pc .dup_x2 1 pc') (hv : v.category = 1) (hw : w.category = 1) (hu : u.category = 1) (k : WB b l Z n M pc' ls (v :: w :: u :: v :: st) H ce sl Q) : WB b l Z n M pc ls (v :: w :: u :: st) H ce sl Q := by
  obtain ⟨hd, rfl⟩ := hd
  exact W.pure (fun p e s m args below meth c C T locs X target h => own_dup3 X.here C.1 rfl (hb C.2.2.2.1 hd) rfl ((up_cat n v).trans hv) ((up_cat n w).trans hw) ((up_cat n u).trans hu) h) k
def own_v (n : Nat) : Value := .int (Int32.ofNat n)
theorem own_i {a : Nat} (h : a < 1000) : (Int32.ofNat a).toInt = a := Int32.toInt_ofNat_of_lt (by omega)
theorem own_idx (a : Nat) (h : a < 1000) : ¬ Int32.ofNat a < 0 ∧ (Int32.ofNat a).toNatClampNeg = a := by
  have e := own_i h
  refine ⟨?_, ?_⟩
  · rw [Int32.lt_iff_toInt_lt, e]; have : (0 : Int32).toInt = 0 := rfl; omega
  · show (Int32.ofNat a).toInt.toNat = a; rw [e] <;> rfl
theorem own_add (a b : Nat) : Int32.ofNat a + Int32.ofNat b = Int32.ofNat (a + b) := (Int32.ofNat_add a b).symm
theorem own_rd {L : List Nat} {i N : Nat} (hL : L.length = N) (hi : i < N) : (L.map own_v)[i]? = some (own_v (L.getD i 0)) := by
  have h : i < L.length := by omega
  rw [List.getElem?_map, List.getD_eq_getElem?_getD, List.getElem?_eq_getElem h] <;> rfl
theorem own_ls {L : List Nat} {i x N : Nat} (h : L.length = N) : (L.set i x).length = N := by rw [List.length_set, h]
theorem own_wr (L : List Nat) (i x : Nat) : (L.map own_v).set i (own_v x) = (L.set i x).map own_v := by rw [List.map_set]
theorem own_iload {k i N x : Nat} {L : List Nat} {j : Int32} (hd : D M pc .iaload 1 pc') (hk : H[k]? = some (.inr (.int, L.map own_v))) (hj : j = Int32.ofNat i) (hi : i < N) (hN : N < 1000) (hL : L.length = N) (hx : x = L.getD i 0) (kk : WB b l Z n M pc' ls (.int (Int32.ofNat x) :: st) H ce sl Q) : WB b l Z n M pc ls (.int j :: .ref k :: st) H ce sl Q := by
  subst hj; subst hx
  exact W.iaload hd hk (own_idx i (by omega)) (own_rd hL hi) kk
theorem own_zload {k i N x : Nat} {L : List Nat} {j : Int32} (hd : D M pc .baload 1 pc') (hk : H[k]? = some (.inr (.boolean, L.map own_v))) (hj : j = Int32.ofNat i) (hi : i < N) (hN : N < 1000) (hL : L.length = N) (hx : x = L.getD i 0) (kk : WB b l Z n M pc' ls (.int (Int32.ofNat x) :: st) H ce sl Q) : WB b l Z n M pc ls (.int j :: .ref k :: st) H ce sl Q := by
  subst hj; subst hx
  exact W.zaload hd hk (own_idx i (by omega)) (own_rd hL hi) kk
theorem own_istore {k i x N : Nat} {L : List Nat} {j v : Int32} (hd : D M pc .iastore 1 pc') (hk : H[k]? = some (.inr (.int, L.map own_v))) (hj : j = Int32.ofNat i) (hv : v = Int32.ofNat x) (hi : i < N) (hN : N < 1000) (hL : L.length = N) (kk : WB b l Z n M pc' ls st (H.set k (.inr (.int, (L.set i x).map own_v))) ce sl Q) : WB b l Z n M pc ls (.int v :: .int j :: .ref k :: st) H ce sl Q := by
  subst hj; subst hv
  refine W.iastore hd hk (own_idx i (by omega)) (by rw [List.length_map]; omega) ?_
  rw [← own_wr] at kk
  exact kk
theorem own_z1 {x : Nat} (h : x < 2) : Int32.ofNat x &&& 1 = Int32.ofNat x := by
  have : x = 0 ∨ x = 1 := by omega
  rcases this with rfl | rfl <;> decide
theorem own_zstore {k i x N : Nat} {L : List Nat} {j v : Int32} (hd : D M pc .bastore 1 pc') (hk : H[k]? = some (.inr (.boolean, L.map own_v))) (hj : j = Int32.ofNat i) (hv : v = Int32.ofNat x) (h2 : x < 2) (hi : i < N) (hN : N < 1000) (hL : L.length = N) (kk : WB b l Z n M pc' ls st (H.set k (.inr (.boolean, (L.set i x).map own_v))) ce sl Q) : WB b l Z n M pc ls (.int v :: .int j :: .ref k :: st) H ce sl Q := by
  subst hj; subst hv
  refine W.zastore hd hk (own_idx i (by omega)) (by rw [List.length_map]; omega) ?_
  rw [← own_wr] at kk
  rw [own_z1 h2]
  exact kk
theorem own_incN {i x : Nat} (hd : D M pc (.iinc i 1) 3 pc') (hl : ls[i]? = some (.val (.int (Int32.ofNat x)))) (k : WB b l Z n M pc' (ls.set i (.val (.int (Int32.ofNat (x + 1))))) st H ce sl Q) : WB b l Z n M pc ls st H ce sl Q :=
  W.iinc 1 hd rfl hl (by rw [show Int32.ofNat x + 1 = Int32.ofNat (x + 1) from own_add x 1]; exact k)
theorem own_dec0 {i x : Nat} (hd : D M pc (.iinc i (-1)) 3 pc') (hl : ls[i]? = some (.val (.int (Int32.ofNat x)))) (hx : x = 0) (k : WB b l Z n M pc' (ls.set i (.val (.int (-1)))) st H ce sl Q) : WB b l Z n M pc ls st H ce sl Q :=
  W.iinc (-1) hd rfl hl (by subst hx; exact k)
theorem own_decN {i x : Nat} (hd : D M pc (.iinc i (-1)) 3 pc') (hl : ls[i]? = some (.val (.int (Int32.ofNat x)))) (hx : ¬ x = 0) (k : WB b l Z n M pc' (ls.set i (.val (.int (Int32.ofNat (x - 1))))) st H ce sl Q) : WB b l Z n M pc ls st H ce sl Q :=
  W.iinc (-1) hd rfl hl (by
    obtain ⟨y, rfl⟩ : ∃ y, x = y + 1 := ⟨x - 1, by omega⟩
    rw [show Int32.ofNat (y + 1) + (-1) = Int32.ofNat (y + 1 - 1) from by rw [← own_add y 1, Nat.add_sub_cancel]; show Int32.ofNat y + 1 + (-1) = _; rw [Int32.add_assoc]; exact Int32.add_zero _]
    exact k)
theorem own_addN {x y : Nat} {u v : Int32} (hd : D M pc .iadd 1 pc') (hu : u = Int32.ofNat x) (hv : v = Int32.ofNat y) (k : WB b l Z n M pc' ls (.int (Int32.ofNat (x + y)) :: st) H ce sl Q) : WB b l Z n M pc ls (.int v :: .int u :: st) H ce sl Q :=
  W.iadd hd (by rw [hu, hv, own_add]; exact k)
theorem own_subN {x y : Nat} {u v : Int32} (hd : D M pc .isub 1 pc') (hu : u = Int32.ofNat x) (hv : v = Int32.ofNat y) (h : y ≤ x) (k : WB b l Z n M pc' ls (.int (Int32.ofNat (x - y)) :: st) H ce sl Q) : WB b l Z n M pc ls (.int v :: .int u :: st) H ce sl Q :=
  W.isub hd (by
    rw [hu, hv, show Int32.ofNat x = Int32.ofNat (x - y) + Int32.ofNat y from by rw [own_add, Nat.sub_add_cancel h], Int32.add_sub_cancel]
    exact k)
theorem own_or0 {u : Int32} (hd : D M pc .ior 1 pc') (k : WB b l Z n M pc' ls (.int u :: st) H ce sl Q) : WB b l Z n M pc ls (.int 0 :: .int u :: st) H ce sl Q := W.ior hd (by rw [Int32.or_zero]; exact k)
end OwnN
theorem own_rm {e : Nat} (h : e < 8) : Int32.ofNat e % 3 = Int32.ofNat (e % 3) := (by decide +kernel : ∀ e : Fin 8, Int32.ofNat e.1 % 3 = Int32.ofNat (e.1 % 3)) ⟨e, h⟩
theorem own_ush {m v : Nat} (hm : m < 8) (hv : v < 3) : XT.ushr (Int32.ofNat m) (Int32.ofNat v) &&& 1 = Int32.ofNat (m / 2 ^ v % 2) := (by decide +kernel : ∀ m : Fin 8, ∀ v : Fin 3, XT.ushr (Int32.ofNat m.1) (Int32.ofNat v.1) &&& 1 = Int32.ofNat (m.1 / 2 ^ v.1 % 2)) ⟨m, hm⟩ ⟨v, hv⟩
def own_oth (m v : Nat) : Nat := if m / 2 ^ v % 2 = 1 then m - 2 ^ v else m
theorem own_mk {m v : Nat} (hm : m < 8) (hv : v < 3) : Int32.ofNat m &&& ((1 <<< (Int32.ofNat v &&& 31)) ^^^ -1) = Int32.ofNat (own_oth m v) := (by decide +kernel : ∀ m : Fin 8, ∀ v : Fin 3, Int32.ofNat m.1 &&& (((1 : Int32) <<< (Int32.ofNat v.1 &&& 31)) ^^^ -1) = Int32.ofNat (own_oth m.1 v.1)) ⟨m, hm⟩ ⟨v, hv⟩
theorem own_eqp {x y : Int32} {a b : Nat} (hx : x = Int32.ofNat a) (hy : y = Int32.ofNat b) (h : a = b) : x = y := by rw [hx, hy, h]
theorem own_nep {x y : Int32} {a b : Nat} (hx : x = Int32.ofNat a) (hy : y = Int32.ofNat b) (ha : a < 4294967296) (hb : b < 4294967296) (h : ¬ a = b) : ¬ x = y := fun q => by
  rw [hx, hy] at q
  have e : (Int32.ofNat a).toBitVec.toNat = (Int32.ofNat b).toBitVec.toNat := congrArg (fun z : Int32 => z.toBitVec.toNat) q
  change (BitVec.ofNat 32 a).toNat = (BitVec.ofNat 32 b).toNat at e
  rw [BitVec.toNat_ofNat, BitVec.toNat_ofNat, Nat.mod_eq_of_lt ha, Nat.mod_eq_of_lt hb] at e
  exact h e
theorem own_ltp {x y : Int32} {a b : Nat} (hx : x = Int32.ofNat a) (hy : y = Int32.ofNat b) (ha : a < 1000) (hb : b < 1000) (h : a < b) : x < y := by rw [hx, hy, Int32.lt_iff_toInt_lt, own_i ha, own_i hb]; omega
theorem own_ltn {x y : Int32} {a b : Nat} (hx : x = Int32.ofNat a) (hy : y = Int32.ofNat b) (ha : a < 1000) (hb : b < 1000) (h : ¬ a < b) : ¬ x < y := by rw [hx, hy, Int32.lt_iff_toInt_lt, own_i ha, own_i hb]; omega
theorem own_posp {x : Int32} {a : Nat} (hx : x = Int32.ofNat a) (ha : a < 1000) : ¬ x < 0 := by rw [hx]; exact (own_idx a ha).1
theorem own_negp {x : Int32} {a : Nat} (hx : x = Int32.ofNat a) (ha : a = 4294967295) : x < 0 := by rw [hx, ha] <;> decide
def own_bind (a : Nat) (f : Nat → Bool) : Bool := match a with
  | 0 => f 0
  | k + 1 => f (k + 1)
theorem own_bd {a : Nat} {f : Nat → Bool} (h : own_bind a f = true) : ∃ x, x = a ∧ f x = true := ⟨a, rfl, by cases a <;> exact h⟩
theorem own_chk {p : Prop} [Decidable p] {x : Bool} (h : (if p then x else false) = true) : p ∧ x = true := by
  by_cases q : p
  · rw [if_pos q] at h; exact ⟨q, h⟩
  · rw [if_neg q] at h; cases h
theorem own_br {p : Prop} [Decidable p] {x y : Bool} (h : (if p then x else y) = true) : (p ∧ x = true) ∨ (¬ p ∧ y = true) := by
  by_cases q : p
  · rw [if_pos q] at h; exact Or.inl ⟨q, h⟩
  · rw [if_neg q] at h; exact Or.inr ⟨q, h⟩
theorem own_and {x y : Bool} (h : (x && y) = true) : x = true ∧ y = true := by simpa using h
def own_all : Nat → (Nat → Bool) → Bool
  | 0, _ => true
  | k + 1, f => f k && own_all k f
theorem own_alla : ∀ {n : Nat} {f : Nat → Bool}, own_all n f = true → ∀ {k : Nat}, k < n → f k = true
  | 0, _, _, _, hk => absurd hk (Nat.not_lt_zero _)
  | n + 1, f, h, k, hk => by
    obtain ⟨h1, h2⟩ := own_and (show (f n && own_all n f) = true from h)
    by_cases q : k = n
    · rw [q]; exact h1
    · exact own_alla h2 (by omega)
theorem own_us1 (c : Int32) : 0 ≤ (XT.ushr c 1).toInt := by
  have e : (XT.ushr c 1).toBitVec.msb = false := by
    rw [BitVec.msb_eq_getLsbD_last, ushr_bit (m := 1) (by decide)]
    exact BitVec.getLsbD_of_ge _ _ (by decide)
  rw [BitVec.msb_eq_toInt] at e
  show 0 ≤ BitVec.toInt _
  simpa using e
def own_S : Type := Nat × List Nat × List Nat × List Nat × List Nat × List Nat × List Nat × List Nat × List Nat × List Nat × List Nat × List Nat × List Nat × List Nat × List Nat × List Nat × List Nat × List Nat × List Nat × List Nat × List Nat × List Nat × List Nat × List Nat × List Nat
def own_S.ec (s : own_S) : Nat := Prod.fst s
def own_S.a0 (s : own_S) : List Nat := Prod.fst (Prod.snd s)
def own_S.a1 (s : own_S) : List Nat := Prod.fst (Prod.snd (Prod.snd s))
def own_S.a2 (s : own_S) : List Nat := Prod.fst (Prod.snd (Prod.snd (Prod.snd s)))
def own_S.a3 (s : own_S) : List Nat := Prod.fst (Prod.snd (Prod.snd (Prod.snd (Prod.snd s))))
def own_S.mv (s : own_S) : List Nat := Prod.fst (Prod.snd (Prod.snd (Prod.snd (Prod.snd (Prod.snd s)))))
def own_S.mp (s : own_S) : List Nat := Prod.fst (Prod.snd (Prod.snd (Prod.snd (Prod.snd (Prod.snd (Prod.snd s))))))
def own_S.op (s : own_S) : List Nat := Prod.fst (Prod.snd (Prod.snd (Prod.snd (Prod.snd (Prod.snd (Prod.snd (Prod.snd s)))))))
def own_S.es (s : own_S) : List Nat := Prod.fst (Prod.snd (Prod.snd (Prod.snd (Prod.snd (Prod.snd (Prod.snd (Prod.snd (Prod.snd s))))))))
def own_S.ee (s : own_S) : List Nat := Prod.fst (Prod.snd (Prod.snd (Prod.snd (Prod.snd (Prod.snd (Prod.snd (Prod.snd (Prod.snd (Prod.snd s)))))))))
def own_S.ev (s : own_S) : List Nat := Prod.fst (Prod.snd (Prod.snd (Prod.snd (Prod.snd (Prod.snd (Prod.snd (Prod.snd (Prod.snd (Prod.snd (Prod.snd s))))))))))
def own_S.km (s : own_S) : List Nat := Prod.fst (Prod.snd (Prod.snd (Prod.snd (Prod.snd (Prod.snd (Prod.snd (Prod.snd (Prod.snd (Prod.snd (Prod.snd (Prod.snd s)))))))))))
def own_S.re (s : own_S) : List Nat := Prod.fst (Prod.snd (Prod.snd (Prod.snd (Prod.snd (Prod.snd (Prod.snd (Prod.snd (Prod.snd (Prod.snd (Prod.snd (Prod.snd (Prod.snd s))))))))))))
def own_S.pp (s : own_S) : List Nat := Prod.fst (Prod.snd (Prod.snd (Prod.snd (Prod.snd (Prod.snd (Prod.snd (Prod.snd (Prod.snd (Prod.snd (Prod.snd (Prod.snd (Prod.snd (Prod.snd s)))))))))))))
def own_S.pq (s : own_S) : List Nat := Prod.fst (Prod.snd (Prod.snd (Prod.snd (Prod.snd (Prod.snd (Prod.snd (Prod.snd (Prod.snd (Prod.snd (Prod.snd (Prod.snd (Prod.snd (Prod.snd (Prod.snd s))))))))))))))
def own_S.pt (s : own_S) : List Nat := Prod.fst (Prod.snd (Prod.snd (Prod.snd (Prod.snd (Prod.snd (Prod.snd (Prod.snd (Prod.snd (Prod.snd (Prod.snd (Prod.snd (Prod.snd (Prod.snd (Prod.snd (Prod.snd s)))))))))))))))
def own_S.sz (s : own_S) : List Nat := Prod.fst (Prod.snd (Prod.snd (Prod.snd (Prod.snd (Prod.snd (Prod.snd (Prod.snd (Prod.snd (Prod.snd (Prod.snd (Prod.snd (Prod.snd (Prod.snd (Prod.snd (Prod.snd (Prod.snd s))))))))))))))))
def own_S.di (s : own_S) : List Nat := Prod.fst (Prod.snd (Prod.snd (Prod.snd (Prod.snd (Prod.snd (Prod.snd (Prod.snd (Prod.snd (Prod.snd (Prod.snd (Prod.snd (Prod.snd (Prod.snd (Prod.snd (Prod.snd (Prod.snd (Prod.snd s)))))))))))))))))
def own_S.dn (s : own_S) : List Nat := Prod.fst (Prod.snd (Prod.snd (Prod.snd (Prod.snd (Prod.snd (Prod.snd (Prod.snd (Prod.snd (Prod.snd (Prod.snd (Prod.snd (Prod.snd (Prod.snd (Prod.snd (Prod.snd (Prod.snd (Prod.snd (Prod.snd s))))))))))))))))))
def own_S.lo (s : own_S) : List Nat := Prod.fst (Prod.snd (Prod.snd (Prod.snd (Prod.snd (Prod.snd (Prod.snd (Prod.snd (Prod.snd (Prod.snd (Prod.snd (Prod.snd (Prod.snd (Prod.snd (Prod.snd (Prod.snd (Prod.snd (Prod.snd (Prod.snd (Prod.snd s)))))))))))))))))))
def own_S.co (s : own_S) : List Nat := Prod.fst (Prod.snd (Prod.snd (Prod.snd (Prod.snd (Prod.snd (Prod.snd (Prod.snd (Prod.snd (Prod.snd (Prod.snd (Prod.snd (Prod.snd (Prod.snd (Prod.snd (Prod.snd (Prod.snd (Prod.snd (Prod.snd (Prod.snd (Prod.snd s))))))))))))))))))))
def own_S.io (s : own_S) : List Nat := Prod.fst (Prod.snd (Prod.snd (Prod.snd (Prod.snd (Prod.snd (Prod.snd (Prod.snd (Prod.snd (Prod.snd (Prod.snd (Prod.snd (Prod.snd (Prod.snd (Prod.snd (Prod.snd (Prod.snd (Prod.snd (Prod.snd (Prod.snd (Prod.snd (Prod.snd s)))))))))))))))))))))
def own_S.on (s : own_S) : List Nat := Prod.fst (Prod.snd (Prod.snd (Prod.snd (Prod.snd (Prod.snd (Prod.snd (Prod.snd (Prod.snd (Prod.snd (Prod.snd (Prod.snd (Prod.snd (Prod.snd (Prod.snd (Prod.snd (Prod.snd (Prod.snd (Prod.snd (Prod.snd (Prod.snd (Prod.snd (Prod.snd s))))))))))))))))))))))
def own_S.df (s : own_S) : List Nat := Prod.fst (Prod.snd (Prod.snd (Prod.snd (Prod.snd (Prod.snd (Prod.snd (Prod.snd (Prod.snd (Prod.snd (Prod.snd (Prod.snd (Prod.snd (Prod.snd (Prod.snd (Prod.snd (Prod.snd (Prod.snd (Prod.snd (Prod.snd (Prod.snd (Prod.snd (Prod.snd (Prod.snd s)))))))))))))))))))))))
def own_S.dc (s : own_S) : List Nat := (Prod.snd (Prod.snd (Prod.snd (Prod.snd (Prod.snd (Prod.snd (Prod.snd (Prod.snd (Prod.snd (Prod.snd (Prod.snd (Prod.snd (Prod.snd (Prod.snd (Prod.snd (Prod.snd (Prod.snd (Prod.snd (Prod.snd (Prod.snd (Prod.snd (Prod.snd (Prod.snd (Prod.snd s))))))))))))))))))))))))
def own_tup (ec : Nat) (a0 a1 a2 a3 mv mp op es ee ev km re pp pq pt sz di dn lo co io on df dc : List Nat) : own_S := (ec, a0, a1, a2, a3, mv, mp, op, es, ee, ev, km, re, pp, pq, pt, sz, di, dn, lo, co, io, on, df, dc)
def own_L (s : own_S) : Prop := (own_S.a0 s).length = 3 ∧ (own_S.a1 s).length = 3 ∧ (own_S.a2 s).length = 3 ∧ (own_S.a3 s).length = 3 ∧ (own_S.mv s).length = 3 ∧ (own_S.mp s).length = 3 ∧ (own_S.op s).length = 3 ∧ (own_S.es s).length = 3 ∧ (own_S.ee s).length = 3 ∧ (own_S.ev s).length = 16 ∧ (own_S.km s).length = 3 ∧ (own_S.re s).length = 3 ∧ (own_S.pp s).length = 3 ∧ (own_S.pq s).length = 3 ∧ (own_S.pt s).length = 3 ∧ (own_S.sz s).length = 4 ∧ (own_S.di s).length = 7 ∧ (own_S.dn s).length = 7 ∧ (own_S.lo s).length = 7 ∧ (own_S.co s).length = 7 ∧ (own_S.io s).length = 7 ∧ (own_S.on s).length = 7 ∧ (own_S.df s).length = 7 ∧ (own_S.dc s).length = 7
theorem own_L.h_a0 {s : own_S} (h : own_L s) : (own_S.a0 s).length = 3 := And.left h
theorem own_L.h_a1 {s : own_S} (h : own_L s) : (own_S.a1 s).length = 3 := And.left (And.right h)
theorem own_L.h_a2 {s : own_S} (h : own_L s) : (own_S.a2 s).length = 3 := And.left (And.right (And.right h))
theorem own_L.h_a3 {s : own_S} (h : own_L s) : (own_S.a3 s).length = 3 := And.left (And.right (And.right (And.right h)))
theorem own_L.h_mv {s : own_S} (h : own_L s) : (own_S.mv s).length = 3 := And.left (And.right (And.right (And.right (And.right h))))
theorem own_L.h_mp {s : own_S} (h : own_L s) : (own_S.mp s).length = 3 := And.left (And.right (And.right (And.right (And.right (And.right h)))))
theorem own_L.h_op {s : own_S} (h : own_L s) : (own_S.op s).length = 3 := And.left (And.right (And.right (And.right (And.right (And.right (And.right h))))))
theorem own_L.h_es {s : own_S} (h : own_L s) : (own_S.es s).length = 3 := And.left (And.right (And.right (And.right (And.right (And.right (And.right (And.right h)))))))
theorem own_L.h_ee {s : own_S} (h : own_L s) : (own_S.ee s).length = 3 := And.left (And.right (And.right (And.right (And.right (And.right (And.right (And.right (And.right h))))))))
theorem own_L.h_ev {s : own_S} (h : own_L s) : (own_S.ev s).length = 16 := And.left (And.right (And.right (And.right (And.right (And.right (And.right (And.right (And.right (And.right h)))))))))
theorem own_L.h_km {s : own_S} (h : own_L s) : (own_S.km s).length = 3 := And.left (And.right (And.right (And.right (And.right (And.right (And.right (And.right (And.right (And.right (And.right h))))))))))
theorem own_L.h_re {s : own_S} (h : own_L s) : (own_S.re s).length = 3 := And.left (And.right (And.right (And.right (And.right (And.right (And.right (And.right (And.right (And.right (And.right (And.right h)))))))))))
theorem own_L.h_pp {s : own_S} (h : own_L s) : (own_S.pp s).length = 3 := And.left (And.right (And.right (And.right (And.right (And.right (And.right (And.right (And.right (And.right (And.right (And.right (And.right h))))))))))))
theorem own_L.h_pq {s : own_S} (h : own_L s) : (own_S.pq s).length = 3 := And.left (And.right (And.right (And.right (And.right (And.right (And.right (And.right (And.right (And.right (And.right (And.right (And.right (And.right h)))))))))))))
theorem own_L.h_pt {s : own_S} (h : own_L s) : (own_S.pt s).length = 3 := And.left (And.right (And.right (And.right (And.right (And.right (And.right (And.right (And.right (And.right (And.right (And.right (And.right (And.right (And.right h))))))))))))))
theorem own_L.h_sz {s : own_S} (h : own_L s) : (own_S.sz s).length = 4 := And.left (And.right (And.right (And.right (And.right (And.right (And.right (And.right (And.right (And.right (And.right (And.right (And.right (And.right (And.right (And.right h)))))))))))))))
theorem own_L.h_di {s : own_S} (h : own_L s) : (own_S.di s).length = 7 := And.left (And.right (And.right (And.right (And.right (And.right (And.right (And.right (And.right (And.right (And.right (And.right (And.right (And.right (And.right (And.right (And.right h))))))))))))))))
theorem own_L.h_dn {s : own_S} (h : own_L s) : (own_S.dn s).length = 7 := And.left (And.right (And.right (And.right (And.right (And.right (And.right (And.right (And.right (And.right (And.right (And.right (And.right (And.right (And.right (And.right (And.right (And.right h)))))))))))))))))
theorem own_L.h_lo {s : own_S} (h : own_L s) : (own_S.lo s).length = 7 := And.left (And.right (And.right (And.right (And.right (And.right (And.right (And.right (And.right (And.right (And.right (And.right (And.right (And.right (And.right (And.right (And.right (And.right (And.right h))))))))))))))))))
theorem own_L.h_co {s : own_S} (h : own_L s) : (own_S.co s).length = 7 := And.left (And.right (And.right (And.right (And.right (And.right (And.right (And.right (And.right (And.right (And.right (And.right (And.right (And.right (And.right (And.right (And.right (And.right (And.right (And.right h)))))))))))))))))))
theorem own_L.h_io {s : own_S} (h : own_L s) : (own_S.io s).length = 7 := And.left (And.right (And.right (And.right (And.right (And.right (And.right (And.right (And.right (And.right (And.right (And.right (And.right (And.right (And.right (And.right (And.right (And.right (And.right (And.right (And.right h))))))))))))))))))))
theorem own_L.h_on {s : own_S} (h : own_L s) : (own_S.on s).length = 7 := And.left (And.right (And.right (And.right (And.right (And.right (And.right (And.right (And.right (And.right (And.right (And.right (And.right (And.right (And.right (And.right (And.right (And.right (And.right (And.right (And.right (And.right h)))))))))))))))))))))
theorem own_L.h_df {s : own_S} (h : own_L s) : (own_S.df s).length = 7 := And.left (And.right (And.right (And.right (And.right (And.right (And.right (And.right (And.right (And.right (And.right (And.right (And.right (And.right (And.right (And.right (And.right (And.right (And.right (And.right (And.right (And.right (And.right h))))))))))))))))))))))
theorem own_L.h_dc {s : own_S} (h : own_L s) : (own_S.dc s).length = 7 := (And.right (And.right (And.right (And.right (And.right (And.right (And.right (And.right (And.right (And.right (And.right (And.right (And.right (And.right (And.right (And.right (And.right (And.right (And.right (And.right (And.right (And.right (And.right h)))))))))))))))))))))))
def own_G (oc st se : Int32) (ec : Nat) (a0 a1 a2 a3 mv mp op es ee ev km re pp pq pt sz di dn lo co io on df dc : List Nat) : AHeap := [.inr (.int, a0.map own_v), .inr (.int, a1.map own_v), .inr (.int, a2.map own_v), .inr (.int, a3.map own_v), .inl ("org/tourney/ValueGraph", [(("org/tourney/ValueGraph", "positions", "I"), (.int 3)), (("org/tourney/ValueGraph", "values", "I"), (.int 3)), (("org/tourney/ValueGraph", "matchedValue", "[I"), (.ref 5)), (("org/tourney/ValueGraph", "matchedPosition", "[I"), (.ref 6)), (("org/tourney/ValueGraph", "openPositions", "[I"), (.ref 7)), (("org/tourney/ValueGraph", "edgeStart", "[I"), (.ref 8)), (("org/tourney/ValueGraph", "edgeEnd", "[I"), (.ref 9)), (("org/tourney/ValueGraph", "edgeValue", "[I"), (.ref 10)), (("org/tourney/ValueGraph", "keepsMatch", "[Z"), (.ref 11)), (("org/tourney/ValueGraph", "reached", "[I"), (.ref 12)), (("org/tourney/ValueGraph", "pathPositions", "[I"), (.ref 13)), (("org/tourney/ValueGraph", "pathCursors", "[I"), (.ref 14)), (("org/tourney/ValueGraph", "pathTried", "[I"), (.ref 15)), (("org/tourney/ValueGraph", "sizeCounts", "[I"), (.ref 16)), (("org/tourney/ValueGraph", "discovery", "[I"), (.ref 17)), (("org/tourney/ValueGraph", "discoveredIn", "[I"), (.ref 18)), (("org/tourney/ValueGraph", "lowest", "[I"), (.ref 19)), (("org/tourney/ValueGraph", "component", "[I"), (.ref 20)), (("org/tourney/ValueGraph", "isOpen", "[Z"), (.ref 21)), (("org/tourney/ValueGraph", "openNodes", "[I"), (.ref 22)), (("org/tourney/ValueGraph", "dfsNodes", "[I"), (.ref 23)), (("org/tourney/ValueGraph", "dfsCursors", "[I"), (.ref 24)), (("org/tourney/ValueGraph", "openCount", "I"), (.int oc)), (("org/tourney/ValueGraph", "edgeCount", "I"), (.int (Int32.ofNat ec))), (("org/tourney/ValueGraph", "stamp", "I"), (.int st)), (("org/tourney/ValueGraph", "search", "I"), (.int se))]), .inr (.int, mv.map own_v), .inr (.int, mp.map own_v), .inr (.int, op.map own_v), .inr (.int, es.map own_v), .inr (.int, ee.map own_v), .inr (.int, ev.map own_v), .inr (.boolean, km.map own_v), .inr (.int, re.map own_v), .inr (.int, pp.map own_v), .inr (.int, pq.map own_v), .inr (.int, pt.map own_v), .inr (.int, sz.map own_v), .inr (.int, di.map own_v), .inr (.int, dn.map own_v), .inr (.int, lo.map own_v), .inr (.int, co.map own_v), .inr (.boolean, io.map own_v), .inr (.int, on.map own_v), .inr (.int, df.map own_v), .inr (.int, dc.map own_v)]
def own_open0 (s : own_S) (p : Nat) (k : own_S → Bool) : Bool :=
  if p < 3 then k (own_tup s.ec s.a0 s.a1 s.a2 s.a3 s.mv s.mp ((s.op).set 0 p) ((s.es).set p s.ec) ((s.ee).set p s.ec) s.ev ((s.km).set p 0) s.re s.pp s.pq s.pt s.sz s.di s.dn s.lo s.co s.io s.on s.df s.dc) else false
set_option maxRecDepth 65536 in
set_option maxHeartbeats 40000000 in
theorem t_open0 {l : Launch} {Z : State} {a0 : Array Value} {n : Nat} (hw : ∀ d ∈ tables_1, d.before a0 Z = true)  (s : own_S) (p : Nat) (k : own_S → Bool) (hL : own_L s) (h : own_open0 s p k = true) : W l Z n m5 0 (entryL [(.ref 4), (.int (Int32.ofNat p))] 2) [] (own_G 0 0 0 s.ec s.a0 s.a1 s.a2 s.a3 s.mv s.mp s.op s.es s.ee s.ev s.km s.re s.pp s.pq s.pt s.sz s.di s.dn s.lo s.co s.io s.on s.df s.dc) 0 0 (fun v H' => v = none ∧ ∃ s', k s' = true ∧ own_L s' ∧ H' = (own_G 1 0 0 (s'.ec) (s'.a0) (s'.a1) (s'.a2) (s'.a3) (s'.mv) (s'.mp) (s'.op) (s'.es) (s'.ee) (s'.ev) (s'.km) (s'.re) (s'.pp) (s'.pq) (s'.pt) (s'.sz) (s'.di) (s'.dn) (s'.lo) (s'.co) (s'.io) (s'.on) (s'.df) (s'.dc))) := by
  show W l Z n m5 0 [(.val (.ref 4)), (.val (.int (Int32.ofNat p)))] [] (own_G 0 0 0 s.ec s.a0 s.a1 s.a2 s.a3 s.mv s.mp s.op s.es s.ee s.ev s.km s.re s.pp s.pq s.pt s.sz s.di s.dn s.lo s.co s.io s.on s.df s.dc) 0 0 _
  unfold own_open0 at h
  refine W.aloadN d5_0 rfl rfl ?_
  refine W.getfield 4 d5_1 (hw _ (wd 24 rfl)) rfl rfl ?_
  refine W.aloadN d5_4 rfl rfl ?_
  refine W.dup d5_5 rfl ?_
  refine W.getfield 22 d5_6 (hw _ (wd 70 rfl)) rfl rfl ?_
  refine W.dupX1 d5_9 rfl rfl ?_
  refine W.iconst 1 d5_10 rfl ?_
  refine W.iadd d5_11 ?_
  refine W.putfield 22 d5_12 (hw _ (wd 70 rfl)) rfl rfl (Or.inl (hw _ (wd 71 rfl))) (hw _ (wd 4 rfl)) (ty := .int) (by decide) (fun _ => rfl) (fun _ => rfl) ?_
  refine W.iloadN d5_15 rfl ?_
  refine own_istore (N := 3) (i := 0) (x := p) (L := s.op) d5_16 rfl (by decide) rfl (by decide) (by decide) hL.h_op ?_
  refine W.aloadN d5_17 rfl rfl ?_
  refine W.getfield 5 d5_18 (hw _ (wd 26 rfl)) rfl rfl ?_
  refine W.iloadN d5_21 rfl ?_
  refine W.aloadN d5_22 rfl rfl ?_
  refine W.getfield 23 d5_23 (hw _ (wd 72 rfl)) rfl rfl ?_
  obtain ⟨c1, h⟩ := own_chk h
  refine own_istore (N := 3) (i := p) (x := s.ec) (L := s.es) d5_26 rfl rfl rfl c1 (by decide) hL.h_es ?_
  refine W.aloadN d5_27 rfl rfl ?_
  refine W.getfield 6 d5_28 (hw _ (wd 28 rfl)) rfl rfl ?_
  refine W.iloadN d5_31 rfl ?_
  refine W.aloadN d5_32 rfl rfl ?_
  refine W.getfield 23 d5_33 (hw _ (wd 72 rfl)) rfl rfl ?_
  refine own_istore (N := 3) (i := p) (x := s.ec) (L := s.ee) d5_36 rfl rfl rfl c1 (by decide) hL.h_ee ?_
  show WB _ l Z n m5 37 [(.val (.ref 4)), (.val (.int (Int32.ofNat p)))] [] (own_G 1 0 0 s.ec s.a0 s.a1 s.a2 s.a3 s.mv s.mp ((s.op).set 0 p) ((s.es).set p s.ec) ((s.ee).set p s.ec) s.ev s.km s.re s.pp s.pq s.pt s.sz s.di s.dn s.lo s.co s.io s.on s.df s.dc) _ _ _
  refine W.aloadN d5_37 rfl rfl ?_
  refine W.getfield 8 d5_38 (hw _ (wd 37 rfl)) rfl rfl ?_
  refine W.iloadN d5_41 rfl ?_
  refine W.iconst 0 d5_42 rfl ?_
  refine own_zstore (N := 3) (i := p) (x := 0) (L := s.km) d5_43 rfl rfl (by decide) (by decide) c1 (by decide) hL.h_km ?_
  exact W.leave d5_44 rfl (by decide) (by decide) (⟨rfl, (own_tup s.ec s.a0 s.a1 s.a2 s.a3 s.mv s.mp ((s.op).set 0 p) ((s.es).set p s.ec) ((s.ee).set p s.ec) s.ev ((s.km).set p 0) s.re s.pp s.pq s.pt s.sz s.di s.dn s.lo s.co s.io s.on s.df s.dc), h, ⟨hL.h_a0, hL.h_a1, hL.h_a2, hL.h_a3, hL.h_mv, hL.h_mp, (own_ls hL.h_op), (own_ls hL.h_es), (own_ls hL.h_ee), hL.h_ev, (own_ls hL.h_km), hL.h_re, hL.h_pp, hL.h_pq, hL.h_pt, hL.h_sz, hL.h_di, hL.h_dn, hL.h_lo, hL.h_co, hL.h_io, hL.h_on, hL.h_df, hL.h_dc⟩, rfl⟩)
def own_add0 (s : own_S) (v : Nat) (k : own_S → Nat → Bool) : Bool :=
  (if s.ec = 16 then false else if s.ec < 4294967296 then own_bind (s.op.getD 0 0) fun x4 => if x4 < 3 then own_bind (s.km.getD x4 0) fun x6 => own_bind (s.mv.getD x4 0) fun x7 => (if x7 = v then false else if x7 < 4294967296 then if v < 4294967296 then if x6 < 2 then if s.ec < 16 then if 1 ≤ s.ec + 1 then k (own_tup (s.ec + 1) s.a0 s.a1 s.a2 s.a3 s.mv s.mp s.op s.es ((s.ee).set x4 (s.ec + 1)) ((s.ev).set s.ec v) ((s.km).set x4 x6) s.re s.pp s.pq s.pt s.sz s.di s.dn s.lo s.co s.io s.on s.df s.dc) ((s.ec + 1) - 1) else false else false else false else false else false) else false else false)
set_option maxRecDepth 65536 in
set_option maxHeartbeats 40000000 in
theorem t_add0 {l : Launch} {Z : State} {a0 : Array Value} {n : Nat} (hw : ∀ d ∈ tables_1, d.before a0 Z = true)  (s : own_S) (v : Nat) (k : own_S → Nat → Bool) (hL : own_L s) (h : own_add0 s v k = true) : W l Z n m7 0 (entryL [(.ref 4), (.int (Int32.ofNat v))] 3) [] (own_G 1 0 0 s.ec s.a0 s.a1 s.a2 s.a3 s.mv s.mp s.op s.es s.ee s.ev s.km s.re s.pp s.pq s.pt s.sz s.di s.dn s.lo s.co s.io s.on s.df s.dc) 0 0 (fun v H' => ∃ u, v = some u ∧ ∃ r s', u = Value.int (Int32.ofNat r) ∧ k s' r = true ∧ own_L s' ∧ H' = (own_G 1 0 0 (s'.ec) (s'.a0) (s'.a1) (s'.a2) (s'.a3) (s'.mv) (s'.mp) (s'.op) (s'.es) (s'.ee) (s'.ev) (s'.km) (s'.re) (s'.pp) (s'.pq) (s'.pt) (s'.sz) (s'.di) (s'.dn) (s'.lo) (s'.co) (s'.io) (s'.on) (s'.df) (s'.dc))) := by
  show W l Z n m7 0 [(.val (.ref 4)), (.val (.int (Int32.ofNat v))), .unset] [] (own_G 1 0 0 s.ec s.a0 s.a1 s.a2 s.a3 s.mv s.mp s.op s.es s.ee s.ev s.km s.re s.pp s.pq s.pt s.sz s.di s.dn s.lo s.co s.io s.on s.df s.dc) 0 0 _
  unfold own_add0 at h
  refine W.aloadN d7_0 rfl rfl ?_
  refine W.getfield 23 d7_1 (hw _ (wd 72 rfl)) rfl rfl ?_
  refine W.aloadN d7_4 rfl rfl ?_
  refine W.getfield 7 d7_5 (hw _ (wd 34 rfl)) rfl rfl ?_
  refine W.arraylength 16 d7_8 rfl rfl (by rw [List.length_map, hL.h_ev]; rfl) ?_
  rcases own_br h with ⟨c2, h⟩ | ⟨c2, h⟩
  · refine W.icmp_ne d7_9 (fun q => False.elim (q (own_eqp rfl (by decide) c2))) (fun _ => ?_)
    exact absurd h (by decide)
  · obtain ⟨c3, h⟩ := own_chk h
    refine W.icmp_ne d7_9 (fun _ => ?_) (fun q => False.elim (own_nep rfl (by decide) c3 (by decide) c2 q))
    refine W.aloadN d7_29 rfl rfl ?_
    refine W.getfield 4 d7_30 (hw _ (wd 24 rfl)) rfl rfl ?_
    refine W.aloadN d7_33 rfl rfl ?_
    refine W.getfield 22 d7_34 (hw _ (wd 70 rfl)) rfl rfl ?_
    refine W.iconst 1 d7_37 rfl ?_
    refine W.isub d7_38 ?_
    obtain ⟨x4, ex4, h⟩ := own_bd h
    refine own_iload (N := 3) (i := 0) (L := s.op) d7_39 rfl (by decide) (by decide) (by decide) hL.h_op ex4 ?_
    refine W.istoreN d7_40 rfl ?_
    refine W.aloadN d7_41 rfl rfl ?_
    refine W.getfield 8 d7_42 (hw _ (wd 37 rfl)) rfl rfl ?_
    refine W.iloadN d7_45 rfl ?_
    refine W.dup2 d7_46 rfl rfl ?_
    obtain ⟨c5, h⟩ := own_chk h
    obtain ⟨x6, ex6, h⟩ := own_bd h
    refine own_zload (N := 3) (i := x4) (L := s.km) d7_47 rfl rfl c5 (by decide) hL.h_km ex6 ?_
    refine W.aloadN d7_48 rfl rfl ?_
    refine W.getfield 2 d7_49 (hw _ (wd 16 rfl)) rfl rfl ?_
    refine W.iloadN d7_52 rfl ?_
    obtain ⟨x7, ex7, h⟩ := own_bd h
    refine own_iload (N := 3) (i := x4) (L := s.mv) d7_53 rfl rfl c5 (by decide) hL.h_mv ex7 ?_
    refine W.iloadN d7_54 rfl ?_
    rcases own_br h with ⟨c8, h⟩ | ⟨c8, h⟩
    · refine W.icmp_ne d7_55 (fun q => False.elim (q (own_eqp rfl rfl c8))) (fun _ => ?_)
      exact absurd h (by decide)
    · obtain ⟨c9, h⟩ := own_chk h
      obtain ⟨c10, h⟩ := own_chk h
      refine W.icmp_ne d7_55 (fun _ => ?_) (fun q => False.elim (own_nep rfl rfl c9 c10 c8 q))
      refine W.iconst 0 d7_62 rfl ?_
      refine own_or0 d7_63 ?_
      obtain ⟨c11, h⟩ := own_chk h
      refine own_zstore (N := 3) (i := x4) (x := x6) (L := s.km) d7_64 rfl rfl rfl c11 c5 (by decide) hL.h_km ?_
      refine W.aloadN d7_65 rfl rfl ?_
      refine W.getfield 7 d7_66 (hw _ (wd 34 rfl)) rfl rfl ?_
      refine W.aloadN d7_69 rfl rfl ?_
      refine W.getfield 23 d7_70 (hw _ (wd 72 rfl)) rfl rfl ?_
      refine W.iloadN d7_73 rfl ?_
      obtain ⟨c12, h⟩ := own_chk h
      refine own_istore (N := 16) (i := s.ec) (x := v) (L := s.ev) d7_74 rfl rfl rfl c12 (by decide) hL.h_ev ?_
      refine W.aloadN d7_75 rfl rfl ?_
      refine W.getfield 6 d7_76 (hw _ (wd 28 rfl)) rfl rfl ?_
      refine W.iloadN d7_79 rfl ?_
      refine W.aloadN d7_80 rfl rfl ?_
      refine W.dup d7_81 rfl ?_
      refine W.getfield 23 d7_82 (hw _ (wd 72 rfl)) rfl rfl ?_
      refine W.iconst 1 d7_85 rfl ?_
      refine own_addN (x := s.ec) (y := 1) d7_86 rfl (by decide) ?_
      refine W.dupX1 d7_87 rfl rfl ?_
      refine W.putfield 23 d7_88 (hw _ (wd 72 rfl)) rfl rfl (Or.inl (hw _ (wd 73 rfl))) (hw _ (wd 4 rfl)) (ty := .int) (by decide) (fun _ => rfl) (fun _ => rfl) ?_
      show WB _ l Z n m7 91 [(.val (.ref 4)), (.val (.int (Int32.ofNat v))), (.val (.int (Int32.ofNat x4)))] [(.int (Int32.ofNat (s.ec + 1))), (.int (Int32.ofNat x4)), (.ref 9)] (own_G 1 0 0 (s.ec + 1) s.a0 s.a1 s.a2 s.a3 s.mv s.mp s.op s.es s.ee ((s.ev).set s.ec v) ((s.km).set x4 x6) s.re s.pp s.pq s.pt s.sz s.di s.dn s.lo s.co s.io s.on s.df s.dc) _ _ _
      refine own_istore (N := 3) (i := x4) (x := s.ec + 1) (L := s.ee) d7_91 rfl rfl rfl c5 (by decide) hL.h_ee ?_
      refine W.aloadN d7_92 rfl rfl ?_
      refine W.getfield 23 d7_93 (hw _ (wd 72 rfl)) rfl rfl ?_
      refine W.iconst 1 d7_96 rfl ?_
      obtain ⟨c13, h⟩ := own_chk h
      refine own_subN (x := s.ec + 1) (y := 1) d7_97 rfl (by decide) c13 ?_
      exact W.ireturn d7_98 rfl (by decide) (by decide) (⟨_, rfl, (s.ec + 1) - 1, (own_tup (s.ec + 1) s.a0 s.a1 s.a2 s.a3 s.mv s.mp s.op s.es ((s.ee).set x4 (s.ec + 1)) ((s.ev).set s.ec v) ((s.km).set x4 x6) s.re s.pp s.pq s.pt s.sz s.di s.dn s.lo s.co s.io s.on s.df s.dc), rfl, h, ⟨hL.h_a0, hL.h_a1, hL.h_a2, hL.h_a3, hL.h_mv, hL.h_mp, hL.h_op, hL.h_es, (own_ls hL.h_ee), (own_ls hL.h_ev), (own_ls hL.h_km), hL.h_re, hL.h_pp, hL.h_pq, hL.h_pt, hL.h_sz, hL.h_di, hL.h_dn, hL.h_lo, hL.h_co, hL.h_io, hL.h_on, hL.h_df, hL.h_dc⟩, rfl⟩)
def own_edges0 (s : own_S) (m r : Nat) (k : own_S → Nat → Bool) : Bool :=
  if m < 8 then if r < 3 then (if m / 2 ^ r % 2 = 0 then if r + 1 < 8 then if (r + 1) % 3 < 3 then (if m / 2 ^ ((r + 1) % 3) % 2 = 0 then if r + 2 < 8 then if (r + 2) % 3 < 3 then (if m / 2 ^ ((r + 2) % 3) % 2 = 0 then k s 0 else if m / 2 ^ ((r + 2) % 3) % 2 < 4294967296 then own_add0 s ((r + 2) % 3) fun s25 x24 => k (own_tup s25.ec ((s25.a0).set 0 ((r + 2) % 3)) ((s25.a1).set 0 x24) s25.a2 s25.a3 s25.mv s25.mp s25.op s25.es s25.ee s25.ev s25.km s25.re s25.pp s25.pq s25.pt s25.sz s25.di s25.dn s25.lo s25.co s25.io s25.on s25.df s25.dc) 1 else false) else false else false else if m / 2 ^ ((r + 1) % 3) % 2 < 4294967296 then own_add0 s ((r + 1) % 3) fun s29 x28 => if r + 2 < 8 then if (r + 2) % 3 < 3 then (if m / 2 ^ ((r + 2) % 3) % 2 = 0 then k (own_tup s29.ec ((s29.a0).set 0 ((r + 1) % 3)) ((s29.a1).set 0 x28) s29.a2 s29.a3 s29.mv s29.mp s29.op s29.es s29.ee s29.ev s29.km s29.re s29.pp s29.pq s29.pt s29.sz s29.di s29.dn s29.lo s29.co s29.io s29.on s29.df s29.dc) 1 else if m / 2 ^ ((r + 2) % 3) % 2 < 4294967296 then own_add0 (own_tup s29.ec ((s29.a0).set 0 ((r + 1) % 3)) ((s29.a1).set 0 x28) s29.a2 s29.a3 s29.mv s29.mp s29.op s29.es s29.ee s29.ev s29.km s29.re s29.pp s29.pq s29.pt s29.sz s29.di s29.dn s29.lo s29.co s29.io s29.on s29.df s29.dc) ((r + 2) % 3) fun s36 x35 => k (own_tup s36.ec ((s36.a0).set 1 ((r + 2) % 3)) ((s36.a1).set 1 x35) s36.a2 s36.a3 s36.mv s36.mp s36.op s36.es s36.ee s36.ev s36.km s36.re s36.pp s36.pq s36.pt s36.sz s36.di s36.dn s36.lo s36.co s36.io s36.on s36.df s36.dc) 2 else false) else false else false else false) else false else false else if m / 2 ^ r % 2 < 4294967296 then own_add0 s r fun s40 x39 => if r + 1 < 8 then if (r + 1) % 3 < 3 then (if m / 2 ^ ((r + 1) % 3) % 2 = 0 then if r + 2 < 8 then if (r + 2) % 3 < 3 then (if m / 2 ^ ((r + 2) % 3) % 2 = 0 then k (own_tup s40.ec ((s40.a0).set 0 r) ((s40.a1).set 0 x39) s40.a2 s40.a3 s40.mv s40.mp s40.op s40.es s40.ee s40.ev s40.km s40.re s40.pp s40.pq s40.pt s40.sz s40.di s40.dn s40.lo s40.co s40.io s40.on s40.df s40.dc) 1 else if m / 2 ^ ((r + 2) % 3) % 2 < 4294967296 then own_add0 (own_tup s40.ec ((s40.a0).set 0 r) ((s40.a1).set 0 x39) s40.a2 s40.a3 s40.mv s40.mp s40.op s40.es s40.ee s40.ev s40.km s40.re s40.pp s40.pq s40.pt s40.sz s40.di s40.dn s40.lo s40.co s40.io s40.on s40.df s40.dc) ((r + 2) % 3) fun s50 x49 => k (own_tup s50.ec ((s50.a0).set 1 ((r + 2) % 3)) ((s50.a1).set 1 x49) s50.a2 s50.a3 s50.mv s50.mp s50.op s50.es s50.ee s50.ev s50.km s50.re s50.pp s50.pq s50.pt s50.sz s50.di s50.dn s50.lo s50.co s50.io s50.on s50.df s50.dc) 2 else false) else false else false else if m / 2 ^ ((r + 1) % 3) % 2 < 4294967296 then own_add0 (own_tup s40.ec ((s40.a0).set 0 r) ((s40.a1).set 0 x39) s40.a2 s40.a3 s40.mv s40.mp s40.op s40.es s40.ee s40.ev s40.km s40.re s40.pp s40.pq s40.pt s40.sz s40.di s40.dn s40.lo s40.co s40.io s40.on s40.df s40.dc) ((r + 1) % 3) fun s54 x53 => if r + 2 < 8 then if (r + 2) % 3 < 3 then (if m / 2 ^ ((r + 2) % 3) % 2 = 0 then k (own_tup s54.ec ((s54.a0).set 1 ((r + 1) % 3)) ((s54.a1).set 1 x53) s54.a2 s54.a3 s54.mv s54.mp s54.op s54.es s54.ee s54.ev s54.km s54.re s54.pp s54.pq s54.pt s54.sz s54.di s54.dn s54.lo s54.co s54.io s54.on s54.df s54.dc) 2 else if m / 2 ^ ((r + 2) % 3) % 2 < 4294967296 then own_add0 (own_tup s54.ec ((s54.a0).set 1 ((r + 1) % 3)) ((s54.a1).set 1 x53) s54.a2 s54.a3 s54.mv s54.mp s54.op s54.es s54.ee s54.ev s54.km s54.re s54.pp s54.pq s54.pt s54.sz s54.di s54.dn s54.lo s54.co s54.io s54.on s54.df s54.dc) ((r + 2) % 3) fun s61 x60 => k (own_tup s61.ec ((s61.a0).set 2 ((r + 2) % 3)) ((s61.a1).set 2 x60) s61.a2 s61.a3 s61.mv s61.mp s61.op s61.es s61.ee s61.ev s61.km s61.re s61.pp s61.pq s61.pt s61.sz s61.di s61.dn s61.lo s61.co s61.io s61.on s61.df s61.dc) 3 else false) else false else false else false) else false else false else false) else false else false
set_option maxRecDepth 65536 in
set_option maxHeartbeats 40000000 in
theorem t_edges0 {l : Launch} {Z : State} {a0 : Array Value} {n : Nat} (hw : ∀ d ∈ tables_1, d.before a0 Z = true)  (s : own_S) (m r : Nat) (k : own_S → Nat → Bool) (hL : own_L s) (h : own_edges0 s m r k = true) : W l Z n m6 0 (entryL [(.ref 4), (.int (Int32.ofNat m)), (.int (Int32.ofNat r)), (.ref 0), (.ref 1)] 9) [] (own_G 1 0 0 s.ec s.a0 s.a1 s.a2 s.a3 s.mv s.mp s.op s.es s.ee s.ev s.km s.re s.pp s.pq s.pt s.sz s.di s.dn s.lo s.co s.io s.on s.df s.dc) 0 0 (fun v H' => ∃ u, v = some u ∧ ∃ r s', u = Value.int (Int32.ofNat r) ∧ k s' r = true ∧ own_L s' ∧ H' = (own_G 1 0 0 (s'.ec) (s'.a0) (s'.a1) (s'.a2) (s'.a3) (s'.mv) (s'.mp) (s'.op) (s'.es) (s'.ee) (s'.ev) (s'.km) (s'.re) (s'.pp) (s'.pq) (s'.pt) (s'.sz) (s'.di) (s'.dn) (s'.lo) (s'.co) (s'.io) (s'.on) (s'.df) (s'.dc))) := by
  show W l Z n m6 0 [(.val (.ref 4)), (.val (.int (Int32.ofNat m))), (.val (.int (Int32.ofNat r))), (.val (.ref 0)), (.val (.ref 1)), .unset, .unset, .unset, .unset] [] (own_G 1 0 0 s.ec s.a0 s.a1 s.a2 s.a3 s.mv s.mp s.op s.es s.ee s.ev s.km s.re s.pp s.pq s.pt s.sz s.di s.dn s.lo s.co s.io s.on s.df s.dc) 0 0 _
  unfold own_edges0 at h
  refine W.iconst 0 d6_0 rfl ?_
  refine W.istore d6_1 rfl ?_
  refine W.iloadN d6_3 rfl ?_
  refine W.istore d6_4 rfl ?_
  refine W.iloadN d6_6 rfl ?_
  refine W.iload d6_7 rfl ?_
  obtain ⟨c14, h⟩ := own_chk h
  obtain ⟨c15, h⟩ := own_chk h
  refine W.iushr d6_9 ?_
  refine W.iconst 1 d6_10 rfl ?_
  refine W.iand d6_11 ?_
  rw [own_ush c14 c15]
  rcases own_br h with ⟨c16, h⟩ | ⟨c16, h⟩
  · refine W.if_eq d6_12 (fun _ => ?_) (fun q => False.elim (q (own_eqp rfl (by decide) c16)))
    refine W.iloadN d6_35 rfl ?_
    refine W.iconst 1 d6_36 rfl ?_
    refine own_addN (x := r) (y := 1) d6_37 rfl (by decide) ?_
    refine W.iconst 3 d6_38 rfl ?_
    obtain ⟨c17, h⟩ := own_chk h
    refine W.irem d6_39 (by decide) ?_
    rw [own_rm c17]
    refine W.istore d6_40 rfl ?_
    refine W.iloadN d6_42 rfl ?_
    refine W.iload d6_43 rfl ?_
    obtain ⟨c18, h⟩ := own_chk h
    refine W.iushr d6_45 ?_
    refine W.iconst 1 d6_46 rfl ?_
    refine W.iand d6_47 ?_
    rw [own_ush c14 c18]
    rcases own_br h with ⟨c19, h⟩ | ⟨c19, h⟩
    · refine W.if_eq d6_48 (fun _ => ?_) (fun q => False.elim (q (own_eqp rfl (by decide) c19)))
      refine W.iloadN d6_71 rfl ?_
      refine W.iconst 2 d6_72 rfl ?_
      refine own_addN (x := r) (y := 2) d6_73 rfl (by decide) ?_
      refine W.iconst 3 d6_74 rfl ?_
      obtain ⟨c20, h⟩ := own_chk h
      refine W.irem d6_75 (by decide) ?_
      rw [own_rm c20]
      refine W.istore d6_76 rfl ?_
      show WB _ l Z n m6 78 [(.val (.ref 4)), (.val (.int (Int32.ofNat m))), (.val (.int (Int32.ofNat r))), (.val (.ref 0)), (.val (.ref 1)), (.val (.int 0)), (.val (.int (Int32.ofNat r))), (.val (.int (Int32.ofNat ((r + 1) % 3)))), (.val (.int (Int32.ofNat ((r + 2) % 3))))] [] (own_G 1 0 0 s.ec s.a0 s.a1 s.a2 s.a3 s.mv s.mp s.op s.es s.ee s.ev s.km s.re s.pp s.pq s.pt s.sz s.di s.dn s.lo s.co s.io s.on s.df s.dc) _ _ _
      refine W.iloadN d6_78 rfl ?_
      refine W.iload d6_79 rfl ?_
      obtain ⟨c21, h⟩ := own_chk h
      refine W.iushr d6_81 ?_
      refine W.iconst 1 d6_82 rfl ?_
      refine W.iand d6_83 ?_
      rw [own_ush c14 c21]
      rcases own_br h with ⟨c22, h⟩ | ⟨c22, h⟩
      · refine W.if_eq d6_84 (fun _ => ?_) (fun q => False.elim (q (own_eqp rfl (by decide) c22)))
        refine W.iload d6_107 rfl ?_
        exact W.ireturn d6_109 rfl (by decide) (by decide) (⟨_, rfl, 0, s, by decide, h, hL, rfl⟩)
      · obtain ⟨c23, h⟩ := own_chk h
        refine W.if_eq d6_84 (fun q => False.elim (own_nep rfl (by decide) c23 (by decide) c22 q)) (fun _ => ?_)
        refine W.aload d6_87 rfl rfl ?_
        refine W.iload d6_89 rfl ?_
        refine W.aloadN d6_91 rfl rfl ?_
        refine W.iload d6_92 rfl ?_
        refine W.callvX (M' := m7) d6_94 (hw _ (wd 78 rfl)) (hw _ (wd 79 rfl)) (hw _ (wd 80 rfl)) (hw _ (wd 81 rfl)) (t_add0 hw s ((r + 2) % 3) _ hL h) (ok7 hw) rfl rfl rfl rfl ?_
        rintro _ _ ⟨x24, s25, rfl, h, hL26, rfl⟩
        refine own_istore (N := 3) (i := 0) (x := x24) (L := s25.a1) d6_97 rfl (by decide) rfl (by decide) (by decide) hL26.h_a1 ?_
        refine W.aloadN d6_98 rfl rfl ?_
        refine W.iload d6_99 rfl ?_
        refine W.iload d6_101 rfl ?_
        refine own_istore (N := 3) (i := 0) (x := (r + 2) % 3) (L := s25.a0) d6_103 rfl (by decide) rfl (by decide) (by decide) hL26.h_a0 ?_
        refine W.iinc 1 d6_104 rfl rfl ?_
        refine W.iload d6_107 rfl ?_
        exact W.ireturn d6_109 rfl (by decide) (by decide) (⟨_, rfl, 1, (own_tup s25.ec ((s25.a0).set 0 ((r + 2) % 3)) ((s25.a1).set 0 x24) s25.a2 s25.a3 s25.mv s25.mp s25.op s25.es s25.ee s25.ev s25.km s25.re s25.pp s25.pq s25.pt s25.sz s25.di s25.dn s25.lo s25.co s25.io s25.on s25.df s25.dc), by decide, h, ⟨(own_ls hL26.h_a0), (own_ls hL26.h_a1), hL26.h_a2, hL26.h_a3, hL26.h_mv, hL26.h_mp, hL26.h_op, hL26.h_es, hL26.h_ee, hL26.h_ev, hL26.h_km, hL26.h_re, hL26.h_pp, hL26.h_pq, hL26.h_pt, hL26.h_sz, hL26.h_di, hL26.h_dn, hL26.h_lo, hL26.h_co, hL26.h_io, hL26.h_on, hL26.h_df, hL26.h_dc⟩, rfl⟩)
    · obtain ⟨c27, h⟩ := own_chk h
      refine W.if_eq d6_48 (fun q => False.elim (own_nep rfl (by decide) c27 (by decide) c19 q)) (fun _ => ?_)
      refine W.aload d6_51 rfl rfl ?_
      refine W.iload d6_53 rfl ?_
      refine W.aloadN d6_55 rfl rfl ?_
      refine W.iload d6_56 rfl ?_
      refine W.callvX (M' := m7) d6_58 (hw _ (wd 78 rfl)) (hw _ (wd 79 rfl)) (hw _ (wd 80 rfl)) (hw _ (wd 81 rfl)) (t_add0 hw s ((r + 1) % 3) _ hL h) (ok7 hw) rfl rfl rfl rfl ?_
      rintro _ _ ⟨x28, s29, rfl, h, hL30, rfl⟩
      refine own_istore (N := 3) (i := 0) (x := x28) (L := s29.a1) d6_61 rfl (by decide) rfl (by decide) (by decide) hL30.h_a1 ?_
      show WB _ l Z n m6 62 [(.val (.ref 4)), (.val (.int (Int32.ofNat m))), (.val (.int (Int32.ofNat r))), (.val (.ref 0)), (.val (.ref 1)), (.val (.int 0)), (.val (.int (Int32.ofNat r))), (.val (.int (Int32.ofNat ((r + 1) % 3)))), .unset] [] (own_G 1 0 0 s29.ec s29.a0 ((s29.a1).set 0 x28) s29.a2 s29.a3 s29.mv s29.mp s29.op s29.es s29.ee s29.ev s29.km s29.re s29.pp s29.pq s29.pt s29.sz s29.di s29.dn s29.lo s29.co s29.io s29.on s29.df s29.dc) _ _ _
      refine W.aloadN d6_62 rfl rfl ?_
      refine W.iload d6_63 rfl ?_
      refine W.iload d6_65 rfl ?_
      refine own_istore (N := 3) (i := 0) (x := (r + 1) % 3) (L := s29.a0) d6_67 rfl (by decide) rfl (by decide) (by decide) hL30.h_a0 ?_
      refine W.iinc 1 d6_68 rfl rfl ?_
      refine W.iloadN d6_71 rfl ?_
      refine W.iconst 2 d6_72 rfl ?_
      refine own_addN (x := r) (y := 2) d6_73 rfl (by decide) ?_
      refine W.iconst 3 d6_74 rfl ?_
      obtain ⟨c31, h⟩ := own_chk h
      refine W.irem d6_75 (by decide) ?_
      rw [own_rm c31]
      refine W.istore d6_76 rfl ?_
      refine W.iloadN d6_78 rfl ?_
      refine W.iload d6_79 rfl ?_
      obtain ⟨c32, h⟩ := own_chk h
      refine W.iushr d6_81 ?_
      refine W.iconst 1 d6_82 rfl ?_
      refine W.iand d6_83 ?_
      rw [own_ush c14 c32]
      rcases own_br h with ⟨c33, h⟩ | ⟨c33, h⟩
      · refine W.if_eq d6_84 (fun _ => ?_) (fun q => False.elim (q (own_eqp rfl (by decide) c33)))
        refine W.iload d6_107 rfl ?_
        exact W.ireturn d6_109 rfl (by decide) (by decide) (⟨_, rfl, 1, (own_tup s29.ec ((s29.a0).set 0 ((r + 1) % 3)) ((s29.a1).set 0 x28) s29.a2 s29.a3 s29.mv s29.mp s29.op s29.es s29.ee s29.ev s29.km s29.re s29.pp s29.pq s29.pt s29.sz s29.di s29.dn s29.lo s29.co s29.io s29.on s29.df s29.dc), by decide, h, ⟨(own_ls hL30.h_a0), (own_ls hL30.h_a1), hL30.h_a2, hL30.h_a3, hL30.h_mv, hL30.h_mp, hL30.h_op, hL30.h_es, hL30.h_ee, hL30.h_ev, hL30.h_km, hL30.h_re, hL30.h_pp, hL30.h_pq, hL30.h_pt, hL30.h_sz, hL30.h_di, hL30.h_dn, hL30.h_lo, hL30.h_co, hL30.h_io, hL30.h_on, hL30.h_df, hL30.h_dc⟩, rfl⟩)
      · obtain ⟨c34, h⟩ := own_chk h
        refine W.if_eq d6_84 (fun q => False.elim (own_nep rfl (by decide) c34 (by decide) c33 q)) (fun _ => ?_)
        refine W.aload d6_87 rfl rfl ?_
        refine W.iload d6_89 rfl ?_
        refine W.aloadN d6_91 rfl rfl ?_
        refine W.iload d6_92 rfl ?_
        refine W.callvX (M' := m7) d6_94 (hw _ (wd 78 rfl)) (hw _ (wd 79 rfl)) (hw _ (wd 80 rfl)) (hw _ (wd 81 rfl)) (t_add0 hw (own_tup s29.ec ((s29.a0).set 0 ((r + 1) % 3)) ((s29.a1).set 0 x28) s29.a2 s29.a3 s29.mv s29.mp s29.op s29.es s29.ee s29.ev s29.km s29.re s29.pp s29.pq s29.pt s29.sz s29.di s29.dn s29.lo s29.co s29.io s29.on s29.df s29.dc) ((r + 2) % 3) _ ⟨(own_ls hL30.h_a0), (own_ls hL30.h_a1), hL30.h_a2, hL30.h_a3, hL30.h_mv, hL30.h_mp, hL30.h_op, hL30.h_es, hL30.h_ee, hL30.h_ev, hL30.h_km, hL30.h_re, hL30.h_pp, hL30.h_pq, hL30.h_pt, hL30.h_sz, hL30.h_di, hL30.h_dn, hL30.h_lo, hL30.h_co, hL30.h_io, hL30.h_on, hL30.h_df, hL30.h_dc⟩ h) (ok7 hw) rfl rfl rfl rfl ?_
        rintro _ _ ⟨x35, s36, rfl, h, hL37, rfl⟩
        refine own_istore (N := 3) (i := 1) (x := x35) (L := s36.a1) d6_97 rfl (by decide) rfl (by decide) (by decide) hL37.h_a1 ?_
        show WB _ l Z n m6 98 [(.val (.ref 4)), (.val (.int (Int32.ofNat m))), (.val (.int (Int32.ofNat r))), (.val (.ref 0)), (.val (.ref 1)), (.val (.int 1)), (.val (.int (Int32.ofNat r))), (.val (.int (Int32.ofNat ((r + 1) % 3)))), (.val (.int (Int32.ofNat ((r + 2) % 3))))] [] (own_G 1 0 0 s36.ec s36.a0 ((s36.a1).set 1 x35) s36.a2 s36.a3 s36.mv s36.mp s36.op s36.es s36.ee s36.ev s36.km s36.re s36.pp s36.pq s36.pt s36.sz s36.di s36.dn s36.lo s36.co s36.io s36.on s36.df s36.dc) _ _ _
        refine W.aloadN d6_98 rfl rfl ?_
        refine W.iload d6_99 rfl ?_
        refine W.iload d6_101 rfl ?_
        refine own_istore (N := 3) (i := 1) (x := (r + 2) % 3) (L := s36.a0) d6_103 rfl (by decide) rfl (by decide) (by decide) hL37.h_a0 ?_
        refine W.iinc 1 d6_104 rfl rfl ?_
        refine W.iload d6_107 rfl ?_
        exact W.ireturn d6_109 rfl (by decide) (by decide) (⟨_, rfl, 2, (own_tup s36.ec ((s36.a0).set 1 ((r + 2) % 3)) ((s36.a1).set 1 x35) s36.a2 s36.a3 s36.mv s36.mp s36.op s36.es s36.ee s36.ev s36.km s36.re s36.pp s36.pq s36.pt s36.sz s36.di s36.dn s36.lo s36.co s36.io s36.on s36.df s36.dc), by decide, h, ⟨(own_ls hL37.h_a0), (own_ls hL37.h_a1), hL37.h_a2, hL37.h_a3, hL37.h_mv, hL37.h_mp, hL37.h_op, hL37.h_es, hL37.h_ee, hL37.h_ev, hL37.h_km, hL37.h_re, hL37.h_pp, hL37.h_pq, hL37.h_pt, hL37.h_sz, hL37.h_di, hL37.h_dn, hL37.h_lo, hL37.h_co, hL37.h_io, hL37.h_on, hL37.h_df, hL37.h_dc⟩, rfl⟩)
  · obtain ⟨c38, h⟩ := own_chk h
    refine W.if_eq d6_12 (fun q => False.elim (own_nep rfl (by decide) c38 (by decide) c16 q)) (fun _ => ?_)
    refine W.aload d6_15 rfl rfl ?_
    refine W.iload d6_17 rfl ?_
    refine W.aloadN d6_19 rfl rfl ?_
    refine W.iload d6_20 rfl ?_
    refine W.callvX (M' := m7) d6_22 (hw _ (wd 78 rfl)) (hw _ (wd 79 rfl)) (hw _ (wd 80 rfl)) (hw _ (wd 81 rfl)) (t_add0 hw s r _ hL h) (ok7 hw) rfl rfl rfl rfl ?_
    rintro _ _ ⟨x39, s40, rfl, h, hL41, rfl⟩
    refine own_istore (N := 3) (i := 0) (x := x39) (L := s40.a1) d6_25 rfl (by decide) rfl (by decide) (by decide) hL41.h_a1 ?_
    refine W.aloadN d6_26 rfl rfl ?_
    refine W.iload d6_27 rfl ?_
    refine W.iload d6_29 rfl ?_
    refine own_istore (N := 3) (i := 0) (x := r) (L := s40.a0) d6_31 rfl (by decide) rfl (by decide) (by decide) hL41.h_a0 ?_
    show WB _ l Z n m6 32 [(.val (.ref 4)), (.val (.int (Int32.ofNat m))), (.val (.int (Int32.ofNat r))), (.val (.ref 0)), (.val (.ref 1)), (.val (.int 0)), (.val (.int (Int32.ofNat r))), .unset, .unset] [] (own_G 1 0 0 s40.ec ((s40.a0).set 0 r) ((s40.a1).set 0 x39) s40.a2 s40.a3 s40.mv s40.mp s40.op s40.es s40.ee s40.ev s40.km s40.re s40.pp s40.pq s40.pt s40.sz s40.di s40.dn s40.lo s40.co s40.io s40.on s40.df s40.dc) _ _ _
    refine W.iinc 1 d6_32 rfl rfl ?_
    refine W.iloadN d6_35 rfl ?_
    refine W.iconst 1 d6_36 rfl ?_
    refine own_addN (x := r) (y := 1) d6_37 rfl (by decide) ?_
    refine W.iconst 3 d6_38 rfl ?_
    obtain ⟨c42, h⟩ := own_chk h
    refine W.irem d6_39 (by decide) ?_
    rw [own_rm c42]
    refine W.istore d6_40 rfl ?_
    refine W.iloadN d6_42 rfl ?_
    refine W.iload d6_43 rfl ?_
    obtain ⟨c43, h⟩ := own_chk h
    refine W.iushr d6_45 ?_
    refine W.iconst 1 d6_46 rfl ?_
    refine W.iand d6_47 ?_
    rw [own_ush c14 c43]
    rcases own_br h with ⟨c44, h⟩ | ⟨c44, h⟩
    · refine W.if_eq d6_48 (fun _ => ?_) (fun q => False.elim (q (own_eqp rfl (by decide) c44)))
      refine W.iloadN d6_71 rfl ?_
      refine W.iconst 2 d6_72 rfl ?_
      refine own_addN (x := r) (y := 2) d6_73 rfl (by decide) ?_
      refine W.iconst 3 d6_74 rfl ?_
      obtain ⟨c45, h⟩ := own_chk h
      refine W.irem d6_75 (by decide) ?_
      rw [own_rm c45]
      refine W.istore d6_76 rfl ?_
      refine W.iloadN d6_78 rfl ?_
      refine W.iload d6_79 rfl ?_
      obtain ⟨c46, h⟩ := own_chk h
      refine W.iushr d6_81 ?_
      refine W.iconst 1 d6_82 rfl ?_
      refine W.iand d6_83 ?_
      rw [own_ush c14 c46]
      rcases own_br h with ⟨c47, h⟩ | ⟨c47, h⟩
      · refine W.if_eq d6_84 (fun _ => ?_) (fun q => False.elim (q (own_eqp rfl (by decide) c47)))
        refine W.iload d6_107 rfl ?_
        exact W.ireturn d6_109 rfl (by decide) (by decide) (⟨_, rfl, 1, (own_tup s40.ec ((s40.a0).set 0 r) ((s40.a1).set 0 x39) s40.a2 s40.a3 s40.mv s40.mp s40.op s40.es s40.ee s40.ev s40.km s40.re s40.pp s40.pq s40.pt s40.sz s40.di s40.dn s40.lo s40.co s40.io s40.on s40.df s40.dc), by decide, h, ⟨(own_ls hL41.h_a0), (own_ls hL41.h_a1), hL41.h_a2, hL41.h_a3, hL41.h_mv, hL41.h_mp, hL41.h_op, hL41.h_es, hL41.h_ee, hL41.h_ev, hL41.h_km, hL41.h_re, hL41.h_pp, hL41.h_pq, hL41.h_pt, hL41.h_sz, hL41.h_di, hL41.h_dn, hL41.h_lo, hL41.h_co, hL41.h_io, hL41.h_on, hL41.h_df, hL41.h_dc⟩, rfl⟩)
      · obtain ⟨c48, h⟩ := own_chk h
        refine W.if_eq d6_84 (fun q => False.elim (own_nep rfl (by decide) c48 (by decide) c47 q)) (fun _ => ?_)
        refine W.aload d6_87 rfl rfl ?_
        refine W.iload d6_89 rfl ?_
        refine W.aloadN d6_91 rfl rfl ?_
        refine W.iload d6_92 rfl ?_
        refine W.callvX (M' := m7) d6_94 (hw _ (wd 78 rfl)) (hw _ (wd 79 rfl)) (hw _ (wd 80 rfl)) (hw _ (wd 81 rfl)) (t_add0 hw (own_tup s40.ec ((s40.a0).set 0 r) ((s40.a1).set 0 x39) s40.a2 s40.a3 s40.mv s40.mp s40.op s40.es s40.ee s40.ev s40.km s40.re s40.pp s40.pq s40.pt s40.sz s40.di s40.dn s40.lo s40.co s40.io s40.on s40.df s40.dc) ((r + 2) % 3) _ ⟨(own_ls hL41.h_a0), (own_ls hL41.h_a1), hL41.h_a2, hL41.h_a3, hL41.h_mv, hL41.h_mp, hL41.h_op, hL41.h_es, hL41.h_ee, hL41.h_ev, hL41.h_km, hL41.h_re, hL41.h_pp, hL41.h_pq, hL41.h_pt, hL41.h_sz, hL41.h_di, hL41.h_dn, hL41.h_lo, hL41.h_co, hL41.h_io, hL41.h_on, hL41.h_df, hL41.h_dc⟩ h) (ok7 hw) rfl rfl rfl rfl ?_
        rintro _ _ ⟨x49, s50, rfl, h, hL51, rfl⟩
        refine own_istore (N := 3) (i := 1) (x := x49) (L := s50.a1) d6_97 rfl (by decide) rfl (by decide) (by decide) hL51.h_a1 ?_
        show WB _ l Z n m6 98 [(.val (.ref 4)), (.val (.int (Int32.ofNat m))), (.val (.int (Int32.ofNat r))), (.val (.ref 0)), (.val (.ref 1)), (.val (.int 1)), (.val (.int (Int32.ofNat r))), (.val (.int (Int32.ofNat ((r + 1) % 3)))), (.val (.int (Int32.ofNat ((r + 2) % 3))))] [] (own_G 1 0 0 s50.ec s50.a0 ((s50.a1).set 1 x49) s50.a2 s50.a3 s50.mv s50.mp s50.op s50.es s50.ee s50.ev s50.km s50.re s50.pp s50.pq s50.pt s50.sz s50.di s50.dn s50.lo s50.co s50.io s50.on s50.df s50.dc) _ _ _
        refine W.aloadN d6_98 rfl rfl ?_
        refine W.iload d6_99 rfl ?_
        refine W.iload d6_101 rfl ?_
        refine own_istore (N := 3) (i := 1) (x := (r + 2) % 3) (L := s50.a0) d6_103 rfl (by decide) rfl (by decide) (by decide) hL51.h_a0 ?_
        refine W.iinc 1 d6_104 rfl rfl ?_
        refine W.iload d6_107 rfl ?_
        exact W.ireturn d6_109 rfl (by decide) (by decide) (⟨_, rfl, 2, (own_tup s50.ec ((s50.a0).set 1 ((r + 2) % 3)) ((s50.a1).set 1 x49) s50.a2 s50.a3 s50.mv s50.mp s50.op s50.es s50.ee s50.ev s50.km s50.re s50.pp s50.pq s50.pt s50.sz s50.di s50.dn s50.lo s50.co s50.io s50.on s50.df s50.dc), by decide, h, ⟨(own_ls hL51.h_a0), (own_ls hL51.h_a1), hL51.h_a2, hL51.h_a3, hL51.h_mv, hL51.h_mp, hL51.h_op, hL51.h_es, hL51.h_ee, hL51.h_ev, hL51.h_km, hL51.h_re, hL51.h_pp, hL51.h_pq, hL51.h_pt, hL51.h_sz, hL51.h_di, hL51.h_dn, hL51.h_lo, hL51.h_co, hL51.h_io, hL51.h_on, hL51.h_df, hL51.h_dc⟩, rfl⟩)
    · obtain ⟨c52, h⟩ := own_chk h
      refine W.if_eq d6_48 (fun q => False.elim (own_nep rfl (by decide) c52 (by decide) c44 q)) (fun _ => ?_)
      refine W.aload d6_51 rfl rfl ?_
      refine W.iload d6_53 rfl ?_
      refine W.aloadN d6_55 rfl rfl ?_
      refine W.iload d6_56 rfl ?_
      refine W.callvX (M' := m7) d6_58 (hw _ (wd 78 rfl)) (hw _ (wd 79 rfl)) (hw _ (wd 80 rfl)) (hw _ (wd 81 rfl)) (t_add0 hw (own_tup s40.ec ((s40.a0).set 0 r) ((s40.a1).set 0 x39) s40.a2 s40.a3 s40.mv s40.mp s40.op s40.es s40.ee s40.ev s40.km s40.re s40.pp s40.pq s40.pt s40.sz s40.di s40.dn s40.lo s40.co s40.io s40.on s40.df s40.dc) ((r + 1) % 3) _ ⟨(own_ls hL41.h_a0), (own_ls hL41.h_a1), hL41.h_a2, hL41.h_a3, hL41.h_mv, hL41.h_mp, hL41.h_op, hL41.h_es, hL41.h_ee, hL41.h_ev, hL41.h_km, hL41.h_re, hL41.h_pp, hL41.h_pq, hL41.h_pt, hL41.h_sz, hL41.h_di, hL41.h_dn, hL41.h_lo, hL41.h_co, hL41.h_io, hL41.h_on, hL41.h_df, hL41.h_dc⟩ h) (ok7 hw) rfl rfl rfl rfl ?_
      rintro _ _ ⟨x53, s54, rfl, h, hL55, rfl⟩
      refine own_istore (N := 3) (i := 1) (x := x53) (L := s54.a1) d6_61 rfl (by decide) rfl (by decide) (by decide) hL55.h_a1 ?_
      refine W.aloadN d6_62 rfl rfl ?_
      refine W.iload d6_63 rfl ?_
      refine W.iload d6_65 rfl ?_
      refine own_istore (N := 3) (i := 1) (x := (r + 1) % 3) (L := s54.a0) d6_67 rfl (by decide) rfl (by decide) (by decide) hL55.h_a0 ?_
      show WB _ l Z n m6 68 [(.val (.ref 4)), (.val (.int (Int32.ofNat m))), (.val (.int (Int32.ofNat r))), (.val (.ref 0)), (.val (.ref 1)), (.val (.int 1)), (.val (.int (Int32.ofNat r))), (.val (.int (Int32.ofNat ((r + 1) % 3)))), .unset] [] (own_G 1 0 0 s54.ec ((s54.a0).set 1 ((r + 1) % 3)) ((s54.a1).set 1 x53) s54.a2 s54.a3 s54.mv s54.mp s54.op s54.es s54.ee s54.ev s54.km s54.re s54.pp s54.pq s54.pt s54.sz s54.di s54.dn s54.lo s54.co s54.io s54.on s54.df s54.dc) _ _ _
      refine W.iinc 1 d6_68 rfl rfl ?_
      refine W.iloadN d6_71 rfl ?_
      refine W.iconst 2 d6_72 rfl ?_
      refine own_addN (x := r) (y := 2) d6_73 rfl (by decide) ?_
      refine W.iconst 3 d6_74 rfl ?_
      obtain ⟨c56, h⟩ := own_chk h
      refine W.irem d6_75 (by decide) ?_
      rw [own_rm c56]
      refine W.istore d6_76 rfl ?_
      refine W.iloadN d6_78 rfl ?_
      refine W.iload d6_79 rfl ?_
      obtain ⟨c57, h⟩ := own_chk h
      refine W.iushr d6_81 ?_
      refine W.iconst 1 d6_82 rfl ?_
      refine W.iand d6_83 ?_
      rw [own_ush c14 c57]
      rcases own_br h with ⟨c58, h⟩ | ⟨c58, h⟩
      · refine W.if_eq d6_84 (fun _ => ?_) (fun q => False.elim (q (own_eqp rfl (by decide) c58)))
        refine W.iload d6_107 rfl ?_
        exact W.ireturn d6_109 rfl (by decide) (by decide) (⟨_, rfl, 2, (own_tup s54.ec ((s54.a0).set 1 ((r + 1) % 3)) ((s54.a1).set 1 x53) s54.a2 s54.a3 s54.mv s54.mp s54.op s54.es s54.ee s54.ev s54.km s54.re s54.pp s54.pq s54.pt s54.sz s54.di s54.dn s54.lo s54.co s54.io s54.on s54.df s54.dc), by decide, h, ⟨(own_ls hL55.h_a0), (own_ls hL55.h_a1), hL55.h_a2, hL55.h_a3, hL55.h_mv, hL55.h_mp, hL55.h_op, hL55.h_es, hL55.h_ee, hL55.h_ev, hL55.h_km, hL55.h_re, hL55.h_pp, hL55.h_pq, hL55.h_pt, hL55.h_sz, hL55.h_di, hL55.h_dn, hL55.h_lo, hL55.h_co, hL55.h_io, hL55.h_on, hL55.h_df, hL55.h_dc⟩, rfl⟩)
      · obtain ⟨c59, h⟩ := own_chk h
        refine W.if_eq d6_84 (fun q => False.elim (own_nep rfl (by decide) c59 (by decide) c58 q)) (fun _ => ?_)
        refine W.aload d6_87 rfl rfl ?_
        refine W.iload d6_89 rfl ?_
        refine W.aloadN d6_91 rfl rfl ?_
        refine W.iload d6_92 rfl ?_
        refine W.callvX (M' := m7) d6_94 (hw _ (wd 78 rfl)) (hw _ (wd 79 rfl)) (hw _ (wd 80 rfl)) (hw _ (wd 81 rfl)) (t_add0 hw (own_tup s54.ec ((s54.a0).set 1 ((r + 1) % 3)) ((s54.a1).set 1 x53) s54.a2 s54.a3 s54.mv s54.mp s54.op s54.es s54.ee s54.ev s54.km s54.re s54.pp s54.pq s54.pt s54.sz s54.di s54.dn s54.lo s54.co s54.io s54.on s54.df s54.dc) ((r + 2) % 3) _ ⟨(own_ls hL55.h_a0), (own_ls hL55.h_a1), hL55.h_a2, hL55.h_a3, hL55.h_mv, hL55.h_mp, hL55.h_op, hL55.h_es, hL55.h_ee, hL55.h_ev, hL55.h_km, hL55.h_re, hL55.h_pp, hL55.h_pq, hL55.h_pt, hL55.h_sz, hL55.h_di, hL55.h_dn, hL55.h_lo, hL55.h_co, hL55.h_io, hL55.h_on, hL55.h_df, hL55.h_dc⟩ h) (ok7 hw) rfl rfl rfl rfl ?_
        rintro _ _ ⟨x60, s61, rfl, h, hL62, rfl⟩
        refine own_istore (N := 3) (i := 2) (x := x60) (L := s61.a1) d6_97 rfl (by decide) rfl (by decide) (by decide) hL62.h_a1 ?_
        refine W.aloadN d6_98 rfl rfl ?_
        refine W.iload d6_99 rfl ?_
        refine W.iload d6_101 rfl ?_
        refine own_istore (N := 3) (i := 2) (x := (r + 2) % 3) (L := s61.a0) d6_103 rfl (by decide) rfl (by decide) (by decide) hL62.h_a0 ?_
        show WB _ l Z n m6 104 [(.val (.ref 4)), (.val (.int (Int32.ofNat m))), (.val (.int (Int32.ofNat r))), (.val (.ref 0)), (.val (.ref 1)), (.val (.int 2)), (.val (.int (Int32.ofNat r))), (.val (.int (Int32.ofNat ((r + 1) % 3)))), (.val (.int (Int32.ofNat ((r + 2) % 3))))] [] (own_G 1 0 0 s61.ec ((s61.a0).set 2 ((r + 2) % 3)) ((s61.a1).set 2 x60) s61.a2 s61.a3 s61.mv s61.mp s61.op s61.es s61.ee s61.ev s61.km s61.re s61.pp s61.pq s61.pt s61.sz s61.di s61.dn s61.lo s61.co s61.io s61.on s61.df s61.dc) _ _ _
        refine W.iinc 1 d6_104 rfl rfl ?_
        refine W.iload d6_107 rfl ?_
        exact W.ireturn d6_109 rfl (by decide) (by decide) (⟨_, rfl, 3, (own_tup s61.ec ((s61.a0).set 2 ((r + 2) % 3)) ((s61.a1).set 2 x60) s61.a2 s61.a3 s61.mv s61.mp s61.op s61.es s61.ee s61.ev s61.km s61.re s61.pp s61.pq s61.pt s61.sz s61.di s61.dn s61.lo s61.co s61.io s61.on s61.df s61.dc), by decide, h, ⟨(own_ls hL62.h_a0), (own_ls hL62.h_a1), hL62.h_a2, hL62.h_a3, hL62.h_mv, hL62.h_mp, hL62.h_op, hL62.h_es, hL62.h_ee, hL62.h_ev, hL62.h_km, hL62.h_re, hL62.h_pp, hL62.h_pq, hL62.h_pt, hL62.h_sz, hL62.h_di, hL62.h_dn, hL62.h_lo, hL62.h_co, hL62.h_io, hL62.h_on, hL62.h_df, hL62.h_dc⟩, rfl⟩)
def own_open1 (s : own_S) (p : Nat) (k : own_S → Bool) : Bool :=
  if p < 3 then k (own_tup s.ec s.a0 s.a1 s.a2 s.a3 s.mv s.mp ((s.op).set 1 p) ((s.es).set p s.ec) ((s.ee).set p s.ec) s.ev ((s.km).set p 0) s.re s.pp s.pq s.pt s.sz s.di s.dn s.lo s.co s.io s.on s.df s.dc) else false
set_option maxRecDepth 65536 in
set_option maxHeartbeats 40000000 in
theorem t_open1 {l : Launch} {Z : State} {a0 : Array Value} {n : Nat} (hw : ∀ d ∈ tables_1, d.before a0 Z = true)  (s : own_S) (p : Nat) (k : own_S → Bool) (hL : own_L s) (h : own_open1 s p k = true) : W l Z n m5 0 (entryL [(.ref 4), (.int (Int32.ofNat p))] 2) [] (own_G 1 0 0 s.ec s.a0 s.a1 s.a2 s.a3 s.mv s.mp s.op s.es s.ee s.ev s.km s.re s.pp s.pq s.pt s.sz s.di s.dn s.lo s.co s.io s.on s.df s.dc) 0 0 (fun v H' => v = none ∧ ∃ s', k s' = true ∧ own_L s' ∧ H' = (own_G 2 0 0 (s'.ec) (s'.a0) (s'.a1) (s'.a2) (s'.a3) (s'.mv) (s'.mp) (s'.op) (s'.es) (s'.ee) (s'.ev) (s'.km) (s'.re) (s'.pp) (s'.pq) (s'.pt) (s'.sz) (s'.di) (s'.dn) (s'.lo) (s'.co) (s'.io) (s'.on) (s'.df) (s'.dc))) := by
  show W l Z n m5 0 [(.val (.ref 4)), (.val (.int (Int32.ofNat p)))] [] (own_G 1 0 0 s.ec s.a0 s.a1 s.a2 s.a3 s.mv s.mp s.op s.es s.ee s.ev s.km s.re s.pp s.pq s.pt s.sz s.di s.dn s.lo s.co s.io s.on s.df s.dc) 0 0 _
  unfold own_open1 at h
  refine W.aloadN d5_0 rfl rfl ?_
  refine W.getfield 4 d5_1 (hw _ (wd 24 rfl)) rfl rfl ?_
  refine W.aloadN d5_4 rfl rfl ?_
  refine W.dup d5_5 rfl ?_
  refine W.getfield 22 d5_6 (hw _ (wd 70 rfl)) rfl rfl ?_
  refine W.dupX1 d5_9 rfl rfl ?_
  refine W.iconst 1 d5_10 rfl ?_
  refine W.iadd d5_11 ?_
  refine W.putfield 22 d5_12 (hw _ (wd 70 rfl)) rfl rfl (Or.inl (hw _ (wd 71 rfl))) (hw _ (wd 4 rfl)) (ty := .int) (by decide) (fun _ => rfl) (fun _ => rfl) ?_
  refine W.iloadN d5_15 rfl ?_
  refine own_istore (N := 3) (i := 1) (x := p) (L := s.op) d5_16 rfl (by decide) rfl (by decide) (by decide) hL.h_op ?_
  refine W.aloadN d5_17 rfl rfl ?_
  refine W.getfield 5 d5_18 (hw _ (wd 26 rfl)) rfl rfl ?_
  refine W.iloadN d5_21 rfl ?_
  refine W.aloadN d5_22 rfl rfl ?_
  refine W.getfield 23 d5_23 (hw _ (wd 72 rfl)) rfl rfl ?_
  obtain ⟨c63, h⟩ := own_chk h
  refine own_istore (N := 3) (i := p) (x := s.ec) (L := s.es) d5_26 rfl rfl rfl c63 (by decide) hL.h_es ?_
  refine W.aloadN d5_27 rfl rfl ?_
  refine W.getfield 6 d5_28 (hw _ (wd 28 rfl)) rfl rfl ?_
  refine W.iloadN d5_31 rfl ?_
  refine W.aloadN d5_32 rfl rfl ?_
  refine W.getfield 23 d5_33 (hw _ (wd 72 rfl)) rfl rfl ?_
  refine own_istore (N := 3) (i := p) (x := s.ec) (L := s.ee) d5_36 rfl rfl rfl c63 (by decide) hL.h_ee ?_
  show WB _ l Z n m5 37 [(.val (.ref 4)), (.val (.int (Int32.ofNat p)))] [] (own_G 2 0 0 s.ec s.a0 s.a1 s.a2 s.a3 s.mv s.mp ((s.op).set 1 p) ((s.es).set p s.ec) ((s.ee).set p s.ec) s.ev s.km s.re s.pp s.pq s.pt s.sz s.di s.dn s.lo s.co s.io s.on s.df s.dc) _ _ _
  refine W.aloadN d5_37 rfl rfl ?_
  refine W.getfield 8 d5_38 (hw _ (wd 37 rfl)) rfl rfl ?_
  refine W.iloadN d5_41 rfl ?_
  refine W.iconst 0 d5_42 rfl ?_
  refine own_zstore (N := 3) (i := p) (x := 0) (L := s.km) d5_43 rfl rfl (by decide) (by decide) c63 (by decide) hL.h_km ?_
  exact W.leave d5_44 rfl (by decide) (by decide) (⟨rfl, (own_tup s.ec s.a0 s.a1 s.a2 s.a3 s.mv s.mp ((s.op).set 1 p) ((s.es).set p s.ec) ((s.ee).set p s.ec) s.ev ((s.km).set p 0) s.re s.pp s.pq s.pt s.sz s.di s.dn s.lo s.co s.io s.on s.df s.dc), h, ⟨hL.h_a0, hL.h_a1, hL.h_a2, hL.h_a3, hL.h_mv, hL.h_mp, (own_ls hL.h_op), (own_ls hL.h_es), (own_ls hL.h_ee), hL.h_ev, (own_ls hL.h_km), hL.h_re, hL.h_pp, hL.h_pq, hL.h_pt, hL.h_sz, hL.h_di, hL.h_dn, hL.h_lo, hL.h_co, hL.h_io, hL.h_on, hL.h_df, hL.h_dc⟩, rfl⟩)
def own_add1 (s : own_S) (v : Nat) (k : own_S → Nat → Bool) : Bool :=
  (if s.ec = 16 then false else if s.ec < 4294967296 then own_bind (s.op.getD 1 0) fun x66 => if x66 < 3 then own_bind (s.km.getD x66 0) fun x68 => own_bind (s.mv.getD x66 0) fun x69 => (if x69 = v then false else if x69 < 4294967296 then if v < 4294967296 then if x68 < 2 then if s.ec < 16 then if 1 ≤ s.ec + 1 then k (own_tup (s.ec + 1) s.a0 s.a1 s.a2 s.a3 s.mv s.mp s.op s.es ((s.ee).set x66 (s.ec + 1)) ((s.ev).set s.ec v) ((s.km).set x66 x68) s.re s.pp s.pq s.pt s.sz s.di s.dn s.lo s.co s.io s.on s.df s.dc) ((s.ec + 1) - 1) else false else false else false else false else false) else false else false)
set_option maxRecDepth 65536 in
set_option maxHeartbeats 40000000 in
theorem t_add1 {l : Launch} {Z : State} {a0 : Array Value} {n : Nat} (hw : ∀ d ∈ tables_1, d.before a0 Z = true)  (s : own_S) (v : Nat) (k : own_S → Nat → Bool) (hL : own_L s) (h : own_add1 s v k = true) : W l Z n m7 0 (entryL [(.ref 4), (.int (Int32.ofNat v))] 3) [] (own_G 2 0 0 s.ec s.a0 s.a1 s.a2 s.a3 s.mv s.mp s.op s.es s.ee s.ev s.km s.re s.pp s.pq s.pt s.sz s.di s.dn s.lo s.co s.io s.on s.df s.dc) 0 0 (fun v H' => ∃ u, v = some u ∧ ∃ r s', u = Value.int (Int32.ofNat r) ∧ k s' r = true ∧ own_L s' ∧ H' = (own_G 2 0 0 (s'.ec) (s'.a0) (s'.a1) (s'.a2) (s'.a3) (s'.mv) (s'.mp) (s'.op) (s'.es) (s'.ee) (s'.ev) (s'.km) (s'.re) (s'.pp) (s'.pq) (s'.pt) (s'.sz) (s'.di) (s'.dn) (s'.lo) (s'.co) (s'.io) (s'.on) (s'.df) (s'.dc))) := by
  show W l Z n m7 0 [(.val (.ref 4)), (.val (.int (Int32.ofNat v))), .unset] [] (own_G 2 0 0 s.ec s.a0 s.a1 s.a2 s.a3 s.mv s.mp s.op s.es s.ee s.ev s.km s.re s.pp s.pq s.pt s.sz s.di s.dn s.lo s.co s.io s.on s.df s.dc) 0 0 _
  unfold own_add1 at h
  refine W.aloadN d7_0 rfl rfl ?_
  refine W.getfield 23 d7_1 (hw _ (wd 72 rfl)) rfl rfl ?_
  refine W.aloadN d7_4 rfl rfl ?_
  refine W.getfield 7 d7_5 (hw _ (wd 34 rfl)) rfl rfl ?_
  refine W.arraylength 16 d7_8 rfl rfl (by rw [List.length_map, hL.h_ev]; rfl) ?_
  rcases own_br h with ⟨c64, h⟩ | ⟨c64, h⟩
  · refine W.icmp_ne d7_9 (fun q => False.elim (q (own_eqp rfl (by decide) c64))) (fun _ => ?_)
    exact absurd h (by decide)
  · obtain ⟨c65, h⟩ := own_chk h
    refine W.icmp_ne d7_9 (fun _ => ?_) (fun q => False.elim (own_nep rfl (by decide) c65 (by decide) c64 q))
    refine W.aloadN d7_29 rfl rfl ?_
    refine W.getfield 4 d7_30 (hw _ (wd 24 rfl)) rfl rfl ?_
    refine W.aloadN d7_33 rfl rfl ?_
    refine W.getfield 22 d7_34 (hw _ (wd 70 rfl)) rfl rfl ?_
    refine W.iconst 1 d7_37 rfl ?_
    refine W.isub d7_38 ?_
    obtain ⟨x66, ex66, h⟩ := own_bd h
    refine own_iload (N := 3) (i := 1) (L := s.op) d7_39 rfl (by decide) (by decide) (by decide) hL.h_op ex66 ?_
    refine W.istoreN d7_40 rfl ?_
    refine W.aloadN d7_41 rfl rfl ?_
    refine W.getfield 8 d7_42 (hw _ (wd 37 rfl)) rfl rfl ?_
    refine W.iloadN d7_45 rfl ?_
    refine W.dup2 d7_46 rfl rfl ?_
    obtain ⟨c67, h⟩ := own_chk h
    obtain ⟨x68, ex68, h⟩ := own_bd h
    refine own_zload (N := 3) (i := x66) (L := s.km) d7_47 rfl rfl c67 (by decide) hL.h_km ex68 ?_
    refine W.aloadN d7_48 rfl rfl ?_
    refine W.getfield 2 d7_49 (hw _ (wd 16 rfl)) rfl rfl ?_
    refine W.iloadN d7_52 rfl ?_
    obtain ⟨x69, ex69, h⟩ := own_bd h
    refine own_iload (N := 3) (i := x66) (L := s.mv) d7_53 rfl rfl c67 (by decide) hL.h_mv ex69 ?_
    refine W.iloadN d7_54 rfl ?_
    rcases own_br h with ⟨c70, h⟩ | ⟨c70, h⟩
    · refine W.icmp_ne d7_55 (fun q => False.elim (q (own_eqp rfl rfl c70))) (fun _ => ?_)
      exact absurd h (by decide)
    · obtain ⟨c71, h⟩ := own_chk h
      obtain ⟨c72, h⟩ := own_chk h
      refine W.icmp_ne d7_55 (fun _ => ?_) (fun q => False.elim (own_nep rfl rfl c71 c72 c70 q))
      refine W.iconst 0 d7_62 rfl ?_
      refine own_or0 d7_63 ?_
      obtain ⟨c73, h⟩ := own_chk h
      refine own_zstore (N := 3) (i := x66) (x := x68) (L := s.km) d7_64 rfl rfl rfl c73 c67 (by decide) hL.h_km ?_
      refine W.aloadN d7_65 rfl rfl ?_
      refine W.getfield 7 d7_66 (hw _ (wd 34 rfl)) rfl rfl ?_
      refine W.aloadN d7_69 rfl rfl ?_
      refine W.getfield 23 d7_70 (hw _ (wd 72 rfl)) rfl rfl ?_
      refine W.iloadN d7_73 rfl ?_
      obtain ⟨c74, h⟩ := own_chk h
      refine own_istore (N := 16) (i := s.ec) (x := v) (L := s.ev) d7_74 rfl rfl rfl c74 (by decide) hL.h_ev ?_
      refine W.aloadN d7_75 rfl rfl ?_
      refine W.getfield 6 d7_76 (hw _ (wd 28 rfl)) rfl rfl ?_
      refine W.iloadN d7_79 rfl ?_
      refine W.aloadN d7_80 rfl rfl ?_
      refine W.dup d7_81 rfl ?_
      refine W.getfield 23 d7_82 (hw _ (wd 72 rfl)) rfl rfl ?_
      refine W.iconst 1 d7_85 rfl ?_
      refine own_addN (x := s.ec) (y := 1) d7_86 rfl (by decide) ?_
      refine W.dupX1 d7_87 rfl rfl ?_
      refine W.putfield 23 d7_88 (hw _ (wd 72 rfl)) rfl rfl (Or.inl (hw _ (wd 73 rfl))) (hw _ (wd 4 rfl)) (ty := .int) (by decide) (fun _ => rfl) (fun _ => rfl) ?_
      show WB _ l Z n m7 91 [(.val (.ref 4)), (.val (.int (Int32.ofNat v))), (.val (.int (Int32.ofNat x66)))] [(.int (Int32.ofNat (s.ec + 1))), (.int (Int32.ofNat x66)), (.ref 9)] (own_G 2 0 0 (s.ec + 1) s.a0 s.a1 s.a2 s.a3 s.mv s.mp s.op s.es s.ee ((s.ev).set s.ec v) ((s.km).set x66 x68) s.re s.pp s.pq s.pt s.sz s.di s.dn s.lo s.co s.io s.on s.df s.dc) _ _ _
      refine own_istore (N := 3) (i := x66) (x := s.ec + 1) (L := s.ee) d7_91 rfl rfl rfl c67 (by decide) hL.h_ee ?_
      refine W.aloadN d7_92 rfl rfl ?_
      refine W.getfield 23 d7_93 (hw _ (wd 72 rfl)) rfl rfl ?_
      refine W.iconst 1 d7_96 rfl ?_
      obtain ⟨c75, h⟩ := own_chk h
      refine own_subN (x := s.ec + 1) (y := 1) d7_97 rfl (by decide) c75 ?_
      exact W.ireturn d7_98 rfl (by decide) (by decide) (⟨_, rfl, (s.ec + 1) - 1, (own_tup (s.ec + 1) s.a0 s.a1 s.a2 s.a3 s.mv s.mp s.op s.es ((s.ee).set x66 (s.ec + 1)) ((s.ev).set s.ec v) ((s.km).set x66 x68) s.re s.pp s.pq s.pt s.sz s.di s.dn s.lo s.co s.io s.on s.df s.dc), rfl, h, ⟨hL.h_a0, hL.h_a1, hL.h_a2, hL.h_a3, hL.h_mv, hL.h_mp, hL.h_op, hL.h_es, (own_ls hL.h_ee), (own_ls hL.h_ev), (own_ls hL.h_km), hL.h_re, hL.h_pp, hL.h_pq, hL.h_pt, hL.h_sz, hL.h_di, hL.h_dn, hL.h_lo, hL.h_co, hL.h_io, hL.h_on, hL.h_df, hL.h_dc⟩, rfl⟩)
def own_edges1 (s : own_S) (m r : Nat) (k : own_S → Nat → Bool) : Bool :=
  if m < 8 then if r < 3 then (if m / 2 ^ r % 2 = 0 then if r + 1 < 8 then if (r + 1) % 3 < 3 then (if m / 2 ^ ((r + 1) % 3) % 2 = 0 then if r + 2 < 8 then if (r + 2) % 3 < 3 then (if m / 2 ^ ((r + 2) % 3) % 2 = 0 then k s 0 else if m / 2 ^ ((r + 2) % 3) % 2 < 4294967296 then own_add1 s ((r + 2) % 3) fun s87 x86 => k (own_tup s87.ec s87.a0 s87.a1 ((s87.a2).set 0 ((r + 2) % 3)) ((s87.a3).set 0 x86) s87.mv s87.mp s87.op s87.es s87.ee s87.ev s87.km s87.re s87.pp s87.pq s87.pt s87.sz s87.di s87.dn s87.lo s87.co s87.io s87.on s87.df s87.dc) 1 else false) else false else false else if m / 2 ^ ((r + 1) % 3) % 2 < 4294967296 then own_add1 s ((r + 1) % 3) fun s91 x90 => if r + 2 < 8 then if (r + 2) % 3 < 3 then (if m / 2 ^ ((r + 2) % 3) % 2 = 0 then k (own_tup s91.ec s91.a0 s91.a1 ((s91.a2).set 0 ((r + 1) % 3)) ((s91.a3).set 0 x90) s91.mv s91.mp s91.op s91.es s91.ee s91.ev s91.km s91.re s91.pp s91.pq s91.pt s91.sz s91.di s91.dn s91.lo s91.co s91.io s91.on s91.df s91.dc) 1 else if m / 2 ^ ((r + 2) % 3) % 2 < 4294967296 then own_add1 (own_tup s91.ec s91.a0 s91.a1 ((s91.a2).set 0 ((r + 1) % 3)) ((s91.a3).set 0 x90) s91.mv s91.mp s91.op s91.es s91.ee s91.ev s91.km s91.re s91.pp s91.pq s91.pt s91.sz s91.di s91.dn s91.lo s91.co s91.io s91.on s91.df s91.dc) ((r + 2) % 3) fun s98 x97 => k (own_tup s98.ec s98.a0 s98.a1 ((s98.a2).set 1 ((r + 2) % 3)) ((s98.a3).set 1 x97) s98.mv s98.mp s98.op s98.es s98.ee s98.ev s98.km s98.re s98.pp s98.pq s98.pt s98.sz s98.di s98.dn s98.lo s98.co s98.io s98.on s98.df s98.dc) 2 else false) else false else false else false) else false else false else if m / 2 ^ r % 2 < 4294967296 then own_add1 s r fun s102 x101 => if r + 1 < 8 then if (r + 1) % 3 < 3 then (if m / 2 ^ ((r + 1) % 3) % 2 = 0 then if r + 2 < 8 then if (r + 2) % 3 < 3 then (if m / 2 ^ ((r + 2) % 3) % 2 = 0 then k (own_tup s102.ec s102.a0 s102.a1 ((s102.a2).set 0 r) ((s102.a3).set 0 x101) s102.mv s102.mp s102.op s102.es s102.ee s102.ev s102.km s102.re s102.pp s102.pq s102.pt s102.sz s102.di s102.dn s102.lo s102.co s102.io s102.on s102.df s102.dc) 1 else if m / 2 ^ ((r + 2) % 3) % 2 < 4294967296 then own_add1 (own_tup s102.ec s102.a0 s102.a1 ((s102.a2).set 0 r) ((s102.a3).set 0 x101) s102.mv s102.mp s102.op s102.es s102.ee s102.ev s102.km s102.re s102.pp s102.pq s102.pt s102.sz s102.di s102.dn s102.lo s102.co s102.io s102.on s102.df s102.dc) ((r + 2) % 3) fun s112 x111 => k (own_tup s112.ec s112.a0 s112.a1 ((s112.a2).set 1 ((r + 2) % 3)) ((s112.a3).set 1 x111) s112.mv s112.mp s112.op s112.es s112.ee s112.ev s112.km s112.re s112.pp s112.pq s112.pt s112.sz s112.di s112.dn s112.lo s112.co s112.io s112.on s112.df s112.dc) 2 else false) else false else false else if m / 2 ^ ((r + 1) % 3) % 2 < 4294967296 then own_add1 (own_tup s102.ec s102.a0 s102.a1 ((s102.a2).set 0 r) ((s102.a3).set 0 x101) s102.mv s102.mp s102.op s102.es s102.ee s102.ev s102.km s102.re s102.pp s102.pq s102.pt s102.sz s102.di s102.dn s102.lo s102.co s102.io s102.on s102.df s102.dc) ((r + 1) % 3) fun s116 x115 => if r + 2 < 8 then if (r + 2) % 3 < 3 then (if m / 2 ^ ((r + 2) % 3) % 2 = 0 then k (own_tup s116.ec s116.a0 s116.a1 ((s116.a2).set 1 ((r + 1) % 3)) ((s116.a3).set 1 x115) s116.mv s116.mp s116.op s116.es s116.ee s116.ev s116.km s116.re s116.pp s116.pq s116.pt s116.sz s116.di s116.dn s116.lo s116.co s116.io s116.on s116.df s116.dc) 2 else if m / 2 ^ ((r + 2) % 3) % 2 < 4294967296 then own_add1 (own_tup s116.ec s116.a0 s116.a1 ((s116.a2).set 1 ((r + 1) % 3)) ((s116.a3).set 1 x115) s116.mv s116.mp s116.op s116.es s116.ee s116.ev s116.km s116.re s116.pp s116.pq s116.pt s116.sz s116.di s116.dn s116.lo s116.co s116.io s116.on s116.df s116.dc) ((r + 2) % 3) fun s123 x122 => k (own_tup s123.ec s123.a0 s123.a1 ((s123.a2).set 2 ((r + 2) % 3)) ((s123.a3).set 2 x122) s123.mv s123.mp s123.op s123.es s123.ee s123.ev s123.km s123.re s123.pp s123.pq s123.pt s123.sz s123.di s123.dn s123.lo s123.co s123.io s123.on s123.df s123.dc) 3 else false) else false else false else false) else false else false else false) else false else false
set_option maxRecDepth 65536 in
set_option maxHeartbeats 40000000 in
theorem t_edges1 {l : Launch} {Z : State} {a0 : Array Value} {n : Nat} (hw : ∀ d ∈ tables_1, d.before a0 Z = true)  (s : own_S) (m r : Nat) (k : own_S → Nat → Bool) (hL : own_L s) (h : own_edges1 s m r k = true) : W l Z n m6 0 (entryL [(.ref 4), (.int (Int32.ofNat m)), (.int (Int32.ofNat r)), (.ref 2), (.ref 3)] 9) [] (own_G 2 0 0 s.ec s.a0 s.a1 s.a2 s.a3 s.mv s.mp s.op s.es s.ee s.ev s.km s.re s.pp s.pq s.pt s.sz s.di s.dn s.lo s.co s.io s.on s.df s.dc) 0 0 (fun v H' => ∃ u, v = some u ∧ ∃ r s', u = Value.int (Int32.ofNat r) ∧ k s' r = true ∧ own_L s' ∧ H' = (own_G 2 0 0 (s'.ec) (s'.a0) (s'.a1) (s'.a2) (s'.a3) (s'.mv) (s'.mp) (s'.op) (s'.es) (s'.ee) (s'.ev) (s'.km) (s'.re) (s'.pp) (s'.pq) (s'.pt) (s'.sz) (s'.di) (s'.dn) (s'.lo) (s'.co) (s'.io) (s'.on) (s'.df) (s'.dc))) := by
  show W l Z n m6 0 [(.val (.ref 4)), (.val (.int (Int32.ofNat m))), (.val (.int (Int32.ofNat r))), (.val (.ref 2)), (.val (.ref 3)), .unset, .unset, .unset, .unset] [] (own_G 2 0 0 s.ec s.a0 s.a1 s.a2 s.a3 s.mv s.mp s.op s.es s.ee s.ev s.km s.re s.pp s.pq s.pt s.sz s.di s.dn s.lo s.co s.io s.on s.df s.dc) 0 0 _
  unfold own_edges1 at h
  refine W.iconst 0 d6_0 rfl ?_
  refine W.istore d6_1 rfl ?_
  refine W.iloadN d6_3 rfl ?_
  refine W.istore d6_4 rfl ?_
  refine W.iloadN d6_6 rfl ?_
  refine W.iload d6_7 rfl ?_
  obtain ⟨c76, h⟩ := own_chk h
  obtain ⟨c77, h⟩ := own_chk h
  refine W.iushr d6_9 ?_
  refine W.iconst 1 d6_10 rfl ?_
  refine W.iand d6_11 ?_
  rw [own_ush c76 c77]
  rcases own_br h with ⟨c78, h⟩ | ⟨c78, h⟩
  · refine W.if_eq d6_12 (fun _ => ?_) (fun q => False.elim (q (own_eqp rfl (by decide) c78)))
    refine W.iloadN d6_35 rfl ?_
    refine W.iconst 1 d6_36 rfl ?_
    refine own_addN (x := r) (y := 1) d6_37 rfl (by decide) ?_
    refine W.iconst 3 d6_38 rfl ?_
    obtain ⟨c79, h⟩ := own_chk h
    refine W.irem d6_39 (by decide) ?_
    rw [own_rm c79]
    refine W.istore d6_40 rfl ?_
    refine W.iloadN d6_42 rfl ?_
    refine W.iload d6_43 rfl ?_
    obtain ⟨c80, h⟩ := own_chk h
    refine W.iushr d6_45 ?_
    refine W.iconst 1 d6_46 rfl ?_
    refine W.iand d6_47 ?_
    rw [own_ush c76 c80]
    rcases own_br h with ⟨c81, h⟩ | ⟨c81, h⟩
    · refine W.if_eq d6_48 (fun _ => ?_) (fun q => False.elim (q (own_eqp rfl (by decide) c81)))
      refine W.iloadN d6_71 rfl ?_
      refine W.iconst 2 d6_72 rfl ?_
      refine own_addN (x := r) (y := 2) d6_73 rfl (by decide) ?_
      refine W.iconst 3 d6_74 rfl ?_
      obtain ⟨c82, h⟩ := own_chk h
      refine W.irem d6_75 (by decide) ?_
      rw [own_rm c82]
      refine W.istore d6_76 rfl ?_
      show WB _ l Z n m6 78 [(.val (.ref 4)), (.val (.int (Int32.ofNat m))), (.val (.int (Int32.ofNat r))), (.val (.ref 2)), (.val (.ref 3)), (.val (.int 0)), (.val (.int (Int32.ofNat r))), (.val (.int (Int32.ofNat ((r + 1) % 3)))), (.val (.int (Int32.ofNat ((r + 2) % 3))))] [] (own_G 2 0 0 s.ec s.a0 s.a1 s.a2 s.a3 s.mv s.mp s.op s.es s.ee s.ev s.km s.re s.pp s.pq s.pt s.sz s.di s.dn s.lo s.co s.io s.on s.df s.dc) _ _ _
      refine W.iloadN d6_78 rfl ?_
      refine W.iload d6_79 rfl ?_
      obtain ⟨c83, h⟩ := own_chk h
      refine W.iushr d6_81 ?_
      refine W.iconst 1 d6_82 rfl ?_
      refine W.iand d6_83 ?_
      rw [own_ush c76 c83]
      rcases own_br h with ⟨c84, h⟩ | ⟨c84, h⟩
      · refine W.if_eq d6_84 (fun _ => ?_) (fun q => False.elim (q (own_eqp rfl (by decide) c84)))
        refine W.iload d6_107 rfl ?_
        exact W.ireturn d6_109 rfl (by decide) (by decide) (⟨_, rfl, 0, s, by decide, h, hL, rfl⟩)
      · obtain ⟨c85, h⟩ := own_chk h
        refine W.if_eq d6_84 (fun q => False.elim (own_nep rfl (by decide) c85 (by decide) c84 q)) (fun _ => ?_)
        refine W.aload d6_87 rfl rfl ?_
        refine W.iload d6_89 rfl ?_
        refine W.aloadN d6_91 rfl rfl ?_
        refine W.iload d6_92 rfl ?_
        refine W.callvX (M' := m7) d6_94 (hw _ (wd 78 rfl)) (hw _ (wd 79 rfl)) (hw _ (wd 80 rfl)) (hw _ (wd 81 rfl)) (t_add1 hw s ((r + 2) % 3) _ hL h) (ok7 hw) rfl rfl rfl rfl ?_
        rintro _ _ ⟨x86, s87, rfl, h, hL88, rfl⟩
        refine own_istore (N := 3) (i := 0) (x := x86) (L := s87.a3) d6_97 rfl (by decide) rfl (by decide) (by decide) hL88.h_a3 ?_
        refine W.aloadN d6_98 rfl rfl ?_
        refine W.iload d6_99 rfl ?_
        refine W.iload d6_101 rfl ?_
        refine own_istore (N := 3) (i := 0) (x := (r + 2) % 3) (L := s87.a2) d6_103 rfl (by decide) rfl (by decide) (by decide) hL88.h_a2 ?_
        refine W.iinc 1 d6_104 rfl rfl ?_
        refine W.iload d6_107 rfl ?_
        exact W.ireturn d6_109 rfl (by decide) (by decide) (⟨_, rfl, 1, (own_tup s87.ec s87.a0 s87.a1 ((s87.a2).set 0 ((r + 2) % 3)) ((s87.a3).set 0 x86) s87.mv s87.mp s87.op s87.es s87.ee s87.ev s87.km s87.re s87.pp s87.pq s87.pt s87.sz s87.di s87.dn s87.lo s87.co s87.io s87.on s87.df s87.dc), by decide, h, ⟨hL88.h_a0, hL88.h_a1, (own_ls hL88.h_a2), (own_ls hL88.h_a3), hL88.h_mv, hL88.h_mp, hL88.h_op, hL88.h_es, hL88.h_ee, hL88.h_ev, hL88.h_km, hL88.h_re, hL88.h_pp, hL88.h_pq, hL88.h_pt, hL88.h_sz, hL88.h_di, hL88.h_dn, hL88.h_lo, hL88.h_co, hL88.h_io, hL88.h_on, hL88.h_df, hL88.h_dc⟩, rfl⟩)
    · obtain ⟨c89, h⟩ := own_chk h
      refine W.if_eq d6_48 (fun q => False.elim (own_nep rfl (by decide) c89 (by decide) c81 q)) (fun _ => ?_)
      refine W.aload d6_51 rfl rfl ?_
      refine W.iload d6_53 rfl ?_
      refine W.aloadN d6_55 rfl rfl ?_
      refine W.iload d6_56 rfl ?_
      refine W.callvX (M' := m7) d6_58 (hw _ (wd 78 rfl)) (hw _ (wd 79 rfl)) (hw _ (wd 80 rfl)) (hw _ (wd 81 rfl)) (t_add1 hw s ((r + 1) % 3) _ hL h) (ok7 hw) rfl rfl rfl rfl ?_
      rintro _ _ ⟨x90, s91, rfl, h, hL92, rfl⟩
      refine own_istore (N := 3) (i := 0) (x := x90) (L := s91.a3) d6_61 rfl (by decide) rfl (by decide) (by decide) hL92.h_a3 ?_
      show WB _ l Z n m6 62 [(.val (.ref 4)), (.val (.int (Int32.ofNat m))), (.val (.int (Int32.ofNat r))), (.val (.ref 2)), (.val (.ref 3)), (.val (.int 0)), (.val (.int (Int32.ofNat r))), (.val (.int (Int32.ofNat ((r + 1) % 3)))), .unset] [] (own_G 2 0 0 s91.ec s91.a0 s91.a1 s91.a2 ((s91.a3).set 0 x90) s91.mv s91.mp s91.op s91.es s91.ee s91.ev s91.km s91.re s91.pp s91.pq s91.pt s91.sz s91.di s91.dn s91.lo s91.co s91.io s91.on s91.df s91.dc) _ _ _
      refine W.aloadN d6_62 rfl rfl ?_
      refine W.iload d6_63 rfl ?_
      refine W.iload d6_65 rfl ?_
      refine own_istore (N := 3) (i := 0) (x := (r + 1) % 3) (L := s91.a2) d6_67 rfl (by decide) rfl (by decide) (by decide) hL92.h_a2 ?_
      refine W.iinc 1 d6_68 rfl rfl ?_
      refine W.iloadN d6_71 rfl ?_
      refine W.iconst 2 d6_72 rfl ?_
      refine own_addN (x := r) (y := 2) d6_73 rfl (by decide) ?_
      refine W.iconst 3 d6_74 rfl ?_
      obtain ⟨c93, h⟩ := own_chk h
      refine W.irem d6_75 (by decide) ?_
      rw [own_rm c93]
      refine W.istore d6_76 rfl ?_
      refine W.iloadN d6_78 rfl ?_
      refine W.iload d6_79 rfl ?_
      obtain ⟨c94, h⟩ := own_chk h
      refine W.iushr d6_81 ?_
      refine W.iconst 1 d6_82 rfl ?_
      refine W.iand d6_83 ?_
      rw [own_ush c76 c94]
      rcases own_br h with ⟨c95, h⟩ | ⟨c95, h⟩
      · refine W.if_eq d6_84 (fun _ => ?_) (fun q => False.elim (q (own_eqp rfl (by decide) c95)))
        refine W.iload d6_107 rfl ?_
        exact W.ireturn d6_109 rfl (by decide) (by decide) (⟨_, rfl, 1, (own_tup s91.ec s91.a0 s91.a1 ((s91.a2).set 0 ((r + 1) % 3)) ((s91.a3).set 0 x90) s91.mv s91.mp s91.op s91.es s91.ee s91.ev s91.km s91.re s91.pp s91.pq s91.pt s91.sz s91.di s91.dn s91.lo s91.co s91.io s91.on s91.df s91.dc), by decide, h, ⟨hL92.h_a0, hL92.h_a1, (own_ls hL92.h_a2), (own_ls hL92.h_a3), hL92.h_mv, hL92.h_mp, hL92.h_op, hL92.h_es, hL92.h_ee, hL92.h_ev, hL92.h_km, hL92.h_re, hL92.h_pp, hL92.h_pq, hL92.h_pt, hL92.h_sz, hL92.h_di, hL92.h_dn, hL92.h_lo, hL92.h_co, hL92.h_io, hL92.h_on, hL92.h_df, hL92.h_dc⟩, rfl⟩)
      · obtain ⟨c96, h⟩ := own_chk h
        refine W.if_eq d6_84 (fun q => False.elim (own_nep rfl (by decide) c96 (by decide) c95 q)) (fun _ => ?_)
        refine W.aload d6_87 rfl rfl ?_
        refine W.iload d6_89 rfl ?_
        refine W.aloadN d6_91 rfl rfl ?_
        refine W.iload d6_92 rfl ?_
        refine W.callvX (M' := m7) d6_94 (hw _ (wd 78 rfl)) (hw _ (wd 79 rfl)) (hw _ (wd 80 rfl)) (hw _ (wd 81 rfl)) (t_add1 hw (own_tup s91.ec s91.a0 s91.a1 ((s91.a2).set 0 ((r + 1) % 3)) ((s91.a3).set 0 x90) s91.mv s91.mp s91.op s91.es s91.ee s91.ev s91.km s91.re s91.pp s91.pq s91.pt s91.sz s91.di s91.dn s91.lo s91.co s91.io s91.on s91.df s91.dc) ((r + 2) % 3) _ ⟨hL92.h_a0, hL92.h_a1, (own_ls hL92.h_a2), (own_ls hL92.h_a3), hL92.h_mv, hL92.h_mp, hL92.h_op, hL92.h_es, hL92.h_ee, hL92.h_ev, hL92.h_km, hL92.h_re, hL92.h_pp, hL92.h_pq, hL92.h_pt, hL92.h_sz, hL92.h_di, hL92.h_dn, hL92.h_lo, hL92.h_co, hL92.h_io, hL92.h_on, hL92.h_df, hL92.h_dc⟩ h) (ok7 hw) rfl rfl rfl rfl ?_
        rintro _ _ ⟨x97, s98, rfl, h, hL99, rfl⟩
        refine own_istore (N := 3) (i := 1) (x := x97) (L := s98.a3) d6_97 rfl (by decide) rfl (by decide) (by decide) hL99.h_a3 ?_
        show WB _ l Z n m6 98 [(.val (.ref 4)), (.val (.int (Int32.ofNat m))), (.val (.int (Int32.ofNat r))), (.val (.ref 2)), (.val (.ref 3)), (.val (.int 1)), (.val (.int (Int32.ofNat r))), (.val (.int (Int32.ofNat ((r + 1) % 3)))), (.val (.int (Int32.ofNat ((r + 2) % 3))))] [] (own_G 2 0 0 s98.ec s98.a0 s98.a1 s98.a2 ((s98.a3).set 1 x97) s98.mv s98.mp s98.op s98.es s98.ee s98.ev s98.km s98.re s98.pp s98.pq s98.pt s98.sz s98.di s98.dn s98.lo s98.co s98.io s98.on s98.df s98.dc) _ _ _
        refine W.aloadN d6_98 rfl rfl ?_
        refine W.iload d6_99 rfl ?_
        refine W.iload d6_101 rfl ?_
        refine own_istore (N := 3) (i := 1) (x := (r + 2) % 3) (L := s98.a2) d6_103 rfl (by decide) rfl (by decide) (by decide) hL99.h_a2 ?_
        refine W.iinc 1 d6_104 rfl rfl ?_
        refine W.iload d6_107 rfl ?_
        exact W.ireturn d6_109 rfl (by decide) (by decide) (⟨_, rfl, 2, (own_tup s98.ec s98.a0 s98.a1 ((s98.a2).set 1 ((r + 2) % 3)) ((s98.a3).set 1 x97) s98.mv s98.mp s98.op s98.es s98.ee s98.ev s98.km s98.re s98.pp s98.pq s98.pt s98.sz s98.di s98.dn s98.lo s98.co s98.io s98.on s98.df s98.dc), by decide, h, ⟨hL99.h_a0, hL99.h_a1, (own_ls hL99.h_a2), (own_ls hL99.h_a3), hL99.h_mv, hL99.h_mp, hL99.h_op, hL99.h_es, hL99.h_ee, hL99.h_ev, hL99.h_km, hL99.h_re, hL99.h_pp, hL99.h_pq, hL99.h_pt, hL99.h_sz, hL99.h_di, hL99.h_dn, hL99.h_lo, hL99.h_co, hL99.h_io, hL99.h_on, hL99.h_df, hL99.h_dc⟩, rfl⟩)
  · obtain ⟨c100, h⟩ := own_chk h
    refine W.if_eq d6_12 (fun q => False.elim (own_nep rfl (by decide) c100 (by decide) c78 q)) (fun _ => ?_)
    refine W.aload d6_15 rfl rfl ?_
    refine W.iload d6_17 rfl ?_
    refine W.aloadN d6_19 rfl rfl ?_
    refine W.iload d6_20 rfl ?_
    refine W.callvX (M' := m7) d6_22 (hw _ (wd 78 rfl)) (hw _ (wd 79 rfl)) (hw _ (wd 80 rfl)) (hw _ (wd 81 rfl)) (t_add1 hw s r _ hL h) (ok7 hw) rfl rfl rfl rfl ?_
    rintro _ _ ⟨x101, s102, rfl, h, hL103, rfl⟩
    refine own_istore (N := 3) (i := 0) (x := x101) (L := s102.a3) d6_25 rfl (by decide) rfl (by decide) (by decide) hL103.h_a3 ?_
    refine W.aloadN d6_26 rfl rfl ?_
    refine W.iload d6_27 rfl ?_
    refine W.iload d6_29 rfl ?_
    refine own_istore (N := 3) (i := 0) (x := r) (L := s102.a2) d6_31 rfl (by decide) rfl (by decide) (by decide) hL103.h_a2 ?_
    show WB _ l Z n m6 32 [(.val (.ref 4)), (.val (.int (Int32.ofNat m))), (.val (.int (Int32.ofNat r))), (.val (.ref 2)), (.val (.ref 3)), (.val (.int 0)), (.val (.int (Int32.ofNat r))), .unset, .unset] [] (own_G 2 0 0 s102.ec s102.a0 s102.a1 ((s102.a2).set 0 r) ((s102.a3).set 0 x101) s102.mv s102.mp s102.op s102.es s102.ee s102.ev s102.km s102.re s102.pp s102.pq s102.pt s102.sz s102.di s102.dn s102.lo s102.co s102.io s102.on s102.df s102.dc) _ _ _
    refine W.iinc 1 d6_32 rfl rfl ?_
    refine W.iloadN d6_35 rfl ?_
    refine W.iconst 1 d6_36 rfl ?_
    refine own_addN (x := r) (y := 1) d6_37 rfl (by decide) ?_
    refine W.iconst 3 d6_38 rfl ?_
    obtain ⟨c104, h⟩ := own_chk h
    refine W.irem d6_39 (by decide) ?_
    rw [own_rm c104]
    refine W.istore d6_40 rfl ?_
    refine W.iloadN d6_42 rfl ?_
    refine W.iload d6_43 rfl ?_
    obtain ⟨c105, h⟩ := own_chk h
    refine W.iushr d6_45 ?_
    refine W.iconst 1 d6_46 rfl ?_
    refine W.iand d6_47 ?_
    rw [own_ush c76 c105]
    rcases own_br h with ⟨c106, h⟩ | ⟨c106, h⟩
    · refine W.if_eq d6_48 (fun _ => ?_) (fun q => False.elim (q (own_eqp rfl (by decide) c106)))
      refine W.iloadN d6_71 rfl ?_
      refine W.iconst 2 d6_72 rfl ?_
      refine own_addN (x := r) (y := 2) d6_73 rfl (by decide) ?_
      refine W.iconst 3 d6_74 rfl ?_
      obtain ⟨c107, h⟩ := own_chk h
      refine W.irem d6_75 (by decide) ?_
      rw [own_rm c107]
      refine W.istore d6_76 rfl ?_
      refine W.iloadN d6_78 rfl ?_
      refine W.iload d6_79 rfl ?_
      obtain ⟨c108, h⟩ := own_chk h
      refine W.iushr d6_81 ?_
      refine W.iconst 1 d6_82 rfl ?_
      refine W.iand d6_83 ?_
      rw [own_ush c76 c108]
      rcases own_br h with ⟨c109, h⟩ | ⟨c109, h⟩
      · refine W.if_eq d6_84 (fun _ => ?_) (fun q => False.elim (q (own_eqp rfl (by decide) c109)))
        refine W.iload d6_107 rfl ?_
        exact W.ireturn d6_109 rfl (by decide) (by decide) (⟨_, rfl, 1, (own_tup s102.ec s102.a0 s102.a1 ((s102.a2).set 0 r) ((s102.a3).set 0 x101) s102.mv s102.mp s102.op s102.es s102.ee s102.ev s102.km s102.re s102.pp s102.pq s102.pt s102.sz s102.di s102.dn s102.lo s102.co s102.io s102.on s102.df s102.dc), by decide, h, ⟨hL103.h_a0, hL103.h_a1, (own_ls hL103.h_a2), (own_ls hL103.h_a3), hL103.h_mv, hL103.h_mp, hL103.h_op, hL103.h_es, hL103.h_ee, hL103.h_ev, hL103.h_km, hL103.h_re, hL103.h_pp, hL103.h_pq, hL103.h_pt, hL103.h_sz, hL103.h_di, hL103.h_dn, hL103.h_lo, hL103.h_co, hL103.h_io, hL103.h_on, hL103.h_df, hL103.h_dc⟩, rfl⟩)
      · obtain ⟨c110, h⟩ := own_chk h
        refine W.if_eq d6_84 (fun q => False.elim (own_nep rfl (by decide) c110 (by decide) c109 q)) (fun _ => ?_)
        refine W.aload d6_87 rfl rfl ?_
        refine W.iload d6_89 rfl ?_
        refine W.aloadN d6_91 rfl rfl ?_
        refine W.iload d6_92 rfl ?_
        refine W.callvX (M' := m7) d6_94 (hw _ (wd 78 rfl)) (hw _ (wd 79 rfl)) (hw _ (wd 80 rfl)) (hw _ (wd 81 rfl)) (t_add1 hw (own_tup s102.ec s102.a0 s102.a1 ((s102.a2).set 0 r) ((s102.a3).set 0 x101) s102.mv s102.mp s102.op s102.es s102.ee s102.ev s102.km s102.re s102.pp s102.pq s102.pt s102.sz s102.di s102.dn s102.lo s102.co s102.io s102.on s102.df s102.dc) ((r + 2) % 3) _ ⟨hL103.h_a0, hL103.h_a1, (own_ls hL103.h_a2), (own_ls hL103.h_a3), hL103.h_mv, hL103.h_mp, hL103.h_op, hL103.h_es, hL103.h_ee, hL103.h_ev, hL103.h_km, hL103.h_re, hL103.h_pp, hL103.h_pq, hL103.h_pt, hL103.h_sz, hL103.h_di, hL103.h_dn, hL103.h_lo, hL103.h_co, hL103.h_io, hL103.h_on, hL103.h_df, hL103.h_dc⟩ h) (ok7 hw) rfl rfl rfl rfl ?_
        rintro _ _ ⟨x111, s112, rfl, h, hL113, rfl⟩
        refine own_istore (N := 3) (i := 1) (x := x111) (L := s112.a3) d6_97 rfl (by decide) rfl (by decide) (by decide) hL113.h_a3 ?_
        show WB _ l Z n m6 98 [(.val (.ref 4)), (.val (.int (Int32.ofNat m))), (.val (.int (Int32.ofNat r))), (.val (.ref 2)), (.val (.ref 3)), (.val (.int 1)), (.val (.int (Int32.ofNat r))), (.val (.int (Int32.ofNat ((r + 1) % 3)))), (.val (.int (Int32.ofNat ((r + 2) % 3))))] [] (own_G 2 0 0 s112.ec s112.a0 s112.a1 s112.a2 ((s112.a3).set 1 x111) s112.mv s112.mp s112.op s112.es s112.ee s112.ev s112.km s112.re s112.pp s112.pq s112.pt s112.sz s112.di s112.dn s112.lo s112.co s112.io s112.on s112.df s112.dc) _ _ _
        refine W.aloadN d6_98 rfl rfl ?_
        refine W.iload d6_99 rfl ?_
        refine W.iload d6_101 rfl ?_
        refine own_istore (N := 3) (i := 1) (x := (r + 2) % 3) (L := s112.a2) d6_103 rfl (by decide) rfl (by decide) (by decide) hL113.h_a2 ?_
        refine W.iinc 1 d6_104 rfl rfl ?_
        refine W.iload d6_107 rfl ?_
        exact W.ireturn d6_109 rfl (by decide) (by decide) (⟨_, rfl, 2, (own_tup s112.ec s112.a0 s112.a1 ((s112.a2).set 1 ((r + 2) % 3)) ((s112.a3).set 1 x111) s112.mv s112.mp s112.op s112.es s112.ee s112.ev s112.km s112.re s112.pp s112.pq s112.pt s112.sz s112.di s112.dn s112.lo s112.co s112.io s112.on s112.df s112.dc), by decide, h, ⟨hL113.h_a0, hL113.h_a1, (own_ls hL113.h_a2), (own_ls hL113.h_a3), hL113.h_mv, hL113.h_mp, hL113.h_op, hL113.h_es, hL113.h_ee, hL113.h_ev, hL113.h_km, hL113.h_re, hL113.h_pp, hL113.h_pq, hL113.h_pt, hL113.h_sz, hL113.h_di, hL113.h_dn, hL113.h_lo, hL113.h_co, hL113.h_io, hL113.h_on, hL113.h_df, hL113.h_dc⟩, rfl⟩)
    · obtain ⟨c114, h⟩ := own_chk h
      refine W.if_eq d6_48 (fun q => False.elim (own_nep rfl (by decide) c114 (by decide) c106 q)) (fun _ => ?_)
      refine W.aload d6_51 rfl rfl ?_
      refine W.iload d6_53 rfl ?_
      refine W.aloadN d6_55 rfl rfl ?_
      refine W.iload d6_56 rfl ?_
      refine W.callvX (M' := m7) d6_58 (hw _ (wd 78 rfl)) (hw _ (wd 79 rfl)) (hw _ (wd 80 rfl)) (hw _ (wd 81 rfl)) (t_add1 hw (own_tup s102.ec s102.a0 s102.a1 ((s102.a2).set 0 r) ((s102.a3).set 0 x101) s102.mv s102.mp s102.op s102.es s102.ee s102.ev s102.km s102.re s102.pp s102.pq s102.pt s102.sz s102.di s102.dn s102.lo s102.co s102.io s102.on s102.df s102.dc) ((r + 1) % 3) _ ⟨hL103.h_a0, hL103.h_a1, (own_ls hL103.h_a2), (own_ls hL103.h_a3), hL103.h_mv, hL103.h_mp, hL103.h_op, hL103.h_es, hL103.h_ee, hL103.h_ev, hL103.h_km, hL103.h_re, hL103.h_pp, hL103.h_pq, hL103.h_pt, hL103.h_sz, hL103.h_di, hL103.h_dn, hL103.h_lo, hL103.h_co, hL103.h_io, hL103.h_on, hL103.h_df, hL103.h_dc⟩ h) (ok7 hw) rfl rfl rfl rfl ?_
      rintro _ _ ⟨x115, s116, rfl, h, hL117, rfl⟩
      refine own_istore (N := 3) (i := 1) (x := x115) (L := s116.a3) d6_61 rfl (by decide) rfl (by decide) (by decide) hL117.h_a3 ?_
      refine W.aloadN d6_62 rfl rfl ?_
      refine W.iload d6_63 rfl ?_
      refine W.iload d6_65 rfl ?_
      refine own_istore (N := 3) (i := 1) (x := (r + 1) % 3) (L := s116.a2) d6_67 rfl (by decide) rfl (by decide) (by decide) hL117.h_a2 ?_
      show WB _ l Z n m6 68 [(.val (.ref 4)), (.val (.int (Int32.ofNat m))), (.val (.int (Int32.ofNat r))), (.val (.ref 2)), (.val (.ref 3)), (.val (.int 1)), (.val (.int (Int32.ofNat r))), (.val (.int (Int32.ofNat ((r + 1) % 3)))), .unset] [] (own_G 2 0 0 s116.ec s116.a0 s116.a1 ((s116.a2).set 1 ((r + 1) % 3)) ((s116.a3).set 1 x115) s116.mv s116.mp s116.op s116.es s116.ee s116.ev s116.km s116.re s116.pp s116.pq s116.pt s116.sz s116.di s116.dn s116.lo s116.co s116.io s116.on s116.df s116.dc) _ _ _
      refine W.iinc 1 d6_68 rfl rfl ?_
      refine W.iloadN d6_71 rfl ?_
      refine W.iconst 2 d6_72 rfl ?_
      refine own_addN (x := r) (y := 2) d6_73 rfl (by decide) ?_
      refine W.iconst 3 d6_74 rfl ?_
      obtain ⟨c118, h⟩ := own_chk h
      refine W.irem d6_75 (by decide) ?_
      rw [own_rm c118]
      refine W.istore d6_76 rfl ?_
      refine W.iloadN d6_78 rfl ?_
      refine W.iload d6_79 rfl ?_
      obtain ⟨c119, h⟩ := own_chk h
      refine W.iushr d6_81 ?_
      refine W.iconst 1 d6_82 rfl ?_
      refine W.iand d6_83 ?_
      rw [own_ush c76 c119]
      rcases own_br h with ⟨c120, h⟩ | ⟨c120, h⟩
      · refine W.if_eq d6_84 (fun _ => ?_) (fun q => False.elim (q (own_eqp rfl (by decide) c120)))
        refine W.iload d6_107 rfl ?_
        exact W.ireturn d6_109 rfl (by decide) (by decide) (⟨_, rfl, 2, (own_tup s116.ec s116.a0 s116.a1 ((s116.a2).set 1 ((r + 1) % 3)) ((s116.a3).set 1 x115) s116.mv s116.mp s116.op s116.es s116.ee s116.ev s116.km s116.re s116.pp s116.pq s116.pt s116.sz s116.di s116.dn s116.lo s116.co s116.io s116.on s116.df s116.dc), by decide, h, ⟨hL117.h_a0, hL117.h_a1, (own_ls hL117.h_a2), (own_ls hL117.h_a3), hL117.h_mv, hL117.h_mp, hL117.h_op, hL117.h_es, hL117.h_ee, hL117.h_ev, hL117.h_km, hL117.h_re, hL117.h_pp, hL117.h_pq, hL117.h_pt, hL117.h_sz, hL117.h_di, hL117.h_dn, hL117.h_lo, hL117.h_co, hL117.h_io, hL117.h_on, hL117.h_df, hL117.h_dc⟩, rfl⟩)
      · obtain ⟨c121, h⟩ := own_chk h
        refine W.if_eq d6_84 (fun q => False.elim (own_nep rfl (by decide) c121 (by decide) c120 q)) (fun _ => ?_)
        refine W.aload d6_87 rfl rfl ?_
        refine W.iload d6_89 rfl ?_
        refine W.aloadN d6_91 rfl rfl ?_
        refine W.iload d6_92 rfl ?_
        refine W.callvX (M' := m7) d6_94 (hw _ (wd 78 rfl)) (hw _ (wd 79 rfl)) (hw _ (wd 80 rfl)) (hw _ (wd 81 rfl)) (t_add1 hw (own_tup s116.ec s116.a0 s116.a1 ((s116.a2).set 1 ((r + 1) % 3)) ((s116.a3).set 1 x115) s116.mv s116.mp s116.op s116.es s116.ee s116.ev s116.km s116.re s116.pp s116.pq s116.pt s116.sz s116.di s116.dn s116.lo s116.co s116.io s116.on s116.df s116.dc) ((r + 2) % 3) _ ⟨hL117.h_a0, hL117.h_a1, (own_ls hL117.h_a2), (own_ls hL117.h_a3), hL117.h_mv, hL117.h_mp, hL117.h_op, hL117.h_es, hL117.h_ee, hL117.h_ev, hL117.h_km, hL117.h_re, hL117.h_pp, hL117.h_pq, hL117.h_pt, hL117.h_sz, hL117.h_di, hL117.h_dn, hL117.h_lo, hL117.h_co, hL117.h_io, hL117.h_on, hL117.h_df, hL117.h_dc⟩ h) (ok7 hw) rfl rfl rfl rfl ?_
        rintro _ _ ⟨x122, s123, rfl, h, hL124, rfl⟩
        refine own_istore (N := 3) (i := 2) (x := x122) (L := s123.a3) d6_97 rfl (by decide) rfl (by decide) (by decide) hL124.h_a3 ?_
        refine W.aloadN d6_98 rfl rfl ?_
        refine W.iload d6_99 rfl ?_
        refine W.iload d6_101 rfl ?_
        refine own_istore (N := 3) (i := 2) (x := (r + 2) % 3) (L := s123.a2) d6_103 rfl (by decide) rfl (by decide) (by decide) hL124.h_a2 ?_
        show WB _ l Z n m6 104 [(.val (.ref 4)), (.val (.int (Int32.ofNat m))), (.val (.int (Int32.ofNat r))), (.val (.ref 2)), (.val (.ref 3)), (.val (.int 2)), (.val (.int (Int32.ofNat r))), (.val (.int (Int32.ofNat ((r + 1) % 3)))), (.val (.int (Int32.ofNat ((r + 2) % 3))))] [] (own_G 2 0 0 s123.ec s123.a0 s123.a1 ((s123.a2).set 2 ((r + 2) % 3)) ((s123.a3).set 2 x122) s123.mv s123.mp s123.op s123.es s123.ee s123.ev s123.km s123.re s123.pp s123.pq s123.pt s123.sz s123.di s123.dn s123.lo s123.co s123.io s123.on s123.df s123.dc) _ _ _
        refine W.iinc 1 d6_104 rfl rfl ?_
        refine W.iload d6_107 rfl ?_
        exact W.ireturn d6_109 rfl (by decide) (by decide) (⟨_, rfl, 3, (own_tup s123.ec s123.a0 s123.a1 ((s123.a2).set 2 ((r + 2) % 3)) ((s123.a3).set 2 x122) s123.mv s123.mp s123.op s123.es s123.ee s123.ev s123.km s123.re s123.pp s123.pq s123.pt s123.sz s123.di s123.dn s123.lo s123.co s123.io s123.on s123.df s123.dc), by decide, h, ⟨hL124.h_a0, hL124.h_a1, (own_ls hL124.h_a2), (own_ls hL124.h_a3), hL124.h_mv, hL124.h_mp, hL124.h_op, hL124.h_es, hL124.h_ee, hL124.h_ev, hL124.h_km, hL124.h_re, hL124.h_pp, hL124.h_pq, hL124.h_pt, hL124.h_sz, hL124.h_di, hL124.h_dn, hL124.h_lo, hL124.h_co, hL124.h_io, hL124.h_on, hL124.h_df, hL124.h_dc⟩, rfl⟩)
def own_fe : Nat → own_S → Nat → Nat → (Nat → Bool) → Bool
  | 0, _, _, _, _ => false
  | f + 1, s, p, e, k => if p < 3 then own_bind (s.ee.getD p 0) fun x126 => if e < 1000 then if x126 < 1000 then (if e < x126 then if e < 16 then own_bind (s.ev.getD e 0) fun x131 => if x131 < 3 then own_bind (s.mp.getD x131 0) fun x133 => (if x133 = 4294967295 then k e else if x133 < 4294967296 then own_fe f s p (e + 1) k else false) else false else false else k 4294967295) else false else false else false
set_option maxRecDepth 65536 in
set_option maxHeartbeats 40000000 in
theorem t_fe {l : Launch} {Z : State} {a0 : Array Value} {n : Nat} (hw : ∀ d ∈ tables_1, d.before a0 Z = true) (st : Int32) (s : own_S) (p : Nat) (k : Nat → Bool) (hL : own_L s) : ∀ (f e : Nat), own_fe f s p e k = true → W l Z n m11 7 [(.val (.ref 4)), (.val (.int (Int32.ofNat p))), (.val (.int (Int32.ofNat e)))] [] (own_G 2 st 0 s.ec s.a0 s.a1 s.a2 s.a3 s.mv s.mp s.op s.es s.ee s.ev s.km s.re s.pp s.pq s.pt s.sz s.di s.dn s.lo s.co s.io s.on s.df s.dc) 0 0 (fun v H' => ∃ u, v = some u ∧ ∃ r, u = Value.int (Int32.ofNat r) ∧ k r = true ∧ H' = (own_G 2 st 0 s.ec s.a0 s.a1 s.a2 s.a3 s.mv s.mp s.op s.es s.ee s.ev s.km s.re s.pp s.pq s.pt s.sz s.di s.dn s.lo s.co s.io s.on s.df s.dc)) := by
  intro f
  induction f with
  | zero => intro e h; exact absurd h (by simp [own_fe])
  | succ f ih =>
    intro e h
    rw [own_fe] at h
    refine W.iloadN d11_7 rfl ?_
    refine W.aloadN d11_8 rfl rfl ?_
    refine W.getfield 6 d11_9 (hw _ (wd 28 rfl)) rfl rfl ?_
    refine W.iloadN d11_12 rfl ?_
    obtain ⟨c125, h⟩ := own_chk h
    obtain ⟨x126, ex126, h⟩ := own_bd h
    refine own_iload (N := 3) (i := p) (L := s.ee) d11_13 rfl rfl c125 (by decide) hL.h_ee ex126 ?_
    obtain ⟨c127, h⟩ := own_chk h
    obtain ⟨c128, h⟩ := own_chk h
    rcases own_br h with ⟨c129, h⟩ | ⟨c129, h⟩
    · refine W.icmp_ge d11_14 (fun q => False.elim (q (own_ltp rfl rfl c127 c128 c129))) (fun _ => ?_)
      refine W.aloadN d11_17 rfl rfl ?_
      refine W.getfield 3 d11_18 (hw _ (wd 18 rfl)) rfl rfl ?_
      refine W.aloadN d11_21 rfl rfl ?_
      refine W.getfield 7 d11_22 (hw _ (wd 34 rfl)) rfl rfl ?_
      refine W.iloadN d11_25 rfl ?_
      obtain ⟨c130, h⟩ := own_chk h
      obtain ⟨x131, ex131, h⟩ := own_bd h
      refine own_iload (N := 16) (i := e) (L := s.ev) d11_26 rfl rfl c130 (by decide) hL.h_ev ex131 ?_
      obtain ⟨c132, h⟩ := own_chk h
      obtain ⟨x133, ex133, h⟩ := own_bd h
      refine own_iload (N := 3) (i := x131) (L := s.mp) d11_27 rfl rfl c132 (by decide) hL.h_mp ex133 ?_
      refine W.iconst (-1) d11_28 rfl ?_
      rcases own_br h with ⟨c134, h⟩ | ⟨c134, h⟩
      · refine W.icmp_ne d11_29 (fun q => False.elim (q (own_eqp rfl (by decide) c134))) (fun _ => ?_)
        refine W.iloadN d11_32 rfl ?_
        exact W.ireturn d11_33 rfl (by decide) (by decide) (⟨_, rfl, e, rfl, h, rfl⟩)
      · obtain ⟨c135, h⟩ := own_chk h
        refine W.icmp_ne d11_29 (fun _ => ?_) (fun q => False.elim (own_nep rfl (by decide) c135 (by decide) c134 q))
        refine own_incN d11_34 rfl ?_
        refine W.goto d11_37 ?_
        exact ih _ h
    · refine W.icmp_ge d11_14 (fun _ => ?_) (fun q => False.elim (own_ltn rfl rfl c127 c128 c129 q))
      refine W.iconst (-1) d11_40 rfl ?_
      exact W.ireturn d11_41 rfl (by decide) (by decide) (⟨_, rfl, 4294967295, by decide, h, rfl⟩)
def own_free (s : own_S) (p : Nat) (k : Nat → Bool) : Bool :=
  if p < 3 then own_bind (s.es.getD p 0) fun x137 => own_fe 4 s p x137 k else false
set_option maxRecDepth 65536 in
set_option maxHeartbeats 40000000 in
theorem t_free {l : Launch} {Z : State} {a0 : Array Value} {n : Nat} (hw : ∀ d ∈ tables_1, d.before a0 Z = true) (st : Int32) (s : own_S) (p : Nat) (k : Nat → Bool) (hL : own_L s) (h : own_free s p k = true) : W l Z n m11 0 (entryL [(.ref 4), (.int (Int32.ofNat p))] 3) [] (own_G 2 st 0 s.ec s.a0 s.a1 s.a2 s.a3 s.mv s.mp s.op s.es s.ee s.ev s.km s.re s.pp s.pq s.pt s.sz s.di s.dn s.lo s.co s.io s.on s.df s.dc) 0 0 (fun v H' => ∃ u, v = some u ∧ ∃ r, u = Value.int (Int32.ofNat r) ∧ k r = true ∧ H' = (own_G 2 st 0 s.ec s.a0 s.a1 s.a2 s.a3 s.mv s.mp s.op s.es s.ee s.ev s.km s.re s.pp s.pq s.pt s.sz s.di s.dn s.lo s.co s.io s.on s.df s.dc)) := by
  show W l Z n m11 0 [(.val (.ref 4)), (.val (.int (Int32.ofNat p))), .unset] [] (own_G 2 st 0 s.ec s.a0 s.a1 s.a2 s.a3 s.mv s.mp s.op s.es s.ee s.ev s.km s.re s.pp s.pq s.pt s.sz s.di s.dn s.lo s.co s.io s.on s.df s.dc) 0 0 _
  unfold own_free at h
  refine W.aloadN d11_0 rfl rfl ?_
  refine W.getfield 5 d11_1 (hw _ (wd 26 rfl)) rfl rfl ?_
  refine W.iloadN d11_4 rfl ?_
  obtain ⟨c136, h⟩ := own_chk h
  obtain ⟨x137, ex137, h⟩ := own_bd h
  refine own_iload (N := 3) (i := p) (L := s.es) d11_5 rfl rfl c136 (by decide) hL.h_es ex137 ?_
  refine W.istoreN d11_6 rfl ?_
  exact t_fe hw st s p k hL 4 _ h
set_option maxRecDepth 65536 in
set_option maxHeartbeats 40000000 in
theorem t_stamp {l : Launch} {Z : State} {a0 : Array Value} {n : Nat} (hw : ∀ d ∈ tables_1, d.before a0 Z = true) (st : Int32) (hst : ¬ st + 1 = 2147483647) (s : own_S) : W l Z n m10 0 (entryL [(.ref 4)] 1) [] (own_G 2 st 0 s.ec s.a0 s.a1 s.a2 s.a3 s.mv s.mp s.op s.es s.ee s.ev s.km s.re s.pp s.pq s.pt s.sz s.di s.dn s.lo s.co s.io s.on s.df s.dc) 0 0 (Is none (own_G 2 (st + 1) 0 s.ec s.a0 s.a1 s.a2 s.a3 s.mv s.mp s.op s.es s.ee s.ev s.km s.re s.pp s.pq s.pt s.sz s.di s.dn s.lo s.co s.io s.on s.df s.dc)) := by
  show W l Z n m10 0 [(.val (.ref 4))] [] (own_G 2 st 0 s.ec s.a0 s.a1 s.a2 s.a3 s.mv s.mp s.op s.es s.ee s.ev s.km s.re s.pp s.pq s.pt s.sz s.di s.dn s.lo s.co s.io s.on s.df s.dc) 0 0 _
  refine W.aloadN d10_0 rfl rfl ?_
  refine W.dup d10_1 rfl ?_
  refine W.getfield 24 d10_2 (hw _ (wd 96 rfl)) rfl rfl ?_
  refine W.iconst 1 d10_5 rfl ?_
  refine W.iadd d10_6 ?_
  refine W.dupX1 d10_7 rfl rfl ?_
  refine W.putfield 24 d10_8 (hw _ (wd 96 rfl)) rfl rfl (Or.inl (hw _ (wd 97 rfl))) (hw _ (wd 4 rfl)) (ty := .int) (by decide) (fun _ => rfl) (fun _ => rfl) ?_
  refine W.ldc d10_11 (hw _ (wd 98 rfl)) ?_
  refine W.icmp_ne d10_13 (fun _ => ?_) (fun q => False.elim (hst q))
  exact W.leave d10_29 rfl (by decide) (by decide) (⟨rfl, rfl⟩)
def own_aug (s : own_S) (p : Nat) (k : own_S → Nat → Bool) : Bool :=
  if p < 3 then own_bind (s.es.getD p 0) fun x139 => own_free (own_tup s.ec s.a0 s.a1 s.a2 s.a3 s.mv s.mp s.op s.es s.ee s.ev s.km s.re ((s.pp).set 0 p) ((s.pq).set 0 x139) s.pt s.sz s.di s.dn s.lo s.co s.io s.on s.df s.dc) p fun x140 => (if x140 = 4294967295 then own_bind (((s.pp).set 0 p).getD 0 0) fun x142 => own_bind (((s.pq).set 0 x139).getD 0 0) fun x143 => if x142 < 3 then own_bind (s.ee.getD x142 0) fun x145 => (if x143 = x145 then k (own_tup s.ec s.a0 s.a1 s.a2 s.a3 s.mv s.mp s.op s.es s.ee s.ev s.km s.re ((s.pp).set 0 p) ((s.pq).set 0 x139) s.pt s.sz s.di s.dn s.lo s.co s.io s.on s.df s.dc) 0 else if x143 < 4294967296 then if x145 < 4294967296 then false else false else false) else false else if x140 < 1000 then own_bind (((s.pp).set 0 p).getD 0 0) fun x150 => own_bind (((s.pt).set 0 x140).getD 0 0) fun x151 => if x151 < 16 then own_bind (s.ev.getD x151 0) fun x153 => if x150 < 3 then if x153 < 3 then k (own_tup s.ec s.a0 s.a1 s.a2 s.a3 ((s.mv).set x150 x153) ((s.mp).set x153 x150) s.op s.es s.ee s.ev s.km s.re ((s.pp).set 0 p) ((s.pq).set 0 x139) ((s.pt).set 0 x140) s.sz s.di s.dn s.lo s.co s.io s.on s.df s.dc) 1 else false else false else false else false) else false
set_option maxRecDepth 65536 in
set_option maxHeartbeats 40000000 in
theorem t_aug {l : Launch} {Z : State} {a0 : Array Value} {n : Nat} (hw : ∀ d ∈ tables_1, d.before a0 Z = true) (st : Int32) (hst : ¬ st + 1 = 2147483647) (s : own_S) (p : Nat) (k : own_S → Nat → Bool) (hL : own_L s) (h : own_aug s p k = true) : W l Z n m9 0 (entryL [(.ref 4), (.int (Int32.ofNat p)), .null] 9) [] (own_G 2 st 0 s.ec s.a0 s.a1 s.a2 s.a3 s.mv s.mp s.op s.es s.ee s.ev s.km s.re s.pp s.pq s.pt s.sz s.di s.dn s.lo s.co s.io s.on s.df s.dc) 0 0 (fun v H' => ∃ u, v = some u ∧ ∃ r s', u = Value.int (Int32.ofNat r) ∧ k s' r = true ∧ own_L s' ∧ H' = (own_G 2 (st + 1) 0 (s'.ec) (s'.a0) (s'.a1) (s'.a2) (s'.a3) (s'.mv) (s'.mp) (s'.op) (s'.es) (s'.ee) (s'.ev) (s'.km) (s'.re) (s'.pp) (s'.pq) (s'.pt) (s'.sz) (s'.di) (s'.dn) (s'.lo) (s'.co) (s'.io) (s'.on) (s'.df) (s'.dc))) := by
  show W l Z n m9 0 [(.val (.ref 4)), (.val (.int (Int32.ofNat p))), (.val .null), .unset, .unset, .unset, .unset, .unset, .unset] [] (own_G 2 st 0 s.ec s.a0 s.a1 s.a2 s.a3 s.mv s.mp s.op s.es s.ee s.ev s.km s.re s.pp s.pq s.pt s.sz s.di s.dn s.lo s.co s.io s.on s.df s.dc) 0 0 _
  unfold own_aug at h
  refine W.aloadN d9_0 rfl rfl ?_
  refine W.callpN (M' := m10) d9_1 (hw _ (wd 92 rfl)) (hw _ (wd 93 rfl)) (hw _ (wd 94 rfl)) (hw _ (wd 4 rfl)) (t_stamp hw st hst s) (ok10 hw) rfl rfl rfl rfl ?_
  refine W.iconst 0 d9_4 rfl ?_
  refine W.istoreN d9_5 rfl ?_
  refine W.aloadN d9_6 rfl rfl ?_
  refine W.getfield 10 d9_7 (hw _ (wd 41 rfl)) rfl rfl ?_
  refine W.iconst 0 d9_10 rfl ?_
  refine W.iloadN d9_11 rfl ?_
  refine own_istore (N := 3) (i := 0) (x := p) (L := s.pp) d9_12 rfl (by decide) rfl (by decide) (by decide) hL.h_pp ?_
  refine W.aloadN d9_13 rfl rfl ?_
  refine W.getfield 11 d9_14 (hw _ (wd 43 rfl)) rfl rfl ?_
  refine W.iconst 0 d9_17 rfl ?_
  refine W.aloadN d9_18 rfl rfl ?_
  refine W.getfield 5 d9_19 (hw _ (wd 26 rfl)) rfl rfl ?_
  refine W.iloadN d9_22 rfl ?_
  obtain ⟨c138, h⟩ := own_chk h
  obtain ⟨x139, ex139, h⟩ := own_bd h
  refine own_iload (N := 3) (i := p) (L := s.es) d9_23 rfl rfl c138 (by decide) hL.h_es ex139 ?_
  refine own_istore (N := 3) (i := 0) (x := x139) (L := s.pq) d9_24 rfl (by decide) rfl (by decide) (by decide) hL.h_pq ?_
  refine W.aloadN d9_25 rfl rfl ?_
  refine W.iloadN d9_26 rfl ?_
  refine W.callpX (M' := m11) d9_27 (hw _ (wd 99 rfl)) (hw _ (wd 100 rfl)) (hw _ (wd 101 rfl)) (hw _ (wd 4 rfl)) (t_free hw (st + 1) (own_tup s.ec s.a0 s.a1 s.a2 s.a3 s.mv s.mp s.op s.es s.ee s.ev s.km s.re ((s.pp).set 0 p) ((s.pq).set 0 x139) s.pt s.sz s.di s.dn s.lo s.co s.io s.on s.df s.dc) p _ ⟨hL.h_a0, hL.h_a1, hL.h_a2, hL.h_a3, hL.h_mv, hL.h_mp, hL.h_op, hL.h_es, hL.h_ee, hL.h_ev, hL.h_km, hL.h_re, (own_ls hL.h_pp), (own_ls hL.h_pq), hL.h_pt, hL.h_sz, hL.h_di, hL.h_dn, hL.h_lo, hL.h_co, hL.h_io, hL.h_on, hL.h_df, hL.h_dc⟩ h) (ok11 hw) rfl rfl rfl rfl ?_
  rintro _ _ ⟨x140, rfl, h, rfl⟩
  refine W.istore d9_30 rfl ?_
  show WB _ l Z n m9 32 [(.val (.ref 4)), (.val (.int (Int32.ofNat p))), (.val .null), (.val (.int 0)), (.val (.int (Int32.ofNat x140))), .unset, .unset, .unset, .unset] [] (own_G 2 (st + 1) 0 s.ec s.a0 s.a1 s.a2 s.a3 s.mv s.mp s.op s.es s.ee s.ev s.km s.re ((s.pp).set 0 p) ((s.pq).set 0 x139) s.pt s.sz s.di s.dn s.lo s.co s.io s.on s.df s.dc) _ _ _
  refine W.iload d9_32 rfl ?_
  rcases own_br h with ⟨c141, h⟩ | ⟨c141, h⟩
  · refine W.if_ge d9_34 (fun q => False.elim (q (own_negp rfl c141))) (fun _ => ?_)
    refine W.iloadN d9_37 rfl ?_
    refine W.if_lt d9_38 (fun h => False.elim (by revert h; decide)) (fun _ => ?_)
    refine W.aloadN d9_41 rfl rfl ?_
    refine W.getfield 10 d9_42 (hw _ (wd 41 rfl)) rfl rfl ?_
    refine W.iloadN d9_45 rfl ?_
    obtain ⟨x142, ex142, h⟩ := own_bd h
    refine own_iload (N := 3) (i := 0) (L := (s.pp).set 0 p) d9_46 rfl (by decide) (by decide) (by decide) (own_ls hL.h_pp) ex142 ?_
    refine W.istore d9_47 rfl ?_
    refine W.aloadN d9_49 rfl rfl ?_
    refine W.getfield 11 d9_50 (hw _ (wd 43 rfl)) rfl rfl ?_
    refine W.iloadN d9_53 rfl ?_
    obtain ⟨x143, ex143, h⟩ := own_bd h
    refine own_iload (N := 3) (i := 0) (L := (s.pq).set 0 x139) d9_54 rfl (by decide) (by decide) (by decide) (own_ls hL.h_pq) ex143 ?_
    refine W.istore d9_55 rfl ?_
    refine W.iload d9_57 rfl ?_
    refine W.aloadN d9_59 rfl rfl ?_
    refine W.getfield 6 d9_60 (hw _ (wd 28 rfl)) rfl rfl ?_
    refine W.iload d9_63 rfl ?_
    obtain ⟨c144, h⟩ := own_chk h
    obtain ⟨x145, ex145, h⟩ := own_bd h
    refine own_iload (N := 3) (i := x142) (L := s.ee) d9_65 rfl rfl c144 (by decide) hL.h_ee ex145 ?_
    rcases own_br h with ⟨c146, h⟩ | ⟨c146, h⟩
    · refine W.icmp_ne d9_66 (fun q => False.elim (q (own_eqp rfl rfl c146))) (fun _ => ?_)
      refine W.iinc (-1) d9_69 rfl rfl ?_
      refine W.goto d9_72 ?_
      refine W.iload d9_32 rfl ?_
      refine W.if_ge d9_34 (fun q => False.elim (q (own_negp rfl c141))) (fun _ => ?_)
      refine W.iloadN d9_37 rfl ?_
      refine W.if_lt d9_38 (fun _ => ?_) (fun h => False.elim (by revert h; decide))
      refine W.iload d9_198 rfl ?_
      refine W.if_ge d9_200 (fun q => False.elim (q (own_negp rfl c141))) (fun _ => ?_)
      refine W.iconst 0 d9_203 rfl ?_
      exact W.nreturn .boolean d9_204 rfl (by simp) (by decide) (by decide) (⟨_, rfl, 0, (own_tup s.ec s.a0 s.a1 s.a2 s.a3 s.mv s.mp s.op s.es s.ee s.ev s.km s.re ((s.pp).set 0 p) ((s.pq).set 0 x139) s.pt s.sz s.di s.dn s.lo s.co s.io s.on s.df s.dc), by decide, h, ⟨hL.h_a0, hL.h_a1, hL.h_a2, hL.h_a3, hL.h_mv, hL.h_mp, hL.h_op, hL.h_es, hL.h_ee, hL.h_ev, hL.h_km, hL.h_re, (own_ls hL.h_pp), (own_ls hL.h_pq), hL.h_pt, hL.h_sz, hL.h_di, hL.h_dn, hL.h_lo, hL.h_co, hL.h_io, hL.h_on, hL.h_df, hL.h_dc⟩, rfl⟩)
    · obtain ⟨c147, h⟩ := own_chk h
      obtain ⟨c148, h⟩ := own_chk h
      refine W.icmp_ne d9_66 (fun _ => ?_) (fun q => False.elim (own_nep rfl rfl c147 c148 c146 q))
      exact absurd h (by decide)
  · obtain ⟨c149, h⟩ := own_chk h
    refine W.if_ge d9_34 (fun _ => ?_) (fun q => False.elim (own_posp rfl c149 q))
    refine W.iload d9_198 rfl ?_
    refine W.if_ge d9_200 (fun _ => ?_) (fun q => False.elim (own_posp rfl c149 q))
    refine W.aloadN d9_205 rfl rfl ?_
    refine W.getfield 12 d9_206 (hw _ (wd 45 rfl)) rfl rfl ?_
    refine W.iloadN d9_209 rfl ?_
    refine W.iload d9_210 rfl ?_
    refine own_istore (N := 3) (i := 0) (x := x140) (L := s.pt) d9_212 rfl (by decide) rfl (by decide) (by decide) hL.h_pt ?_
    refine W.iloadN d9_213 rfl ?_
    refine W.istore d9_214 rfl ?_
    refine W.iload d9_216 rfl ?_
    refine W.if_lt d9_218 (fun h => False.elim (by revert h; decide)) (fun _ => ?_)
    refine W.aloadN d9_221 rfl rfl ?_
    refine W.getfield 10 d9_222 (hw _ (wd 41 rfl)) rfl rfl ?_
    refine W.iload d9_225 rfl ?_
    obtain ⟨x150, ex150, h⟩ := own_bd h
    refine own_iload (N := 3) (i := 0) (L := (s.pp).set 0 p) d9_227 rfl (by decide) (by decide) (by decide) (own_ls hL.h_pp) ex150 ?_
    refine W.istore d9_228 rfl ?_
    refine W.aloadN d9_230 rfl rfl ?_
    refine W.getfield 7 d9_231 (hw _ (wd 34 rfl)) rfl rfl ?_
    refine W.aloadN d9_234 rfl rfl ?_
    refine W.getfield 12 d9_235 (hw _ (wd 45 rfl)) rfl rfl ?_
    refine W.iload d9_238 rfl ?_
    obtain ⟨x151, ex151, h⟩ := own_bd h
    refine own_iload (N := 3) (i := 0) (L := (s.pt).set 0 x140) d9_240 rfl (by decide) (by decide) (by decide) (own_ls hL.h_pt) ex151 ?_
    obtain ⟨c152, h⟩ := own_chk h
    obtain ⟨x153, ex153, h⟩ := own_bd h
    refine own_iload (N := 16) (i := x151) (L := s.ev) d9_241 rfl rfl c152 (by decide) hL.h_ev ex153 ?_
    refine W.istore d9_242 rfl ?_
    show WB _ l Z n m9 244 [(.val (.ref 4)), (.val (.int (Int32.ofNat p))), (.val .null), (.val (.int 0)), (.val (.int (Int32.ofNat x140))), (.val (.int 0)), (.val (.int (Int32.ofNat x150))), (.val (.int (Int32.ofNat x153))), .unset] [] (own_G 2 (st + 1) 0 s.ec s.a0 s.a1 s.a2 s.a3 s.mv s.mp s.op s.es s.ee s.ev s.km s.re ((s.pp).set 0 p) ((s.pq).set 0 x139) ((s.pt).set 0 x140) s.sz s.di s.dn s.lo s.co s.io s.on s.df s.dc) _ _ _
    refine W.aloadN d9_244 rfl rfl ?_
    refine W.getfield 2 d9_245 (hw _ (wd 16 rfl)) rfl rfl ?_
    refine W.iload d9_248 rfl ?_
    refine W.iload d9_250 rfl ?_
    obtain ⟨c154, h⟩ := own_chk h
    refine own_istore (N := 3) (i := x150) (x := x153) (L := s.mv) d9_252 rfl rfl rfl c154 (by decide) hL.h_mv ?_
    refine W.aloadN d9_253 rfl rfl ?_
    refine W.getfield 3 d9_254 (hw _ (wd 18 rfl)) rfl rfl ?_
    refine W.iload d9_257 rfl ?_
    refine W.iload d9_259 rfl ?_
    obtain ⟨c155, h⟩ := own_chk h
    refine own_istore (N := 3) (i := x153) (x := x150) (L := s.mp) d9_261 rfl rfl rfl c155 (by decide) hL.h_mp ?_
    refine W.iinc (-1) d9_262 rfl rfl ?_
    refine W.goto d9_265 ?_
    refine W.iload d9_216 rfl ?_
    refine W.if_lt d9_218 (fun _ => ?_) (fun h => False.elim (by revert h; decide))
    refine W.iconst 1 d9_268 rfl ?_
    exact W.nreturn .boolean d9_269 rfl (by simp) (by decide) (by decide) (⟨_, rfl, 1, (own_tup s.ec s.a0 s.a1 s.a2 s.a3 ((s.mv).set x150 x153) ((s.mp).set x153 x150) s.op s.es s.ee s.ev s.km s.re ((s.pp).set 0 p) ((s.pq).set 0 x139) ((s.pt).set 0 x140) s.sz s.di s.dn s.lo s.co s.io s.on s.df s.dc), by decide, h, ⟨hL.h_a0, hL.h_a1, hL.h_a2, hL.h_a3, (own_ls hL.h_mv), (own_ls hL.h_mp), hL.h_op, hL.h_es, hL.h_ee, hL.h_ev, hL.h_km, hL.h_re, (own_ls hL.h_pp), (own_ls hL.h_pq), (own_ls hL.h_pt), hL.h_sz, hL.h_di, hL.h_dn, hL.h_lo, hL.h_co, hL.h_io, hL.h_on, hL.h_df, hL.h_dc⟩, rfl⟩)
def own_match (s : own_S) (k : own_S → Nat → Nat → Bool) : Bool :=
  own_bind (s.op.getD 0 0) fun x156 => if x156 < 3 then own_bind (s.mv.getD x156 0) fun x158 => (if x158 = 4294967295 then own_bind (s.op.getD 1 0) fun x160 => if x160 < 3 then own_bind (s.mv.getD x160 0) fun x162 => (if x162 = 4294967295 then own_bind (s.op.getD 0 0) fun x164 => if x164 < 3 then own_bind (s.mv.getD x164 0) fun x166 => (if x166 = 4294967295 then own_aug s x164 fun s169 x168 => (if x168 = 0 then k s169 1 0 else if x168 < 4294967296 then own_bind (s169.op.getD 1 0) fun x173 => if x173 < 3 then own_bind (s169.mv.getD x173 0) fun x175 => (if x175 = 4294967295 then own_aug s169 x173 fun s178 x177 => (if x177 = 0 then k s178 2 0 else if x177 < 4294967296 then k s178 2 1 else false) else if x175 < 4294967296 then k s169 1 1 else false) else false else false) else if x166 < 4294967296 then own_bind (s.op.getD 1 0) fun x184 => if x184 < 3 then own_bind (s.mv.getD x184 0) fun x186 => (if x186 = 4294967295 then own_aug s x184 fun s189 x188 => (if x188 = 0 then k s189 1 0 else if x188 < 4294967296 then k s189 1 1 else false) else if x186 < 4294967296 then k s 0 1 else false) else false else false) else false else if x162 < 4294967296 then false else false) else false else if x158 < 4294967296 then false else false) else false
set_option maxRecDepth 65536 in
set_option maxHeartbeats 40000000 in
theorem t_match {l : Launch} {Z : State} {a0 : Array Value} {n : Nat} (hw : ∀ d ∈ tables_1, d.before a0 Z = true) (s : own_S) (k : own_S → Nat → Nat → Bool) (hL : own_L s) (h : own_match s k = true) : W l Z n m8 0 (entryL [(.ref 4), .null] 4) [] (own_G 2 0 0 s.ec s.a0 s.a1 s.a2 s.a3 s.mv s.mp s.op s.es s.ee s.ev s.km s.re s.pp s.pq s.pt s.sz s.di s.dn s.lo s.co s.io s.on s.df s.dc) 0 0 (fun v H' => ∃ u, v = some u ∧ ∃ r t s', u = Value.int (Int32.ofNat r) ∧ k s' t r = true ∧ own_L s' ∧ H' = (own_G 2 (Int32.ofNat t) 0 (s'.ec) (s'.a0) (s'.a1) (s'.a2) (s'.a3) (s'.mv) (s'.mp) (s'.op) (s'.es) (s'.ee) (s'.ev) (s'.km) (s'.re) (s'.pp) (s'.pq) (s'.pt) (s'.sz) (s'.di) (s'.dn) (s'.lo) (s'.co) (s'.io) (s'.on) (s'.df) (s'.dc))) := by
  show W l Z n m8 0 [(.val (.ref 4)), (.val .null), .unset, .unset] [] (own_G 2 0 0 s.ec s.a0 s.a1 s.a2 s.a3 s.mv s.mp s.op s.es s.ee s.ev s.km s.re s.pp s.pq s.pt s.sz s.di s.dn s.lo s.co s.io s.on s.df s.dc) 0 0 _
  unfold own_match at h
  refine W.iconst 0 d8_0 rfl ?_
  refine W.istoreN d8_1 rfl ?_
  refine W.iloadN d8_2 rfl ?_
  refine W.aloadN d8_3 rfl rfl ?_
  refine W.getfield 22 d8_4 (hw _ (wd 70 rfl)) rfl rfl ?_
  refine W.icmp_ge d8_7 (fun h => False.elim (by revert h; decide)) (fun _ => ?_)
  refine W.aloadN d8_10 rfl rfl ?_
  refine W.getfield 4 d8_11 (hw _ (wd 24 rfl)) rfl rfl ?_
  refine W.iloadN d8_14 rfl ?_
  obtain ⟨x156, ex156, h⟩ := own_bd h
  refine own_iload (N := 3) (i := 0) (L := s.op) d8_15 rfl (by decide) (by decide) (by decide) hL.h_op ex156 ?_
  refine W.istoreN d8_16 rfl ?_
  refine W.aloadN d8_17 rfl rfl ?_
  refine W.getfield 2 d8_18 (hw _ (wd 16 rfl)) rfl rfl ?_
  refine W.iloadN d8_21 rfl ?_
  obtain ⟨c157, h⟩ := own_chk h
  obtain ⟨x158, ex158, h⟩ := own_bd h
  refine own_iload (N := 3) (i := x156) (L := s.mv) d8_22 rfl rfl c157 (by decide) hL.h_mv ex158 ?_
  refine W.iconst (-1) d8_23 rfl ?_
  rcases own_br h with ⟨c159, h⟩ | ⟨c159, h⟩
  · refine W.icmp_eq d8_24 (fun _ => ?_) (fun q => False.elim (q (own_eqp rfl (by decide) c159)))
    refine W.iinc 1 d8_41 rfl rfl ?_
    refine W.goto d8_44 ?_
    refine W.iloadN d8_2 rfl ?_
    refine W.aloadN d8_3 rfl rfl ?_
    refine W.getfield 22 d8_4 (hw _ (wd 70 rfl)) rfl rfl ?_
    refine W.icmp_ge d8_7 (fun h => False.elim (by revert h; decide)) (fun _ => ?_)
    refine W.aloadN d8_10 rfl rfl ?_
    refine W.getfield 4 d8_11 (hw _ (wd 24 rfl)) rfl rfl ?_
    refine W.iloadN d8_14 rfl ?_
    obtain ⟨x160, ex160, h⟩ := own_bd h
    refine own_iload (N := 3) (i := 1) (L := s.op) d8_15 rfl (by decide) (by decide) (by decide) hL.h_op ex160 ?_
    refine W.istoreN d8_16 rfl ?_
    show WB _ l Z n m8 17 [(.val (.ref 4)), (.val .null), (.val (.int 1)), (.val (.int (Int32.ofNat x160)))] [] (own_G 2 0 0 s.ec s.a0 s.a1 s.a2 s.a3 s.mv s.mp s.op s.es s.ee s.ev s.km s.re s.pp s.pq s.pt s.sz s.di s.dn s.lo s.co s.io s.on s.df s.dc) _ _ _
    refine W.aloadN d8_17 rfl rfl ?_
    refine W.getfield 2 d8_18 (hw _ (wd 16 rfl)) rfl rfl ?_
    refine W.iloadN d8_21 rfl ?_
    obtain ⟨c161, h⟩ := own_chk h
    obtain ⟨x162, ex162, h⟩ := own_bd h
    refine own_iload (N := 3) (i := x160) (L := s.mv) d8_22 rfl rfl c161 (by decide) hL.h_mv ex162 ?_
    refine W.iconst (-1) d8_23 rfl ?_
    rcases own_br h with ⟨c163, h⟩ | ⟨c163, h⟩
    · refine W.icmp_eq d8_24 (fun _ => ?_) (fun q => False.elim (q (own_eqp rfl (by decide) c163)))
      refine W.iinc 1 d8_41 rfl rfl ?_
      refine W.goto d8_44 ?_
      refine W.iloadN d8_2 rfl ?_
      refine W.aloadN d8_3 rfl rfl ?_
      refine W.getfield 22 d8_4 (hw _ (wd 70 rfl)) rfl rfl ?_
      refine W.icmp_ge d8_7 (fun _ => ?_) (fun h => False.elim (by revert h; decide))
      refine W.iconst 0 d8_47 rfl ?_
      refine W.istoreN d8_48 rfl ?_
      refine W.iloadN d8_49 rfl ?_
      refine W.aloadN d8_50 rfl rfl ?_
      refine W.getfield 22 d8_51 (hw _ (wd 70 rfl)) rfl rfl ?_
      refine W.icmp_ge d8_54 (fun h => False.elim (by revert h; decide)) (fun _ => ?_)
      refine W.aloadN d8_57 rfl rfl ?_
      refine W.getfield 4 d8_58 (hw _ (wd 24 rfl)) rfl rfl ?_
      refine W.iloadN d8_61 rfl ?_
      obtain ⟨x164, ex164, h⟩ := own_bd h
      refine own_iload (N := 3) (i := 0) (L := s.op) d8_62 rfl (by decide) (by decide) (by decide) hL.h_op ex164 ?_
      refine W.istoreN d8_63 rfl ?_
      refine W.aloadN d8_64 rfl rfl ?_
      refine W.getfield 2 d8_65 (hw _ (wd 16 rfl)) rfl rfl ?_
      refine W.iloadN d8_68 rfl ?_
      obtain ⟨c165, h⟩ := own_chk h
      obtain ⟨x166, ex166, h⟩ := own_bd h
      refine own_iload (N := 3) (i := x164) (L := s.mv) d8_69 rfl rfl c165 (by decide) hL.h_mv ex166 ?_
      refine W.iconst (-1) d8_70 rfl ?_
      rcases own_br h with ⟨c167, h⟩ | ⟨c167, h⟩
      · refine W.icmp_ne d8_71 (fun q => False.elim (q (own_eqp rfl (by decide) c167))) (fun _ => ?_)
        refine W.aloadN d8_74 rfl rfl ?_
        refine W.iloadN d8_75 rfl ?_
        refine W.aloadN d8_76 rfl rfl ?_
        refine W.callpX (M' := m9) d8_77 (hw _ (wd 88 rfl)) (hw _ (wd 89 rfl)) (hw _ (wd 90 rfl)) (hw _ (wd 4 rfl)) (t_aug hw 0 (by decide) s x164 _ hL h) (ok9 hw) rfl rfl rfl rfl ?_
        rintro _ _ ⟨x168, s169, rfl, h, hL170, rfl⟩
        rcases own_br h with ⟨c171, h⟩ | ⟨c171, h⟩
        · refine W.if_ne d8_80 (fun q => False.elim (q (own_eqp rfl (by decide) c171))) (fun _ => ?_)
          refine W.iconst 0 d8_83 rfl ?_
          exact W.nreturn .boolean d8_84 rfl (by simp) (by decide) (by decide) (⟨_, rfl, 0, 1, s169, by decide, h, hL170, rfl⟩)
        · obtain ⟨c172, h⟩ := own_chk h
          refine W.if_ne d8_80 (fun _ => ?_) (fun q => False.elim (own_nep rfl (by decide) c172 (by decide) c171 q))
          refine W.iinc 1 d8_85 rfl rfl ?_
          show WB _ l Z n m8 88 [(.val (.ref 4)), (.val .null), (.val (.int 1)), (.val (.int (Int32.ofNat x164)))] [] (own_G 2 1 0 s169.ec s169.a0 s169.a1 s169.a2 s169.a3 s169.mv s169.mp s169.op s169.es s169.ee s169.ev s169.km s169.re s169.pp s169.pq s169.pt s169.sz s169.di s169.dn s169.lo s169.co s169.io s169.on s169.df s169.dc) _ _ _
          refine W.goto d8_88 ?_
          refine W.iloadN d8_49 rfl ?_
          refine W.aloadN d8_50 rfl rfl ?_
          refine W.getfield 22 d8_51 (hw _ (wd 70 rfl)) rfl rfl ?_
          refine W.icmp_ge d8_54 (fun h => False.elim (by revert h; decide)) (fun _ => ?_)
          refine W.aloadN d8_57 rfl rfl ?_
          refine W.getfield 4 d8_58 (hw _ (wd 24 rfl)) rfl rfl ?_
          refine W.iloadN d8_61 rfl ?_
          obtain ⟨x173, ex173, h⟩ := own_bd h
          refine own_iload (N := 3) (i := 1) (L := s169.op) d8_62 rfl (by decide) (by decide) (by decide) hL170.h_op ex173 ?_
          refine W.istoreN d8_63 rfl ?_
          refine W.aloadN d8_64 rfl rfl ?_
          refine W.getfield 2 d8_65 (hw _ (wd 16 rfl)) rfl rfl ?_
          refine W.iloadN d8_68 rfl ?_
          obtain ⟨c174, h⟩ := own_chk h
          obtain ⟨x175, ex175, h⟩ := own_bd h
          refine own_iload (N := 3) (i := x173) (L := s169.mv) d8_69 rfl rfl c174 (by decide) hL170.h_mv ex175 ?_
          refine W.iconst (-1) d8_70 rfl ?_
          rcases own_br h with ⟨c176, h⟩ | ⟨c176, h⟩
          · refine W.icmp_ne d8_71 (fun q => False.elim (q (own_eqp rfl (by decide) c176))) (fun _ => ?_)
            refine W.aloadN d8_74 rfl rfl ?_
            refine W.iloadN d8_75 rfl ?_
            refine W.aloadN d8_76 rfl rfl ?_
            refine W.callpX (M' := m9) d8_77 (hw _ (wd 88 rfl)) (hw _ (wd 89 rfl)) (hw _ (wd 90 rfl)) (hw _ (wd 4 rfl)) (t_aug hw 1 (by decide) s169 x173 _ hL170 h) (ok9 hw) rfl rfl rfl rfl ?_
            rintro _ _ ⟨x177, s178, rfl, h, hL179, rfl⟩
            rcases own_br h with ⟨c180, h⟩ | ⟨c180, h⟩
            · refine W.if_ne d8_80 (fun q => False.elim (q (own_eqp rfl (by decide) c180))) (fun _ => ?_)
              refine W.iconst 0 d8_83 rfl ?_
              exact W.nreturn .boolean d8_84 rfl (by simp) (by decide) (by decide) (⟨_, rfl, 0, 2, s178, by decide, h, hL179, rfl⟩)
            · obtain ⟨c181, h⟩ := own_chk h
              refine W.if_ne d8_80 (fun _ => ?_) (fun q => False.elim (own_nep rfl (by decide) c181 (by decide) c180 q))
              refine W.iinc 1 d8_85 rfl rfl ?_
              refine W.goto d8_88 ?_
              refine W.iloadN d8_49 rfl ?_
              refine W.aloadN d8_50 rfl rfl ?_
              refine W.getfield 22 d8_51 (hw _ (wd 70 rfl)) rfl rfl ?_
              refine W.icmp_ge d8_54 (fun _ => ?_) (fun h => False.elim (by revert h; decide))
              refine W.iconst 1 d8_91 rfl ?_
              exact W.nreturn .boolean d8_92 rfl (by simp) (by decide) (by decide) (⟨_, rfl, 1, 2, s178, by decide, h, hL179, rfl⟩)
          · obtain ⟨c182, h⟩ := own_chk h
            refine W.icmp_ne d8_71 (fun _ => ?_) (fun q => False.elim (own_nep rfl (by decide) c182 (by decide) c176 q))
            refine W.iinc 1 d8_85 rfl rfl ?_
            refine W.goto d8_88 ?_
            refine W.iloadN d8_49 rfl ?_
            refine W.aloadN d8_50 rfl rfl ?_
            refine W.getfield 22 d8_51 (hw _ (wd 70 rfl)) rfl rfl ?_
            refine W.icmp_ge d8_54 (fun _ => ?_) (fun h => False.elim (by revert h; decide))
            refine W.iconst 1 d8_91 rfl ?_
            exact W.nreturn .boolean d8_92 rfl (by simp) (by decide) (by decide) (⟨_, rfl, 1, 1, s169, by decide, h, hL170, rfl⟩)
      · obtain ⟨c183, h⟩ := own_chk h
        refine W.icmp_ne d8_71 (fun _ => ?_) (fun q => False.elim (own_nep rfl (by decide) c183 (by decide) c167 q))
        refine W.iinc 1 d8_85 rfl rfl ?_
        show WB _ l Z n m8 88 [(.val (.ref 4)), (.val .null), (.val (.int 1)), (.val (.int (Int32.ofNat x164)))] [] (own_G 2 0 0 s.ec s.a0 s.a1 s.a2 s.a3 s.mv s.mp s.op s.es s.ee s.ev s.km s.re s.pp s.pq s.pt s.sz s.di s.dn s.lo s.co s.io s.on s.df s.dc) _ _ _
        refine W.goto d8_88 ?_
        refine W.iloadN d8_49 rfl ?_
        refine W.aloadN d8_50 rfl rfl ?_
        refine W.getfield 22 d8_51 (hw _ (wd 70 rfl)) rfl rfl ?_
        refine W.icmp_ge d8_54 (fun h => False.elim (by revert h; decide)) (fun _ => ?_)
        refine W.aloadN d8_57 rfl rfl ?_
        refine W.getfield 4 d8_58 (hw _ (wd 24 rfl)) rfl rfl ?_
        refine W.iloadN d8_61 rfl ?_
        obtain ⟨x184, ex184, h⟩ := own_bd h
        refine own_iload (N := 3) (i := 1) (L := s.op) d8_62 rfl (by decide) (by decide) (by decide) hL.h_op ex184 ?_
        refine W.istoreN d8_63 rfl ?_
        refine W.aloadN d8_64 rfl rfl ?_
        refine W.getfield 2 d8_65 (hw _ (wd 16 rfl)) rfl rfl ?_
        refine W.iloadN d8_68 rfl ?_
        obtain ⟨c185, h⟩ := own_chk h
        obtain ⟨x186, ex186, h⟩ := own_bd h
        refine own_iload (N := 3) (i := x184) (L := s.mv) d8_69 rfl rfl c185 (by decide) hL.h_mv ex186 ?_
        refine W.iconst (-1) d8_70 rfl ?_
        rcases own_br h with ⟨c187, h⟩ | ⟨c187, h⟩
        · refine W.icmp_ne d8_71 (fun q => False.elim (q (own_eqp rfl (by decide) c187))) (fun _ => ?_)
          refine W.aloadN d8_74 rfl rfl ?_
          refine W.iloadN d8_75 rfl ?_
          refine W.aloadN d8_76 rfl rfl ?_
          refine W.callpX (M' := m9) d8_77 (hw _ (wd 88 rfl)) (hw _ (wd 89 rfl)) (hw _ (wd 90 rfl)) (hw _ (wd 4 rfl)) (t_aug hw 0 (by decide) s x184 _ hL h) (ok9 hw) rfl rfl rfl rfl ?_
          rintro _ _ ⟨x188, s189, rfl, h, hL190, rfl⟩
          rcases own_br h with ⟨c191, h⟩ | ⟨c191, h⟩
          · refine W.if_ne d8_80 (fun q => False.elim (q (own_eqp rfl (by decide) c191))) (fun _ => ?_)
            refine W.iconst 0 d8_83 rfl ?_
            exact W.nreturn .boolean d8_84 rfl (by simp) (by decide) (by decide) (⟨_, rfl, 0, 1, s189, by decide, h, hL190, rfl⟩)
          · obtain ⟨c192, h⟩ := own_chk h
            refine W.if_ne d8_80 (fun _ => ?_) (fun q => False.elim (own_nep rfl (by decide) c192 (by decide) c191 q))
            refine W.iinc 1 d8_85 rfl rfl ?_
            refine W.goto d8_88 ?_
            refine W.iloadN d8_49 rfl ?_
            refine W.aloadN d8_50 rfl rfl ?_
            refine W.getfield 22 d8_51 (hw _ (wd 70 rfl)) rfl rfl ?_
            refine W.icmp_ge d8_54 (fun _ => ?_) (fun h => False.elim (by revert h; decide))
            refine W.iconst 1 d8_91 rfl ?_
            exact W.nreturn .boolean d8_92 rfl (by simp) (by decide) (by decide) (⟨_, rfl, 1, 1, s189, by decide, h, hL190, rfl⟩)
        · obtain ⟨c193, h⟩ := own_chk h
          refine W.icmp_ne d8_71 (fun _ => ?_) (fun q => False.elim (own_nep rfl (by decide) c193 (by decide) c187 q))
          refine W.iinc 1 d8_85 rfl rfl ?_
          refine W.goto d8_88 ?_
          refine W.iloadN d8_49 rfl ?_
          refine W.aloadN d8_50 rfl rfl ?_
          refine W.getfield 22 d8_51 (hw _ (wd 70 rfl)) rfl rfl ?_
          refine W.icmp_ge d8_54 (fun _ => ?_) (fun h => False.elim (by revert h; decide))
          refine W.iconst 1 d8_91 rfl ?_
          exact W.nreturn .boolean d8_92 rfl (by simp) (by decide) (by decide) (⟨_, rfl, 1, 0, s, by decide, h, hL, rfl⟩)
    · obtain ⟨c194, h⟩ := own_chk h
      refine W.icmp_eq d8_24 (fun q => False.elim (own_nep rfl (by decide) c194 (by decide) c163 q)) (fun _ => ?_)
      exact absurd h (by decide)
  · obtain ⟨c195, h⟩ := own_chk h
    refine W.icmp_eq d8_24 (fun q => False.elim (own_nep rfl (by decide) c195 (by decide) c159 q)) (fun _ => ?_)
    exact absurd h (by decide)
def own_ns1 : Nat → own_S → Nat → Nat → Nat → (own_S → Nat → Bool) → Bool
  | 0, _, _, _, _, _ => false
  | f + 1, s, v, d, e, k => if v < 3 then own_bind (s.ee.getD v 0) fun x197 => if e < 1000 then if x197 < 1000 then (if e < x197 then if e < 16 then own_bind (s.ev.getD e 0) fun x202 => own_bind (s.mv.getD v 0) fun x203 => (if x202 = x203 then own_ns1 f s v d (e + 1) k else if x202 < 4294967296 then if x203 < 4294967296 then if d < 7 then own_bind (s.ev.getD e 0) fun x208 => k (own_tup s.ec s.a0 s.a1 s.a2 s.a3 s.mv s.mp s.op s.es s.ee s.ev s.km s.re s.pp s.pq s.pt s.sz s.di s.dn s.lo s.co s.io s.on s.df ((s.dc).set d (e + 1))) (3 + x208) else false else false else false) else false else own_bind (s.ee.getD v 0) fun x209 => if d < 7 then k (own_tup s.ec s.a0 s.a1 s.a2 s.a3 s.mv s.mp s.op s.es s.ee s.ev s.km s.re s.pp s.pq s.pt s.sz s.di s.dn s.lo s.co s.io s.on s.df ((s.dc).set d x209)) 4294967295 else false) else false else false else false
set_option maxRecDepth 65536 in
set_option maxHeartbeats 40000000 in
theorem t_ns1 {l : Launch} {Z : State} {a0 : Array Value} {n : Nat} (hw : ∀ d ∈ tables_1, d.before a0 Z = true) (st : Int32) (s : own_S) (v d : Nat) (k : own_S → Nat → Bool) (hL : own_L s) (y5 : Slot) : ∀ (f e : Nat), own_ns1 f s v d e k = true → W l Z n m13 26 [(.val (.ref 4)), (.val (.int (Int32.ofNat v))), (.val (.int (Int32.ofNat d))), (.val (.int 6)), (.val (.int (Int32.ofNat e))), y5] [] (own_G 2 st 1 s.ec s.a0 s.a1 s.a2 s.a3 s.mv s.mp s.op s.es s.ee s.ev s.km s.re s.pp s.pq s.pt s.sz s.di s.dn s.lo s.co s.io s.on s.df s.dc) 0 0 (fun v H' => ∃ u, v = some u ∧ ∃ r s', u = Value.int (Int32.ofNat r) ∧ k s' r = true ∧ own_L s' ∧ H' = (own_G 2 st 1 (s'.ec) (s'.a0) (s'.a1) (s'.a2) (s'.a3) (s'.mv) (s'.mp) (s'.op) (s'.es) (s'.ee) (s'.ev) (s'.km) (s'.re) (s'.pp) (s'.pq) (s'.pt) (s'.sz) (s'.di) (s'.dn) (s'.lo) (s'.co) (s'.io) (s'.on) (s'.df) (s'.dc))) := by
  intro f
  induction f with
  | zero => intro e h; exact absurd h (by simp [own_ns1])
  | succ f ih =>
    intro e h
    rw [own_ns1] at h
    refine W.iload d13_26 rfl ?_
    refine W.aloadN d13_28 rfl rfl ?_
    refine W.getfield 6 d13_29 (hw _ (wd 28 rfl)) rfl rfl ?_
    refine W.iloadN d13_32 rfl ?_
    obtain ⟨c196, h⟩ := own_chk h
    obtain ⟨x197, ex197, h⟩ := own_bd h
    refine own_iload (N := 3) (i := v) (L := s.ee) d13_33 rfl rfl c196 (by decide) hL.h_ee ex197 ?_
    obtain ⟨c198, h⟩ := own_chk h
    obtain ⟨c199, h⟩ := own_chk h
    rcases own_br h with ⟨c200, h⟩ | ⟨c200, h⟩
    · refine W.icmp_ge d13_34 (fun q => False.elim (q (own_ltp rfl rfl c198 c199 c200))) (fun _ => ?_)
      refine W.aloadN d13_37 rfl rfl ?_
      refine W.getfield 7 d13_38 (hw _ (wd 34 rfl)) rfl rfl ?_
      refine W.iload d13_41 rfl ?_
      obtain ⟨c201, h⟩ := own_chk h
      obtain ⟨x202, ex202, h⟩ := own_bd h
      refine own_iload (N := 16) (i := e) (L := s.ev) d13_43 rfl rfl c201 (by decide) hL.h_ev ex202 ?_
      refine W.aloadN d13_44 rfl rfl ?_
      refine W.getfield 2 d13_45 (hw _ (wd 16 rfl)) rfl rfl ?_
      refine W.iloadN d13_48 rfl ?_
      obtain ⟨x203, ex203, h⟩ := own_bd h
      refine own_iload (N := 3) (i := v) (L := s.mv) d13_49 rfl rfl c196 (by decide) hL.h_mv ex203 ?_
      rcases own_br h with ⟨c204, h⟩ | ⟨c204, h⟩
      · refine W.icmp_eq d13_50 (fun _ => ?_) (fun q => False.elim (q (own_eqp rfl rfl c204)))
        refine own_incN d13_76 rfl ?_
        refine W.goto d13_79 ?_
        exact ih _ h
      · obtain ⟨c205, h⟩ := own_chk h
        obtain ⟨c206, h⟩ := own_chk h
        refine W.icmp_eq d13_50 (fun q => False.elim (own_nep rfl rfl c205 c206 c204 q)) (fun _ => ?_)
        refine W.aloadN d13_53 rfl rfl ?_
        refine W.getfield 21 d13_54 (hw _ (wd 63 rfl)) rfl rfl ?_
        refine W.iloadN d13_57 rfl ?_
        refine W.iload d13_58 rfl ?_
        refine W.iconst 1 d13_60 rfl ?_
        refine own_addN (x := e) (y := 1) d13_61 rfl (by decide) ?_
        obtain ⟨c207, h⟩ := own_chk h
        refine own_istore (N := 7) (i := d) (x := e + 1) (L := s.dc) d13_62 rfl rfl rfl c207 (by decide) hL.h_dc ?_
        refine W.aloadN d13_63 rfl rfl ?_
        refine W.getfield 0 d13_64 (hw _ (wd 12 rfl)) rfl rfl ?_
        refine W.aloadN d13_67 rfl rfl ?_
        refine W.getfield 7 d13_68 (hw _ (wd 34 rfl)) rfl rfl ?_
        refine W.iload d13_71 rfl ?_
        obtain ⟨x208, ex208, h⟩ := own_bd h
        refine own_iload (N := 16) (i := e) (L := s.ev) d13_73 rfl rfl c201 (by decide) hL.h_ev ex208 ?_
        refine own_addN (x := 3) (y := x208) d13_74 (by decide) rfl ?_
        exact W.ireturn d13_75 rfl (by decide) (by decide) (⟨_, rfl, 3 + x208, (own_tup s.ec s.a0 s.a1 s.a2 s.a3 s.mv s.mp s.op s.es s.ee s.ev s.km s.re s.pp s.pq s.pt s.sz s.di s.dn s.lo s.co s.io s.on s.df ((s.dc).set d (e + 1))), rfl, h, ⟨hL.h_a0, hL.h_a1, hL.h_a2, hL.h_a3, hL.h_mv, hL.h_mp, hL.h_op, hL.h_es, hL.h_ee, hL.h_ev, hL.h_km, hL.h_re, hL.h_pp, hL.h_pq, hL.h_pt, hL.h_sz, hL.h_di, hL.h_dn, hL.h_lo, hL.h_co, hL.h_io, hL.h_on, hL.h_df, (own_ls hL.h_dc)⟩, rfl⟩)
    · refine W.icmp_ge d13_34 (fun _ => ?_) (fun q => False.elim (own_ltn rfl rfl c198 c199 c200 q))
      refine W.aloadN d13_82 rfl rfl ?_
      refine W.getfield 21 d13_83 (hw _ (wd 63 rfl)) rfl rfl ?_
      refine W.iloadN d13_86 rfl ?_
      refine W.aloadN d13_87 rfl rfl ?_
      refine W.getfield 6 d13_88 (hw _ (wd 28 rfl)) rfl rfl ?_
      refine W.iloadN d13_91 rfl ?_
      obtain ⟨x209, ex209, h⟩ := own_bd h
      refine own_iload (N := 3) (i := v) (L := s.ee) d13_92 rfl rfl c196 (by decide) hL.h_ee ex209 ?_
      obtain ⟨c210, h⟩ := own_chk h
      refine own_istore (N := 7) (i := d) (x := x209) (L := s.dc) d13_93 rfl rfl rfl c210 (by decide) hL.h_dc ?_
      refine W.iconst (-1) d13_94 rfl ?_
      exact W.ireturn d13_95 rfl (by decide) (by decide) (⟨_, rfl, 4294967295, (own_tup s.ec s.a0 s.a1 s.a2 s.a3 s.mv s.mp s.op s.es s.ee s.ev s.km s.re s.pp s.pq s.pt s.sz s.di s.dn s.lo s.co s.io s.on s.df ((s.dc).set d x209)), by decide, h, ⟨hL.h_a0, hL.h_a1, hL.h_a2, hL.h_a3, hL.h_mv, hL.h_mp, hL.h_op, hL.h_es, hL.h_ee, hL.h_ev, hL.h_km, hL.h_re, hL.h_pp, hL.h_pq, hL.h_pt, hL.h_sz, hL.h_di, hL.h_dn, hL.h_lo, hL.h_co, hL.h_io, hL.h_on, hL.h_df, (own_ls hL.h_dc)⟩, rfl⟩)
def own_ns (s : own_S) (v d : Nat) (k : own_S → Nat → Bool) : Bool :=
  if v < 1000 then (if v < 3 then if d < 7 then own_bind (s.dc.getD d 0) fun x214 => own_ns1 4 s v d x214 k else false else if d < 7 then own_bind (s.dc.getD d 0) fun x216 => (if v < 6 then if x216 < 1000 then (if 0 < x216 then k (own_tup s.ec s.a0 s.a1 s.a2 s.a3 s.mv s.mp s.op s.es s.ee s.ev s.km s.re s.pp s.pq s.pt s.sz s.di s.dn s.lo s.co s.io s.on s.df ((s.dc).set d (x216 + 1))) 4294967295 else if 3 ≤ v then if v - 3 < 3 then own_bind (s.mp.getD (v - 3) 0) fun x222 => (if x222 = 4294967295 then k (own_tup s.ec s.a0 s.a1 s.a2 s.a3 s.mv s.mp s.op s.es s.ee s.ev s.km s.re s.pp s.pq s.pt s.sz s.di s.dn s.lo s.co s.io s.on s.df ((s.dc).set d (x216 + 1))) 6 else if x222 < 4294967296 then k (own_tup s.ec s.a0 s.a1 s.a2 s.a3 s.mv s.mp s.op s.es s.ee s.ev s.km s.re s.pp s.pq s.pt s.sz s.di s.dn s.lo s.co s.io s.on s.df ((s.dc).set d (x216 + 1))) x222 else false) else false else false) else false else if x216 < 1000 then (if x216 < 2 then if x216 < 3 then own_bind (s.op.getD x216 0) fun x228 => if x228 < 3 then own_bind (s.mv.getD x228 0) fun x230 => k (own_tup s.ec s.a0 s.a1 s.a2 s.a3 s.mv s.mp s.op s.es s.ee s.ev s.km s.re s.pp s.pq s.pt s.sz s.di s.dn s.lo s.co s.io s.on s.df ((s.dc).set d (x216 + 1))) (3 + x230) else false else false else k (own_tup s.ec s.a0 s.a1 s.a2 s.a3 s.mv s.mp s.op s.es s.ee s.ev s.km s.re s.pp s.pq s.pt s.sz s.di s.dn s.lo s.co s.io s.on s.df ((s.dc).set d (x216 + 1))) 4294967295) else false) else false) else false
set_option maxRecDepth 65536 in
set_option maxHeartbeats 40000000 in
theorem t_ns {l : Launch} {Z : State} {a0 : Array Value} {n : Nat} (hw : ∀ d ∈ tables_1, d.before a0 Z = true) (st : Int32) (s : own_S) (v d : Nat) (k : own_S → Nat → Bool) (hL : own_L s) (h : own_ns s v d k = true) : W l Z n m13 0 (entryL [(.ref 4), (.int (Int32.ofNat v)), (.int (Int32.ofNat d))] 6) [] (own_G 2 st 1 s.ec s.a0 s.a1 s.a2 s.a3 s.mv s.mp s.op s.es s.ee s.ev s.km s.re s.pp s.pq s.pt s.sz s.di s.dn s.lo s.co s.io s.on s.df s.dc) 0 0 (fun v H' => ∃ u, v = some u ∧ ∃ r s', u = Value.int (Int32.ofNat r) ∧ k s' r = true ∧ own_L s' ∧ H' = (own_G 2 st 1 (s'.ec) (s'.a0) (s'.a1) (s'.a2) (s'.a3) (s'.mv) (s'.mp) (s'.op) (s'.es) (s'.ee) (s'.ev) (s'.km) (s'.re) (s'.pp) (s'.pq) (s'.pt) (s'.sz) (s'.di) (s'.dn) (s'.lo) (s'.co) (s'.io) (s'.on) (s'.df) (s'.dc))) := by
  show W l Z n m13 0 [(.val (.ref 4)), (.val (.int (Int32.ofNat v))), (.val (.int (Int32.ofNat d))), .unset, .unset, .unset] [] (own_G 2 st 1 s.ec s.a0 s.a1 s.a2 s.a3 s.mv s.mp s.op s.es s.ee s.ev s.km s.re s.pp s.pq s.pt s.sz s.di s.dn s.lo s.co s.io s.on s.df s.dc) 0 0 _
  unfold own_ns at h
  refine W.aloadN d13_0 rfl rfl ?_
  refine W.getfield 0 d13_1 (hw _ (wd 12 rfl)) rfl rfl ?_
  refine W.aloadN d13_4 rfl rfl ?_
  refine W.getfield 1 d13_5 (hw _ (wd 14 rfl)) rfl rfl ?_
  refine W.iadd d13_8 ?_
  refine W.istoreN d13_9 rfl ?_
  refine W.iloadN d13_10 rfl ?_
  refine W.aloadN d13_11 rfl rfl ?_
  refine W.getfield 0 d13_12 (hw _ (wd 12 rfl)) rfl rfl ?_
  obtain ⟨c211, h⟩ := own_chk h
  rcases own_br h with ⟨c212, h⟩ | ⟨c212, h⟩
  · refine W.icmp_ge d13_15 (fun q => False.elim (q (own_ltp rfl (by decide) c211 (by decide) c212))) (fun _ => ?_)
    refine W.aloadN d13_18 rfl rfl ?_
    refine W.getfield 21 d13_19 (hw _ (wd 63 rfl)) rfl rfl ?_
    refine W.iloadN d13_22 rfl ?_
    obtain ⟨c213, h⟩ := own_chk h
    obtain ⟨x214, ex214, h⟩ := own_bd h
    refine own_iload (N := 7) (i := d) (L := s.dc) d13_23 rfl rfl c213 (by decide) hL.h_dc ex214 ?_
    refine W.istore d13_24 rfl ?_
    exact t_ns1 hw st s v d k hL _ 4 _ h
  · refine W.icmp_ge d13_15 (fun _ => ?_) (fun q => False.elim (own_ltn rfl (by decide) c211 (by decide) c212 q))
    refine W.aloadN d13_96 rfl rfl ?_
    refine W.getfield 21 d13_97 (hw _ (wd 63 rfl)) rfl rfl ?_
    refine W.iloadN d13_100 rfl ?_
    refine W.dup2 d13_101 rfl rfl ?_
    obtain ⟨c215, h⟩ := own_chk h
    obtain ⟨x216, ex216, h⟩ := own_bd h
    refine own_iload (N := 7) (i := d) (L := s.dc) d13_102 rfl rfl c215 (by decide) hL.h_dc ex216 ?_
    refine W.dupX2 d13_103 rfl rfl rfl ?_
    refine W.iconst 1 d13_104 rfl ?_
    refine own_addN (x := x216) (y := 1) d13_105 rfl (by decide) ?_
    refine own_istore (N := 7) (i := d) (x := x216 + 1) (L := s.dc) d13_106 rfl rfl rfl c215 (by decide) hL.h_dc ?_
    refine W.istore d13_107 rfl ?_
    refine W.iloadN d13_109 rfl ?_
    refine W.iloadN d13_110 rfl ?_
    rcases own_br h with ⟨c217, h⟩ | ⟨c217, h⟩
    · refine W.icmp_ge d13_111 (fun q => False.elim (q (own_ltp rfl (by decide) c211 (by decide) c217))) (fun _ => ?_)
      refine W.iload d13_114 rfl ?_
      obtain ⟨c218, h⟩ := own_chk h
      rcases own_br h with ⟨c219, h⟩ | ⟨c219, h⟩
      · refine W.if_le d13_116 (fun q => False.elim (q (own_ltp (by decide) rfl (by decide) c218 c219))) (fun _ => ?_)
        refine W.iconst (-1) d13_119 rfl ?_
        exact W.ireturn d13_120 rfl (by decide) (by decide) (⟨_, rfl, 4294967295, (own_tup s.ec s.a0 s.a1 s.a2 s.a3 s.mv s.mp s.op s.es s.ee s.ev s.km s.re s.pp s.pq s.pt s.sz s.di s.dn s.lo s.co s.io s.on s.df ((s.dc).set d (x216 + 1))), by decide, h, ⟨hL.h_a0, hL.h_a1, hL.h_a2, hL.h_a3, hL.h_mv, hL.h_mp, hL.h_op, hL.h_es, hL.h_ee, hL.h_ev, hL.h_km, hL.h_re, hL.h_pp, hL.h_pq, hL.h_pt, hL.h_sz, hL.h_di, hL.h_dn, hL.h_lo, hL.h_co, hL.h_io, hL.h_on, hL.h_df, (own_ls hL.h_dc)⟩, rfl⟩)
      · refine W.if_le d13_116 (fun _ => ?_) (fun q => False.elim (own_ltn (by decide) rfl (by decide) c218 c219 q))
        refine W.aloadN d13_121 rfl rfl ?_
        refine W.getfield 3 d13_122 (hw _ (wd 18 rfl)) rfl rfl ?_
        refine W.iloadN d13_125 rfl ?_
        refine W.aloadN d13_126 rfl rfl ?_
        refine W.getfield 0 d13_127 (hw _ (wd 12 rfl)) rfl rfl ?_
        obtain ⟨c220, h⟩ := own_chk h
        refine own_subN (x := v) (y := 3) d13_130 rfl (by decide) c220 ?_
        obtain ⟨c221, h⟩ := own_chk h
        obtain ⟨x222, ex222, h⟩ := own_bd h
        refine own_iload (N := 3) (i := v - 3) (L := s.mp) d13_131 rfl rfl c221 (by decide) hL.h_mp ex222 ?_
        refine W.istore d13_132 rfl ?_
        show WB _ l Z n m13 134 [(.val (.ref 4)), (.val (.int (Int32.ofNat v))), (.val (.int (Int32.ofNat d))), (.val (.int 6)), (.val (.int (Int32.ofNat x216))), (.val (.int (Int32.ofNat x222)))] [] (own_G 2 st 1 s.ec s.a0 s.a1 s.a2 s.a3 s.mv s.mp s.op s.es s.ee s.ev s.km s.re s.pp s.pq s.pt s.sz s.di s.dn s.lo s.co s.io s.on s.df ((s.dc).set d (x216 + 1))) _ _ _
        refine W.iload d13_134 rfl ?_
        refine W.iconst (-1) d13_136 rfl ?_
        rcases own_br h with ⟨c223, h⟩ | ⟨c223, h⟩
        · refine W.icmp_ne d13_137 (fun q => False.elim (q (own_eqp rfl (by decide) c223))) (fun _ => ?_)
          refine W.iloadN d13_140 rfl ?_
          refine W.goto d13_141 ?_
          exact W.ireturn d13_146 rfl (by decide) (by decide) (⟨_, rfl, 6, (own_tup s.ec s.a0 s.a1 s.a2 s.a3 s.mv s.mp s.op s.es s.ee s.ev s.km s.re s.pp s.pq s.pt s.sz s.di s.dn s.lo s.co s.io s.on s.df ((s.dc).set d (x216 + 1))), by decide, h, ⟨hL.h_a0, hL.h_a1, hL.h_a2, hL.h_a3, hL.h_mv, hL.h_mp, hL.h_op, hL.h_es, hL.h_ee, hL.h_ev, hL.h_km, hL.h_re, hL.h_pp, hL.h_pq, hL.h_pt, hL.h_sz, hL.h_di, hL.h_dn, hL.h_lo, hL.h_co, hL.h_io, hL.h_on, hL.h_df, (own_ls hL.h_dc)⟩, rfl⟩)
        · obtain ⟨c224, h⟩ := own_chk h
          refine W.icmp_ne d13_137 (fun _ => ?_) (fun q => False.elim (own_nep rfl (by decide) c224 (by decide) c223 q))
          refine W.iload d13_144 rfl ?_
          exact W.ireturn d13_146 rfl (by decide) (by decide) (⟨_, rfl, x222, (own_tup s.ec s.a0 s.a1 s.a2 s.a3 s.mv s.mp s.op s.es s.ee s.ev s.km s.re s.pp s.pq s.pt s.sz s.di s.dn s.lo s.co s.io s.on s.df ((s.dc).set d (x216 + 1))), rfl, h, ⟨hL.h_a0, hL.h_a1, hL.h_a2, hL.h_a3, hL.h_mv, hL.h_mp, hL.h_op, hL.h_es, hL.h_ee, hL.h_ev, hL.h_km, hL.h_re, hL.h_pp, hL.h_pq, hL.h_pt, hL.h_sz, hL.h_di, hL.h_dn, hL.h_lo, hL.h_co, hL.h_io, hL.h_on, hL.h_df, (own_ls hL.h_dc)⟩, rfl⟩)
    · refine W.icmp_ge d13_111 (fun _ => ?_) (fun q => False.elim (own_ltn rfl (by decide) c211 (by decide) c217 q))
      refine W.iload d13_147 rfl ?_
      refine W.aloadN d13_149 rfl rfl ?_
      refine W.getfield 22 d13_150 (hw _ (wd 70 rfl)) rfl rfl ?_
      obtain ⟨c225, h⟩ := own_chk h
      rcases own_br h with ⟨c226, h⟩ | ⟨c226, h⟩
      · refine W.icmp_ge d13_153 (fun q => False.elim (q (own_ltp rfl (by decide) c225 (by decide) c226))) (fun _ => ?_)
        refine W.aloadN d13_156 rfl rfl ?_
        refine W.getfield 0 d13_157 (hw _ (wd 12 rfl)) rfl rfl ?_
        refine W.aloadN d13_160 rfl rfl ?_
        refine W.getfield 2 d13_161 (hw _ (wd 16 rfl)) rfl rfl ?_
        refine W.aloadN d13_164 rfl rfl ?_
        refine W.getfield 4 d13_165 (hw _ (wd 24 rfl)) rfl rfl ?_
        refine W.iload d13_168 rfl ?_
        obtain ⟨c227, h⟩ := own_chk h
        obtain ⟨x228, ex228, h⟩ := own_bd h
        refine own_iload (N := 3) (i := x216) (L := s.op) d13_170 rfl rfl c227 (by decide) hL.h_op ex228 ?_
        obtain ⟨c229, h⟩ := own_chk h
        obtain ⟨x230, ex230, h⟩ := own_bd h
        refine own_iload (N := 3) (i := x228) (L := s.mv) d13_171 rfl rfl c229 (by decide) hL.h_mv ex230 ?_
        refine own_addN (x := 3) (y := x230) d13_172 (by decide) rfl ?_
        refine W.goto d13_173 ?_
        exact W.ireturn d13_177 rfl (by decide) (by decide) (⟨_, rfl, 3 + x230, (own_tup s.ec s.a0 s.a1 s.a2 s.a3 s.mv s.mp s.op s.es s.ee s.ev s.km s.re s.pp s.pq s.pt s.sz s.di s.dn s.lo s.co s.io s.on s.df ((s.dc).set d (x216 + 1))), rfl, h, ⟨hL.h_a0, hL.h_a1, hL.h_a2, hL.h_a3, hL.h_mv, hL.h_mp, hL.h_op, hL.h_es, hL.h_ee, hL.h_ev, hL.h_km, hL.h_re, hL.h_pp, hL.h_pq, hL.h_pt, hL.h_sz, hL.h_di, hL.h_dn, hL.h_lo, hL.h_co, hL.h_io, hL.h_on, hL.h_df, (own_ls hL.h_dc)⟩, rfl⟩)
      · refine W.icmp_ge d13_153 (fun _ => ?_) (fun q => False.elim (own_ltn rfl (by decide) c225 (by decide) c226 q))
        refine W.iconst (-1) d13_176 rfl ?_
        exact W.ireturn d13_177 rfl (by decide) (by decide) (⟨_, rfl, 4294967295, (own_tup s.ec s.a0 s.a1 s.a2 s.a3 s.mv s.mp s.op s.es s.ee s.ev s.km s.re s.pp s.pq s.pt s.sz s.di s.dn s.lo s.co s.io s.on s.df ((s.dc).set d (x216 + 1))), by decide, h, ⟨hL.h_a0, hL.h_a1, hL.h_a2, hL.h_a3, hL.h_mv, hL.h_mp, hL.h_op, hL.h_es, hL.h_ee, hL.h_ev, hL.h_km, hL.h_re, hL.h_pp, hL.h_pq, hL.h_pt, hL.h_sz, hL.h_di, hL.h_dn, hL.h_lo, hL.h_co, hL.h_io, hL.h_on, hL.h_df, (own_ls hL.h_dc)⟩, rfl⟩)
set_option maxRecDepth 65536 in
set_option maxHeartbeats 40000000 in
theorem t_min {l : Launch} {Z : State} {a0 : Array Value} {n : Nat} (hw : ∀ d ∈ tables_1, d.before a0 Z = true) (a b : Nat) (ha : a < 1000) (hb : b < 1000) (H : AHeap) : W l Z n m15 0 (entryL [.int (Int32.ofNat a), .int (Int32.ofNat b)] 2) [] H 0 0 (Is (some (.int (Int32.ofNat (if b < a then b else a)))) H) := by
  show W l Z n m15 0 [.val (.int (Int32.ofNat a)), .val (.int (Int32.ofNat b))] [] H 0 0 _
  refine W.iloadN d15_0 rfl ?_
  refine W.iloadN d15_1 rfl ?_
  refine W.icmp_gt d15_2 (fun q => ?_) (fun q => ?_)
  · refine W.iloadN d15_9 rfl ?_
    have e : b < a := Decidable.byContradiction fun z => own_ltn rfl rfl hb ha z q
    rw [if_pos e]
    exact W.ireturn d15_10 rfl (by decide) (by decide) ⟨rfl, rfl⟩
  · refine W.iloadN d15_5 rfl ?_
    refine W.goto d15_6 ?_
    have e : ¬ b < a := fun z => q (own_ltp rfl rfl hb ha z)
    rw [if_neg e]
    exact W.ireturn d15_10 rfl (by decide) (by decide) ⟨rfl, rfl⟩
def own_pop : Nat → own_S → Nat → Nat → Nat → (own_S → Nat → Bool) → Bool
  | 0, _, _, _, _, _ => false
  | f + 1, s, cnt, comp, node, k => if ¬ cnt = 0 then if cnt - 1 < 7 then own_bind (s.on.getD (cnt - 1) 0) fun x233 => if x233 < 7 then (if x233 = node then k (own_tup s.ec s.a0 s.a1 s.a2 s.a3 s.mv s.mp s.op s.es s.ee s.ev s.km s.re s.pp s.pq s.pt s.sz s.di s.dn s.lo ((s.co).set x233 comp) ((s.io).set x233 0) s.on s.df s.dc) (cnt - 1) else if node < 4294967296 then own_pop f (own_tup s.ec s.a0 s.a1 s.a2 s.a3 s.mv s.mp s.op s.es s.ee s.ev s.km s.re s.pp s.pq s.pt s.sz s.di s.dn s.lo ((s.co).set x233 comp) ((s.io).set x233 0) s.on s.df s.dc) (cnt - 1) comp node k else false) else false else false else false
set_option maxRecDepth 65536 in
set_option maxHeartbeats 40000000 in
theorem t_pop {l : Launch} {Z : State} {a0 : Array Value} {n : Nat} (hw : ∀ d ∈ tables_1, d.before a0 Z = true) (st v1 v4 v5 v7 : Int32) (comp node : Nat) (k : own_S → Nat → Bool) {Q : Option Value → AHeap → Prop} : ∀ (f : Nat) (s : own_S) (cnt : Nat) (y8 : Slot) (hy8 : y8 = .unset ∨ ∃ z : Int32, y8 = .val (.int z)) (hL : own_L s) (h : own_pop f s cnt comp node k = true) (kk : ∀ s' cnt' (z : Int32), own_L s' → k s' cnt' = true → W l Z n m12 394 [(.val (.ref 4)), (.val (.int (v1))), (.val (.int (Int32.ofNat (cnt')))), (.val (.int (Int32.ofNat comp))), (.val (.int (v4))), (.val (.int (v5))), (.val (.int (Int32.ofNat node))), (.val (.int (v7))), (.val (.int (z)))] [] (own_G 2 st 1 (s'.ec) (s'.a0) (s'.a1) (s'.a2) (s'.a3) (s'.mv) (s'.mp) (s'.op) (s'.es) (s'.ee) (s'.ev) (s'.km) (s'.re) (s'.pp) (s'.pq) (s'.pt) (s'.sz) (s'.di) (s'.dn) (s'.lo) (s'.co) (s'.io) (s'.on) (s'.df) (s'.dc)) 0 0 Q), W l Z n m12 360 [(.val (.ref 4)), (.val (.int (v1))), (.val (.int (Int32.ofNat cnt))), (.val (.int (Int32.ofNat comp))), (.val (.int (v4))), (.val (.int (v5))), (.val (.int (Int32.ofNat node))), (.val (.int (v7))), y8] [] (own_G 2 st 1 s.ec s.a0 s.a1 s.a2 s.a3 s.mv s.mp s.op s.es s.ee s.ev s.km s.re s.pp s.pq s.pt s.sz s.di s.dn s.lo s.co s.io s.on s.df s.dc) 0 0 Q := by
  intro f
  induction f with
  | zero => intro s cnt y8 hy8 hL h; exact absurd h (by simp [own_pop])
  | succ f ih =>
    intro s cnt y8 hy8 hL h kk
    rw [own_pop] at h
    refine W.aloadN d12_360 rfl rfl ?_
    refine W.getfield 19 d12_361 (hw _ (wd 59 rfl)) rfl rfl ?_
    obtain ⟨c231, h⟩ := own_chk h
    refine own_decN d12_364 rfl c231 ?_
    refine W.iloadN d12_367 rfl ?_
    obtain ⟨c232, h⟩ := own_chk h
    obtain ⟨x233, ex233, h⟩ := own_bd h
    refine own_iload (N := 7) (i := cnt - 1) (L := s.on) d12_368 rfl rfl c232 (by decide) hL.h_on ex233 ?_
    refine W.istore d12_369 (by rcases hy8 with rfl | ⟨_, rfl⟩ <;> rfl) ?_
    refine W.aloadN d12_371 rfl rfl ?_
    refine W.getfield 18 d12_372 (hw _ (wd 57 rfl)) rfl rfl ?_
    refine W.iload d12_375 rfl ?_
    refine W.iconst 0 d12_377 rfl ?_
    obtain ⟨c234, h⟩ := own_chk h
    refine own_zstore (N := 7) (i := x233) (x := 0) (L := s.io) d12_378 rfl rfl (by decide) (by decide) c234 (by decide) hL.h_io ?_
    refine W.aloadN d12_379 rfl rfl ?_
    refine W.getfield 17 d12_380 (hw _ (wd 55 rfl)) rfl rfl ?_
    refine W.iload d12_383 rfl ?_
    refine W.iloadN d12_385 rfl ?_
    refine own_istore (N := 7) (i := x233) (x := comp) (L := s.co) d12_386 rfl rfl rfl c234 (by decide) hL.h_co ?_
    refine W.iload d12_387 rfl ?_
    refine W.iload d12_389 rfl ?_
    rcases own_br h with ⟨c235, h⟩ | ⟨c235, h⟩
    · refine W.icmp_ne d12_391 (fun q => False.elim (q (own_eqp rfl rfl c235))) (fun _ => ?_)
      exact kk (own_tup s.ec s.a0 s.a1 s.a2 s.a3 s.mv s.mp s.op s.es s.ee s.ev s.km s.re s.pp s.pq s.pt s.sz s.di s.dn s.lo ((s.co).set x233 comp) ((s.io).set x233 0) s.on s.df s.dc) (cnt - 1) _ ⟨hL.h_a0, hL.h_a1, hL.h_a2, hL.h_a3, hL.h_mv, hL.h_mp, hL.h_op, hL.h_es, hL.h_ee, hL.h_ev, hL.h_km, hL.h_re, hL.h_pp, hL.h_pq, hL.h_pt, hL.h_sz, hL.h_di, hL.h_dn, hL.h_lo, (own_ls hL.h_co), (own_ls hL.h_io), hL.h_on, hL.h_df, hL.h_dc⟩ h
    · obtain ⟨c236, h⟩ := own_chk h
      refine W.icmp_ne d12_391 (fun _ => ?_) (fun q => False.elim (own_nep rfl rfl (Nat.lt_of_lt_of_le c234 (by decide)) c236 c235 q))
      exact ih (own_tup s.ec s.a0 s.a1 s.a2 s.a3 s.mv s.mp s.op s.es s.ee s.ev s.km s.re s.pp s.pq s.pt s.sz s.di s.dn s.lo ((s.co).set x233 comp) ((s.io).set x233 0) s.on s.df s.dc) (cnt - 1) _ (Or.inr ⟨_, rfl⟩) ⟨hL.h_a0, hL.h_a1, hL.h_a2, hL.h_a3, hL.h_mv, hL.h_mp, hL.h_op, hL.h_es, hL.h_ee, hL.h_ev, hL.h_km, hL.h_re, hL.h_pp, hL.h_pq, hL.h_pt, hL.h_sz, hL.h_di, hL.h_dn, hL.h_lo, (own_ls hL.h_co), (own_ls hL.h_io), hL.h_on, hL.h_df, hL.h_dc⟩ h kk
def own_top : Nat → (own_S → Nat → Nat → Nat → Nat → Bool) → own_S → Nat → Nat → Nat → Nat → (own_S → Bool) → Bool
  | 0, _, _, _, _, _, _, _ => false
  | f + 1, K, s, ctr, cnt, comp, root, k => if root < 1000 then (if root < 2 then if root < 3 then own_bind (s.op.getD root 0) fun x240 => if x240 < 7 then own_bind (s.dn.getD x240 0) fun x242 => (if x242 = 1 then own_top f K s ctr cnt comp (root + 1) k else if x242 < 4294967296 then own_bind (s.op.getD root 0) fun x245 => own_bind (s.op.getD root 0) fun x246 => if x246 < 3 then own_bind (s.es.getD x246 0) fun x248 => own_bind (((s.df).set 0 x245).getD 0 0) fun x249 => if x249 < 7 then own_bind (((s.df).set 0 x245).getD 0 0) fun x251 => if x251 < 7 then own_bind (((s.df).set 0 x245).getD 0 0) fun x253 => if x253 < 7 then own_bind (((s.df).set 0 x245).getD 0 0) fun x255 => if x255 < 7 then own_bind (((s.df).set 0 x245).getD 0 0) fun x257 => if cnt < 7 then K (own_tup s.ec s.a0 s.a1 s.a2 s.a3 s.mv s.mp s.op s.es s.ee s.ev s.km s.re s.pp s.pq s.pt s.sz ((s.di).set x251 ctr) ((s.dn).set x249 1) ((s.lo).set x253 ctr) s.co ((s.io).set x255 1) ((s.on).set cnt x257) ((s.df).set 0 x245) ((s.dc).set 0 x248)) (ctr + 1) (cnt + 1) comp root else false else false else false else false else false else false else false) else false else false else k s) else false
set_option maxRecDepth 65536 in
set_option maxHeartbeats 40000000 in
theorem t_top {l : Launch} {Z : State} {a0 : Array Value} {n : Nat} (hw : ∀ d ∈ tables_1, d.before a0 Z = true) (st : Int32) (k : own_S → Bool) (K : own_S → Nat → Nat → Nat → Nat → Bool) (hK : ∀ (s : own_S) (ctr cnt comp root : Nat) (y6 : Slot) (y7 : Slot) (y8 : Slot) (hy6 : y6 = .unset ∨ ∃ z : Int32, y6 = .val (.int z)) (hy7 : y7 = .unset ∨ ∃ z : Int32, y7 = .val (.int z)) (hy8 : y8 = .unset ∨ ∃ z : Int32, y8 = .val (.int z)) (hL : own_L s) (h : K s ctr cnt comp root = true), W l Z n m12 172 [(.val (.ref 4)), (.val (.int (Int32.ofNat ctr))), (.val (.int (Int32.ofNat cnt))), (.val (.int (Int32.ofNat comp))), (.val (.int (Int32.ofNat root))), (.val (.int 0)), y6, y7, y8] [] (own_G 2 st 1 s.ec s.a0 s.a1 s.a2 s.a3 s.mv s.mp s.op s.es s.ee s.ev s.km s.re s.pp s.pq s.pt s.sz s.di s.dn s.lo s.co s.io s.on s.df s.dc) 0 0 (fun v H' => v = none ∧ ∃ s', k s' = true ∧ own_L s' ∧ H' = (own_G 2 st 1 (s'.ec) (s'.a0) (s'.a1) (s'.a2) (s'.a3) (s'.mv) (s'.mp) (s'.op) (s'.es) (s'.ee) (s'.ev) (s'.km) (s'.re) (s'.pp) (s'.pq) (s'.pt) (s'.sz) (s'.di) (s'.dn) (s'.lo) (s'.co) (s'.io) (s'.on) (s'.df) (s'.dc)))) : ∀ (f : Nat) (s : own_S) (ctr cnt comp root : Nat) (y5 : Slot) (y6 : Slot) (y7 : Slot) (y8 : Slot) (hy5 : y5 = .unset ∨ ∃ z : Int32, y5 = .val (.int z)) (hy6 : y6 = .unset ∨ ∃ z : Int32, y6 = .val (.int z)) (hy7 : y7 = .unset ∨ ∃ z : Int32, y7 = .val (.int z)) (hy8 : y8 = .unset ∨ ∃ z : Int32, y8 = .val (.int z)) (hL : own_L s) (h : own_top f K s ctr cnt comp root k = true), W l Z n m12 38 [(.val (.ref 4)), (.val (.int (Int32.ofNat ctr))), (.val (.int (Int32.ofNat cnt))), (.val (.int (Int32.ofNat comp))), (.val (.int (Int32.ofNat root))), y5, y6, y7, y8] [] (own_G 2 st 1 s.ec s.a0 s.a1 s.a2 s.a3 s.mv s.mp s.op s.es s.ee s.ev s.km s.re s.pp s.pq s.pt s.sz s.di s.dn s.lo s.co s.io s.on s.df s.dc) 0 0 (fun v H' => v = none ∧ ∃ s', k s' = true ∧ own_L s' ∧ H' = (own_G 2 st 1 (s'.ec) (s'.a0) (s'.a1) (s'.a2) (s'.a3) (s'.mv) (s'.mp) (s'.op) (s'.es) (s'.ee) (s'.ev) (s'.km) (s'.re) (s'.pp) (s'.pq) (s'.pt) (s'.sz) (s'.di) (s'.dn) (s'.lo) (s'.co) (s'.io) (s'.on) (s'.df) (s'.dc))) := by
  intro f
  induction f with
  | zero => intro s ctr cnt comp root y5 y6 y7 y8 hy5 hy6 hy7 hy8 hL h; exact absurd h (by simp [own_top])
  | succ f ih =>
    intro s ctr cnt comp root y5 y6 y7 y8 hy5 hy6 hy7 hy8 hL h
    rw [own_top] at h
    refine W.iload d12_38 rfl ?_
    refine W.aloadN d12_40 rfl rfl ?_
    refine W.getfield 22 d12_41 (hw _ (wd 70 rfl)) rfl rfl ?_
    obtain ⟨c237, h⟩ := own_chk h
    rcases own_br h with ⟨c238, h⟩ | ⟨c238, h⟩
    · refine W.icmp_ge d12_44 (fun q => False.elim (q (own_ltp rfl (by decide) c237 (by decide) c238))) (fun _ => ?_)
      refine W.aloadN d12_47 rfl rfl ?_
      refine W.getfield 15 d12_48 (hw _ (wd 51 rfl)) rfl rfl ?_
      refine W.aloadN d12_51 rfl rfl ?_
      refine W.getfield 4 d12_52 (hw _ (wd 24 rfl)) rfl rfl ?_
      refine W.iload d12_55 rfl ?_
      obtain ⟨c239, h⟩ := own_chk h
      obtain ⟨x240, ex240, h⟩ := own_bd h
      refine own_iload (N := 3) (i := root) (L := s.op) d12_57 rfl rfl c239 (by decide) hL.h_op ex240 ?_
      obtain ⟨c241, h⟩ := own_chk h
      obtain ⟨x242, ex242, h⟩ := own_bd h
      refine own_iload (N := 7) (i := x240) (L := s.dn) d12_58 rfl rfl c241 (by decide) hL.h_dn ex242 ?_
      refine W.aloadN d12_59 rfl rfl ?_
      refine W.getfield 25 d12_60 (hw _ (wd 108 rfl)) rfl rfl ?_
      rcases own_br h with ⟨c243, h⟩ | ⟨c243, h⟩
      · refine W.icmp_ne d12_63 (fun q => False.elim (q (own_eqp rfl (by decide) c243))) (fun _ => ?_)
        refine W.goto d12_66 ?_
        refine own_incN d12_441 rfl ?_
        refine W.goto d12_444 ?_
        exact ih s ctr cnt comp (root + 1) _ _ _ _ hy5 hy6 hy7 hy8 hL h
      · obtain ⟨c244, h⟩ := own_chk h
        refine W.icmp_ne d12_63 (fun _ => ?_) (fun q => False.elim (own_nep rfl (by decide) c244 (by decide) c243 q))
        refine W.iconst 0 d12_69 rfl ?_
        refine W.istore d12_70 (by rcases hy5 with rfl | ⟨_, rfl⟩ <;> rfl) ?_
        refine W.aloadN d12_72 rfl rfl ?_
        refine W.getfield 20 d12_73 (hw _ (wd 61 rfl)) rfl rfl ?_
        refine W.iconst 0 d12_76 rfl ?_
        refine W.aloadN d12_77 rfl rfl ?_
        refine W.getfield 4 d12_78 (hw _ (wd 24 rfl)) rfl rfl ?_
        refine W.iload d12_81 rfl ?_
        obtain ⟨x245, ex245, h⟩ := own_bd h
        refine own_iload (N := 3) (i := root) (L := s.op) d12_83 rfl rfl c239 (by decide) hL.h_op ex245 ?_
        refine own_istore (N := 7) (i := 0) (x := x245) (L := s.df) d12_84 rfl (by decide) rfl (by decide) (by decide) hL.h_df ?_
        refine W.aloadN d12_85 rfl rfl ?_
        refine W.getfield 21 d12_86 (hw _ (wd 63 rfl)) rfl rfl ?_
        refine W.iconst 0 d12_89 rfl ?_
        refine W.aloadN d12_90 rfl rfl ?_
        refine W.getfield 5 d12_91 (hw _ (wd 26 rfl)) rfl rfl ?_
        refine W.aloadN d12_94 rfl rfl ?_
        refine W.getfield 4 d12_95 (hw _ (wd 24 rfl)) rfl rfl ?_
        refine W.iload d12_98 rfl ?_
        obtain ⟨x246, ex246, h⟩ := own_bd h
        refine own_iload (N := 3) (i := root) (L := s.op) d12_100 rfl rfl c239 (by decide) hL.h_op ex246 ?_
        obtain ⟨c247, h⟩ := own_chk h
        obtain ⟨x248, ex248, h⟩ := own_bd h
        refine own_iload (N := 3) (i := x246) (L := s.es) d12_101 rfl rfl c247 (by decide) hL.h_es ex248 ?_
        refine own_istore (N := 7) (i := 0) (x := x248) (L := s.dc) d12_102 rfl (by decide) rfl (by decide) (by decide) hL.h_dc ?_
        refine W.aloadN d12_103 rfl rfl ?_
        refine W.getfield 15 d12_104 (hw _ (wd 51 rfl)) rfl rfl ?_
        refine W.aloadN d12_107 rfl rfl ?_
        refine W.getfield 20 d12_108 (hw _ (wd 61 rfl)) rfl rfl ?_
        refine W.iconst 0 d12_111 rfl ?_
        obtain ⟨x249, ex249, h⟩ := own_bd h
        refine own_iload (N := 7) (i := 0) (L := (s.df).set 0 x245) d12_112 rfl (by decide) (by decide) (by decide) (own_ls hL.h_df) ex249 ?_
        refine W.aloadN d12_113 rfl rfl ?_
        refine W.getfield 25 d12_114 (hw _ (wd 108 rfl)) rfl rfl ?_
        obtain ⟨c250, h⟩ := own_chk h
        refine own_istore (N := 7) (i := x249) (x := 1) (L := s.dn) d12_117 rfl rfl (by decide) c250 (by decide) hL.h_dn ?_
        show WB _ l Z n m12 118 [(.val (.ref 4)), (.val (.int (Int32.ofNat ctr))), (.val (.int (Int32.ofNat cnt))), (.val (.int (Int32.ofNat comp))), (.val (.int (Int32.ofNat root))), (.val (.int 0)), y6, y7, y8] [] (own_G 2 st 1 s.ec s.a0 s.a1 s.a2 s.a3 s.mv s.mp s.op s.es s.ee s.ev s.km s.re s.pp s.pq s.pt s.sz s.di ((s.dn).set x249 1) s.lo s.co s.io s.on ((s.df).set 0 x245) ((s.dc).set 0 x248)) _ _ _
        refine W.aloadN d12_118 rfl rfl ?_
        refine W.getfield 14 d12_119 (hw _ (wd 49 rfl)) rfl rfl ?_
        refine W.aloadN d12_122 rfl rfl ?_
        refine W.getfield 20 d12_123 (hw _ (wd 61 rfl)) rfl rfl ?_
        refine W.iconst 0 d12_126 rfl ?_
        obtain ⟨x251, ex251, h⟩ := own_bd h
        refine own_iload (N := 7) (i := 0) (L := (s.df).set 0 x245) d12_127 rfl (by decide) (by decide) (by decide) (own_ls hL.h_df) ex251 ?_
        refine W.iloadN d12_128 rfl ?_
        obtain ⟨c252, h⟩ := own_chk h
        refine own_istore (N := 7) (i := x251) (x := ctr) (L := s.di) d12_129 rfl rfl rfl c252 (by decide) hL.h_di ?_
        refine W.aloadN d12_130 rfl rfl ?_
        refine W.getfield 16 d12_131 (hw _ (wd 53 rfl)) rfl rfl ?_
        refine W.aloadN d12_134 rfl rfl ?_
        refine W.getfield 20 d12_135 (hw _ (wd 61 rfl)) rfl rfl ?_
        refine W.iconst 0 d12_138 rfl ?_
        obtain ⟨x253, ex253, h⟩ := own_bd h
        refine own_iload (N := 7) (i := 0) (L := (s.df).set 0 x245) d12_139 rfl (by decide) (by decide) (by decide) (own_ls hL.h_df) ex253 ?_
        refine W.iloadN d12_140 rfl ?_
        refine own_incN d12_141 rfl ?_
        obtain ⟨c254, h⟩ := own_chk h
        refine own_istore (N := 7) (i := x253) (x := ctr) (L := s.lo) d12_144 rfl rfl rfl c254 (by decide) hL.h_lo ?_
        refine W.aloadN d12_145 rfl rfl ?_
        refine W.getfield 18 d12_146 (hw _ (wd 57 rfl)) rfl rfl ?_
        refine W.aloadN d12_149 rfl rfl ?_
        refine W.getfield 20 d12_150 (hw _ (wd 61 rfl)) rfl rfl ?_
        refine W.iconst 0 d12_153 rfl ?_
        obtain ⟨x255, ex255, h⟩ := own_bd h
        refine own_iload (N := 7) (i := 0) (L := (s.df).set 0 x245) d12_154 rfl (by decide) (by decide) (by decide) (own_ls hL.h_df) ex255 ?_
        refine W.iconst 1 d12_155 rfl ?_
        obtain ⟨c256, h⟩ := own_chk h
        refine own_zstore (N := 7) (i := x255) (x := 1) (L := s.io) d12_156 rfl rfl (by decide) (by decide) c256 (by decide) hL.h_io ?_
        show WB _ l Z n m12 157 [(.val (.ref 4)), (.val (.int (Int32.ofNat (ctr + 1)))), (.val (.int (Int32.ofNat cnt))), (.val (.int (Int32.ofNat comp))), (.val (.int (Int32.ofNat root))), (.val (.int 0)), y6, y7, y8] [] (own_G 2 st 1 s.ec s.a0 s.a1 s.a2 s.a3 s.mv s.mp s.op s.es s.ee s.ev s.km s.re s.pp s.pq s.pt s.sz ((s.di).set x251 ctr) ((s.dn).set x249 1) ((s.lo).set x253 ctr) s.co ((s.io).set x255 1) s.on ((s.df).set 0 x245) ((s.dc).set 0 x248)) _ _ _
        refine W.aloadN d12_157 rfl rfl ?_
        refine W.getfield 19 d12_158 (hw _ (wd 59 rfl)) rfl rfl ?_
        refine W.iloadN d12_161 rfl ?_
        refine own_incN d12_162 rfl ?_
        refine W.aloadN d12_165 rfl rfl ?_
        refine W.getfield 20 d12_166 (hw _ (wd 61 rfl)) rfl rfl ?_
        refine W.iconst 0 d12_169 rfl ?_
        obtain ⟨x257, ex257, h⟩ := own_bd h
        refine own_iload (N := 7) (i := 0) (L := (s.df).set 0 x245) d12_170 rfl (by decide) (by decide) (by decide) (own_ls hL.h_df) ex257 ?_
        obtain ⟨c258, h⟩ := own_chk h
        refine own_istore (N := 7) (i := cnt) (x := x257) (L := s.on) d12_171 rfl rfl rfl c258 (by decide) hL.h_on ?_
        exact hK (own_tup s.ec s.a0 s.a1 s.a2 s.a3 s.mv s.mp s.op s.es s.ee s.ev s.km s.re s.pp s.pq s.pt s.sz ((s.di).set x251 ctr) ((s.dn).set x249 1) ((s.lo).set x253 ctr) s.co ((s.io).set x255 1) ((s.on).set cnt x257) ((s.df).set 0 x245) ((s.dc).set 0 x248)) (ctr + 1) (cnt + 1) comp root _ _ _ hy6 hy7 hy8 ⟨hL.h_a0, hL.h_a1, hL.h_a2, hL.h_a3, hL.h_mv, hL.h_mp, hL.h_op, hL.h_es, hL.h_ee, hL.h_ev, hL.h_km, hL.h_re, hL.h_pp, hL.h_pq, hL.h_pt, hL.h_sz, (own_ls hL.h_di), (own_ls hL.h_dn), (own_ls hL.h_lo), hL.h_co, (own_ls hL.h_io), (own_ls hL.h_on), (own_ls hL.h_df), (own_ls hL.h_dc)⟩ h
    · refine W.icmp_ge d12_44 (fun _ => ?_) (fun q => False.elim (own_ltn rfl (by decide) c237 (by decide) c238 q))
      exact W.leave d12_447 rfl (by decide) (by decide) (⟨rfl, s, h, hL, rfl⟩)
def own_lp : Nat → own_S → Nat → Nat → Nat → Nat → Nat → (own_S → Bool) → Bool
  | 0, _, _, _, _, _, _, _ => false
  | f + 1, s, ctr, cnt, comp, root, d, k => if d < 1000 then if d < 7 then own_bind (s.df.getD d 0) fun x261 => own_ns s x261 d fun s263 x262 => (if x262 = 4294967295 then if x261 < 7 then own_bind (s263.lo.getD x261 0) fun x267 => own_bind (s263.di.getD x261 0) fun x268 => (if x267 = x268 then own_pop 8 s263 cnt comp x261 fun s270 x272 => (if d = 0 then own_top 3 (fun s ctr cnt comp root => own_lp f s ctr cnt comp root 0 k) s270 ctr x272 (comp + 1) (root + 1) k else (if d - 1 = 4294967295 then own_lp f s270 ctr x272 (comp + 1) root (d - 1) k else if d - 1 < 1000 then if d - 1 < 7 then own_bind (s270.df.getD (d - 1) 0) fun x278 => if x278 < 7 then own_bind (s270.lo.getD x278 0) fun x280 => own_bind (s270.lo.getD x261 0) fun x281 => if x280 < 1000 then if x281 < 1000 then own_bind (if x281 < x280 then x281 else x280) fun x284 => own_lp f (own_tup s270.ec s270.a0 s270.a1 s270.a2 s270.a3 s270.mv s270.mp s270.op s270.es s270.ee s270.ev s270.km s270.re s270.pp s270.pq s270.pt s270.sz s270.di s270.dn ((s270.lo).set x278 x284) s270.co s270.io s270.on s270.df s270.dc) ctr x272 (comp + 1) root (d - 1) k else false else false else false else false else false)) else if x267 < 4294967296 then if x268 < 4294967296 then (if d = 0 then own_top 3 (fun s ctr cnt comp root => own_lp f s ctr cnt comp root 0 k) s263 ctr cnt comp (root + 1) k else (if d - 1 = 4294967295 then own_lp f s263 ctr cnt comp root (d - 1) k else if d - 1 < 1000 then if d - 1 < 7 then own_bind (s263.df.getD (d - 1) 0) fun x291 => if x291 < 7 then own_bind (s263.lo.getD x291 0) fun x293 => own_bind (s263.lo.getD x261 0) fun x294 => if x293 < 1000 then if x294 < 1000 then own_bind (if x294 < x293 then x294 else x293) fun x297 => own_lp f (own_tup s263.ec s263.a0 s263.a1 s263.a2 s263.a3 s263.mv s263.mp s263.op s263.es s263.ee s263.ev s263.km s263.re s263.pp s263.pq s263.pt s263.sz s263.di s263.dn ((s263.lo).set x291 x297) s263.co s263.io s263.on s263.df s263.dc) ctr cnt comp root (d - 1) k else false else false else false else false else false)) else false else false) else false else if x262 < 1000 then if x262 < 7 then own_bind (s263.dn.getD x262 0) fun x300 => (if x300 = 1 then own_bind (s263.io.getD x262 0) fun x302 => (if x302 = 0 then own_lp f s263 ctr cnt comp root d k else if x302 < 4294967296 then if x261 < 7 then own_bind (s263.lo.getD x261 0) fun x306 => own_bind (s263.di.getD x262 0) fun x307 => if x306 < 1000 then if x307 < 1000 then own_bind (if x307 < x306 then x307 else x306) fun x310 => own_lp f (own_tup s263.ec s263.a0 s263.a1 s263.a2 s263.a3 s263.mv s263.mp s263.op s263.es s263.ee s263.ev s263.km s263.re s263.pp s263.pq s263.pt s263.sz s263.di s263.dn ((s263.lo).set x261 x310) s263.co s263.io s263.on s263.df s263.dc) ctr cnt comp root d k else false else false else false else false) else if x300 < 4294967296 then if cnt < 7 then if d + 1 < 7 then (if x262 < 3 then if x262 < 3 then own_bind (s263.es.getD x262 0) fun x316 => own_lp f (own_tup s263.ec s263.a0 s263.a1 s263.a2 s263.a3 s263.mv s263.mp s263.op s263.es s263.ee s263.ev s263.km s263.re s263.pp s263.pq s263.pt s263.sz ((s263.di).set x262 ctr) ((s263.dn).set x262 1) ((s263.lo).set x262 ctr) s263.co ((s263.io).set x262 1) ((s263.on).set cnt x262) ((s263.df).set (d + 1) x262) ((s263.dc).set (d + 1) x316)) (ctr + 1) (cnt + 1) comp root (d + 1) k else false else own_lp f (own_tup s263.ec s263.a0 s263.a1 s263.a2 s263.a3 s263.mv s263.mp s263.op s263.es s263.ee s263.ev s263.km s263.re s263.pp s263.pq s263.pt s263.sz ((s263.di).set x262 ctr) ((s263.dn).set x262 1) ((s263.lo).set x262 ctr) s263.co ((s263.io).set x262 1) ((s263.on).set cnt x262) ((s263.df).set (d + 1) x262) ((s263.dc).set (d + 1) 0)) (ctr + 1) (cnt + 1) comp root (d + 1) k) else false else false else false) else false else false) else false else false
set_option maxRecDepth 65536 in
set_option maxHeartbeats 40000000 in
theorem t_lp {l : Launch} {Z : State} {a0 : Array Value} {n : Nat} (hw : ∀ d ∈ tables_1, d.before a0 Z = true) (st : Int32) (k : own_S → Bool) : ∀ (f : Nat) (s : own_S) (ctr cnt comp root d : Nat) (y6 : Slot) (y7 : Slot) (y8 : Slot) (hy6 : y6 = .unset ∨ ∃ z : Int32, y6 = .val (.int z)) (hy7 : y7 = .unset ∨ ∃ z : Int32, y7 = .val (.int z)) (hy8 : y8 = .unset ∨ ∃ z : Int32, y8 = .val (.int z)) (hL : own_L s) (h : own_lp f s ctr cnt comp root d k = true), W l Z n m12 172 [(.val (.ref 4)), (.val (.int (Int32.ofNat ctr))), (.val (.int (Int32.ofNat cnt))), (.val (.int (Int32.ofNat comp))), (.val (.int (Int32.ofNat root))), (.val (.int (Int32.ofNat d))), y6, y7, y8] [] (own_G 2 st 1 s.ec s.a0 s.a1 s.a2 s.a3 s.mv s.mp s.op s.es s.ee s.ev s.km s.re s.pp s.pq s.pt s.sz s.di s.dn s.lo s.co s.io s.on s.df s.dc) 0 0 (fun v H' => v = none ∧ ∃ s', k s' = true ∧ own_L s' ∧ H' = (own_G 2 st 1 (s'.ec) (s'.a0) (s'.a1) (s'.a2) (s'.a3) (s'.mv) (s'.mp) (s'.op) (s'.es) (s'.ee) (s'.ev) (s'.km) (s'.re) (s'.pp) (s'.pq) (s'.pt) (s'.sz) (s'.di) (s'.dn) (s'.lo) (s'.co) (s'.io) (s'.on) (s'.df) (s'.dc))) := by
  intro f
  induction f with
  | zero => intro s ctr cnt comp root d y6 y7 y8 hy6 hy7 hy8 hL h; exact absurd h (by simp [own_lp])
  | succ f ih =>
    intro s ctr cnt comp root d y6 y7 y8 hy6 hy7 hy8 hL h
    rw [own_lp] at h
    refine W.iload d12_172 rfl ?_
    obtain ⟨c259, h⟩ := own_chk h
    refine W.if_lt d12_174 (fun q => False.elim (own_posp rfl c259 q)) (fun _ => ?_)
    refine W.aloadN d12_177 rfl rfl ?_
    refine W.getfield 20 d12_178 (hw _ (wd 61 rfl)) rfl rfl ?_
    refine W.iload d12_181 rfl ?_
    obtain ⟨c260, h⟩ := own_chk h
    obtain ⟨x261, ex261, h⟩ := own_bd h
    refine own_iload (N := 7) (i := d) (L := s.df) d12_183 rfl rfl c260 (by decide) hL.h_df ex261 ?_
    refine W.istore d12_184 (by rcases hy6 with rfl | ⟨_, rfl⟩ <;> rfl) ?_
    refine W.aloadN d12_186 rfl rfl ?_
    refine W.iload d12_187 rfl ?_
    refine W.iload d12_189 rfl ?_
    refine W.callpX (M' := m13) d12_191 (hw _ (wd 110 rfl)) (hw _ (wd 111 rfl)) (hw _ (wd 112 rfl)) (hw _ (wd 4 rfl)) (t_ns hw st s x261 d _ hL h) (ok13 hw) rfl rfl rfl rfl ?_
    rintro _ _ ⟨x262, s263, rfl, h, hL264, rfl⟩
    refine W.istore d12_194 (by rcases hy7 with rfl | ⟨_, rfl⟩ <;> rfl) ?_
    refine W.iload d12_196 rfl ?_
    rcases own_br h with ⟨c265, h⟩ | ⟨c265, h⟩
    · refine W.if_lt d12_198 (fun _ => ?_) (fun q => False.elim (q (own_negp rfl c265)))
      refine W.aloadN d12_343 rfl rfl ?_
      refine W.getfield 16 d12_344 (hw _ (wd 53 rfl)) rfl rfl ?_
      refine W.iload d12_347 rfl ?_
      obtain ⟨c266, h⟩ := own_chk h
      obtain ⟨x267, ex267, h⟩ := own_bd h
      refine own_iload (N := 7) (i := x261) (L := s263.lo) d12_349 rfl rfl c266 (by decide) hL264.h_lo ex267 ?_
      refine W.aloadN d12_350 rfl rfl ?_
      refine W.getfield 14 d12_351 (hw _ (wd 49 rfl)) rfl rfl ?_
      refine W.iload d12_354 rfl ?_
      obtain ⟨x268, ex268, h⟩ := own_bd h
      refine own_iload (N := 7) (i := x261) (L := s263.di) d12_356 rfl rfl c266 (by decide) hL264.h_di ex268 ?_
      rcases own_br h with ⟨c269, h⟩ | ⟨c269, h⟩
      · refine W.icmp_ne d12_357 (fun q => False.elim (q (own_eqp rfl rfl c269))) (fun _ => ?_)
        refine t_pop hw st _ _ _ _ _ _ _ 8 s263 cnt _ hy8 hL264 h ?_
        intro s270 x272 z273 hL271 h
        refine own_incN d12_394 rfl ?_
        rcases own_br h with ⟨c274, h⟩ | ⟨c274, h⟩
        · refine own_dec0 d12_397 rfl c274 ?_
          refine W.iload d12_400 rfl ?_
          refine W.if_lt d12_402 (fun _ => ?_) (fun h => False.elim (by revert h; decide))
          refine W.goto d12_438 ?_
          refine W.iload d12_172 rfl ?_
          refine W.if_lt d12_174 (fun _ => ?_) (fun h => False.elim (by revert h; decide))
          refine own_incN d12_441 rfl ?_
          refine W.goto d12_444 ?_
          exact t_top hw st k _ (fun s ctr cnt comp root y6 y7 y8 h6 h7 h8 hL h => ih s ctr cnt comp root 0 y6 y7 y8 h6 h7 h8 hL h) 3 s270 ctr x272 (comp + 1) (root + 1) _ _ _ _ (Or.inr ⟨_, rfl⟩) (Or.inr ⟨_, rfl⟩) (Or.inr ⟨_, rfl⟩) (Or.inr ⟨_, rfl⟩) hL271 h
        · refine own_decN d12_397 rfl c274 ?_
          refine W.iload d12_400 rfl ?_
          rcases own_br h with ⟨c275, h⟩ | ⟨c275, h⟩
          · refine W.if_lt d12_402 (fun _ => ?_) (fun q => False.elim (q (own_negp rfl c275)))
            refine W.goto d12_438 ?_
            exact ih s270 ctr x272 (comp + 1) root (d - 1) _ _ _ (Or.inr ⟨_, rfl⟩) (Or.inr ⟨_, rfl⟩) (Or.inr ⟨_, rfl⟩) hL271 h
          · obtain ⟨c276, h⟩ := own_chk h
            refine W.if_lt d12_402 (fun q => False.elim (own_posp rfl c276 q)) (fun _ => ?_)
            refine W.aloadN d12_405 rfl rfl ?_
            refine W.getfield 20 d12_406 (hw _ (wd 61 rfl)) rfl rfl ?_
            refine W.iload d12_409 rfl ?_
            obtain ⟨c277, h⟩ := own_chk h
            obtain ⟨x278, ex278, h⟩ := own_bd h
            refine own_iload (N := 7) (i := d - 1) (L := s270.df) d12_411 rfl rfl c277 (by decide) hL271.h_df ex278 ?_
            refine W.istore d12_412 rfl ?_
            refine W.aloadN d12_414 rfl rfl ?_
            refine W.getfield 16 d12_415 (hw _ (wd 53 rfl)) rfl rfl ?_
            refine W.iload d12_418 rfl ?_
            refine W.aloadN d12_420 rfl rfl ?_
            refine W.getfield 16 d12_421 (hw _ (wd 53 rfl)) rfl rfl ?_
            refine W.iload d12_424 rfl ?_
            obtain ⟨c279, h⟩ := own_chk h
            obtain ⟨x280, ex280, h⟩ := own_bd h
            refine own_iload (N := 7) (i := x278) (L := s270.lo) d12_426 rfl rfl c279 (by decide) hL271.h_lo ex280 ?_
            refine W.aloadN d12_427 rfl rfl ?_
            refine W.getfield 16 d12_428 (hw _ (wd 53 rfl)) rfl rfl ?_
            refine W.iload d12_431 rfl ?_
            obtain ⟨x281, ex281, h⟩ := own_bd h
            refine own_iload (N := 7) (i := x261) (L := s270.lo) d12_433 rfl rfl c266 (by decide) hL271.h_lo ex281 ?_
            obtain ⟨c282, h⟩ := own_chk h
            obtain ⟨c283, h⟩ := own_chk h
            obtain ⟨x284, ex284, h⟩ := own_bd h
            refine W.callsV (M' := m15) d12_434 (hw _ (wd 119 rfl)) (hw _ (wd 120 rfl)) (t_min hw x280 x281 c282 c283 _) (ok15 hw) rfl rfl rfl ?_
            rw [← ex284]
            refine own_istore (N := 7) (i := x278) (x := x284) (L := s270.lo) d12_437 rfl rfl rfl c279 (by decide) hL271.h_lo ?_
            show WB _ l Z n m12 438 [(.val (.ref 4)), (.val (.int (Int32.ofNat ctr))), (.val (.int (Int32.ofNat x272))), (.val (.int (Int32.ofNat (comp + 1)))), (.val (.int (Int32.ofNat root))), (.val (.int (Int32.ofNat (d - 1)))), (.val (.int (Int32.ofNat x261))), (.val (.int (Int32.ofNat x262))), (.val (.int (Int32.ofNat x278)))] [] (own_G 2 st 1 s270.ec s270.a0 s270.a1 s270.a2 s270.a3 s270.mv s270.mp s270.op s270.es s270.ee s270.ev s270.km s270.re s270.pp s270.pq s270.pt s270.sz s270.di s270.dn ((s270.lo).set x278 x284) s270.co s270.io s270.on s270.df s270.dc) _ _ _
            refine W.goto d12_438 ?_
            exact ih (own_tup s270.ec s270.a0 s270.a1 s270.a2 s270.a3 s270.mv s270.mp s270.op s270.es s270.ee s270.ev s270.km s270.re s270.pp s270.pq s270.pt s270.sz s270.di s270.dn ((s270.lo).set x278 x284) s270.co s270.io s270.on s270.df s270.dc) ctr x272 (comp + 1) root (d - 1) _ _ _ (Or.inr ⟨_, rfl⟩) (Or.inr ⟨_, rfl⟩) (Or.inr ⟨_, rfl⟩) ⟨hL271.h_a0, hL271.h_a1, hL271.h_a2, hL271.h_a3, hL271.h_mv, hL271.h_mp, hL271.h_op, hL271.h_es, hL271.h_ee, hL271.h_ev, hL271.h_km, hL271.h_re, hL271.h_pp, hL271.h_pq, hL271.h_pt, hL271.h_sz, hL271.h_di, hL271.h_dn, (own_ls hL271.h_lo), hL271.h_co, hL271.h_io, hL271.h_on, hL271.h_df, hL271.h_dc⟩ h
      · obtain ⟨c285, h⟩ := own_chk h
        obtain ⟨c286, h⟩ := own_chk h
        refine W.icmp_ne d12_357 (fun _ => ?_) (fun q => False.elim (own_nep rfl rfl c285 c286 c269 q))
        rcases own_br h with ⟨c287, h⟩ | ⟨c287, h⟩
        · refine own_dec0 d12_397 rfl c287 ?_
          refine W.iload d12_400 rfl ?_
          refine W.if_lt d12_402 (fun _ => ?_) (fun h => False.elim (by revert h; decide))
          refine W.goto d12_438 ?_
          refine W.iload d12_172 rfl ?_
          refine W.if_lt d12_174 (fun _ => ?_) (fun h => False.elim (by revert h; decide))
          refine own_incN d12_441 rfl ?_
          show WB _ l Z n m12 444 [(.val (.ref 4)), (.val (.int (Int32.ofNat ctr))), (.val (.int (Int32.ofNat cnt))), (.val (.int (Int32.ofNat comp))), (.val (.int (Int32.ofNat (root + 1)))), (.val (.int (-1))), (.val (.int (Int32.ofNat x261))), (.val (.int (Int32.ofNat x262))), y8] [] (own_G 2 st 1 s263.ec s263.a0 s263.a1 s263.a2 s263.a3 s263.mv s263.mp s263.op s263.es s263.ee s263.ev s263.km s263.re s263.pp s263.pq s263.pt s263.sz s263.di s263.dn s263.lo s263.co s263.io s263.on s263.df s263.dc) _ _ _
          refine W.goto d12_444 ?_
          exact t_top hw st k _ (fun s ctr cnt comp root y6 y7 y8 h6 h7 h8 hL h => ih s ctr cnt comp root 0 y6 y7 y8 h6 h7 h8 hL h) 3 s263 ctr cnt comp (root + 1) _ _ _ _ (Or.inr ⟨_, rfl⟩) (Or.inr ⟨_, rfl⟩) (Or.inr ⟨_, rfl⟩) hy8 hL264 h
        · refine own_decN d12_397 rfl c287 ?_
          refine W.iload d12_400 rfl ?_
          rcases own_br h with ⟨c288, h⟩ | ⟨c288, h⟩
          · refine W.if_lt d12_402 (fun _ => ?_) (fun q => False.elim (q (own_negp rfl c288)))
            refine W.goto d12_438 ?_
            exact ih s263 ctr cnt comp root (d - 1) _ _ _ (Or.inr ⟨_, rfl⟩) (Or.inr ⟨_, rfl⟩) hy8 hL264 h
          · obtain ⟨c289, h⟩ := own_chk h
            refine W.if_lt d12_402 (fun q => False.elim (own_posp rfl c289 q)) (fun _ => ?_)
            refine W.aloadN d12_405 rfl rfl ?_
            refine W.getfield 20 d12_406 (hw _ (wd 61 rfl)) rfl rfl ?_
            refine W.iload d12_409 rfl ?_
            obtain ⟨c290, h⟩ := own_chk h
            obtain ⟨x291, ex291, h⟩ := own_bd h
            refine own_iload (N := 7) (i := d - 1) (L := s263.df) d12_411 rfl rfl c290 (by decide) hL264.h_df ex291 ?_
            refine W.istore d12_412 (by rcases hy8 with rfl | ⟨_, rfl⟩ <;> rfl) ?_
            show WB _ l Z n m12 414 [(.val (.ref 4)), (.val (.int (Int32.ofNat ctr))), (.val (.int (Int32.ofNat cnt))), (.val (.int (Int32.ofNat comp))), (.val (.int (Int32.ofNat root))), (.val (.int (Int32.ofNat (d - 1)))), (.val (.int (Int32.ofNat x261))), (.val (.int (Int32.ofNat x262))), (.val (.int (Int32.ofNat x291)))] [] (own_G 2 st 1 s263.ec s263.a0 s263.a1 s263.a2 s263.a3 s263.mv s263.mp s263.op s263.es s263.ee s263.ev s263.km s263.re s263.pp s263.pq s263.pt s263.sz s263.di s263.dn s263.lo s263.co s263.io s263.on s263.df s263.dc) _ _ _
            refine W.aloadN d12_414 rfl rfl ?_
            refine W.getfield 16 d12_415 (hw _ (wd 53 rfl)) rfl rfl ?_
            refine W.iload d12_418 rfl ?_
            refine W.aloadN d12_420 rfl rfl ?_
            refine W.getfield 16 d12_421 (hw _ (wd 53 rfl)) rfl rfl ?_
            refine W.iload d12_424 rfl ?_
            obtain ⟨c292, h⟩ := own_chk h
            obtain ⟨x293, ex293, h⟩ := own_bd h
            refine own_iload (N := 7) (i := x291) (L := s263.lo) d12_426 rfl rfl c292 (by decide) hL264.h_lo ex293 ?_
            refine W.aloadN d12_427 rfl rfl ?_
            refine W.getfield 16 d12_428 (hw _ (wd 53 rfl)) rfl rfl ?_
            refine W.iload d12_431 rfl ?_
            obtain ⟨x294, ex294, h⟩ := own_bd h
            refine own_iload (N := 7) (i := x261) (L := s263.lo) d12_433 rfl rfl c266 (by decide) hL264.h_lo ex294 ?_
            obtain ⟨c295, h⟩ := own_chk h
            obtain ⟨c296, h⟩ := own_chk h
            obtain ⟨x297, ex297, h⟩ := own_bd h
            refine W.callsV (M' := m15) d12_434 (hw _ (wd 119 rfl)) (hw _ (wd 120 rfl)) (t_min hw x293 x294 c295 c296 _) (ok15 hw) rfl rfl rfl ?_
            rw [← ex297]
            refine own_istore (N := 7) (i := x291) (x := x297) (L := s263.lo) d12_437 rfl rfl rfl c292 (by decide) hL264.h_lo ?_
            refine W.goto d12_438 ?_
            exact ih (own_tup s263.ec s263.a0 s263.a1 s263.a2 s263.a3 s263.mv s263.mp s263.op s263.es s263.ee s263.ev s263.km s263.re s263.pp s263.pq s263.pt s263.sz s263.di s263.dn ((s263.lo).set x291 x297) s263.co s263.io s263.on s263.df s263.dc) ctr cnt comp root (d - 1) _ _ _ (Or.inr ⟨_, rfl⟩) (Or.inr ⟨_, rfl⟩) (Or.inr ⟨_, rfl⟩) ⟨hL264.h_a0, hL264.h_a1, hL264.h_a2, hL264.h_a3, hL264.h_mv, hL264.h_mp, hL264.h_op, hL264.h_es, hL264.h_ee, hL264.h_ev, hL264.h_km, hL264.h_re, hL264.h_pp, hL264.h_pq, hL264.h_pt, hL264.h_sz, hL264.h_di, hL264.h_dn, (own_ls hL264.h_lo), hL264.h_co, hL264.h_io, hL264.h_on, hL264.h_df, hL264.h_dc⟩ h
    · obtain ⟨c298, h⟩ := own_chk h
      refine W.if_lt d12_198 (fun q => False.elim (own_posp rfl c298 q)) (fun _ => ?_)
      refine W.aloadN d12_201 rfl rfl ?_
      refine W.getfield 15 d12_202 (hw _ (wd 51 rfl)) rfl rfl ?_
      refine W.iload d12_205 rfl ?_
      obtain ⟨c299, h⟩ := own_chk h
      obtain ⟨x300, ex300, h⟩ := own_bd h
      refine own_iload (N := 7) (i := x262) (L := s263.dn) d12_207 rfl rfl c299 (by decide) hL264.h_dn ex300 ?_
      refine W.aloadN d12_208 rfl rfl ?_
      refine W.getfield 25 d12_209 (hw _ (wd 108 rfl)) rfl rfl ?_
      rcases own_br h with ⟨c301, h⟩ | ⟨c301, h⟩
      · refine W.icmp_eq d12_212 (fun _ => ?_) (fun q => False.elim (q (own_eqp rfl (by decide) c301)))
        refine W.aloadN d12_306 rfl rfl ?_
        refine W.getfield 18 d12_307 (hw _ (wd 57 rfl)) rfl rfl ?_
        refine W.iload d12_310 rfl ?_
        obtain ⟨x302, ex302, h⟩ := own_bd h
        refine own_zload (N := 7) (i := x262) (L := s263.io) d12_312 rfl rfl c299 (by decide) hL264.h_io ex302 ?_
        rcases own_br h with ⟨c303, h⟩ | ⟨c303, h⟩
        · refine W.if_eq d12_313 (fun _ => ?_) (fun q => False.elim (q (own_eqp rfl (by decide) c303)))
          exact ih s263 ctr cnt comp root d _ _ _ (Or.inr ⟨_, rfl⟩) (Or.inr ⟨_, rfl⟩) hy8 hL264 h
        · obtain ⟨c304, h⟩ := own_chk h
          refine W.if_eq d12_313 (fun q => False.elim (own_nep rfl (by decide) c304 (by decide) c303 q)) (fun _ => ?_)
          refine W.aloadN d12_316 rfl rfl ?_
          refine W.getfield 16 d12_317 (hw _ (wd 53 rfl)) rfl rfl ?_
          refine W.iload d12_320 rfl ?_
          refine W.aloadN d12_322 rfl rfl ?_
          refine W.getfield 16 d12_323 (hw _ (wd 53 rfl)) rfl rfl ?_
          refine W.iload d12_326 rfl ?_
          obtain ⟨c305, h⟩ := own_chk h
          obtain ⟨x306, ex306, h⟩ := own_bd h
          refine own_iload (N := 7) (i := x261) (L := s263.lo) d12_328 rfl rfl c305 (by decide) hL264.h_lo ex306 ?_
          refine W.aloadN d12_329 rfl rfl ?_
          refine W.getfield 14 d12_330 (hw _ (wd 49 rfl)) rfl rfl ?_
          refine W.iload d12_333 rfl ?_
          obtain ⟨x307, ex307, h⟩ := own_bd h
          refine own_iload (N := 7) (i := x262) (L := s263.di) d12_335 rfl rfl c299 (by decide) hL264.h_di ex307 ?_
          obtain ⟨c308, h⟩ := own_chk h
          obtain ⟨c309, h⟩ := own_chk h
          obtain ⟨x310, ex310, h⟩ := own_bd h
          refine W.callsV (M' := m15) d12_336 (hw _ (wd 119 rfl)) (hw _ (wd 120 rfl)) (t_min hw x306 x307 c308 c309 _) (ok15 hw) rfl rfl rfl ?_
          rw [← ex310]
          refine own_istore (N := 7) (i := x261) (x := x310) (L := s263.lo) d12_339 rfl rfl rfl c305 (by decide) hL264.h_lo ?_
          refine W.goto d12_340 ?_
          exact ih (own_tup s263.ec s263.a0 s263.a1 s263.a2 s263.a3 s263.mv s263.mp s263.op s263.es s263.ee s263.ev s263.km s263.re s263.pp s263.pq s263.pt s263.sz s263.di s263.dn ((s263.lo).set x261 x310) s263.co s263.io s263.on s263.df s263.dc) ctr cnt comp root d _ _ _ (Or.inr ⟨_, rfl⟩) (Or.inr ⟨_, rfl⟩) hy8 ⟨hL264.h_a0, hL264.h_a1, hL264.h_a2, hL264.h_a3, hL264.h_mv, hL264.h_mp, hL264.h_op, hL264.h_es, hL264.h_ee, hL264.h_ev, hL264.h_km, hL264.h_re, hL264.h_pp, hL264.h_pq, hL264.h_pt, hL264.h_sz, hL264.h_di, hL264.h_dn, (own_ls hL264.h_lo), hL264.h_co, hL264.h_io, hL264.h_on, hL264.h_df, hL264.h_dc⟩ h
      · obtain ⟨c311, h⟩ := own_chk h
        refine W.icmp_eq d12_212 (fun q => False.elim (own_nep rfl (by decide) c311 (by decide) c301 q)) (fun _ => ?_)
        refine W.aloadN d12_215 rfl rfl ?_
        refine W.getfield 15 d12_216 (hw _ (wd 51 rfl)) rfl rfl ?_
        refine W.iload d12_219 rfl ?_
        refine W.aloadN d12_221 rfl rfl ?_
        refine W.getfield 25 d12_222 (hw _ (wd 108 rfl)) rfl rfl ?_
        refine own_istore (N := 7) (i := x262) (x := 1) (L := s263.dn) d12_225 rfl rfl (by decide) c299 (by decide) hL264.h_dn ?_
        refine W.aloadN d12_226 rfl rfl ?_
        refine W.getfield 14 d12_227 (hw _ (wd 49 rfl)) rfl rfl ?_
        refine W.iload d12_230 rfl ?_
        refine W.iloadN d12_232 rfl ?_
        refine own_istore (N := 7) (i := x262) (x := ctr) (L := s263.di) d12_233 rfl rfl rfl c299 (by decide) hL264.h_di ?_
        show WB _ l Z n m12 234 [(.val (.ref 4)), (.val (.int (Int32.ofNat ctr))), (.val (.int (Int32.ofNat cnt))), (.val (.int (Int32.ofNat comp))), (.val (.int (Int32.ofNat root))), (.val (.int (Int32.ofNat d))), (.val (.int (Int32.ofNat x261))), (.val (.int (Int32.ofNat x262))), y8] [] (own_G 2 st 1 s263.ec s263.a0 s263.a1 s263.a2 s263.a3 s263.mv s263.mp s263.op s263.es s263.ee s263.ev s263.km s263.re s263.pp s263.pq s263.pt s263.sz ((s263.di).set x262 ctr) ((s263.dn).set x262 1) s263.lo s263.co s263.io s263.on s263.df s263.dc) _ _ _
        refine W.aloadN d12_234 rfl rfl ?_
        refine W.getfield 16 d12_235 (hw _ (wd 53 rfl)) rfl rfl ?_
        refine W.iload d12_238 rfl ?_
        refine W.iloadN d12_240 rfl ?_
        refine own_incN d12_241 rfl ?_
        refine own_istore (N := 7) (i := x262) (x := ctr) (L := s263.lo) d12_244 rfl rfl rfl c299 (by decide) hL264.h_lo ?_
        refine W.aloadN d12_245 rfl rfl ?_
        refine W.getfield 18 d12_246 (hw _ (wd 57 rfl)) rfl rfl ?_
        refine W.iload d12_249 rfl ?_
        refine W.iconst 1 d12_251 rfl ?_
        refine own_zstore (N := 7) (i := x262) (x := 1) (L := s263.io) d12_252 rfl rfl (by decide) (by decide) c299 (by decide) hL264.h_io ?_
        refine W.aloadN d12_253 rfl rfl ?_
        refine W.getfield 19 d12_254 (hw _ (wd 59 rfl)) rfl rfl ?_
        refine W.iloadN d12_257 rfl ?_
        refine own_incN d12_258 rfl ?_
        show WB _ l Z n m12 261 [(.val (.ref 4)), (.val (.int (Int32.ofNat (ctr + 1)))), (.val (.int (Int32.ofNat (cnt + 1)))), (.val (.int (Int32.ofNat comp))), (.val (.int (Int32.ofNat root))), (.val (.int (Int32.ofNat d))), (.val (.int (Int32.ofNat x261))), (.val (.int (Int32.ofNat x262))), y8] [(.int (Int32.ofNat cnt)), (.ref 22)] (own_G 2 st 1 s263.ec s263.a0 s263.a1 s263.a2 s263.a3 s263.mv s263.mp s263.op s263.es s263.ee s263.ev s263.km s263.re s263.pp s263.pq s263.pt s263.sz ((s263.di).set x262 ctr) ((s263.dn).set x262 1) ((s263.lo).set x262 ctr) s263.co ((s263.io).set x262 1) s263.on s263.df s263.dc) _ _ _
        refine W.iload d12_261 rfl ?_
        obtain ⟨c312, h⟩ := own_chk h
        refine own_istore (N := 7) (i := cnt) (x := x262) (L := s263.on) d12_263 rfl rfl rfl c312 (by decide) hL264.h_on ?_
        refine own_incN d12_264 rfl ?_
        refine W.aloadN d12_267 rfl rfl ?_
        refine W.getfield 20 d12_268 (hw _ (wd 61 rfl)) rfl rfl ?_
        refine W.iload d12_271 rfl ?_
        refine W.iload d12_273 rfl ?_
        obtain ⟨c313, h⟩ := own_chk h
        refine own_istore (N := 7) (i := d + 1) (x := x262) (L := s263.df) d12_275 rfl rfl rfl c313 (by decide) hL264.h_df ?_
        refine W.aloadN d12_276 rfl rfl ?_
        refine W.getfield 21 d12_277 (hw _ (wd 63 rfl)) rfl rfl ?_
        refine W.iload d12_280 rfl ?_
        refine W.iload d12_282 rfl ?_
        refine W.aloadN d12_284 rfl rfl ?_
        refine W.getfield 0 d12_285 (hw _ (wd 12 rfl)) rfl rfl ?_
        rcases own_br h with ⟨c314, h⟩ | ⟨c314, h⟩
        · refine W.icmp_ge d12_288 (fun q => False.elim (q (own_ltp rfl (by decide) c298 (by decide) c314))) (fun _ => ?_)
          refine W.aloadN d12_291 rfl rfl ?_
          refine W.getfield 5 d12_292 (hw _ (wd 26 rfl)) rfl rfl ?_
          refine W.iload d12_295 rfl ?_
          obtain ⟨c315, h⟩ := own_chk h
          obtain ⟨x316, ex316, h⟩ := own_bd h
          refine own_iload (N := 3) (i := x262) (L := s263.es) d12_297 rfl rfl c315 (by decide) hL264.h_es ex316 ?_
          refine W.goto d12_298 ?_
          refine own_istore (N := 7) (i := d + 1) (x := x316) (L := s263.dc) d12_302 rfl rfl rfl c313 (by decide) hL264.h_dc ?_
          show WB _ l Z n m12 303 [(.val (.ref 4)), (.val (.int (Int32.ofNat (ctr + 1)))), (.val (.int (Int32.ofNat (cnt + 1)))), (.val (.int (Int32.ofNat comp))), (.val (.int (Int32.ofNat root))), (.val (.int (Int32.ofNat (d + 1)))), (.val (.int (Int32.ofNat x261))), (.val (.int (Int32.ofNat x262))), y8] [] (own_G 2 st 1 s263.ec s263.a0 s263.a1 s263.a2 s263.a3 s263.mv s263.mp s263.op s263.es s263.ee s263.ev s263.km s263.re s263.pp s263.pq s263.pt s263.sz ((s263.di).set x262 ctr) ((s263.dn).set x262 1) ((s263.lo).set x262 ctr) s263.co ((s263.io).set x262 1) ((s263.on).set cnt x262) ((s263.df).set (d + 1) x262) ((s263.dc).set (d + 1) x316)) _ _ _
          refine W.goto d12_303 ?_
          exact ih (own_tup s263.ec s263.a0 s263.a1 s263.a2 s263.a3 s263.mv s263.mp s263.op s263.es s263.ee s263.ev s263.km s263.re s263.pp s263.pq s263.pt s263.sz ((s263.di).set x262 ctr) ((s263.dn).set x262 1) ((s263.lo).set x262 ctr) s263.co ((s263.io).set x262 1) ((s263.on).set cnt x262) ((s263.df).set (d + 1) x262) ((s263.dc).set (d + 1) x316)) (ctr + 1) (cnt + 1) comp root (d + 1) _ _ _ (Or.inr ⟨_, rfl⟩) (Or.inr ⟨_, rfl⟩) hy8 ⟨hL264.h_a0, hL264.h_a1, hL264.h_a2, hL264.h_a3, hL264.h_mv, hL264.h_mp, hL264.h_op, hL264.h_es, hL264.h_ee, hL264.h_ev, hL264.h_km, hL264.h_re, hL264.h_pp, hL264.h_pq, hL264.h_pt, hL264.h_sz, (own_ls hL264.h_di), (own_ls hL264.h_dn), (own_ls hL264.h_lo), hL264.h_co, (own_ls hL264.h_io), (own_ls hL264.h_on), (own_ls hL264.h_df), (own_ls hL264.h_dc)⟩ h
        · refine W.icmp_ge d12_288 (fun _ => ?_) (fun q => False.elim (own_ltn rfl (by decide) c298 (by decide) c314 q))
          refine W.iconst 0 d12_301 rfl ?_
          refine own_istore (N := 7) (i := d + 1) (x := 0) (L := s263.dc) d12_302 rfl rfl (by decide) c313 (by decide) hL264.h_dc ?_
          show WB _ l Z n m12 303 [(.val (.ref 4)), (.val (.int (Int32.ofNat (ctr + 1)))), (.val (.int (Int32.ofNat (cnt + 1)))), (.val (.int (Int32.ofNat comp))), (.val (.int (Int32.ofNat root))), (.val (.int (Int32.ofNat (d + 1)))), (.val (.int (Int32.ofNat x261))), (.val (.int (Int32.ofNat x262))), y8] [] (own_G 2 st 1 s263.ec s263.a0 s263.a1 s263.a2 s263.a3 s263.mv s263.mp s263.op s263.es s263.ee s263.ev s263.km s263.re s263.pp s263.pq s263.pt s263.sz ((s263.di).set x262 ctr) ((s263.dn).set x262 1) ((s263.lo).set x262 ctr) s263.co ((s263.io).set x262 1) ((s263.on).set cnt x262) ((s263.df).set (d + 1) x262) ((s263.dc).set (d + 1) 0)) _ _ _
          refine W.goto d12_303 ?_
          exact ih (own_tup s263.ec s263.a0 s263.a1 s263.a2 s263.a3 s263.mv s263.mp s263.op s263.es s263.ee s263.ev s263.km s263.re s263.pp s263.pq s263.pt s263.sz ((s263.di).set x262 ctr) ((s263.dn).set x262 1) ((s263.lo).set x262 ctr) s263.co ((s263.io).set x262 1) ((s263.on).set cnt x262) ((s263.df).set (d + 1) x262) ((s263.dc).set (d + 1) 0)) (ctr + 1) (cnt + 1) comp root (d + 1) _ _ _ (Or.inr ⟨_, rfl⟩) (Or.inr ⟨_, rfl⟩) hy8 ⟨hL264.h_a0, hL264.h_a1, hL264.h_a2, hL264.h_a3, hL264.h_mv, hL264.h_mp, hL264.h_op, hL264.h_es, hL264.h_ee, hL264.h_ev, hL264.h_km, hL264.h_re, hL264.h_pp, hL264.h_pq, hL264.h_pt, hL264.h_sz, (own_ls hL264.h_di), (own_ls hL264.h_dn), (own_ls hL264.h_lo), hL264.h_co, (own_ls hL264.h_io), (own_ls hL264.h_on), (own_ls hL264.h_df), (own_ls hL264.h_dc)⟩ h
def own_fc (s : own_S) (k : own_S → Bool) : Bool :=
  own_top 3 (fun s ctr cnt comp root => own_lp 60 s ctr cnt comp root 0 k) s 0 0 0 0 k
set_option maxRecDepth 65536 in
set_option maxHeartbeats 40000000 in
theorem t_fc {l : Launch} {Z : State} {a0 : Array Value} {n : Nat} (hw : ∀ d ∈ tables_1, d.before a0 Z = true) (st : Int32) (s : own_S) (k : own_S → Bool) (hL : own_L s) (h : own_fc s k = true) : W l Z n m12 0 (entryL [(.ref 4)] 9) [] (own_G 2 st 0 s.ec s.a0 s.a1 s.a2 s.a3 s.mv s.mp s.op s.es s.ee s.ev s.km s.re s.pp s.pq s.pt s.sz s.di s.dn s.lo s.co s.io s.on s.df s.dc) 0 0 (fun v H' => v = none ∧ ∃ s', k s' = true ∧ own_L s' ∧ H' = (own_G 2 st 1 (s'.ec) (s'.a0) (s'.a1) (s'.a2) (s'.a3) (s'.mv) (s'.mp) (s'.op) (s'.es) (s'.ee) (s'.ev) (s'.km) (s'.re) (s'.pp) (s'.pq) (s'.pt) (s'.sz) (s'.di) (s'.dn) (s'.lo) (s'.co) (s'.io) (s'.on) (s'.df) (s'.dc))) := by
  show W l Z n m12 0 [(.val (.ref 4)), .unset, .unset, .unset, .unset, .unset, .unset, .unset, .unset] [] (own_G 2 st 0 s.ec s.a0 s.a1 s.a2 s.a3 s.mv s.mp s.op s.es s.ee s.ev s.km s.re s.pp s.pq s.pt s.sz s.di s.dn s.lo s.co s.io s.on s.df s.dc) 0 0 _
  unfold own_fc at h
  refine W.aloadN d12_0 rfl rfl ?_
  refine W.dup d12_1 rfl ?_
  refine W.getfield 25 d12_2 (hw _ (wd 108 rfl)) rfl rfl ?_
  refine W.iconst 1 d12_5 rfl ?_
  refine W.iadd d12_6 ?_
  refine W.dupX1 d12_7 rfl rfl ?_
  refine W.putfield 25 d12_8 (hw _ (wd 108 rfl)) rfl rfl (Or.inl (hw _ (wd 109 rfl))) (hw _ (wd 4 rfl)) (ty := .int) (by decide) (fun _ => rfl) (fun _ => rfl) ?_
  refine W.ldc d12_11 (hw _ (wd 98 rfl)) ?_
  refine W.icmp_ne d12_13 (fun _ => ?_) (fun h => False.elim (by revert h; decide))
  refine W.iconst 0 d12_29 rfl ?_
  refine W.istoreN d12_30 rfl ?_
  refine W.iconst 0 d12_31 rfl ?_
  refine W.istoreN d12_32 rfl ?_
  refine W.iconst 0 d12_33 rfl ?_
  refine W.istoreN d12_34 rfl ?_
  show WB _ l Z n m12 35 [(.val (.ref 4)), (.val (.int 0)), (.val (.int 0)), (.val (.int 0)), .unset, .unset, .unset, .unset, .unset] [] (own_G 2 st 1 s.ec s.a0 s.a1 s.a2 s.a3 s.mv s.mp s.op s.es s.ee s.ev s.km s.re s.pp s.pq s.pt s.sz s.di s.dn s.lo s.co s.io s.on s.df s.dc) _ _ _
  refine W.iconst 0 d12_35 rfl ?_
  refine W.istore d12_36 rfl ?_
  exact t_top hw st k _ (fun s ctr cnt comp root y6 y7 y8 h6 h7 h8 hL h => t_lp hw st k 60 s ctr cnt comp root 0 y6 y7 y8 h6 h7 h8 hL h) 3 s 0 0 0 0 _ _ _ _ (Or.inl rfl) (Or.inl rfl) (Or.inl rfl) (Or.inl rfl) hL h
def own_iis (s : own_S) (p e : Nat) (k : own_S → Nat → Bool) : Bool :=
  if e < 16 then own_bind (s.ev.getD e 0) fun x318 => if p < 3 then own_bind (s.mv.getD p 0) fun x320 => (if x320 = x318 then k s 1 else if x320 < 4294967296 then if x318 < 4294967296 then if 3 + x318 < 7 then own_bind (s.co.getD (3 + x318) 0) fun x325 => own_bind (s.co.getD p 0) fun x326 => (if x325 = x326 then k s 1 else if x325 < 4294967296 then if x326 < 4294967296 then k s 0 else false else false) else false else false else false) else false else false
set_option maxRecDepth 65536 in
set_option maxHeartbeats 40000000 in
theorem t_iis {l : Launch} {Z : State} {a0 : Array Value} {n : Nat} (hw : ∀ d ∈ tables_1, d.before a0 Z = true) (st : Int32) (s : own_S) (p e : Nat) (k : own_S → Nat → Bool) (hL : own_L s) (h : own_iis s p e k = true) : W l Z n m14 0 (entryL [(.ref 4), (.int (Int32.ofNat p)), (.int (Int32.ofNat e))] 4) [] (own_G 2 st 1 s.ec s.a0 s.a1 s.a2 s.a3 s.mv s.mp s.op s.es s.ee s.ev s.km s.re s.pp s.pq s.pt s.sz s.di s.dn s.lo s.co s.io s.on s.df s.dc) 0 0 (fun v H' => ∃ u, v = some u ∧ ∃ r s', u = Value.int (Int32.ofNat r) ∧ k s' r = true ∧ own_L s' ∧ H' = (own_G 2 st 1 (s'.ec) (s'.a0) (s'.a1) (s'.a2) (s'.a3) (s'.mv) (s'.mp) (s'.op) (s'.es) (s'.ee) (s'.ev) (s'.km) (s'.re) (s'.pp) (s'.pq) (s'.pt) (s'.sz) (s'.di) (s'.dn) (s'.lo) (s'.co) (s'.io) (s'.on) (s'.df) (s'.dc))) := by
  show W l Z n m14 0 [(.val (.ref 4)), (.val (.int (Int32.ofNat p))), (.val (.int (Int32.ofNat e))), .unset] [] (own_G 2 st 1 s.ec s.a0 s.a1 s.a2 s.a3 s.mv s.mp s.op s.es s.ee s.ev s.km s.re s.pp s.pq s.pt s.sz s.di s.dn s.lo s.co s.io s.on s.df s.dc) 0 0 _
  unfold own_iis at h
  refine W.aloadN d14_0 rfl rfl ?_
  refine W.getfield 7 d14_1 (hw _ (wd 34 rfl)) rfl rfl ?_
  refine W.iloadN d14_4 rfl ?_
  obtain ⟨c317, h⟩ := own_chk h
  obtain ⟨x318, ex318, h⟩ := own_bd h
  refine own_iload (N := 16) (i := e) (L := s.ev) d14_5 rfl rfl c317 (by decide) hL.h_ev ex318 ?_
  refine W.istoreN d14_6 rfl ?_
  refine W.aloadN d14_7 rfl rfl ?_
  refine W.getfield 2 d14_8 (hw _ (wd 16 rfl)) rfl rfl ?_
  refine W.iloadN d14_11 rfl ?_
  obtain ⟨c319, h⟩ := own_chk h
  obtain ⟨x320, ex320, h⟩ := own_bd h
  refine own_iload (N := 3) (i := p) (L := s.mv) d14_12 rfl rfl c319 (by decide) hL.h_mv ex320 ?_
  refine W.iloadN d14_13 rfl ?_
  rcases own_br h with ⟨c321, h⟩ | ⟨c321, h⟩
  · refine W.icmp_eq d14_14 (fun _ => ?_) (fun q => False.elim (q (own_eqp rfl rfl c321)))
    refine W.iconst 1 d14_37 rfl ?_
    refine W.goto d14_38 ?_
    exact W.nreturn .boolean d14_42 rfl (by simp) (by decide) (by decide) (⟨_, rfl, 1, s, by decide, h, hL, rfl⟩)
  · obtain ⟨c322, h⟩ := own_chk h
    obtain ⟨c323, h⟩ := own_chk h
    refine W.icmp_eq d14_14 (fun q => False.elim (own_nep rfl rfl c322 c323 c321 q)) (fun _ => ?_)
    refine W.aloadN d14_17 rfl rfl ?_
    refine W.getfield 17 d14_18 (hw _ (wd 55 rfl)) rfl rfl ?_
    refine W.aloadN d14_21 rfl rfl ?_
    refine W.getfield 0 d14_22 (hw _ (wd 12 rfl)) rfl rfl ?_
    refine W.iloadN d14_25 rfl ?_
    refine own_addN (x := 3) (y := x318) d14_26 (by decide) rfl ?_
    obtain ⟨c324, h⟩ := own_chk h
    obtain ⟨x325, ex325, h⟩ := own_bd h
    refine own_iload (N := 7) (i := 3 + x318) (L := s.co) d14_27 rfl rfl c324 (by decide) hL.h_co ex325 ?_
    refine W.aloadN d14_28 rfl rfl ?_
    refine W.getfield 17 d14_29 (hw _ (wd 55 rfl)) rfl rfl ?_
    refine W.iloadN d14_32 rfl ?_
    obtain ⟨x326, ex326, h⟩ := own_bd h
    refine own_iload (N := 7) (i := p) (L := s.co) d14_33 rfl rfl (Nat.lt_of_lt_of_le c319 (by decide)) (by decide) hL.h_co ex326 ?_
    rcases own_br h with ⟨c327, h⟩ | ⟨c327, h⟩
    · refine W.icmp_ne d14_34 (fun q => False.elim (q (own_eqp rfl rfl c327))) (fun _ => ?_)
      refine W.iconst 1 d14_37 rfl ?_
      refine W.goto d14_38 ?_
      exact W.nreturn .boolean d14_42 rfl (by simp) (by decide) (by decide) (⟨_, rfl, 1, s, by decide, h, hL, rfl⟩)
    · obtain ⟨c328, h⟩ := own_chk h
      obtain ⟨c329, h⟩ := own_chk h
      refine W.icmp_ne d14_34 (fun _ => ?_) (fun q => False.elim (own_nep rfl rfl c328 c329 c327 q))
      refine W.iconst 0 d14_41 rfl ?_
      exact W.nreturn .boolean d14_42 rfl (by simp) (by decide) (by decide) (⟨_, rfl, 0, s, by decide, h, hL, rfl⟩)
def own_tail (s : own_S) (p1 p2 m1 m2 r1 r2 : Nat) : Bool :=
  own_open0 s p1 fun s330 => own_edges0 s330 m1 r1 fun s333 x332 => own_open1 s333 p2 fun s335 => own_edges1 s335 m2 r2 fun s338 x337 => (if m1 = 0 then own_match s338 fun s342 t344 x341 => (if x341 = 0 then true else if x341 < 4294967296 then false else false) else if m1 < 4294967296 then (if m2 = 0 then own_match s338 fun s350 t352 x349 => (if x349 = 0 then true else if x349 < 4294967296 then false else false) else if m2 < 4294967296 then own_match s338 fun s357 t359 x356 => (if x356 = 0 then false else if x356 < 4294967296 then own_fc s357 fun s362 => ((if 0 < x332 then if x332 < 1000 then own_all x332 fun k364 => if k364 < 3 then own_bind (s362.a0.getD k364 0) fun x368 => own_bind (s362.a1.getD k364 0) fun x369 => if m2 < 8 then if x368 < 3 then (if own_oth m2 x368 = 0 then own_iis s362 p1 x369 fun s374 x373 => (if x373 = 0 then true else if x373 < 4294967296 then false else false) else if own_oth m2 x368 < 4294967296 then own_iis s362 p1 x369 fun s380 x379 => (if x379 = 1 then true else if x379 < 4294967296 then false else false) else false) else false else false else false else false else false) && (if 0 < x337 then if x337 < 1000 then own_all x337 fun k384 => if k384 < 3 then own_bind (s362.a2.getD k384 0) fun x388 => own_bind (s362.a3.getD k384 0) fun x389 => if m1 < 8 then if x388 < 3 then (if own_oth m1 x388 = 0 then own_iis s362 p2 x389 fun s394 x393 => (if x393 = 0 then true else if x393 < 4294967296 then false else false) else if own_oth m1 x388 < 4294967296 then own_iis s362 p2 x389 fun s400 x399 => (if x399 = 1 then true else if x399 < 4294967296 then false else false) else false) else false else false else false else false else false)) else false) else false) else false)
set_option maxRecDepth 65536 in
set_option maxHeartbeats 40000000 in
theorem w_tail {l : Launch} {Z : State} {a0 : Array Value} {n : Nat} (hw : ∀ d ∈ tables_1, d.before a0 Z = true) (a b c f9 : Int32) (s : own_S) (p1 p2 m1 m2 r1 r2 : Nat) (hL : own_L s) (h : own_tail s p1 p2 m1 m2 r1 r2 = true) : W l Z n m0 175 [(.val (.int (a))), (.val (.int (b))), (.val (.int (c))), (.val (.int (Int32.ofNat p1))), (.val (.int (Int32.ofNat p2))), (.val (.int (Int32.ofNat m1))), (.val (.int (Int32.ofNat m2))), (.val (.int (Int32.ofNat r1))), (.val (.int (Int32.ofNat r2))), (.val (.int (f9))), (.val (.ref 0)), (.val (.ref 1)), (.val (.ref 2)), (.val (.ref 3)), (.val (.ref 4)), .unset, .unset, .unset, .unset, .unset, .unset, .unset, .unset, .unset, .unset, .unset, .unset] [] (own_G 0 0 0 s.ec s.a0 s.a1 s.a2 s.a3 s.mv s.mp s.op s.es s.ee s.ev s.km s.re s.pp s.pq s.pt s.sz s.di s.dn s.lo s.co s.io s.on s.df s.dc) 25 159 (fun v _ => v = some (.int 1)) := by
  unfold own_tail at h
  refine W.aload d0_175 rfl rfl ?_
  refine W.iloadN d0_177 rfl ?_
  refine W.callvY (M' := m5) d0_178 (hw _ (wd 65 rfl)) (hw _ (wd 66 rfl)) (hw _ (wd 67 rfl)) (hw _ (wd 68 rfl)) (t_open0 hw s p1 _ hL h) (ok5 hw) rfl rfl rfl rfl ?_
  rintro _ ⟨s330, h, hL331, rfl⟩
  refine W.aload d0_181 rfl rfl ?_
  refine W.iload d0_183 rfl ?_
  refine W.iload d0_185 rfl ?_
  refine W.aload d0_187 rfl rfl ?_
  refine W.aload d0_189 rfl rfl ?_
  refine W.callsX (M' := m6) d0_191 (hw _ (wd 74 rfl)) (hw _ (wd 75 rfl)) (t_edges0 hw s330 m1 r1 _ hL331 h) (ok6 hw) rfl rfl rfl ?_
  rintro _ _ ⟨x332, s333, rfl, h, hL334, rfl⟩
  refine W.istore d0_194 rfl ?_
  refine W.aload d0_196 rfl rfl ?_
  refine W.iload d0_198 rfl ?_
  refine W.callvY (M' := m5) d0_200 (hw _ (wd 65 rfl)) (hw _ (wd 66 rfl)) (hw _ (wd 67 rfl)) (hw _ (wd 68 rfl)) (t_open1 hw s333 p2 _ hL334 h) (ok5 hw) rfl rfl rfl rfl ?_
  rintro _ ⟨s335, h, hL336, rfl⟩
  refine W.aload d0_203 rfl rfl ?_
  refine W.iload d0_205 rfl ?_
  refine W.iload d0_207 rfl ?_
  refine W.aload d0_209 rfl rfl ?_
  refine W.aload d0_211 rfl rfl ?_
  refine W.callsX (M' := m6) d0_213 (hw _ (wd 74 rfl)) (hw _ (wd 75 rfl)) (t_edges1 hw s335 m2 r2 _ hL336 h) (ok6 hw) rfl rfl rfl ?_
  rintro _ _ ⟨x337, s338, rfl, h, hL339, rfl⟩
  refine W.istore d0_216 rfl ?_
  refine W.iload d0_218 rfl ?_
  rcases own_br h with ⟨c340, h⟩ | ⟨c340, h⟩
  · refine W.if_eq d0_220 (fun _ => ?_) (fun q => False.elim (q (own_eqp rfl (by decide) c340)))
    refine W.iconst 0 d0_232 rfl ?_
    refine W.istore d0_233 rfl ?_
    refine W.aload d0_235 rfl rfl ?_
    refine W.aconst d0_237 ?_
    refine W.callvX (M' := m8) d0_238 (hw _ (wd 83 rfl)) (hw _ (wd 84 rfl)) (hw _ (wd 85 rfl)) (hw _ (wd 86 rfl)) (t_match hw s338 _ hL339 h) (ok8 hw) rfl rfl rfl rfl ?_
    rintro _ _ ⟨x341, t344, s342, rfl, h, hL343, rfl⟩
    refine W.istore d0_241 rfl ?_
    show WB _ l Z n m0 243 [(.val (.int (a))), (.val (.int (b))), (.val (.int (c))), (.val (.int (Int32.ofNat p1))), (.val (.int (Int32.ofNat p2))), (.val (.int (Int32.ofNat m1))), (.val (.int (Int32.ofNat m2))), (.val (.int (Int32.ofNat r1))), (.val (.int (Int32.ofNat r2))), (.val (.int (f9))), (.val (.ref 0)), (.val (.ref 1)), (.val (.ref 2)), (.val (.ref 3)), (.val (.ref 4)), (.val (.int (Int32.ofNat x332))), (.val (.int (Int32.ofNat x337))), (.val (.int 0)), (.val (.int (Int32.ofNat x341))), .unset, .unset, .unset, .unset, .unset, .unset, .unset, .unset] [] (own_G 2 (Int32.ofNat t344) 0 s342.ec s342.a0 s342.a1 s342.a2 s342.a3 s342.mv s342.mp s342.op s342.es s342.ee s342.ev s342.km s342.re s342.pp s342.pq s342.pt s342.sz s342.di s342.dn s342.lo s342.co s342.io s342.on s342.df s342.dc) _ _ _
    refine W.iload d0_243 rfl ?_
    refine W.if_ne d0_245 (fun h => False.elim (by revert h; decide)) (fun _ => ?_)
    refine W.iload d0_248 rfl ?_
    rcases own_br h with ⟨c345, h⟩ | ⟨c345, h⟩
    · refine W.if_ne d0_250 (fun q => False.elim (q (own_eqp rfl (by decide) c345))) (fun _ => ?_)
      refine W.iconst 1 d0_253 rfl ?_
      refine W.goto d0_254 ?_
      exact W.nreturn .boolean d0_258 rfl (by simp) (by decide) (by decide) (rfl)
    · obtain ⟨c346, h⟩ := own_chk h
      refine W.if_ne d0_250 (fun _ => ?_) (fun q => False.elim (own_nep rfl (by decide) c346 (by decide) c345 q))
      exact absurd h (by decide)
  · obtain ⟨c347, h⟩ := own_chk h
    refine W.if_eq d0_220 (fun q => False.elim (own_nep rfl (by decide) c347 (by decide) c340 q)) (fun _ => ?_)
    refine W.iload d0_223 rfl ?_
    rcases own_br h with ⟨c348, h⟩ | ⟨c348, h⟩
    · refine W.if_eq d0_225 (fun _ => ?_) (fun q => False.elim (q (own_eqp rfl (by decide) c348)))
      refine W.iconst 0 d0_232 rfl ?_
      refine W.istore d0_233 rfl ?_
      refine W.aload d0_235 rfl rfl ?_
      refine W.aconst d0_237 ?_
      refine W.callvX (M' := m8) d0_238 (hw _ (wd 83 rfl)) (hw _ (wd 84 rfl)) (hw _ (wd 85 rfl)) (hw _ (wd 86 rfl)) (t_match hw s338 _ hL339 h) (ok8 hw) rfl rfl rfl rfl ?_
      rintro _ _ ⟨x349, t352, s350, rfl, h, hL351, rfl⟩
      refine W.istore d0_241 rfl ?_
      show WB _ l Z n m0 243 [(.val (.int (a))), (.val (.int (b))), (.val (.int (c))), (.val (.int (Int32.ofNat p1))), (.val (.int (Int32.ofNat p2))), (.val (.int (Int32.ofNat m1))), (.val (.int (Int32.ofNat m2))), (.val (.int (Int32.ofNat r1))), (.val (.int (Int32.ofNat r2))), (.val (.int (f9))), (.val (.ref 0)), (.val (.ref 1)), (.val (.ref 2)), (.val (.ref 3)), (.val (.ref 4)), (.val (.int (Int32.ofNat x332))), (.val (.int (Int32.ofNat x337))), (.val (.int 0)), (.val (.int (Int32.ofNat x349))), .unset, .unset, .unset, .unset, .unset, .unset, .unset, .unset] [] (own_G 2 (Int32.ofNat t352) 0 s350.ec s350.a0 s350.a1 s350.a2 s350.a3 s350.mv s350.mp s350.op s350.es s350.ee s350.ev s350.km s350.re s350.pp s350.pq s350.pt s350.sz s350.di s350.dn s350.lo s350.co s350.io s350.on s350.df s350.dc) _ _ _
      refine W.iload d0_243 rfl ?_
      refine W.if_ne d0_245 (fun h => False.elim (by revert h; decide)) (fun _ => ?_)
      refine W.iload d0_248 rfl ?_
      rcases own_br h with ⟨c353, h⟩ | ⟨c353, h⟩
      · refine W.if_ne d0_250 (fun q => False.elim (q (own_eqp rfl (by decide) c353))) (fun _ => ?_)
        refine W.iconst 1 d0_253 rfl ?_
        refine W.goto d0_254 ?_
        exact W.nreturn .boolean d0_258 rfl (by simp) (by decide) (by decide) (rfl)
      · obtain ⟨c354, h⟩ := own_chk h
        refine W.if_ne d0_250 (fun _ => ?_) (fun q => False.elim (own_nep rfl (by decide) c354 (by decide) c353 q))
        exact absurd h (by decide)
    · obtain ⟨c355, h⟩ := own_chk h
      refine W.if_eq d0_225 (fun q => False.elim (own_nep rfl (by decide) c355 (by decide) c348 q)) (fun _ => ?_)
      refine W.iconst 1 d0_228 rfl ?_
      refine W.goto d0_229 ?_
      refine W.istore d0_233 rfl ?_
      refine W.aload d0_235 rfl rfl ?_
      refine W.aconst d0_237 ?_
      refine W.callvX (M' := m8) d0_238 (hw _ (wd 83 rfl)) (hw _ (wd 84 rfl)) (hw _ (wd 85 rfl)) (hw _ (wd 86 rfl)) (t_match hw s338 _ hL339 h) (ok8 hw) rfl rfl rfl rfl ?_
      rintro _ _ ⟨x356, t359, s357, rfl, h, hL358, rfl⟩
      refine W.istore d0_241 rfl ?_
      show WB _ l Z n m0 243 [(.val (.int (a))), (.val (.int (b))), (.val (.int (c))), (.val (.int (Int32.ofNat p1))), (.val (.int (Int32.ofNat p2))), (.val (.int (Int32.ofNat m1))), (.val (.int (Int32.ofNat m2))), (.val (.int (Int32.ofNat r1))), (.val (.int (Int32.ofNat r2))), (.val (.int (f9))), (.val (.ref 0)), (.val (.ref 1)), (.val (.ref 2)), (.val (.ref 3)), (.val (.ref 4)), (.val (.int (Int32.ofNat x332))), (.val (.int (Int32.ofNat x337))), (.val (.int 1)), (.val (.int (Int32.ofNat x356))), .unset, .unset, .unset, .unset, .unset, .unset, .unset, .unset] [] (own_G 2 (Int32.ofNat t359) 0 s357.ec s357.a0 s357.a1 s357.a2 s357.a3 s357.mv s357.mp s357.op s357.es s357.ee s357.ev s357.km s357.re s357.pp s357.pq s357.pt s357.sz s357.di s357.dn s357.lo s357.co s357.io s357.on s357.df s357.dc) _ _ _
      refine W.iload d0_243 rfl ?_
      refine W.if_ne d0_245 (fun _ => ?_) (fun h => False.elim (by revert h; decide))
      refine W.iload d0_259 rfl ?_
      rcases own_br h with ⟨c360, h⟩ | ⟨c360, h⟩
      · refine W.if_ne d0_261 (fun q => False.elim (q (own_eqp rfl (by decide) c360))) (fun _ => ?_)
        exact absurd h (by decide)
      · obtain ⟨c361, h⟩ := own_chk h
        refine W.if_ne d0_261 (fun _ => ?_) (fun q => False.elim (own_nep rfl (by decide) c361 (by decide) c360 q))
        refine W.aload d0_266 rfl rfl ?_
        refine W.callvY (M' := m12) d0_268 (hw _ (wd 103 rfl)) (hw _ (wd 104 rfl)) (hw _ (wd 105 rfl)) (hw _ (wd 106 rfl)) (t_fc hw (Int32.ofNat t359) s357 _ hL358 h) (ok12 hw) rfl rfl rfl rfl ?_
        rintro _ ⟨s362, h, hL363, rfl⟩
        refine W.iloadN d0_271 rfl ?_
        refine W.iconst 1 d0_272 rfl ?_
        refine W.iand d0_273 ?_
        obtain ⟨hA, hB⟩ := own_and h
        refine W.if_eq d0_274 (fun _ => ?_) (fun _ => ?_)
        · have h := hA
          refine W.iconst 0 d0_281 rfl ?_
          refine W.istore d0_282 rfl ?_
          refine W.iload d0_284 rfl ?_
          refine W.if_eq d0_286 (fun _ => ?_) (fun h => False.elim (by revert h; decide))
          refine W.iload d0_294 rfl ?_
          refine W.istore d0_296 rfl ?_
          refine W.iloadN d0_298 rfl ?_
          refine W.iconst 1 d0_299 rfl ?_
          refine W.iushr d0_300 ?_
          refine W.iload d0_301 rfl ?_
          obtain ⟨c365, h⟩ := own_chk h
          obtain ⟨c366, h⟩ := own_chk h
          obtain ⟨k364, hk364, ek364⟩ := rem_nat (XT.ushr c 1) (Int32.ofNat x332) x332 (own_us1 c) (own_i c366) c365 (Nat.lt_trans c366 (by decide))
          have h := own_alla h hk364
          refine W.irem d0_303 (own_nep (a := x332) (b := 0) rfl rfl (Nat.lt_trans c366 (by decide)) (by decide) (Nat.ne_of_gt c365)) ?_
          rw [ek364]
          refine W.istore d0_304 rfl ?_
          refine W.iload d0_306 rfl ?_
          refine W.if_eq d0_308 (fun _ => ?_) (fun h => False.elim (by revert h; decide))
          refine W.iloadN d0_316 rfl ?_
          refine W.istore d0_317 rfl ?_
          show WB _ l Z n m0 319 [(.val (.int (a))), (.val (.int (b))), (.val (.int (c))), (.val (.int (Int32.ofNat p1))), (.val (.int (Int32.ofNat p2))), (.val (.int (Int32.ofNat m1))), (.val (.int (Int32.ofNat m2))), (.val (.int (Int32.ofNat r1))), (.val (.int (Int32.ofNat r2))), (.val (.int (f9))), (.val (.ref 0)), (.val (.ref 1)), (.val (.ref 2)), (.val (.ref 3)), (.val (.ref 4)), (.val (.int (Int32.ofNat x332))), (.val (.int (Int32.ofNat x337))), (.val (.int 1)), (.val (.int (Int32.ofNat x356))), (.val (.int 0)), (.val (.int (Int32.ofNat x332))), (.val (.int (Int32.ofNat k364))), (.val (.int (Int32.ofNat p1))), .unset, .unset, .unset, .unset] [] (own_G 2 (Int32.ofNat t359) 1 s362.ec s362.a0 s362.a1 s362.a2 s362.a3 s362.mv s362.mp s362.op s362.es s362.ee s362.ev s362.km s362.re s362.pp s362.pq s362.pt s362.sz s362.di s362.dn s362.lo s362.co s362.io s362.on s362.df s362.dc) _ _ _
          refine W.iload d0_319 rfl ?_
          refine W.if_eq d0_321 (fun _ => ?_) (fun h => False.elim (by revert h; decide))
          refine W.aload d0_332 rfl rfl ?_
          refine W.iload d0_334 rfl ?_
          obtain ⟨c367, h⟩ := own_chk h
          obtain ⟨x368, ex368, h⟩ := own_bd h
          refine own_iload (N := 3) (i := k364) (L := s362.a0) d0_336 rfl rfl c367 (by decide) hL363.h_a0 ex368 ?_
          refine W.istore d0_337 rfl ?_
          refine W.iload d0_339 rfl ?_
          refine W.if_eq d0_341 (fun _ => ?_) (fun h => False.elim (by revert h; decide))
          refine W.aload d0_352 rfl rfl ?_
          refine W.iload d0_354 rfl ?_
          obtain ⟨x369, ex369, h⟩ := own_bd h
          refine own_iload (N := 3) (i := k364) (L := s362.a1) d0_356 rfl rfl c367 (by decide) hL363.h_a1 ex369 ?_
          refine W.istore d0_357 rfl ?_
          refine W.iload d0_359 rfl ?_
          refine W.if_eq d0_361 (fun _ => ?_) (fun h => False.elim (by revert h; decide))
          refine W.iload d0_369 rfl ?_
          refine W.istore d0_371 rfl ?_
          refine W.iload d0_373 rfl ?_
          refine W.iconst 1 d0_375 rfl ?_
          refine W.iload d0_376 rfl ?_
          refine W.ishl d0_378 ?_
          refine W.iconst (-1) d0_379 rfl ?_
          refine W.ixor d0_380 ?_
          refine W.iand d0_381 ?_
          obtain ⟨c370, h⟩ := own_chk h
          obtain ⟨c371, h⟩ := own_chk h
          rw [own_mk c370 c371]
          rcases own_br h with ⟨c372, h⟩ | ⟨c372, h⟩
          · refine W.if_eq d0_382 (fun _ => ?_) (fun q => False.elim (q (own_eqp rfl (by decide) c372)))
            refine W.iconst 0 d0_389 rfl ?_
            refine W.istore d0_390 rfl ?_
            show WB _ l Z n m0 392 [(.val (.int (a))), (.val (.int (b))), (.val (.int (c))), (.val (.int (Int32.ofNat p1))), (.val (.int (Int32.ofNat p2))), (.val (.int (Int32.ofNat m1))), (.val (.int (Int32.ofNat m2))), (.val (.int (Int32.ofNat r1))), (.val (.int (Int32.ofNat r2))), (.val (.int (f9))), (.val (.ref 0)), (.val (.ref 1)), (.val (.ref 2)), (.val (.ref 3)), (.val (.ref 4)), (.val (.int (Int32.ofNat x332))), (.val (.int (Int32.ofNat x337))), (.val (.int 1)), (.val (.int (Int32.ofNat x356))), (.val (.int 0)), (.val (.int (Int32.ofNat x332))), (.val (.int (Int32.ofNat k364))), (.val (.int (Int32.ofNat p1))), (.val (.int (Int32.ofNat x368))), (.val (.int (Int32.ofNat x369))), (.val (.int (Int32.ofNat m2))), (.val (.int 0))] [] (own_G 2 (Int32.ofNat t359) 1 s362.ec s362.a0 s362.a1 s362.a2 s362.a3 s362.mv s362.mp s362.op s362.es s362.ee s362.ev s362.km s362.re s362.pp s362.pq s362.pt s362.sz s362.di s362.dn s362.lo s362.co s362.io s362.on s362.df s362.dc) _ _ _
            refine W.aload d0_392 rfl rfl ?_
            refine W.iload d0_394 rfl ?_
            refine W.iload d0_396 rfl ?_
            refine W.callvX (M' := m14) d0_398 (hw _ (wd 114 rfl)) (hw _ (wd 115 rfl)) (hw _ (wd 116 rfl)) (hw _ (wd 117 rfl)) (t_iis hw (Int32.ofNat t359) s362 p1 x369 _ hL363 h) (ok14 hw) rfl rfl rfl rfl ?_
            rintro _ _ ⟨x373, s374, rfl, h, hL375, rfl⟩
            refine W.iload d0_401 rfl ?_
            rcases own_br h with ⟨c376, h⟩ | ⟨c376, h⟩
            · refine W.icmp_ne d0_403 (fun q => False.elim (q (own_eqp rfl (by decide) c376))) (fun _ => ?_)
              refine W.iconst 1 d0_406 rfl ?_
              refine W.goto d0_407 ?_
              exact W.nreturn .boolean d0_411 rfl (by simp) (by decide) (by decide) (rfl)
            · obtain ⟨c377, h⟩ := own_chk h
              refine W.icmp_ne d0_403 (fun _ => ?_) (fun q => False.elim (own_nep rfl (by decide) c377 (by decide) c376 q))
              exact absurd h (by decide)
          · obtain ⟨c378, h⟩ := own_chk h
            refine W.if_eq d0_382 (fun q => False.elim (own_nep rfl (by decide) c378 (by decide) c372 q)) (fun _ => ?_)
            refine W.iconst 1 d0_385 rfl ?_
            refine W.goto d0_386 ?_
            refine W.istore d0_390 rfl ?_
            show WB _ l Z n m0 392 [(.val (.int (a))), (.val (.int (b))), (.val (.int (c))), (.val (.int (Int32.ofNat p1))), (.val (.int (Int32.ofNat p2))), (.val (.int (Int32.ofNat m1))), (.val (.int (Int32.ofNat m2))), (.val (.int (Int32.ofNat r1))), (.val (.int (Int32.ofNat r2))), (.val (.int (f9))), (.val (.ref 0)), (.val (.ref 1)), (.val (.ref 2)), (.val (.ref 3)), (.val (.ref 4)), (.val (.int (Int32.ofNat x332))), (.val (.int (Int32.ofNat x337))), (.val (.int 1)), (.val (.int (Int32.ofNat x356))), (.val (.int 0)), (.val (.int (Int32.ofNat x332))), (.val (.int (Int32.ofNat k364))), (.val (.int (Int32.ofNat p1))), (.val (.int (Int32.ofNat x368))), (.val (.int (Int32.ofNat x369))), (.val (.int (Int32.ofNat m2))), (.val (.int 1))] [] (own_G 2 (Int32.ofNat t359) 1 s362.ec s362.a0 s362.a1 s362.a2 s362.a3 s362.mv s362.mp s362.op s362.es s362.ee s362.ev s362.km s362.re s362.pp s362.pq s362.pt s362.sz s362.di s362.dn s362.lo s362.co s362.io s362.on s362.df s362.dc) _ _ _
            refine W.aload d0_392 rfl rfl ?_
            refine W.iload d0_394 rfl ?_
            refine W.iload d0_396 rfl ?_
            refine W.callvX (M' := m14) d0_398 (hw _ (wd 114 rfl)) (hw _ (wd 115 rfl)) (hw _ (wd 116 rfl)) (hw _ (wd 117 rfl)) (t_iis hw (Int32.ofNat t359) s362 p1 x369 _ hL363 h) (ok14 hw) rfl rfl rfl rfl ?_
            rintro _ _ ⟨x379, s380, rfl, h, hL381, rfl⟩
            refine W.iload d0_401 rfl ?_
            rcases own_br h with ⟨c382, h⟩ | ⟨c382, h⟩
            · refine W.icmp_ne d0_403 (fun q => False.elim (q (own_eqp rfl (by decide) c382))) (fun _ => ?_)
              refine W.iconst 1 d0_406 rfl ?_
              refine W.goto d0_407 ?_
              exact W.nreturn .boolean d0_411 rfl (by simp) (by decide) (by decide) (rfl)
            · obtain ⟨c383, h⟩ := own_chk h
              refine W.icmp_ne d0_403 (fun _ => ?_) (fun q => False.elim (own_nep rfl (by decide) c383 (by decide) c382 q))
              exact absurd h (by decide)
        · have h := hB
          refine W.iconst 1 d0_277 rfl ?_
          refine W.goto d0_278 ?_
          refine W.istore d0_282 rfl ?_
          refine W.iload d0_284 rfl ?_
          refine W.if_eq d0_286 (fun h => False.elim (by revert h; decide)) (fun _ => ?_)
          refine W.iload d0_289 rfl ?_
          refine W.goto d0_291 ?_
          refine W.istore d0_296 rfl ?_
          refine W.iloadN d0_298 rfl ?_
          refine W.iconst 1 d0_299 rfl ?_
          refine W.iushr d0_300 ?_
          refine W.iload d0_301 rfl ?_
          obtain ⟨c385, h⟩ := own_chk h
          obtain ⟨c386, h⟩ := own_chk h
          obtain ⟨k384, hk384, ek384⟩ := rem_nat (XT.ushr c 1) (Int32.ofNat x337) x337 (own_us1 c) (own_i c386) c385 (Nat.lt_trans c386 (by decide))
          have h := own_alla h hk384
          refine W.irem d0_303 (own_nep (a := x337) (b := 0) rfl rfl (Nat.lt_trans c386 (by decide)) (by decide) (Nat.ne_of_gt c385)) ?_
          rw [ek384]
          refine W.istore d0_304 rfl ?_
          refine W.iload d0_306 rfl ?_
          refine W.if_eq d0_308 (fun h => False.elim (by revert h; decide)) (fun _ => ?_)
          refine W.iload d0_311 rfl ?_
          refine W.goto d0_313 ?_
          refine W.istore d0_317 rfl ?_
          show WB _ l Z n m0 319 [(.val (.int (a))), (.val (.int (b))), (.val (.int (c))), (.val (.int (Int32.ofNat p1))), (.val (.int (Int32.ofNat p2))), (.val (.int (Int32.ofNat m1))), (.val (.int (Int32.ofNat m2))), (.val (.int (Int32.ofNat r1))), (.val (.int (Int32.ofNat r2))), (.val (.int (f9))), (.val (.ref 0)), (.val (.ref 1)), (.val (.ref 2)), (.val (.ref 3)), (.val (.ref 4)), (.val (.int (Int32.ofNat x332))), (.val (.int (Int32.ofNat x337))), (.val (.int 1)), (.val (.int (Int32.ofNat x356))), (.val (.int 1)), (.val (.int (Int32.ofNat x337))), (.val (.int (Int32.ofNat k384))), (.val (.int (Int32.ofNat p2))), .unset, .unset, .unset, .unset] [] (own_G 2 (Int32.ofNat t359) 1 s362.ec s362.a0 s362.a1 s362.a2 s362.a3 s362.mv s362.mp s362.op s362.es s362.ee s362.ev s362.km s362.re s362.pp s362.pq s362.pt s362.sz s362.di s362.dn s362.lo s362.co s362.io s362.on s362.df s362.dc) _ _ _
          refine W.iload d0_319 rfl ?_
          refine W.if_eq d0_321 (fun h => False.elim (by revert h; decide)) (fun _ => ?_)
          refine W.aload d0_324 rfl rfl ?_
          refine W.iload d0_326 rfl ?_
          obtain ⟨c387, h⟩ := own_chk h
          obtain ⟨x388, ex388, h⟩ := own_bd h
          refine own_iload (N := 3) (i := k384) (L := s362.a2) d0_328 rfl rfl c387 (by decide) hL363.h_a2 ex388 ?_
          refine W.goto d0_329 ?_
          refine W.istore d0_337 rfl ?_
          refine W.iload d0_339 rfl ?_
          refine W.if_eq d0_341 (fun h => False.elim (by revert h; decide)) (fun _ => ?_)
          refine W.aload d0_344 rfl rfl ?_
          refine W.iload d0_346 rfl ?_
          obtain ⟨x389, ex389, h⟩ := own_bd h
          refine own_iload (N := 3) (i := k384) (L := s362.a3) d0_348 rfl rfl c387 (by decide) hL363.h_a3 ex389 ?_
          refine W.goto d0_349 ?_
          refine W.istore d0_357 rfl ?_
          refine W.iload d0_359 rfl ?_
          refine W.if_eq d0_361 (fun h => False.elim (by revert h; decide)) (fun _ => ?_)
          refine W.iload d0_364 rfl ?_
          refine W.goto d0_366 ?_
          refine W.istore d0_371 rfl ?_
          refine W.iload d0_373 rfl ?_
          refine W.iconst 1 d0_375 rfl ?_
          refine W.iload d0_376 rfl ?_
          refine W.ishl d0_378 ?_
          refine W.iconst (-1) d0_379 rfl ?_
          refine W.ixor d0_380 ?_
          refine W.iand d0_381 ?_
          obtain ⟨c390, h⟩ := own_chk h
          obtain ⟨c391, h⟩ := own_chk h
          rw [own_mk c390 c391]
          rcases own_br h with ⟨c392, h⟩ | ⟨c392, h⟩
          · refine W.if_eq d0_382 (fun _ => ?_) (fun q => False.elim (q (own_eqp rfl (by decide) c392)))
            refine W.iconst 0 d0_389 rfl ?_
            refine W.istore d0_390 rfl ?_
            show WB _ l Z n m0 392 [(.val (.int (a))), (.val (.int (b))), (.val (.int (c))), (.val (.int (Int32.ofNat p1))), (.val (.int (Int32.ofNat p2))), (.val (.int (Int32.ofNat m1))), (.val (.int (Int32.ofNat m2))), (.val (.int (Int32.ofNat r1))), (.val (.int (Int32.ofNat r2))), (.val (.int (f9))), (.val (.ref 0)), (.val (.ref 1)), (.val (.ref 2)), (.val (.ref 3)), (.val (.ref 4)), (.val (.int (Int32.ofNat x332))), (.val (.int (Int32.ofNat x337))), (.val (.int 1)), (.val (.int (Int32.ofNat x356))), (.val (.int 1)), (.val (.int (Int32.ofNat x337))), (.val (.int (Int32.ofNat k384))), (.val (.int (Int32.ofNat p2))), (.val (.int (Int32.ofNat x388))), (.val (.int (Int32.ofNat x389))), (.val (.int (Int32.ofNat m1))), (.val (.int 0))] [] (own_G 2 (Int32.ofNat t359) 1 s362.ec s362.a0 s362.a1 s362.a2 s362.a3 s362.mv s362.mp s362.op s362.es s362.ee s362.ev s362.km s362.re s362.pp s362.pq s362.pt s362.sz s362.di s362.dn s362.lo s362.co s362.io s362.on s362.df s362.dc) _ _ _
            refine W.aload d0_392 rfl rfl ?_
            refine W.iload d0_394 rfl ?_
            refine W.iload d0_396 rfl ?_
            refine W.callvX (M' := m14) d0_398 (hw _ (wd 114 rfl)) (hw _ (wd 115 rfl)) (hw _ (wd 116 rfl)) (hw _ (wd 117 rfl)) (t_iis hw (Int32.ofNat t359) s362 p2 x389 _ hL363 h) (ok14 hw) rfl rfl rfl rfl ?_
            rintro _ _ ⟨x393, s394, rfl, h, hL395, rfl⟩
            refine W.iload d0_401 rfl ?_
            rcases own_br h with ⟨c396, h⟩ | ⟨c396, h⟩
            · refine W.icmp_ne d0_403 (fun q => False.elim (q (own_eqp rfl (by decide) c396))) (fun _ => ?_)
              refine W.iconst 1 d0_406 rfl ?_
              refine W.goto d0_407 ?_
              exact W.nreturn .boolean d0_411 rfl (by simp) (by decide) (by decide) (rfl)
            · obtain ⟨c397, h⟩ := own_chk h
              refine W.icmp_ne d0_403 (fun _ => ?_) (fun q => False.elim (own_nep rfl (by decide) c397 (by decide) c396 q))
              exact absurd h (by decide)
          · obtain ⟨c398, h⟩ := own_chk h
            refine W.if_eq d0_382 (fun q => False.elim (own_nep rfl (by decide) c398 (by decide) c392 q)) (fun _ => ?_)
            refine W.iconst 1 d0_385 rfl ?_
            refine W.goto d0_386 ?_
            refine W.istore d0_390 rfl ?_
            show WB _ l Z n m0 392 [(.val (.int (a))), (.val (.int (b))), (.val (.int (c))), (.val (.int (Int32.ofNat p1))), (.val (.int (Int32.ofNat p2))), (.val (.int (Int32.ofNat m1))), (.val (.int (Int32.ofNat m2))), (.val (.int (Int32.ofNat r1))), (.val (.int (Int32.ofNat r2))), (.val (.int (f9))), (.val (.ref 0)), (.val (.ref 1)), (.val (.ref 2)), (.val (.ref 3)), (.val (.ref 4)), (.val (.int (Int32.ofNat x332))), (.val (.int (Int32.ofNat x337))), (.val (.int 1)), (.val (.int (Int32.ofNat x356))), (.val (.int 1)), (.val (.int (Int32.ofNat x337))), (.val (.int (Int32.ofNat k384))), (.val (.int (Int32.ofNat p2))), (.val (.int (Int32.ofNat x388))), (.val (.int (Int32.ofNat x389))), (.val (.int (Int32.ofNat m1))), (.val (.int 1))] [] (own_G 2 (Int32.ofNat t359) 1 s362.ec s362.a0 s362.a1 s362.a2 s362.a3 s362.mv s362.mp s362.op s362.es s362.ee s362.ev s362.km s362.re s362.pp s362.pq s362.pt s362.sz s362.di s362.dn s362.lo s362.co s362.io s362.on s362.df s362.dc) _ _ _
            refine W.aload d0_392 rfl rfl ?_
            refine W.iload d0_394 rfl ?_
            refine W.iload d0_396 rfl ?_
            refine W.callvX (M' := m14) d0_398 (hw _ (wd 114 rfl)) (hw _ (wd 115 rfl)) (hw _ (wd 116 rfl)) (hw _ (wd 117 rfl)) (t_iis hw (Int32.ofNat t359) s362 p2 x389 _ hL363 h) (ok14 hw) rfl rfl rfl rfl ?_
            rintro _ _ ⟨x399, s400, rfl, h, hL401, rfl⟩
            refine W.iload d0_401 rfl ?_
            rcases own_br h with ⟨c402, h⟩ | ⟨c402, h⟩
            · refine W.icmp_ne d0_403 (fun q => False.elim (q (own_eqp rfl (by decide) c402))) (fun _ => ?_)
              refine W.iconst 1 d0_406 rfl ?_
              refine W.goto d0_407 ?_
              exact W.nreturn .boolean d0_411 rfl (by simp) (by decide) (by decide) (rfl)
            · obtain ⟨c403, h⟩ := own_chk h
              refine W.icmp_ne d0_403 (fun _ => ?_) (fun q => False.elim (own_nep rfl (by decide) c403 (by decide) c402 q))
              exact absurd h (by decide)
def own_s0 : own_S := own_tup 0 [0, 0, 0] [0, 0, 0] [0, 0, 0] [0, 0, 0] [4294967295, 4294967295, 4294967295] [4294967295, 4294967295, 4294967295] [0, 0, 0] [0, 0, 0] [0, 0, 0] [0, 0, 0, 0, 0, 0, 0, 0, 0, 0, 0, 0, 0, 0, 0, 0] [0, 0, 0] [0, 0, 0] [0, 0, 0] [0, 0, 0] [0, 0, 0] [0, 0, 0, 0] [0, 0, 0, 0, 0, 0, 0] [0, 0, 0, 0, 0, 0, 0] [0, 0, 0, 0, 0, 0, 0] [0, 0, 0, 0, 0, 0, 0] [0, 0, 0, 0, 0, 0, 0] [0, 0, 0, 0, 0, 0, 0] [0, 0, 0, 0, 0, 0, 0] [0, 0, 0, 0, 0, 0, 0]
theorem own_L0 : own_L own_s0 := ⟨rfl, rfl, rfl, rfl, rfl, rfl, rfl, rfl, rfl, rfl, rfl, rfl, rfl, rfl, rfl, rfl, rfl, rfl, rfl, rfl, rfl, rfl, rfl, rfl⟩
def own_single (m : Nat) : Bool := m == 1 || m == 2 || m == 4
def own_cond (m1 m2 : Nat) : Bool := !(own_single m2 && Nat.land m1 m2 != 0)
theorem own_every : ∀ p1 p2 : Fin 3, p1.1 ≠ p2.1 → ∀ m1 m2 : Fin 8, ∀ r1 r2 : Fin 3, own_cond m1.1 m2.1 = true → own_tail own_s0 p1.1 p2.1 m1.1 m2.1 r1.1 r2.1 = true := by decide +kernel
theorem own_p2 (p1 : Nat) (x : Int32) (h : p1 < 3) : ∃ p2, p2 < 3 ∧ p1 ≠ p2 ∧ (Int32.ofNat p1 + 1 + (x &&& 1)) % 3 = Int32.ofNat p2 := by
  have hc : p1 = 0 ∨ p1 = 1 ∨ p1 = 2 := by omega
  rcases and_one x with q | q <;> rw [q] <;> rcases hc with rfl | rfl | rfl
  · exact ⟨1, by decide, by decide, by decide⟩
  · exact ⟨2, by decide, by decide, by decide⟩
  · exact ⟨0, by decide, by decide, by decide⟩
  · exact ⟨2, by decide, by decide, by decide⟩
  · exact ⟨0, by decide, by decide, by decide⟩
  · exact ⟨1, by decide, by decide, by decide⟩
theorem own_a7 (x : Int32) : ∃ m, m < 8 ∧ x &&& 7 = Int32.ofNat m := ⟨_, Nat.lt_succ_of_le (and_nat x 7 7 rfl), of_nat32 rfl⟩
theorem own_r3 (x y : Int32) (hy : 0 ≤ y.toInt) : ∃ r, r < 3 ∧ (x &&& y) % 3 = Int32.ofNat r := rem_nat (x &&& y) 3 3 ((c_andS x y).2.2 hy) rfl (by decide) (by decide)
theorem own_n0 {m1 m2 : Nat} (h1 : m1 < 8) (h2 : m2 < 8) (a : ¬ Int32.ofNat m2 = 1) (b : ¬ Int32.ofNat m2 = 2) (c : ¬ Int32.ofNat m2 = 4) : own_cond m1 m2 = true := (by decide +kernel : ∀ m1 m2 : Fin 8, ¬ Int32.ofNat m2.1 = 1 → ¬ Int32.ofNat m2.1 = 2 → ¬ Int32.ofNat m2.1 = 4 → own_cond m1.1 m2.1 = true) ⟨m1, h1⟩ ⟨m2, h2⟩ a b c
theorem own_n1 {m1 m2 : Nat} (h1 : m1 < 8) (h2 : m2 < 8) (a : Int32.ofNat m1 &&& Int32.ofNat m2 = 0) : own_cond m1 m2 = true := (by decide +kernel : ∀ m1 m2 : Fin 8, Int32.ofNat m1.1 &&& Int32.ofNat m2.1 = 0 → own_cond m1.1 m2.1 = true) ⟨m1, h1⟩ ⟨m2, h2⟩ a
theorem own_n2 {m1 m2 : Nat} (h1 : m1 < 8) (h2 : m2 < 8) (s : Int32.ofNat m2 = 1 ∨ Int32.ofNat m2 = 2 ∨ Int32.ofNat m2 = 4) (e : ¬ Int32.ofNat m1 = Int32.ofNat m2) (a : ¬ Int32.ofNat m1 &&& Int32.ofNat m2 = 0) : own_cond m2 m1 = true := (by decide +kernel : ∀ m1 m2 : Fin 8, (Int32.ofNat m2.1 = 1 ∨ Int32.ofNat m2.1 = 2 ∨ Int32.ofNat m2.1 = 4) → ¬ Int32.ofNat m1.1 = Int32.ofNat m2.1 → ¬ Int32.ofNat m1.1 &&& Int32.ofNat m2.1 = 0 → own_cond m2.1 m1.1 = true) ⟨m1, h1⟩ ⟨m2, h2⟩ s e a
theorem own_lt {a b : Nat} (ha : a < 1000) (hb : b < 1000) : (Int32.ofNat a < Int32.ofNat b) ↔ a < b := by
  rw [Int32.lt_iff_toInt_lt, own_i ha, own_i hb]; omega
theorem own_ss {α : Type} (H : List α) (k : Nat) (x y : α) : (H.set k x).set k y = H.set k y := by simp
theorem own_sg {α : Type} (H : List α) (k : Nat) (x y : α) (h : H[k]? = some y) : (H.set k x)[k]? = some x := by
  have := (List.getElem?_eq_some_iff.mp h).1
  simp [this]
theorem own_sid {α : Type} (H : List α) (k : Nat) (y : α) (h : H[k]? = some y) : H = H.set k y := by
  apply List.ext_getElem?
  intro j
  rw [List.getElem?_set]
  by_cases e : k = j
  · subst e; rw [if_pos rfl, if_pos (List.getElem?_eq_some_iff.mp h).1]; exact h
  · rw [if_neg e]
theorem own_fillset (i r : Nat) (a x : Value) : (List.replicate i a ++ List.replicate (r + 1) x).set i a = List.replicate (i + 1) a ++ List.replicate r x := by
  induction i with
  | zero => rfl
  | succ i ih => exact congrArg (a :: ·) ih
theorem own_rep (m p : Nat) (x : Value) (h : p < m) : (List.replicate m x)[p]? = some x := by
  first
  | (rw [List.getElem?_replicate, if_pos h]; done)
  | (simp [h]; done)
  | (rw [List.getElem?_eq_getElem (by simpa using h)]; simp)
set_option maxRecDepth 65536 in
set_option maxHeartbeats 40000000 in
theorem loop3 {l : Launch} {Z : State} {a0 : Array Value} {n : Nat} (hw : ∀ d ∈ tables_1, d.before a0 Z = true) (H : AHeap) (k N : Nat) (x y : Value) (vx : Int32) (hx : x = .int vx) (hk : H[k]? = some (.inr (.int, List.replicate N y))) (hN : N < 100) : ∀ r i, i + r = N → W l Z n m3 5 [.val (.ref k), .val (.int vx), .val (.int (Int32.ofNat i)), .val (.int (Int32.ofNat N))] [] (H.set k (.inr (.int, List.replicate i x ++ List.replicate r y))) 0 0 (Is none (H.set k (.inr (.int, List.replicate N x)))) := by
  subst hx
  intro r
  induction r with
  | zero =>
    intro i hi
    refine W.iloadN d3_5 rfl ?_
    refine W.iloadN d3_6 rfl ?_
    refine W.icmp_ge d3_7 (fun h7 => ?_) (fun h => False.elim (by rw [own_lt (by omega) (by omega)] at h; omega))
    exact W.leave d3_20 rfl (by decide) (by decide) ⟨rfl, by rw [show i = N by omega]; simp⟩
  | succ r ih =>
    intro i hi
    refine W.iloadN d3_5 rfl ?_
    refine W.iloadN d3_6 rfl ?_
    refine W.icmp_ge d3_7 (fun h => False.elim (h ((own_lt (by omega) (by omega)).mpr (by omega)))) (fun h7 => ?_)
    refine W.aloadN d3_10 rfl rfl ?_
    refine W.iloadN d3_11 rfl ?_
    refine W.iloadN d3_12 rfl ?_
    refine W.iastore (i := i) d3_13 (own_sg H k _ _ hk) (own_idx i (by omega)) (by simp <;> omega) ?_
    refine W.iinc 1 d3_14 rfl rfl ?_
    refine W.goto d3_17 ?_
    rw [own_ss, own_fillset, show Int32.ofNat i + 1 = Int32.ofNat (i + 1) from own_add i 1]
    exact ih (i + 1) (by omega)
set_option maxRecDepth 65536 in
set_option maxHeartbeats 40000000 in
theorem w3 {l : Launch} {Z : State} {a0 : Array Value} {n : Nat} (hw : ∀ d ∈ tables_1, d.before a0 Z = true) (H : AHeap) (k N : Nat) (y : Value) (vx : Int32) (hk : H[k]? = some (.inr (.int, List.replicate N y))) (hN : N < 100) : W l Z n m3 0 (entryL [.ref k, .int vx] 4) [] H 0 0 (Is none (H.set k (.inr (.int, List.replicate N (.int vx))))) := by
  show W l Z n m3 0 [.val (.ref k), .val (.int vx), .unset, .unset] [] H 0 0 _
  refine W.iconst 0 d3_0 rfl ?_
  refine W.istoreN d3_1 rfl ?_
  refine W.aloadN d3_2 rfl rfl ?_
  refine W.arraylength (Int32.ofNat N) d3_3 hk rfl (by simp) ?_
  refine W.istoreN d3_4 rfl ?_
  have q := loop3 (l := l) (n := n) hw H k N (.int vx) y vx rfl hk hN N 0 (by omega)
  rw [show List.replicate 0 (Value.int vx) ++ List.replicate N y = List.replicate N y from rfl, ← own_sid H k _ hk] at q
  exact q
set_option maxRecDepth 65536 in
set_option maxHeartbeats 40000000 in
theorem w4 {l : Launch} {Z : State} {a0 : Array Value} {n : Nat} (hw : ∀ d ∈ tables_1, d.before a0 Z = true) (H : AHeap) : W l Z n m4 0 (entryL [.int 16, .int 3] 2) [] H 0 0 (Is (some (.int 16)) H) := by
  show W l Z n m4 0 [.val (.int 16), .val (.int 3)] [] H 0 0 _
  refine W.iloadN d4_0 rfl ?_
  refine W.iloadN d4_1 rfl ?_
  refine W.icmp_lt d4_2 (fun h => False.elim (by revert h; decide)) (fun h2 => ?_)
  refine W.iloadN d4_5 rfl ?_
  refine W.goto d4_6 ?_
  exact W.ireturn d4_10 rfl (by decide) (by decide) (⟨rfl, rfl⟩)
set_option maxRecDepth 65536 in
set_option maxHeartbeats 40000000 in
theorem w1 {l : Launch} {Z : State} {a0 : Array Value} {n : Nat} (hw : ∀ d ∈ tables_1, d.before a0 Z = true) : W l Z n m1 0 (entryL [.ref 4, .int 3, .int 3] 4) [] [.inr (.int, [(.int (0)), (.int (0)), (.int (0))]), .inr (.int, [(.int (0)), (.int (0)), (.int (0))]), .inr (.int, [(.int (0)), (.int (0)), (.int (0))]), .inr (.int, [(.int (0)), (.int (0)), (.int (0))]), .inl ("org/tourney/ValueGraph", [(("org/tourney/ValueGraph", "positions", "I"), (.int (0))), (("org/tourney/ValueGraph", "values", "I"), (.int (0))), (("org/tourney/ValueGraph", "matchedValue", "[I"), .null), (("org/tourney/ValueGraph", "matchedPosition", "[I"), .null), (("org/tourney/ValueGraph", "openPositions", "[I"), .null), (("org/tourney/ValueGraph", "edgeStart", "[I"), .null), (("org/tourney/ValueGraph", "edgeEnd", "[I"), .null), (("org/tourney/ValueGraph", "edgeValue", "[I"), .null), (("org/tourney/ValueGraph", "keepsMatch", "[Z"), .null), (("org/tourney/ValueGraph", "reached", "[I"), .null), (("org/tourney/ValueGraph", "pathPositions", "[I"), .null), (("org/tourney/ValueGraph", "pathCursors", "[I"), .null), (("org/tourney/ValueGraph", "pathTried", "[I"), .null), (("org/tourney/ValueGraph", "sizeCounts", "[I"), .null), (("org/tourney/ValueGraph", "discovery", "[I"), .null), (("org/tourney/ValueGraph", "discoveredIn", "[I"), .null), (("org/tourney/ValueGraph", "lowest", "[I"), .null), (("org/tourney/ValueGraph", "component", "[I"), .null), (("org/tourney/ValueGraph", "isOpen", "[Z"), .null), (("org/tourney/ValueGraph", "openNodes", "[I"), .null), (("org/tourney/ValueGraph", "dfsNodes", "[I"), .null), (("org/tourney/ValueGraph", "dfsCursors", "[I"), .null), (("org/tourney/ValueGraph", "openCount", "I"), (.int (0))), (("org/tourney/ValueGraph", "edgeCount", "I"), (.int (0))), (("org/tourney/ValueGraph", "stamp", "I"), (.int (0))), (("org/tourney/ValueGraph", "search", "I"), (.int (0)))])] 0 0 (Is none [.inr (.int, [(.int (0)), (.int (0)), (.int (0))]), .inr (.int, [(.int (0)), (.int (0)), (.int (0))]), .inr (.int, [(.int (0)), (.int (0)), (.int (0))]), .inr (.int, [(.int (0)), (.int (0)), (.int (0))]), .inl ("org/tourney/ValueGraph", [(("org/tourney/ValueGraph", "positions", "I"), (.int (3))), (("org/tourney/ValueGraph", "values", "I"), (.int (3))), (("org/tourney/ValueGraph", "matchedValue", "[I"), (.ref 5)), (("org/tourney/ValueGraph", "matchedPosition", "[I"), (.ref 6)), (("org/tourney/ValueGraph", "openPositions", "[I"), (.ref 7)), (("org/tourney/ValueGraph", "edgeStart", "[I"), (.ref 8)), (("org/tourney/ValueGraph", "edgeEnd", "[I"), (.ref 9)), (("org/tourney/ValueGraph", "edgeValue", "[I"), (.ref 10)), (("org/tourney/ValueGraph", "keepsMatch", "[Z"), (.ref 11)), (("org/tourney/ValueGraph", "reached", "[I"), (.ref 12)), (("org/tourney/ValueGraph", "pathPositions", "[I"), (.ref 13)), (("org/tourney/ValueGraph", "pathCursors", "[I"), (.ref 14)), (("org/tourney/ValueGraph", "pathTried", "[I"), (.ref 15)), (("org/tourney/ValueGraph", "sizeCounts", "[I"), (.ref 16)), (("org/tourney/ValueGraph", "discovery", "[I"), (.ref 17)), (("org/tourney/ValueGraph", "discoveredIn", "[I"), (.ref 18)), (("org/tourney/ValueGraph", "lowest", "[I"), (.ref 19)), (("org/tourney/ValueGraph", "component", "[I"), (.ref 20)), (("org/tourney/ValueGraph", "isOpen", "[Z"), (.ref 21)), (("org/tourney/ValueGraph", "openNodes", "[I"), (.ref 22)), (("org/tourney/ValueGraph", "dfsNodes", "[I"), (.ref 23)), (("org/tourney/ValueGraph", "dfsCursors", "[I"), (.ref 24)), (("org/tourney/ValueGraph", "openCount", "I"), (.int (0))), (("org/tourney/ValueGraph", "edgeCount", "I"), (.int (0))), (("org/tourney/ValueGraph", "stamp", "I"), (.int (0))), (("org/tourney/ValueGraph", "search", "I"), (.int (0)))]), .inr (.int, [(.int ((-1))), (.int ((-1))), (.int ((-1)))]), .inr (.int, [(.int ((-1))), (.int ((-1))), (.int ((-1)))]), .inr (.int, [(.int (0)), (.int (0)), (.int (0))]), .inr (.int, [(.int (0)), (.int (0)), (.int (0))]), .inr (.int, [(.int (0)), (.int (0)), (.int (0))]), .inr (.int, [(.int (0)), (.int (0)), (.int (0)), (.int (0)), (.int (0)), (.int (0)), (.int (0)), (.int (0)), (.int (0)), (.int (0)), (.int (0)), (.int (0)), (.int (0)), (.int (0)), (.int (0)), (.int (0))]), .inr (.boolean, [(.int (0)), (.int (0)), (.int (0))]), .inr (.int, [(.int (0)), (.int (0)), (.int (0))]), .inr (.int, [(.int (0)), (.int (0)), (.int (0))]), .inr (.int, [(.int (0)), (.int (0)), (.int (0))]), .inr (.int, [(.int (0)), (.int (0)), (.int (0))]), .inr (.int, [(.int (0)), (.int (0)), (.int (0)), (.int (0))]), .inr (.int, [(.int (0)), (.int (0)), (.int (0)), (.int (0)), (.int (0)), (.int (0)), (.int (0))]), .inr (.int, [(.int (0)), (.int (0)), (.int (0)), (.int (0)), (.int (0)), (.int (0)), (.int (0))]), .inr (.int, [(.int (0)), (.int (0)), (.int (0)), (.int (0)), (.int (0)), (.int (0)), (.int (0))]), .inr (.int, [(.int (0)), (.int (0)), (.int (0)), (.int (0)), (.int (0)), (.int (0)), (.int (0))]), .inr (.boolean, [(.int (0)), (.int (0)), (.int (0)), (.int (0)), (.int (0)), (.int (0)), (.int (0))]), .inr (.int, [(.int (0)), (.int (0)), (.int (0)), (.int (0)), (.int (0)), (.int (0)), (.int (0))]), .inr (.int, [(.int (0)), (.int (0)), (.int (0)), (.int (0)), (.int (0)), (.int (0)), (.int (0))]), .inr (.int, [(.int (0)), (.int (0)), (.int (0)), (.int (0)), (.int (0)), (.int (0)), (.int (0))])]) := by
  show W l Z n m1 0 [(.val (.ref 4)), (.val (.int (3))), (.val (.int (3))), .unset] [] [.inr (.int, [(.int (0)), (.int (0)), (.int (0))]), .inr (.int, [(.int (0)), (.int (0)), (.int (0))]), .inr (.int, [(.int (0)), (.int (0)), (.int (0))]), .inr (.int, [(.int (0)), (.int (0)), (.int (0))]), .inl ("org/tourney/ValueGraph", [(("org/tourney/ValueGraph", "positions", "I"), (.int (0))), (("org/tourney/ValueGraph", "values", "I"), (.int (0))), (("org/tourney/ValueGraph", "matchedValue", "[I"), .null), (("org/tourney/ValueGraph", "matchedPosition", "[I"), .null), (("org/tourney/ValueGraph", "openPositions", "[I"), .null), (("org/tourney/ValueGraph", "edgeStart", "[I"), .null), (("org/tourney/ValueGraph", "edgeEnd", "[I"), .null), (("org/tourney/ValueGraph", "edgeValue", "[I"), .null), (("org/tourney/ValueGraph", "keepsMatch", "[Z"), .null), (("org/tourney/ValueGraph", "reached", "[I"), .null), (("org/tourney/ValueGraph", "pathPositions", "[I"), .null), (("org/tourney/ValueGraph", "pathCursors", "[I"), .null), (("org/tourney/ValueGraph", "pathTried", "[I"), .null), (("org/tourney/ValueGraph", "sizeCounts", "[I"), .null), (("org/tourney/ValueGraph", "discovery", "[I"), .null), (("org/tourney/ValueGraph", "discoveredIn", "[I"), .null), (("org/tourney/ValueGraph", "lowest", "[I"), .null), (("org/tourney/ValueGraph", "component", "[I"), .null), (("org/tourney/ValueGraph", "isOpen", "[Z"), .null), (("org/tourney/ValueGraph", "openNodes", "[I"), .null), (("org/tourney/ValueGraph", "dfsNodes", "[I"), .null), (("org/tourney/ValueGraph", "dfsCursors", "[I"), .null), (("org/tourney/ValueGraph", "openCount", "I"), (.int (0))), (("org/tourney/ValueGraph", "edgeCount", "I"), (.int (0))), (("org/tourney/ValueGraph", "stamp", "I"), (.int (0))), (("org/tourney/ValueGraph", "search", "I"), (.int (0)))])] 0 0 _
  refine W.aloadN d1_0 rfl rfl ?_
  refine W.initO d1_1 (hw _ (wd 9 rfl)) (hw _ (wd 10 rfl)) (hw _ (wd 11 rfl)) rfl rfl ?_
  refine W.aloadN d1_4 rfl rfl ?_
  refine W.iloadN d1_5 rfl ?_
  refine W.putfield 0 d1_6 (hw _ (wd 12 rfl)) rfl rfl (Or.inr ⟨hw _ (wd 13 rfl), rfl, rfl⟩) (hw _ (wd 4 rfl)) (ty := .int) (by decide) (fun _ => rfl) (fun _ => rfl) ?_
  refine W.aloadN d1_9 rfl rfl ?_
  refine W.iloadN d1_10 rfl ?_
  refine W.putfield 1 d1_11 (hw _ (wd 14 rfl)) rfl rfl (Or.inr ⟨hw _ (wd 15 rfl), rfl, rfl⟩) (hw _ (wd 4 rfl)) (ty := .int) (by decide) (fun _ => rfl) (fun _ => rfl) ?_
  refine W.aloadN d1_14 rfl rfl ?_
  refine W.iloadN d1_15 rfl ?_
  refine W.newarray (N := 5) (cnt := 3) (cap := 3) d1_16 (hw _ (wd 2 rfl)) ⟨by decide, by decide⟩ rfl (Nat.le_refl _) (by decide) (by decide) (by decide) ?_
  refine W.putfield 2 d1_18 (hw _ (wd 16 rfl)) rfl rfl (Or.inr ⟨hw _ (wd 17 rfl), rfl, rfl⟩) (hw _ (wd 4 rfl)) (ty := (.array .int)) (by decide) (fun _ => rfl) (fun _ => rfl) ?_
  show WB _ l Z n m1 21 [(.val (.ref 4)), (.val (.int (3))), (.val (.int (3))), .unset] [] [.inr (.int, [(.int (0)), (.int (0)), (.int (0))]), .inr (.int, [(.int (0)), (.int (0)), (.int (0))]), .inr (.int, [(.int (0)), (.int (0)), (.int (0))]), .inr (.int, [(.int (0)), (.int (0)), (.int (0))]), .inl ("org/tourney/ValueGraph", [(("org/tourney/ValueGraph", "positions", "I"), (.int (3))), (("org/tourney/ValueGraph", "values", "I"), (.int (3))), (("org/tourney/ValueGraph", "matchedValue", "[I"), (.ref 5)), (("org/tourney/ValueGraph", "matchedPosition", "[I"), .null), (("org/tourney/ValueGraph", "openPositions", "[I"), .null), (("org/tourney/ValueGraph", "edgeStart", "[I"), .null), (("org/tourney/ValueGraph", "edgeEnd", "[I"), .null), (("org/tourney/ValueGraph", "edgeValue", "[I"), .null), (("org/tourney/ValueGraph", "keepsMatch", "[Z"), .null), (("org/tourney/ValueGraph", "reached", "[I"), .null), (("org/tourney/ValueGraph", "pathPositions", "[I"), .null), (("org/tourney/ValueGraph", "pathCursors", "[I"), .null), (("org/tourney/ValueGraph", "pathTried", "[I"), .null), (("org/tourney/ValueGraph", "sizeCounts", "[I"), .null), (("org/tourney/ValueGraph", "discovery", "[I"), .null), (("org/tourney/ValueGraph", "discoveredIn", "[I"), .null), (("org/tourney/ValueGraph", "lowest", "[I"), .null), (("org/tourney/ValueGraph", "component", "[I"), .null), (("org/tourney/ValueGraph", "isOpen", "[Z"), .null), (("org/tourney/ValueGraph", "openNodes", "[I"), .null), (("org/tourney/ValueGraph", "dfsNodes", "[I"), .null), (("org/tourney/ValueGraph", "dfsCursors", "[I"), .null), (("org/tourney/ValueGraph", "openCount", "I"), (.int (0))), (("org/tourney/ValueGraph", "edgeCount", "I"), (.int (0))), (("org/tourney/ValueGraph", "stamp", "I"), (.int (0))), (("org/tourney/ValueGraph", "search", "I"), (.int (0)))]), .inr (.int, [(.int (0)), (.int (0)), (.int (0))])] _ _ _
  refine W.aloadN d1_21 rfl rfl ?_
  refine W.iloadN d1_22 rfl ?_
  refine W.newarray (N := 6) (cnt := 3) (cap := 3) d1_23 (hw _ (wd 2 rfl)) ⟨by decide, by decide⟩ rfl (Nat.le_refl _) (by decide) (by decide) (by decide) ?_
  refine W.putfield 3 d1_25 (hw _ (wd 18 rfl)) rfl rfl (Or.inr ⟨hw _ (wd 19 rfl), rfl, rfl⟩) (hw _ (wd 4 rfl)) (ty := (.array .int)) (by decide) (fun _ => rfl) (fun _ => rfl) ?_
  refine W.aloadN d1_28 rfl rfl ?_
  refine W.getfield 2 d1_29 (hw _ (wd 16 rfl)) rfl rfl ?_
  refine W.iconst (-1) d1_32 rfl ?_
  refine W.callsN (M' := m3) d1_33 (hw _ (wd 20 rfl)) (hw _ (wd 21 rfl)) (w3 hw _ 5 3 _ (-1) rfl (by decide)) (ok3 hw) rfl rfl rfl ?_
  refine W.aloadN d1_36 rfl rfl ?_
  refine W.getfield 3 d1_37 (hw _ (wd 18 rfl)) rfl rfl ?_
  refine W.iconst (-1) d1_40 rfl ?_
  refine W.callsN (M' := m3) d1_41 (hw _ (wd 20 rfl)) (hw _ (wd 21 rfl)) (w3 hw _ 6 3 _ (-1) rfl (by decide)) (ok3 hw) rfl rfl rfl ?_
  refine W.aloadN d1_44 rfl rfl ?_
  refine W.iloadN d1_45 rfl ?_
  refine W.newarray (N := 7) (cnt := 3) (cap := 3) d1_46 (hw _ (wd 2 rfl)) ⟨by decide, by decide⟩ rfl (Nat.le_refl _) (by decide) (by decide) (by decide) ?_
  refine W.putfield 4 d1_48 (hw _ (wd 24 rfl)) rfl rfl (Or.inr ⟨hw _ (wd 25 rfl), rfl, rfl⟩) (hw _ (wd 4 rfl)) (ty := (.array .int)) (by decide) (fun _ => rfl) (fun _ => rfl) ?_
  show WB _ l Z n m1 51 [(.val (.ref 4)), (.val (.int (3))), (.val (.int (3))), .unset] [] [.inr (.int, [(.int (0)), (.int (0)), (.int (0))]), .inr (.int, [(.int (0)), (.int (0)), (.int (0))]), .inr (.int, [(.int (0)), (.int (0)), (.int (0))]), .inr (.int, [(.int (0)), (.int (0)), (.int (0))]), .inl ("org/tourney/ValueGraph", [(("org/tourney/ValueGraph", "positions", "I"), (.int (3))), (("org/tourney/ValueGraph", "values", "I"), (.int (3))), (("org/tourney/ValueGraph", "matchedValue", "[I"), (.ref 5)), (("org/tourney/ValueGraph", "matchedPosition", "[I"), (.ref 6)), (("org/tourney/ValueGraph", "openPositions", "[I"), (.ref 7)), (("org/tourney/ValueGraph", "edgeStart", "[I"), .null), (("org/tourney/ValueGraph", "edgeEnd", "[I"), .null), (("org/tourney/ValueGraph", "edgeValue", "[I"), .null), (("org/tourney/ValueGraph", "keepsMatch", "[Z"), .null), (("org/tourney/ValueGraph", "reached", "[I"), .null), (("org/tourney/ValueGraph", "pathPositions", "[I"), .null), (("org/tourney/ValueGraph", "pathCursors", "[I"), .null), (("org/tourney/ValueGraph", "pathTried", "[I"), .null), (("org/tourney/ValueGraph", "sizeCounts", "[I"), .null), (("org/tourney/ValueGraph", "discovery", "[I"), .null), (("org/tourney/ValueGraph", "discoveredIn", "[I"), .null), (("org/tourney/ValueGraph", "lowest", "[I"), .null), (("org/tourney/ValueGraph", "component", "[I"), .null), (("org/tourney/ValueGraph", "isOpen", "[Z"), .null), (("org/tourney/ValueGraph", "openNodes", "[I"), .null), (("org/tourney/ValueGraph", "dfsNodes", "[I"), .null), (("org/tourney/ValueGraph", "dfsCursors", "[I"), .null), (("org/tourney/ValueGraph", "openCount", "I"), (.int (0))), (("org/tourney/ValueGraph", "edgeCount", "I"), (.int (0))), (("org/tourney/ValueGraph", "stamp", "I"), (.int (0))), (("org/tourney/ValueGraph", "search", "I"), (.int (0)))]), .inr (.int, [(.int ((-1))), (.int ((-1))), (.int ((-1)))]), .inr (.int, [(.int ((-1))), (.int ((-1))), (.int ((-1)))]), .inr (.int, [(.int (0)), (.int (0)), (.int (0))])] _ _ _
  refine W.aloadN d1_51 rfl rfl ?_
  refine W.iloadN d1_52 rfl ?_
  refine W.newarray (N := 8) (cnt := 3) (cap := 3) d1_53 (hw _ (wd 2 rfl)) ⟨by decide, by decide⟩ rfl (Nat.le_refl _) (by decide) (by decide) (by decide) ?_
  refine W.putfield 5 d1_55 (hw _ (wd 26 rfl)) rfl rfl (Or.inr ⟨hw _ (wd 27 rfl), rfl, rfl⟩) (hw _ (wd 4 rfl)) (ty := (.array .int)) (by decide) (fun _ => rfl) (fun _ => rfl) ?_
  refine W.aloadN d1_58 rfl rfl ?_
  refine W.iloadN d1_59 rfl ?_
  refine W.newarray (N := 9) (cnt := 3) (cap := 3) d1_60 (hw _ (wd 2 rfl)) ⟨by decide, by decide⟩ rfl (Nat.le_refl _) (by decide) (by decide) (by decide) ?_
  refine W.putfield 6 d1_62 (hw _ (wd 28 rfl)) rfl rfl (Or.inr ⟨hw _ (wd 29 rfl), rfl, rfl⟩) (hw _ (wd 4 rfl)) (ty := (.array .int)) (by decide) (fun _ => rfl) (fun _ => rfl) ?_
  show WB _ l Z n m1 65 [(.val (.ref 4)), (.val (.int (3))), (.val (.int (3))), .unset] [] [.inr (.int, [(.int (0)), (.int (0)), (.int (0))]), .inr (.int, [(.int (0)), (.int (0)), (.int (0))]), .inr (.int, [(.int (0)), (.int (0)), (.int (0))]), .inr (.int, [(.int (0)), (.int (0)), (.int (0))]), .inl ("org/tourney/ValueGraph", [(("org/tourney/ValueGraph", "positions", "I"), (.int (3))), (("org/tourney/ValueGraph", "values", "I"), (.int (3))), (("org/tourney/ValueGraph", "matchedValue", "[I"), (.ref 5)), (("org/tourney/ValueGraph", "matchedPosition", "[I"), (.ref 6)), (("org/tourney/ValueGraph", "openPositions", "[I"), (.ref 7)), (("org/tourney/ValueGraph", "edgeStart", "[I"), (.ref 8)), (("org/tourney/ValueGraph", "edgeEnd", "[I"), (.ref 9)), (("org/tourney/ValueGraph", "edgeValue", "[I"), .null), (("org/tourney/ValueGraph", "keepsMatch", "[Z"), .null), (("org/tourney/ValueGraph", "reached", "[I"), .null), (("org/tourney/ValueGraph", "pathPositions", "[I"), .null), (("org/tourney/ValueGraph", "pathCursors", "[I"), .null), (("org/tourney/ValueGraph", "pathTried", "[I"), .null), (("org/tourney/ValueGraph", "sizeCounts", "[I"), .null), (("org/tourney/ValueGraph", "discovery", "[I"), .null), (("org/tourney/ValueGraph", "discoveredIn", "[I"), .null), (("org/tourney/ValueGraph", "lowest", "[I"), .null), (("org/tourney/ValueGraph", "component", "[I"), .null), (("org/tourney/ValueGraph", "isOpen", "[Z"), .null), (("org/tourney/ValueGraph", "openNodes", "[I"), .null), (("org/tourney/ValueGraph", "dfsNodes", "[I"), .null), (("org/tourney/ValueGraph", "dfsCursors", "[I"), .null), (("org/tourney/ValueGraph", "openCount", "I"), (.int (0))), (("org/tourney/ValueGraph", "edgeCount", "I"), (.int (0))), (("org/tourney/ValueGraph", "stamp", "I"), (.int (0))), (("org/tourney/ValueGraph", "search", "I"), (.int (0)))]), .inr (.int, [(.int ((-1))), (.int ((-1))), (.int ((-1)))]), .inr (.int, [(.int ((-1))), (.int ((-1))), (.int ((-1)))]), .inr (.int, [(.int (0)), (.int (0)), (.int (0))]), .inr (.int, [(.int (0)), (.int (0)), (.int (0))]), .inr (.int, [(.int (0)), (.int (0)), (.int (0))])] _ _ _
  refine W.aloadN d1_65 rfl rfl ?_
  refine W.bipush 16 d1_66 rfl ?_
  refine W.iloadN d1_68 rfl ?_
  refine W.callsV (M' := m4) d1_69 (hw _ (wd 30 rfl)) (hw _ (wd 31 rfl)) (w4 hw _) (ok4 hw) rfl rfl rfl ?_
  refine W.newarray (N := 10) (cnt := 16) (cap := 16) d1_72 (hw _ (wd 2 rfl)) ⟨by decide, by decide⟩ rfl (Nat.le_refl _) (by decide) (by decide) (by decide) ?_
  refine W.putfield 7 d1_74 (hw _ (wd 34 rfl)) rfl rfl (Or.inl (hw _ (wd 35 rfl))) (hw _ (wd 4 rfl)) (ty := (.array .int)) (by decide) (fun _ => rfl) (fun _ => rfl) ?_
  refine W.aloadN d1_77 rfl rfl ?_
  refine W.iloadN d1_78 rfl ?_
  refine W.newarray (N := 11) (cnt := 3) (cap := 3) d1_79 (hw _ (wd 36 rfl)) ⟨by decide, by decide⟩ rfl (Nat.le_refl _) (by decide) (by decide) (by decide) ?_
  refine W.putfield 8 d1_81 (hw _ (wd 37 rfl)) rfl rfl (Or.inr ⟨hw _ (wd 38 rfl), rfl, rfl⟩) (hw _ (wd 4 rfl)) (ty := (.array .boolean)) (by decide) (fun _ => rfl) (fun _ => rfl) ?_
  show WB _ l Z n m1 84 [(.val (.ref 4)), (.val (.int (3))), (.val (.int (3))), .unset] [] [.inr (.int, [(.int (0)), (.int (0)), (.int (0))]), .inr (.int, [(.int (0)), (.int (0)), (.int (0))]), .inr (.int, [(.int (0)), (.int (0)), (.int (0))]), .inr (.int, [(.int (0)), (.int (0)), (.int (0))]), .inl ("org/tourney/ValueGraph", [(("org/tourney/ValueGraph", "positions", "I"), (.int (3))), (("org/tourney/ValueGraph", "values", "I"), (.int (3))), (("org/tourney/ValueGraph", "matchedValue", "[I"), (.ref 5)), (("org/tourney/ValueGraph", "matchedPosition", "[I"), (.ref 6)), (("org/tourney/ValueGraph", "openPositions", "[I"), (.ref 7)), (("org/tourney/ValueGraph", "edgeStart", "[I"), (.ref 8)), (("org/tourney/ValueGraph", "edgeEnd", "[I"), (.ref 9)), (("org/tourney/ValueGraph", "edgeValue", "[I"), (.ref 10)), (("org/tourney/ValueGraph", "keepsMatch", "[Z"), (.ref 11)), (("org/tourney/ValueGraph", "reached", "[I"), .null), (("org/tourney/ValueGraph", "pathPositions", "[I"), .null), (("org/tourney/ValueGraph", "pathCursors", "[I"), .null), (("org/tourney/ValueGraph", "pathTried", "[I"), .null), (("org/tourney/ValueGraph", "sizeCounts", "[I"), .null), (("org/tourney/ValueGraph", "discovery", "[I"), .null), (("org/tourney/ValueGraph", "discoveredIn", "[I"), .null), (("org/tourney/ValueGraph", "lowest", "[I"), .null), (("org/tourney/ValueGraph", "component", "[I"), .null), (("org/tourney/ValueGraph", "isOpen", "[Z"), .null), (("org/tourney/ValueGraph", "openNodes", "[I"), .null), (("org/tourney/ValueGraph", "dfsNodes", "[I"), .null), (("org/tourney/ValueGraph", "dfsCursors", "[I"), .null), (("org/tourney/ValueGraph", "openCount", "I"), (.int (0))), (("org/tourney/ValueGraph", "edgeCount", "I"), (.int (0))), (("org/tourney/ValueGraph", "stamp", "I"), (.int (0))), (("org/tourney/ValueGraph", "search", "I"), (.int (0)))]), .inr (.int, [(.int ((-1))), (.int ((-1))), (.int ((-1)))]), .inr (.int, [(.int ((-1))), (.int ((-1))), (.int ((-1)))]), .inr (.int, [(.int (0)), (.int (0)), (.int (0))]), .inr (.int, [(.int (0)), (.int (0)), (.int (0))]), .inr (.int, [(.int (0)), (.int (0)), (.int (0))]), .inr (.int, [(.int (0)), (.int (0)), (.int (0)), (.int (0)), (.int (0)), (.int (0)), (.int (0)), (.int (0)), (.int (0)), (.int (0)), (.int (0)), (.int (0)), (.int (0)), (.int (0)), (.int (0)), (.int (0))]), .inr (.boolean, [(.int (0)), (.int (0)), (.int (0))])] _ _ _
  refine W.aloadN d1_84 rfl rfl ?_
  refine W.iloadN d1_85 rfl ?_
  refine W.newarray (N := 12) (cnt := 3) (cap := 3) d1_86 (hw _ (wd 2 rfl)) ⟨by decide, by decide⟩ rfl (Nat.le_refl _) (by decide) (by decide) (by decide) ?_
  refine W.putfield 9 d1_88 (hw _ (wd 39 rfl)) rfl rfl (Or.inr ⟨hw _ (wd 40 rfl), rfl, rfl⟩) (hw _ (wd 4 rfl)) (ty := (.array .int)) (by decide) (fun _ => rfl) (fun _ => rfl) ?_
  refine W.aloadN d1_91 rfl rfl ?_
  refine W.iloadN d1_92 rfl ?_
  refine W.newarray (N := 13) (cnt := 3) (cap := 3) d1_93 (hw _ (wd 2 rfl)) ⟨by decide, by decide⟩ rfl (Nat.le_refl _) (by decide) (by decide) (by decide) ?_
  refine W.putfield 10 d1_95 (hw _ (wd 41 rfl)) rfl rfl (Or.inr ⟨hw _ (wd 42 rfl), rfl, rfl⟩) (hw _ (wd 4 rfl)) (ty := (.array .int)) (by decide) (fun _ => rfl) (fun _ => rfl) ?_
  show WB _ l Z n m1 98 [(.val (.ref 4)), (.val (.int (3))), (.val (.int (3))), .unset] [] [.inr (.int, [(.int (0)), (.int (0)), (.int (0))]), .inr (.int, [(.int (0)), (.int (0)), (.int (0))]), .inr (.int, [(.int (0)), (.int (0)), (.int (0))]), .inr (.int, [(.int (0)), (.int (0)), (.int (0))]), .inl ("org/tourney/ValueGraph", [(("org/tourney/ValueGraph", "positions", "I"), (.int (3))), (("org/tourney/ValueGraph", "values", "I"), (.int (3))), (("org/tourney/ValueGraph", "matchedValue", "[I"), (.ref 5)), (("org/tourney/ValueGraph", "matchedPosition", "[I"), (.ref 6)), (("org/tourney/ValueGraph", "openPositions", "[I"), (.ref 7)), (("org/tourney/ValueGraph", "edgeStart", "[I"), (.ref 8)), (("org/tourney/ValueGraph", "edgeEnd", "[I"), (.ref 9)), (("org/tourney/ValueGraph", "edgeValue", "[I"), (.ref 10)), (("org/tourney/ValueGraph", "keepsMatch", "[Z"), (.ref 11)), (("org/tourney/ValueGraph", "reached", "[I"), (.ref 12)), (("org/tourney/ValueGraph", "pathPositions", "[I"), (.ref 13)), (("org/tourney/ValueGraph", "pathCursors", "[I"), .null), (("org/tourney/ValueGraph", "pathTried", "[I"), .null), (("org/tourney/ValueGraph", "sizeCounts", "[I"), .null), (("org/tourney/ValueGraph", "discovery", "[I"), .null), (("org/tourney/ValueGraph", "discoveredIn", "[I"), .null), (("org/tourney/ValueGraph", "lowest", "[I"), .null), (("org/tourney/ValueGraph", "component", "[I"), .null), (("org/tourney/ValueGraph", "isOpen", "[Z"), .null), (("org/tourney/ValueGraph", "openNodes", "[I"), .null), (("org/tourney/ValueGraph", "dfsNodes", "[I"), .null), (("org/tourney/ValueGraph", "dfsCursors", "[I"), .null), (("org/tourney/ValueGraph", "openCount", "I"), (.int (0))), (("org/tourney/ValueGraph", "edgeCount", "I"), (.int (0))), (("org/tourney/ValueGraph", "stamp", "I"), (.int (0))), (("org/tourney/ValueGraph", "search", "I"), (.int (0)))]), .inr (.int, [(.int ((-1))), (.int ((-1))), (.int ((-1)))]), .inr (.int, [(.int ((-1))), (.int ((-1))), (.int ((-1)))]), .inr (.int, [(.int (0)), (.int (0)), (.int (0))]), .inr (.int, [(.int (0)), (.int (0)), (.int (0))]), .inr (.int, [(.int (0)), (.int (0)), (.int (0))]), .inr (.int, [(.int (0)), (.int (0)), (.int (0)), (.int (0)), (.int (0)), (.int (0)), (.int (0)), (.int (0)), (.int (0)), (.int (0)), (.int (0)), (.int (0)), (.int (0)), (.int (0)), (.int (0)), (.int (0))]), .inr (.boolean, [(.int (0)), (.int (0)), (.int (0))]), .inr (.int, [(.int (0)), (.int (0)), (.int (0))]), .inr (.int, [(.int (0)), (.int (0)), (.int (0))])] _ _ _
  refine W.aloadN d1_98 rfl rfl ?_
  refine W.iloadN d1_99 rfl ?_
  refine W.newarray (N := 14) (cnt := 3) (cap := 3) d1_100 (hw _ (wd 2 rfl)) ⟨by decide, by decide⟩ rfl (Nat.le_refl _) (by decide) (by decide) (by decide) ?_
  refine W.putfield 11 d1_102 (hw _ (wd 43 rfl)) rfl rfl (Or.inr ⟨hw _ (wd 44 rfl), rfl, rfl⟩) (hw _ (wd 4 rfl)) (ty := (.array .int)) (by decide) (fun _ => rfl) (fun _ => rfl) ?_
  refine W.aloadN d1_105 rfl rfl ?_
  refine W.iloadN d1_106 rfl ?_
  refine W.newarray (N := 15) (cnt := 3) (cap := 3) d1_107 (hw _ (wd 2 rfl)) ⟨by decide, by decide⟩ rfl (Nat.le_refl _) (by decide) (by decide) (by decide) ?_
  refine W.putfield 12 d1_109 (hw _ (wd 45 rfl)) rfl rfl (Or.inr ⟨hw _ (wd 46 rfl), rfl, rfl⟩) (hw _ (wd 4 rfl)) (ty := (.array .int)) (by decide) (fun _ => rfl) (fun _ => rfl) ?_
  show WB _ l Z n m1 112 [(.val (.ref 4)), (.val (.int (3))), (.val (.int (3))), .unset] [] [.inr (.int, [(.int (0)), (.int (0)), (.int (0))]), .inr (.int, [(.int (0)), (.int (0)), (.int (0))]), .inr (.int, [(.int (0)), (.int (0)), (.int (0))]), .inr (.int, [(.int (0)), (.int (0)), (.int (0))]), .inl ("org/tourney/ValueGraph", [(("org/tourney/ValueGraph", "positions", "I"), (.int (3))), (("org/tourney/ValueGraph", "values", "I"), (.int (3))), (("org/tourney/ValueGraph", "matchedValue", "[I"), (.ref 5)), (("org/tourney/ValueGraph", "matchedPosition", "[I"), (.ref 6)), (("org/tourney/ValueGraph", "openPositions", "[I"), (.ref 7)), (("org/tourney/ValueGraph", "edgeStart", "[I"), (.ref 8)), (("org/tourney/ValueGraph", "edgeEnd", "[I"), (.ref 9)), (("org/tourney/ValueGraph", "edgeValue", "[I"), (.ref 10)), (("org/tourney/ValueGraph", "keepsMatch", "[Z"), (.ref 11)), (("org/tourney/ValueGraph", "reached", "[I"), (.ref 12)), (("org/tourney/ValueGraph", "pathPositions", "[I"), (.ref 13)), (("org/tourney/ValueGraph", "pathCursors", "[I"), (.ref 14)), (("org/tourney/ValueGraph", "pathTried", "[I"), (.ref 15)), (("org/tourney/ValueGraph", "sizeCounts", "[I"), .null), (("org/tourney/ValueGraph", "discovery", "[I"), .null), (("org/tourney/ValueGraph", "discoveredIn", "[I"), .null), (("org/tourney/ValueGraph", "lowest", "[I"), .null), (("org/tourney/ValueGraph", "component", "[I"), .null), (("org/tourney/ValueGraph", "isOpen", "[Z"), .null), (("org/tourney/ValueGraph", "openNodes", "[I"), .null), (("org/tourney/ValueGraph", "dfsNodes", "[I"), .null), (("org/tourney/ValueGraph", "dfsCursors", "[I"), .null), (("org/tourney/ValueGraph", "openCount", "I"), (.int (0))), (("org/tourney/ValueGraph", "edgeCount", "I"), (.int (0))), (("org/tourney/ValueGraph", "stamp", "I"), (.int (0))), (("org/tourney/ValueGraph", "search", "I"), (.int (0)))]), .inr (.int, [(.int ((-1))), (.int ((-1))), (.int ((-1)))]), .inr (.int, [(.int ((-1))), (.int ((-1))), (.int ((-1)))]), .inr (.int, [(.int (0)), (.int (0)), (.int (0))]), .inr (.int, [(.int (0)), (.int (0)), (.int (0))]), .inr (.int, [(.int (0)), (.int (0)), (.int (0))]), .inr (.int, [(.int (0)), (.int (0)), (.int (0)), (.int (0)), (.int (0)), (.int (0)), (.int (0)), (.int (0)), (.int (0)), (.int (0)), (.int (0)), (.int (0)), (.int (0)), (.int (0)), (.int (0)), (.int (0))]), .inr (.boolean, [(.int (0)), (.int (0)), (.int (0))]), .inr (.int, [(.int (0)), (.int (0)), (.int (0))]), .inr (.int, [(.int (0)), (.int (0)), (.int (0))]), .inr (.int, [(.int (0)), (.int (0)), (.int (0))]), .inr (.int, [(.int (0)), (.int (0)), (.int (0))])] _ _ _
  refine W.aloadN d1_112 rfl rfl ?_
  refine W.iloadN d1_113 rfl ?_
  refine W.iconst 1 d1_114 rfl ?_
  refine W.iadd d1_115 ?_
  refine W.newarray (N := 16) (cnt := 4) (cap := 4) d1_116 (hw _ (wd 2 rfl)) ⟨by decide, by decide⟩ rfl (Nat.le_refl _) (by decide) (by decide) (by decide) ?_
  refine W.putfield 13 d1_118 (hw _ (wd 47 rfl)) rfl rfl (Or.inr ⟨hw _ (wd 48 rfl), rfl, rfl⟩) (hw _ (wd 4 rfl)) (ty := (.array .int)) (by decide) (fun _ => rfl) (fun _ => rfl) ?_
  refine W.iloadN d1_121 rfl ?_
  refine W.iloadN d1_122 rfl ?_
  refine W.iadd d1_123 ?_
  refine W.iconst 1 d1_124 rfl ?_
  refine W.iadd d1_125 ?_
  refine W.istoreN d1_126 rfl ?_
  refine W.aloadN d1_127 rfl rfl ?_
  refine W.iloadN d1_128 rfl ?_
  refine W.newarray (N := 17) (cnt := 7) (cap := 7) d1_129 (hw _ (wd 2 rfl)) ⟨by decide, by decide⟩ rfl (Nat.le_refl _) (by decide) (by decide) (by decide) ?_
  show WB _ l Z n m1 131 [(.val (.ref 4)), (.val (.int (3))), (.val (.int (3))), (.val (.int ((3 + 3) + 1)))] [(.ref 17), (.ref 4)] [.inr (.int, [(.int (0)), (.int (0)), (.int (0))]), .inr (.int, [(.int (0)), (.int (0)), (.int (0))]), .inr (.int, [(.int (0)), (.int (0)), (.int (0))]), .inr (.int, [(.int (0)), (.int (0)), (.int (0))]), .inl ("org/tourney/ValueGraph", [(("org/tourney/ValueGraph", "positions", "I"), (.int (3))), (("org/tourney/ValueGraph", "values", "I"), (.int (3))), (("org/tourney/ValueGraph", "matchedValue", "[I"), (.ref 5)), (("org/tourney/ValueGraph", "matchedPosition", "[I"), (.ref 6)), (("org/tourney/ValueGraph", "openPositions", "[I"), (.ref 7)), (("org/tourney/ValueGraph", "edgeStart", "[I"), (.ref 8)), (("org/tourney/ValueGraph", "edgeEnd", "[I"), (.ref 9)), (("org/tourney/ValueGraph", "edgeValue", "[I"), (.ref 10)), (("org/tourney/ValueGraph", "keepsMatch", "[Z"), (.ref 11)), (("org/tourney/ValueGraph", "reached", "[I"), (.ref 12)), (("org/tourney/ValueGraph", "pathPositions", "[I"), (.ref 13)), (("org/tourney/ValueGraph", "pathCursors", "[I"), (.ref 14)), (("org/tourney/ValueGraph", "pathTried", "[I"), (.ref 15)), (("org/tourney/ValueGraph", "sizeCounts", "[I"), (.ref 16)), (("org/tourney/ValueGraph", "discovery", "[I"), .null), (("org/tourney/ValueGraph", "discoveredIn", "[I"), .null), (("org/tourney/ValueGraph", "lowest", "[I"), .null), (("org/tourney/ValueGraph", "component", "[I"), .null), (("org/tourney/ValueGraph", "isOpen", "[Z"), .null), (("org/tourney/ValueGraph", "openNodes", "[I"), .null), (("org/tourney/ValueGraph", "dfsNodes", "[I"), .null), (("org/tourney/ValueGraph", "dfsCursors", "[I"), .null), (("org/tourney/ValueGraph", "openCount", "I"), (.int (0))), (("org/tourney/ValueGraph", "edgeCount", "I"), (.int (0))), (("org/tourney/ValueGraph", "stamp", "I"), (.int (0))), (("org/tourney/ValueGraph", "search", "I"), (.int (0)))]), .inr (.int, [(.int ((-1))), (.int ((-1))), (.int ((-1)))]), .inr (.int, [(.int ((-1))), (.int ((-1))), (.int ((-1)))]), .inr (.int, [(.int (0)), (.int (0)), (.int (0))]), .inr (.int, [(.int (0)), (.int (0)), (.int (0))]), .inr (.int, [(.int (0)), (.int (0)), (.int (0))]), .inr (.int, [(.int (0)), (.int (0)), (.int (0)), (.int (0)), (.int (0)), (.int (0)), (.int (0)), (.int (0)), (.int (0)), (.int (0)), (.int (0)), (.int (0)), (.int (0)), (.int (0)), (.int (0)), (.int (0))]), .inr (.boolean, [(.int (0)), (.int (0)), (.int (0))]), .inr (.int, [(.int (0)), (.int (0)), (.int (0))]), .inr (.int, [(.int (0)), (.int (0)), (.int (0))]), .inr (.int, [(.int (0)), (.int (0)), (.int (0))]), .inr (.int, [(.int (0)), (.int (0)), (.int (0))]), .inr (.int, [(.int (0)), (.int (0)), (.int (0)), (.int (0))]), .inr (.int, [(.int (0)), (.int (0)), (.int (0)), (.int (0)), (.int (0)), (.int (0)), (.int (0))])] _ _ _
  refine W.putfield 14 d1_131 (hw _ (wd 49 rfl)) rfl rfl (Or.inr ⟨hw _ (wd 50 rfl), rfl, rfl⟩) (hw _ (wd 4 rfl)) (ty := (.array .int)) (by decide) (fun _ => rfl) (fun _ => rfl) ?_
  refine W.aloadN d1_134 rfl rfl ?_
  refine W.iloadN d1_135 rfl ?_
  refine W.newarray (N := 18) (cnt := 7) (cap := 7) d1_136 (hw _ (wd 2 rfl)) ⟨by decide, by decide⟩ rfl (Nat.le_refl _) (by decide) (by decide) (by decide) ?_
  refine W.putfield 15 d1_138 (hw _ (wd 51 rfl)) rfl rfl (Or.inr ⟨hw _ (wd 52 rfl), rfl, rfl⟩) (hw _ (wd 4 rfl)) (ty := (.array .int)) (by decide) (fun _ => rfl) (fun _ => rfl) ?_
  refine W.aloadN d1_141 rfl rfl ?_
  refine W.iloadN d1_142 rfl ?_
  refine W.newarray (N := 19) (cnt := 7) (cap := 7) d1_143 (hw _ (wd 2 rfl)) ⟨by decide, by decide⟩ rfl (Nat.le_refl _) (by decide) (by decide) (by decide) ?_
  show WB _ l Z n m1 145 [(.val (.ref 4)), (.val (.int (3))), (.val (.int (3))), (.val (.int ((3 + 3) + 1)))] [(.ref 19), (.ref 4)] [.inr (.int, [(.int (0)), (.int (0)), (.int (0))]), .inr (.int, [(.int (0)), (.int (0)), (.int (0))]), .inr (.int, [(.int (0)), (.int (0)), (.int (0))]), .inr (.int, [(.int (0)), (.int (0)), (.int (0))]), .inl ("org/tourney/ValueGraph", [(("org/tourney/ValueGraph", "positions", "I"), (.int (3))), (("org/tourney/ValueGraph", "values", "I"), (.int (3))), (("org/tourney/ValueGraph", "matchedValue", "[I"), (.ref 5)), (("org/tourney/ValueGraph", "matchedPosition", "[I"), (.ref 6)), (("org/tourney/ValueGraph", "openPositions", "[I"), (.ref 7)), (("org/tourney/ValueGraph", "edgeStart", "[I"), (.ref 8)), (("org/tourney/ValueGraph", "edgeEnd", "[I"), (.ref 9)), (("org/tourney/ValueGraph", "edgeValue", "[I"), (.ref 10)), (("org/tourney/ValueGraph", "keepsMatch", "[Z"), (.ref 11)), (("org/tourney/ValueGraph", "reached", "[I"), (.ref 12)), (("org/tourney/ValueGraph", "pathPositions", "[I"), (.ref 13)), (("org/tourney/ValueGraph", "pathCursors", "[I"), (.ref 14)), (("org/tourney/ValueGraph", "pathTried", "[I"), (.ref 15)), (("org/tourney/ValueGraph", "sizeCounts", "[I"), (.ref 16)), (("org/tourney/ValueGraph", "discovery", "[I"), (.ref 17)), (("org/tourney/ValueGraph", "discoveredIn", "[I"), (.ref 18)), (("org/tourney/ValueGraph", "lowest", "[I"), .null), (("org/tourney/ValueGraph", "component", "[I"), .null), (("org/tourney/ValueGraph", "isOpen", "[Z"), .null), (("org/tourney/ValueGraph", "openNodes", "[I"), .null), (("org/tourney/ValueGraph", "dfsNodes", "[I"), .null), (("org/tourney/ValueGraph", "dfsCursors", "[I"), .null), (("org/tourney/ValueGraph", "openCount", "I"), (.int (0))), (("org/tourney/ValueGraph", "edgeCount", "I"), (.int (0))), (("org/tourney/ValueGraph", "stamp", "I"), (.int (0))), (("org/tourney/ValueGraph", "search", "I"), (.int (0)))]), .inr (.int, [(.int ((-1))), (.int ((-1))), (.int ((-1)))]), .inr (.int, [(.int ((-1))), (.int ((-1))), (.int ((-1)))]), .inr (.int, [(.int (0)), (.int (0)), (.int (0))]), .inr (.int, [(.int (0)), (.int (0)), (.int (0))]), .inr (.int, [(.int (0)), (.int (0)), (.int (0))]), .inr (.int, [(.int (0)), (.int (0)), (.int (0)), (.int (0)), (.int (0)), (.int (0)), (.int (0)), (.int (0)), (.int (0)), (.int (0)), (.int (0)), (.int (0)), (.int (0)), (.int (0)), (.int (0)), (.int (0))]), .inr (.boolean, [(.int (0)), (.int (0)), (.int (0))]), .inr (.int, [(.int (0)), (.int (0)), (.int (0))]), .inr (.int, [(.int (0)), (.int (0)), (.int (0))]), .inr (.int, [(.int (0)), (.int (0)), (.int (0))]), .inr (.int, [(.int (0)), (.int (0)), (.int (0))]), .inr (.int, [(.int (0)), (.int (0)), (.int (0)), (.int (0))]), .inr (.int, [(.int (0)), (.int (0)), (.int (0)), (.int (0)), (.int (0)), (.int (0)), (.int (0))]), .inr (.int, [(.int (0)), (.int (0)), (.int (0)), (.int (0)), (.int (0)), (.int (0)), (.int (0))]), .inr (.int, [(.int (0)), (.int (0)), (.int (0)), (.int (0)), (.int (0)), (.int (0)), (.int (0))])] _ _ _
  refine W.putfield 16 d1_145 (hw _ (wd 53 rfl)) rfl rfl (Or.inr ⟨hw _ (wd 54 rfl), rfl, rfl⟩) (hw _ (wd 4 rfl)) (ty := (.array .int)) (by decide) (fun _ => rfl) (fun _ => rfl) ?_
  refine W.aloadN d1_148 rfl rfl ?_
  refine W.iloadN d1_149 rfl ?_
  refine W.newarray (N := 20) (cnt := 7) (cap := 7) d1_150 (hw _ (wd 2 rfl)) ⟨by decide, by decide⟩ rfl (Nat.le_refl _) (by decide) (by decide) (by decide) ?_
  refine W.putfield 17 d1_152 (hw _ (wd 55 rfl)) rfl rfl (Or.inr ⟨hw _ (wd 56 rfl), rfl, rfl⟩) (hw _ (wd 4 rfl)) (ty := (.array .int)) (by decide) (fun _ => rfl) (fun _ => rfl) ?_
  refine W.aloadN d1_155 rfl rfl ?_
  refine W.iloadN d1_156 rfl ?_
  refine W.newarray (N := 21) (cnt := 7) (cap := 7) d1_157 (hw _ (wd 36 rfl)) ⟨by decide, by decide⟩ rfl (Nat.le_refl _) (by decide) (by decide) (by decide) ?_
  show WB _ l Z n m1 159 [(.val (.ref 4)), (.val (.int (3))), (.val (.int (3))), (.val (.int ((3 + 3) + 1)))] [(.ref 21), (.ref 4)] [.inr (.int, [(.int (0)), (.int (0)), (.int (0))]), .inr (.int, [(.int (0)), (.int (0)), (.int (0))]), .inr (.int, [(.int (0)), (.int (0)), (.int (0))]), .inr (.int, [(.int (0)), (.int (0)), (.int (0))]), .inl ("org/tourney/ValueGraph", [(("org/tourney/ValueGraph", "positions", "I"), (.int (3))), (("org/tourney/ValueGraph", "values", "I"), (.int (3))), (("org/tourney/ValueGraph", "matchedValue", "[I"), (.ref 5)), (("org/tourney/ValueGraph", "matchedPosition", "[I"), (.ref 6)), (("org/tourney/ValueGraph", "openPositions", "[I"), (.ref 7)), (("org/tourney/ValueGraph", "edgeStart", "[I"), (.ref 8)), (("org/tourney/ValueGraph", "edgeEnd", "[I"), (.ref 9)), (("org/tourney/ValueGraph", "edgeValue", "[I"), (.ref 10)), (("org/tourney/ValueGraph", "keepsMatch", "[Z"), (.ref 11)), (("org/tourney/ValueGraph", "reached", "[I"), (.ref 12)), (("org/tourney/ValueGraph", "pathPositions", "[I"), (.ref 13)), (("org/tourney/ValueGraph", "pathCursors", "[I"), (.ref 14)), (("org/tourney/ValueGraph", "pathTried", "[I"), (.ref 15)), (("org/tourney/ValueGraph", "sizeCounts", "[I"), (.ref 16)), (("org/tourney/ValueGraph", "discovery", "[I"), (.ref 17)), (("org/tourney/ValueGraph", "discoveredIn", "[I"), (.ref 18)), (("org/tourney/ValueGraph", "lowest", "[I"), (.ref 19)), (("org/tourney/ValueGraph", "component", "[I"), (.ref 20)), (("org/tourney/ValueGraph", "isOpen", "[Z"), .null), (("org/tourney/ValueGraph", "openNodes", "[I"), .null), (("org/tourney/ValueGraph", "dfsNodes", "[I"), .null), (("org/tourney/ValueGraph", "dfsCursors", "[I"), .null), (("org/tourney/ValueGraph", "openCount", "I"), (.int (0))), (("org/tourney/ValueGraph", "edgeCount", "I"), (.int (0))), (("org/tourney/ValueGraph", "stamp", "I"), (.int (0))), (("org/tourney/ValueGraph", "search", "I"), (.int (0)))]), .inr (.int, [(.int ((-1))), (.int ((-1))), (.int ((-1)))]), .inr (.int, [(.int ((-1))), (.int ((-1))), (.int ((-1)))]), .inr (.int, [(.int (0)), (.int (0)), (.int (0))]), .inr (.int, [(.int (0)), (.int (0)), (.int (0))]), .inr (.int, [(.int (0)), (.int (0)), (.int (0))]), .inr (.int, [(.int (0)), (.int (0)), (.int (0)), (.int (0)), (.int (0)), (.int (0)), (.int (0)), (.int (0)), (.int (0)), (.int (0)), (.int (0)), (.int (0)), (.int (0)), (.int (0)), (.int (0)), (.int (0))]), .inr (.boolean, [(.int (0)), (.int (0)), (.int (0))]), .inr (.int, [(.int (0)), (.int (0)), (.int (0))]), .inr (.int, [(.int (0)), (.int (0)), (.int (0))]), .inr (.int, [(.int (0)), (.int (0)), (.int (0))]), .inr (.int, [(.int (0)), (.int (0)), (.int (0))]), .inr (.int, [(.int (0)), (.int (0)), (.int (0)), (.int (0))]), .inr (.int, [(.int (0)), (.int (0)), (.int (0)), (.int (0)), (.int (0)), (.int (0)), (.int (0))]), .inr (.int, [(.int (0)), (.int (0)), (.int (0)), (.int (0)), (.int (0)), (.int (0)), (.int (0))]), .inr (.int, [(.int (0)), (.int (0)), (.int (0)), (.int (0)), (.int (0)), (.int (0)), (.int (0))]), .inr (.int, [(.int (0)), (.int (0)), (.int (0)), (.int (0)), (.int (0)), (.int (0)), (.int (0))]), .inr (.boolean, [(.int (0)), (.int (0)), (.int (0)), (.int (0)), (.int (0)), (.int (0)), (.int (0))])] _ _ _
  refine W.putfield 18 d1_159 (hw _ (wd 57 rfl)) rfl rfl (Or.inr ⟨hw _ (wd 58 rfl), rfl, rfl⟩) (hw _ (wd 4 rfl)) (ty := (.array .boolean)) (by decide) (fun _ => rfl) (fun _ => rfl) ?_
  refine W.aloadN d1_162 rfl rfl ?_
  refine W.iloadN d1_163 rfl ?_
  refine W.newarray (N := 22) (cnt := 7) (cap := 7) d1_164 (hw _ (wd 2 rfl)) ⟨by decide, by decide⟩ rfl (Nat.le_refl _) (by decide) (by decide) (by decide) ?_
  refine W.putfield 19 d1_166 (hw _ (wd 59 rfl)) rfl rfl (Or.inr ⟨hw _ (wd 60 rfl), rfl, rfl⟩) (hw _ (wd 4 rfl)) (ty := (.array .int)) (by decide) (fun _ => rfl) (fun _ => rfl) ?_
  refine W.aloadN d1_169 rfl rfl ?_
  refine W.iloadN d1_170 rfl ?_
  refine W.newarray (N := 23) (cnt := 7) (cap := 7) d1_171 (hw _ (wd 2 rfl)) ⟨by decide, by decide⟩ rfl (Nat.le_refl _) (by decide) (by decide) (by decide) ?_
  show WB _ l Z n m1 173 [(.val (.ref 4)), (.val (.int (3))), (.val (.int (3))), (.val (.int ((3 + 3) + 1)))] [(.ref 23), (.ref 4)] [.inr (.int, [(.int (0)), (.int (0)), (.int (0))]), .inr (.int, [(.int (0)), (.int (0)), (.int (0))]), .inr (.int, [(.int (0)), (.int (0)), (.int (0))]), .inr (.int, [(.int (0)), (.int (0)), (.int (0))]), .inl ("org/tourney/ValueGraph", [(("org/tourney/ValueGraph", "positions", "I"), (.int (3))), (("org/tourney/ValueGraph", "values", "I"), (.int (3))), (("org/tourney/ValueGraph", "matchedValue", "[I"), (.ref 5)), (("org/tourney/ValueGraph", "matchedPosition", "[I"), (.ref 6)), (("org/tourney/ValueGraph", "openPositions", "[I"), (.ref 7)), (("org/tourney/ValueGraph", "edgeStart", "[I"), (.ref 8)), (("org/tourney/ValueGraph", "edgeEnd", "[I"), (.ref 9)), (("org/tourney/ValueGraph", "edgeValue", "[I"), (.ref 10)), (("org/tourney/ValueGraph", "keepsMatch", "[Z"), (.ref 11)), (("org/tourney/ValueGraph", "reached", "[I"), (.ref 12)), (("org/tourney/ValueGraph", "pathPositions", "[I"), (.ref 13)), (("org/tourney/ValueGraph", "pathCursors", "[I"), (.ref 14)), (("org/tourney/ValueGraph", "pathTried", "[I"), (.ref 15)), (("org/tourney/ValueGraph", "sizeCounts", "[I"), (.ref 16)), (("org/tourney/ValueGraph", "discovery", "[I"), (.ref 17)), (("org/tourney/ValueGraph", "discoveredIn", "[I"), (.ref 18)), (("org/tourney/ValueGraph", "lowest", "[I"), (.ref 19)), (("org/tourney/ValueGraph", "component", "[I"), (.ref 20)), (("org/tourney/ValueGraph", "isOpen", "[Z"), (.ref 21)), (("org/tourney/ValueGraph", "openNodes", "[I"), (.ref 22)), (("org/tourney/ValueGraph", "dfsNodes", "[I"), .null), (("org/tourney/ValueGraph", "dfsCursors", "[I"), .null), (("org/tourney/ValueGraph", "openCount", "I"), (.int (0))), (("org/tourney/ValueGraph", "edgeCount", "I"), (.int (0))), (("org/tourney/ValueGraph", "stamp", "I"), (.int (0))), (("org/tourney/ValueGraph", "search", "I"), (.int (0)))]), .inr (.int, [(.int ((-1))), (.int ((-1))), (.int ((-1)))]), .inr (.int, [(.int ((-1))), (.int ((-1))), (.int ((-1)))]), .inr (.int, [(.int (0)), (.int (0)), (.int (0))]), .inr (.int, [(.int (0)), (.int (0)), (.int (0))]), .inr (.int, [(.int (0)), (.int (0)), (.int (0))]), .inr (.int, [(.int (0)), (.int (0)), (.int (0)), (.int (0)), (.int (0)), (.int (0)), (.int (0)), (.int (0)), (.int (0)), (.int (0)), (.int (0)), (.int (0)), (.int (0)), (.int (0)), (.int (0)), (.int (0))]), .inr (.boolean, [(.int (0)), (.int (0)), (.int (0))]), .inr (.int, [(.int (0)), (.int (0)), (.int (0))]), .inr (.int, [(.int (0)), (.int (0)), (.int (0))]), .inr (.int, [(.int (0)), (.int (0)), (.int (0))]), .inr (.int, [(.int (0)), (.int (0)), (.int (0))]), .inr (.int, [(.int (0)), (.int (0)), (.int (0)), (.int (0))]), .inr (.int, [(.int (0)), (.int (0)), (.int (0)), (.int (0)), (.int (0)), (.int (0)), (.int (0))]), .inr (.int, [(.int (0)), (.int (0)), (.int (0)), (.int (0)), (.int (0)), (.int (0)), (.int (0))]), .inr (.int, [(.int (0)), (.int (0)), (.int (0)), (.int (0)), (.int (0)), (.int (0)), (.int (0))]), .inr (.int, [(.int (0)), (.int (0)), (.int (0)), (.int (0)), (.int (0)), (.int (0)), (.int (0))]), .inr (.boolean, [(.int (0)), (.int (0)), (.int (0)), (.int (0)), (.int (0)), (.int (0)), (.int (0))]), .inr (.int, [(.int (0)), (.int (0)), (.int (0)), (.int (0)), (.int (0)), (.int (0)), (.int (0))]), .inr (.int, [(.int (0)), (.int (0)), (.int (0)), (.int (0)), (.int (0)), (.int (0)), (.int (0))])] _ _ _
  refine W.putfield 20 d1_173 (hw _ (wd 61 rfl)) rfl rfl (Or.inr ⟨hw _ (wd 62 rfl), rfl, rfl⟩) (hw _ (wd 4 rfl)) (ty := (.array .int)) (by decide) (fun _ => rfl) (fun _ => rfl) ?_
  refine W.aloadN d1_176 rfl rfl ?_
  refine W.iloadN d1_177 rfl ?_
  refine W.newarray (N := 24) (cnt := 7) (cap := 7) d1_178 (hw _ (wd 2 rfl)) ⟨by decide, by decide⟩ rfl (Nat.le_refl _) (by decide) (by decide) (by decide) ?_
  refine W.putfield 21 d1_180 (hw _ (wd 63 rfl)) rfl rfl (Or.inr ⟨hw _ (wd 64 rfl), rfl, rfl⟩) (hw _ (wd 4 rfl)) (ty := (.array .int)) (by decide) (fun _ => rfl) (fun _ => rfl) ?_
  exact W.leave d1_183 rfl (by decide) (by decide) (⟨rfl, rfl⟩)
set_option maxRecDepth 65536 in
set_option maxHeartbeats 40000000 in
theorem w_law {l : Launch} {Z : State} {a0 : Array Value} {n : Nat} (hw : ∀ d ∈ tables_1, d.before a0 Z = true) (a b c : Int32) : W l Z n m0 0 (entryL [.int a, .int b, .int c] 27) [] [] 0 0 (fun v _ => v = some (.int 1)) := by
  show W l Z n m0 0 [(.val (.int (a))), (.val (.int (b))), (.val (.int (c))), .unset, .unset, .unset, .unset, .unset, .unset, .unset, .unset, .unset, .unset, .unset, .unset, .unset, .unset, .unset, .unset, .unset, .unset, .unset, .unset, .unset, .unset, .unset, .unset] [] [] 0 0 _
  refine W.iloadN d0_0 rfl ?_
  refine W.ldc d0_1 (hw _ (wd 0 rfl)) ?_
  refine W.iand d0_3 ?_
  refine W.iconst 3 d0_4 rfl ?_
  refine W.irem d0_5 (by decide) ?_
  obtain ⟨p1, hp1, ep1⟩ := own_r3 a 2147483647 (by decide)
  rw [ep1]
  refine W.istoreN d0_6 rfl ?_
  refine W.iloadN d0_7 rfl ?_
  refine W.iconst 1 d0_8 rfl ?_
  refine W.iadd d0_9 ?_
  refine W.iloadN d0_10 rfl ?_
  refine W.bipush 31 d0_11 rfl ?_
  refine W.iushr d0_13 ?_
  refine W.iconst 1 d0_14 rfl ?_
  refine W.iand d0_15 ?_
  refine W.iadd d0_16 ?_
  refine W.iconst 3 d0_17 rfl ?_
  refine W.irem d0_18 (by decide) ?_
  obtain ⟨p2, hp2, hne, ep2⟩ := own_p2 p1 (XT.ushr a 31) hp1
  rw [ep2]
  refine W.istore d0_19 rfl ?_
  refine W.iloadN d0_21 rfl ?_
  refine W.bipush 7 d0_22 rfl ?_
  refine W.iand d0_24 ?_
  obtain ⟨mm1, hmm1, emm1⟩ := own_a7 b
  rw [emm1]
  refine W.istore d0_25 rfl ?_
  refine W.iloadN d0_27 rfl ?_
  refine W.iconst 3 d0_28 rfl ?_
  refine W.iushr d0_29 ?_
  refine W.bipush 7 d0_30 rfl ?_
  refine W.iand d0_32 ?_
  obtain ⟨mm2, hmm2, emm2⟩ := own_a7 (XT.ushr b 3)
  rw [emm2]
  refine W.istore d0_33 rfl ?_
  show WB _ l Z n m0 35 [(.val (.int (a))), (.val (.int (b))), (.val (.int (c))), (.val (.int (Int32.ofNat p1))), (.val (.int (Int32.ofNat p2))), (.val (.int (Int32.ofNat mm1))), (.val (.int (Int32.ofNat mm2))), .unset, .unset, .unset, .unset, .unset, .unset, .unset, .unset, .unset, .unset, .unset, .unset, .unset, .unset, .unset, .unset, .unset, .unset, .unset, .unset] [] [] _ _ _
  refine W.iloadN d0_35 rfl ?_
  refine W.bipush 6 d0_36 rfl ?_
  refine W.iushr d0_38 ?_
  refine W.ldc d0_39 (hw _ (wd 1 rfl)) ?_
  refine W.iand d0_41 ?_
  refine W.iconst 3 d0_42 rfl ?_
  refine W.irem d0_43 (by decide) ?_
  obtain ⟨r1, hr1, er1⟩ := own_r3 (XT.ushr b 6) 65535 (by decide)
  rw [er1]
  refine W.istore d0_44 rfl ?_
  refine W.iloadN d0_46 rfl ?_
  refine W.bipush 22 d0_47 rfl ?_
  refine W.iushr d0_49 ?_
  refine W.sipush 255 d0_50 rfl ?_
  refine W.iand d0_53 ?_
  refine W.iconst 3 d0_54 rfl ?_
  refine W.irem d0_55 (by decide) ?_
  obtain ⟨r2, hr2, er2⟩ := own_r3 (XT.ushr b 22) 255 (by decide)
  rw [er2]
  refine W.istore d0_56 rfl ?_
  refine W.iload d0_58 rfl ?_
  refine W.iconst 1 d0_60 rfl ?_
  refine W.icmp_eq d0_61 (fun h61 => ?_) (fun h61 => ?_)
  · refine W.iconst 1 d0_76 rfl ?_
    refine W.goto d0_77 ?_
    refine W.istore d0_81 rfl ?_
    refine W.iload d0_83 rfl ?_
    refine W.if_eq d0_85 (fun h => False.elim (by revert h; decide)) (fun h85 => ?_)
    refine W.iload d0_88 rfl ?_
    refine W.iload d0_90 rfl ?_
    refine W.icmp_ne d0_92 (fun h92 => ?_) (fun h92 => ?_)
    · refine W.iload d0_97 rfl ?_
      refine W.if_eq d0_99 (fun h => False.elim (by revert h; decide)) (fun h99 => ?_)
      refine W.iload d0_102 rfl ?_
      refine W.iload d0_104 rfl ?_
      refine W.iand d0_106 ?_
      refine W.if_eq d0_107 (fun h107 => ?_) (fun h107 => ?_)
      · refine W.iconst 3 d0_144 rfl ?_
        refine W.newarray (N := 0) (cnt := 3) (cap := 3) d0_145 (hw _ (wd 2 rfl)) ⟨by decide, by decide⟩ rfl (Nat.le_refl _) (by decide) (by decide) (by decide) ?_
        show WB _ l Z n m0 147 [(.val (.int (a))), (.val (.int (b))), (.val (.int (c))), (.val (.int (Int32.ofNat p1))), (.val (.int (Int32.ofNat p2))), (.val (.int (Int32.ofNat mm1))), (.val (.int (Int32.ofNat mm2))), (.val (.int (Int32.ofNat r1))), (.val (.int (Int32.ofNat r2))), (.val (.int (1))), .unset, .unset, .unset, .unset, .unset, .unset, .unset, .unset, .unset, .unset, .unset, .unset, .unset, .unset, .unset, .unset, .unset] [(.ref 0)] [.inr (.int, [(.int (0)), (.int (0)), (.int (0))])] _ _ _
        refine W.astore d0_147 rfl rfl ?_
        refine W.iconst 3 d0_149 rfl ?_
        refine W.newarray (N := 1) (cnt := 3) (cap := 3) d0_150 (hw _ (wd 2 rfl)) ⟨by decide, by decide⟩ rfl (Nat.le_refl _) (by decide) (by decide) (by decide) ?_
        refine W.astore d0_152 rfl rfl ?_
        refine W.iconst 3 d0_154 rfl ?_
        refine W.newarray (N := 2) (cnt := 3) (cap := 3) d0_155 (hw _ (wd 2 rfl)) ⟨by decide, by decide⟩ rfl (Nat.le_refl _) (by decide) (by decide) (by decide) ?_
        show WB _ l Z n m0 157 [(.val (.int (a))), (.val (.int (b))), (.val (.int (c))), (.val (.int (Int32.ofNat p1))), (.val (.int (Int32.ofNat p2))), (.val (.int (Int32.ofNat mm1))), (.val (.int (Int32.ofNat mm2))), (.val (.int (Int32.ofNat r1))), (.val (.int (Int32.ofNat r2))), (.val (.int (1))), (.val (.ref 0)), (.val (.ref 1)), .unset, .unset, .unset, .unset, .unset, .unset, .unset, .unset, .unset, .unset, .unset, .unset, .unset, .unset, .unset] [(.ref 2)] [.inr (.int, [(.int (0)), (.int (0)), (.int (0))]), .inr (.int, [(.int (0)), (.int (0)), (.int (0))]), .inr (.int, [(.int (0)), (.int (0)), (.int (0))])] _ _ _
        refine W.astore d0_157 rfl rfl ?_
        refine W.iconst 3 d0_159 rfl ?_
        refine W.newarray (N := 3) (cnt := 3) (cap := 3) d0_160 (hw _ (wd 2 rfl)) ⟨by decide, by decide⟩ rfl (Nat.le_refl _) (by decide) (by decide) (by decide) ?_
        refine W.astore d0_162 rfl rfl ?_
        refine W.new (N := 4) d0_164 (hw _ (wd 3 rfl)) (okc0 hw) rfl (by decide) (by decide) ?_
        show WB _ l Z n m0 167 [(.val (.int (a))), (.val (.int (b))), (.val (.int (c))), (.val (.int (Int32.ofNat p1))), (.val (.int (Int32.ofNat p2))), (.val (.int (Int32.ofNat mm1))), (.val (.int (Int32.ofNat mm2))), (.val (.int (Int32.ofNat r1))), (.val (.int (Int32.ofNat r2))), (.val (.int (1))), (.val (.ref 0)), (.val (.ref 1)), (.val (.ref 2)), (.val (.ref 3)), .unset, .unset, .unset, .unset, .unset, .unset, .unset, .unset, .unset, .unset, .unset, .unset, .unset] [(.ref 4)] [.inr (.int, [(.int (0)), (.int (0)), (.int (0))]), .inr (.int, [(.int (0)), (.int (0)), (.int (0))]), .inr (.int, [(.int (0)), (.int (0)), (.int (0))]), .inr (.int, [(.int (0)), (.int (0)), (.int (0))]), .inl ("org/tourney/ValueGraph", [(("org/tourney/ValueGraph", "positions", "I"), (.int (0))), (("org/tourney/ValueGraph", "values", "I"), (.int (0))), (("org/tourney/ValueGraph", "matchedValue", "[I"), .null), (("org/tourney/ValueGraph", "matchedPosition", "[I"), .null), (("org/tourney/ValueGraph", "openPositions", "[I"), .null), (("org/tourney/ValueGraph", "edgeStart", "[I"), .null), (("org/tourney/ValueGraph", "edgeEnd", "[I"), .null), (("org/tourney/ValueGraph", "edgeValue", "[I"), .null), (("org/tourney/ValueGraph", "keepsMatch", "[Z"), .null), (("org/tourney/ValueGraph", "reached", "[I"), .null), (("org/tourney/ValueGraph", "pathPositions", "[I"), .null), (("org/tourney/ValueGraph", "pathCursors", "[I"), .null), (("org/tourney/ValueGraph", "pathTried", "[I"), .null), (("org/tourney/ValueGraph", "sizeCounts", "[I"), .null), (("org/tourney/ValueGraph", "discovery", "[I"), .null), (("org/tourney/ValueGraph", "discoveredIn", "[I"), .null), (("org/tourney/ValueGraph", "lowest", "[I"), .null), (("org/tourney/ValueGraph", "component", "[I"), .null), (("org/tourney/ValueGraph", "isOpen", "[Z"), .null), (("org/tourney/ValueGraph", "openNodes", "[I"), .null), (("org/tourney/ValueGraph", "dfsNodes", "[I"), .null), (("org/tourney/ValueGraph", "dfsCursors", "[I"), .null), (("org/tourney/ValueGraph", "openCount", "I"), (.int (0))), (("org/tourney/ValueGraph", "edgeCount", "I"), (.int (0))), (("org/tourney/ValueGraph", "stamp", "I"), (.int (0))), (("org/tourney/ValueGraph", "search", "I"), (.int (0)))])] _ _ _
        refine W.dup d0_167 rfl ?_
        refine W.iconst 3 d0_168 rfl ?_
        refine W.iconst 3 d0_169 rfl ?_
        refine W.initN (M' := m1) d0_170 rfl rfl (hw _ (wd 6 rfl)) (hw _ (wd 7 rfl)) (w1 hw) (ok1 hw) rfl rfl rfl ?_
        refine W.astore d0_173 rfl rfl ?_
        exact w_tail hw a b c _ own_s0 p1 p2 mm1 mm2 r1 r2 own_L0 (own_every ⟨p1, hp1⟩ ⟨p2, hp2⟩ hne ⟨mm1, hmm1⟩ ⟨mm2, hmm2⟩ ⟨r1, hr1⟩ ⟨r2, hr2⟩ (own_n1 hmm1 hmm2 h107))
      · refine W.iloadN d0_110 rfl ?_
        refine W.istore d0_111 rfl ?_
        show WB _ l Z n m0 113 [(.val (.int (a))), (.val (.int (b))), (.val (.int (c))), (.val (.int (Int32.ofNat p1))), (.val (.int (Int32.ofNat p2))), (.val (.int (Int32.ofNat mm1))), (.val (.int (Int32.ofNat mm2))), (.val (.int (Int32.ofNat r1))), (.val (.int (Int32.ofNat r2))), (.val (.int (1))), (.val (.int (Int32.ofNat p1))), .unset, .unset, .unset, .unset, .unset, .unset, .unset, .unset, .unset, .unset, .unset, .unset, .unset, .unset, .unset, .unset] [] [] _ _ _
        refine W.iload d0_113 rfl ?_
        refine W.istoreN d0_115 rfl ?_
        refine W.iload d0_116 rfl ?_
        refine W.istore d0_118 rfl ?_
        refine W.iload d0_120 rfl ?_
        refine W.istore d0_122 rfl ?_
        refine W.iload d0_124 rfl ?_
        refine W.istore d0_126 rfl ?_
        show WB _ l Z n m0 128 [(.val (.int (a))), (.val (.int (b))), (.val (.int (c))), (.val (.int (Int32.ofNat p2))), (.val (.int (Int32.ofNat p1))), (.val (.int (Int32.ofNat mm2))), (.val (.int (Int32.ofNat mm2))), (.val (.int (Int32.ofNat r1))), (.val (.int (Int32.ofNat r2))), (.val (.int (1))), (.val (.int (Int32.ofNat mm1))), .unset, .unset, .unset, .unset, .unset, .unset, .unset, .unset, .unset, .unset, .unset, .unset, .unset, .unset, .unset, .unset] [] [] _ _ _
        refine W.iload d0_128 rfl ?_
        refine W.istore d0_130 rfl ?_
        refine W.iload d0_132 rfl ?_
        refine W.istore d0_134 rfl ?_
        refine W.iload d0_136 rfl ?_
        refine W.istore d0_138 rfl ?_
        refine W.iload d0_140 rfl ?_
        refine W.istore d0_142 rfl ?_
        show WB _ l Z n m0 144 [(.val (.int (a))), (.val (.int (b))), (.val (.int (c))), (.val (.int (Int32.ofNat p2))), (.val (.int (Int32.ofNat p1))), (.val (.int (Int32.ofNat mm2))), (.val (.int (Int32.ofNat mm1))), (.val (.int (Int32.ofNat r2))), (.val (.int (Int32.ofNat r1))), (.val (.int (1))), (.val (.int (Int32.ofNat r1))), .unset, .unset, .unset, .unset, .unset, .unset, .unset, .unset, .unset, .unset, .unset, .unset, .unset, .unset, .unset, .unset] [] [] _ _ _
        refine W.iconst 3 d0_144 rfl ?_
        refine W.newarray (N := 0) (cnt := 3) (cap := 3) d0_145 (hw _ (wd 2 rfl)) ⟨by decide, by decide⟩ rfl (Nat.le_refl _) (by decide) (by decide) (by decide) ?_
        refine W.astore d0_147 rfl rfl ?_
        refine W.iconst 3 d0_149 rfl ?_
        refine W.newarray (N := 1) (cnt := 3) (cap := 3) d0_150 (hw _ (wd 2 rfl)) ⟨by decide, by decide⟩ rfl (Nat.le_refl _) (by decide) (by decide) (by decide) ?_
        refine W.astore d0_152 rfl rfl ?_
        show WB _ l Z n m0 154 [(.val (.int (a))), (.val (.int (b))), (.val (.int (c))), (.val (.int (Int32.ofNat p2))), (.val (.int (Int32.ofNat p1))), (.val (.int (Int32.ofNat mm2))), (.val (.int (Int32.ofNat mm1))), (.val (.int (Int32.ofNat r2))), (.val (.int (Int32.ofNat r1))), (.val (.int (1))), (.val (.ref 0)), (.val (.ref 1)), .unset, .unset, .unset, .unset, .unset, .unset, .unset, .unset, .unset, .unset, .unset, .unset, .unset, .unset, .unset] [] [.inr (.int, [(.int (0)), (.int (0)), (.int (0))]), .inr (.int, [(.int (0)), (.int (0)), (.int (0))])] _ _ _
        refine W.iconst 3 d0_154 rfl ?_
        refine W.newarray (N := 2) (cnt := 3) (cap := 3) d0_155 (hw _ (wd 2 rfl)) ⟨by decide, by decide⟩ rfl (Nat.le_refl _) (by decide) (by decide) (by decide) ?_
        refine W.astore d0_157 rfl rfl ?_
        refine W.iconst 3 d0_159 rfl ?_
        refine W.newarray (N := 3) (cnt := 3) (cap := 3) d0_160 (hw _ (wd 2 rfl)) ⟨by decide, by decide⟩ rfl (Nat.le_refl _) (by decide) (by decide) (by decide) ?_
        refine W.astore d0_162 rfl rfl ?_
        show WB _ l Z n m0 164 [(.val (.int (a))), (.val (.int (b))), (.val (.int (c))), (.val (.int (Int32.ofNat p2))), (.val (.int (Int32.ofNat p1))), (.val (.int (Int32.ofNat mm2))), (.val (.int (Int32.ofNat mm1))), (.val (.int (Int32.ofNat r2))), (.val (.int (Int32.ofNat r1))), (.val (.int (1))), (.val (.ref 0)), (.val (.ref 1)), (.val (.ref 2)), (.val (.ref 3)), .unset, .unset, .unset, .unset, .unset, .unset, .unset, .unset, .unset, .unset, .unset, .unset, .unset] [] [.inr (.int, [(.int (0)), (.int (0)), (.int (0))]), .inr (.int, [(.int (0)), (.int (0)), (.int (0))]), .inr (.int, [(.int (0)), (.int (0)), (.int (0))]), .inr (.int, [(.int (0)), (.int (0)), (.int (0))])] _ _ _
        refine W.new (N := 4) d0_164 (hw _ (wd 3 rfl)) (okc0 hw) rfl (by decide) (by decide) ?_
        refine W.dup d0_167 rfl ?_
        refine W.iconst 3 d0_168 rfl ?_
        refine W.iconst 3 d0_169 rfl ?_
        refine W.initN (M' := m1) d0_170 rfl rfl (hw _ (wd 6 rfl)) (hw _ (wd 7 rfl)) (w1 hw) (ok1 hw) rfl rfl rfl ?_
        refine W.astore d0_173 rfl rfl ?_
        exact w_tail hw a b c _ own_s0 p2 p1 mm2 mm1 r2 r1 own_L0 (own_every ⟨p2, hp2⟩ ⟨p1, hp1⟩ (Ne.symm hne) ⟨mm2, hmm2⟩ ⟨mm1, hmm1⟩ ⟨r2, hr2⟩ ⟨r1, hr1⟩ (own_n2 hmm1 hmm2 (Or.inl h61) h92 h107))
    · refine W.iconst 1 d0_95 rfl ?_
      exact W.nreturn .boolean d0_96 rfl (by simp) (by decide) (by decide) (rfl)
  · refine W.iload d0_64 rfl ?_
    refine W.iconst 2 d0_66 rfl ?_
    refine W.icmp_eq d0_67 (fun h67 => ?_) (fun h67 => ?_)
    · refine W.iconst 1 d0_76 rfl ?_
      refine W.goto d0_77 ?_
      refine W.istore d0_81 rfl ?_
      refine W.iload d0_83 rfl ?_
      refine W.if_eq d0_85 (fun h => False.elim (by revert h; decide)) (fun h85 => ?_)
      refine W.iload d0_88 rfl ?_
      refine W.iload d0_90 rfl ?_
      refine W.icmp_ne d0_92 (fun h92 => ?_) (fun h92 => ?_)
      · refine W.iload d0_97 rfl ?_
        refine W.if_eq d0_99 (fun h => False.elim (by revert h; decide)) (fun h99 => ?_)
        refine W.iload d0_102 rfl ?_
        refine W.iload d0_104 rfl ?_
        refine W.iand d0_106 ?_
        refine W.if_eq d0_107 (fun h107 => ?_) (fun h107 => ?_)
        · refine W.iconst 3 d0_144 rfl ?_
          refine W.newarray (N := 0) (cnt := 3) (cap := 3) d0_145 (hw _ (wd 2 rfl)) ⟨by decide, by decide⟩ rfl (Nat.le_refl _) (by decide) (by decide) (by decide) ?_
          show WB _ l Z n m0 147 [(.val (.int (a))), (.val (.int (b))), (.val (.int (c))), (.val (.int (Int32.ofNat p1))), (.val (.int (Int32.ofNat p2))), (.val (.int (Int32.ofNat mm1))), (.val (.int (Int32.ofNat mm2))), (.val (.int (Int32.ofNat r1))), (.val (.int (Int32.ofNat r2))), (.val (.int (1))), .unset, .unset, .unset, .unset, .unset, .unset, .unset, .unset, .unset, .unset, .unset, .unset, .unset, .unset, .unset, .unset, .unset] [(.ref 0)] [.inr (.int, [(.int (0)), (.int (0)), (.int (0))])] _ _ _
          refine W.astore d0_147 rfl rfl ?_
          refine W.iconst 3 d0_149 rfl ?_
          refine W.newarray (N := 1) (cnt := 3) (cap := 3) d0_150 (hw _ (wd 2 rfl)) ⟨by decide, by decide⟩ rfl (Nat.le_refl _) (by decide) (by decide) (by decide) ?_
          refine W.astore d0_152 rfl rfl ?_
          refine W.iconst 3 d0_154 rfl ?_
          refine W.newarray (N := 2) (cnt := 3) (cap := 3) d0_155 (hw _ (wd 2 rfl)) ⟨by decide, by decide⟩ rfl (Nat.le_refl _) (by decide) (by decide) (by decide) ?_
          show WB _ l Z n m0 157 [(.val (.int (a))), (.val (.int (b))), (.val (.int (c))), (.val (.int (Int32.ofNat p1))), (.val (.int (Int32.ofNat p2))), (.val (.int (Int32.ofNat mm1))), (.val (.int (Int32.ofNat mm2))), (.val (.int (Int32.ofNat r1))), (.val (.int (Int32.ofNat r2))), (.val (.int (1))), (.val (.ref 0)), (.val (.ref 1)), .unset, .unset, .unset, .unset, .unset, .unset, .unset, .unset, .unset, .unset, .unset, .unset, .unset, .unset, .unset] [(.ref 2)] [.inr (.int, [(.int (0)), (.int (0)), (.int (0))]), .inr (.int, [(.int (0)), (.int (0)), (.int (0))]), .inr (.int, [(.int (0)), (.int (0)), (.int (0))])] _ _ _
          refine W.astore d0_157 rfl rfl ?_
          refine W.iconst 3 d0_159 rfl ?_
          refine W.newarray (N := 3) (cnt := 3) (cap := 3) d0_160 (hw _ (wd 2 rfl)) ⟨by decide, by decide⟩ rfl (Nat.le_refl _) (by decide) (by decide) (by decide) ?_
          refine W.astore d0_162 rfl rfl ?_
          refine W.new (N := 4) d0_164 (hw _ (wd 3 rfl)) (okc0 hw) rfl (by decide) (by decide) ?_
          show WB _ l Z n m0 167 [(.val (.int (a))), (.val (.int (b))), (.val (.int (c))), (.val (.int (Int32.ofNat p1))), (.val (.int (Int32.ofNat p2))), (.val (.int (Int32.ofNat mm1))), (.val (.int (Int32.ofNat mm2))), (.val (.int (Int32.ofNat r1))), (.val (.int (Int32.ofNat r2))), (.val (.int (1))), (.val (.ref 0)), (.val (.ref 1)), (.val (.ref 2)), (.val (.ref 3)), .unset, .unset, .unset, .unset, .unset, .unset, .unset, .unset, .unset, .unset, .unset, .unset, .unset] [(.ref 4)] [.inr (.int, [(.int (0)), (.int (0)), (.int (0))]), .inr (.int, [(.int (0)), (.int (0)), (.int (0))]), .inr (.int, [(.int (0)), (.int (0)), (.int (0))]), .inr (.int, [(.int (0)), (.int (0)), (.int (0))]), .inl ("org/tourney/ValueGraph", [(("org/tourney/ValueGraph", "positions", "I"), (.int (0))), (("org/tourney/ValueGraph", "values", "I"), (.int (0))), (("org/tourney/ValueGraph", "matchedValue", "[I"), .null), (("org/tourney/ValueGraph", "matchedPosition", "[I"), .null), (("org/tourney/ValueGraph", "openPositions", "[I"), .null), (("org/tourney/ValueGraph", "edgeStart", "[I"), .null), (("org/tourney/ValueGraph", "edgeEnd", "[I"), .null), (("org/tourney/ValueGraph", "edgeValue", "[I"), .null), (("org/tourney/ValueGraph", "keepsMatch", "[Z"), .null), (("org/tourney/ValueGraph", "reached", "[I"), .null), (("org/tourney/ValueGraph", "pathPositions", "[I"), .null), (("org/tourney/ValueGraph", "pathCursors", "[I"), .null), (("org/tourney/ValueGraph", "pathTried", "[I"), .null), (("org/tourney/ValueGraph", "sizeCounts", "[I"), .null), (("org/tourney/ValueGraph", "discovery", "[I"), .null), (("org/tourney/ValueGraph", "discoveredIn", "[I"), .null), (("org/tourney/ValueGraph", "lowest", "[I"), .null), (("org/tourney/ValueGraph", "component", "[I"), .null), (("org/tourney/ValueGraph", "isOpen", "[Z"), .null), (("org/tourney/ValueGraph", "openNodes", "[I"), .null), (("org/tourney/ValueGraph", "dfsNodes", "[I"), .null), (("org/tourney/ValueGraph", "dfsCursors", "[I"), .null), (("org/tourney/ValueGraph", "openCount", "I"), (.int (0))), (("org/tourney/ValueGraph", "edgeCount", "I"), (.int (0))), (("org/tourney/ValueGraph", "stamp", "I"), (.int (0))), (("org/tourney/ValueGraph", "search", "I"), (.int (0)))])] _ _ _
          refine W.dup d0_167 rfl ?_
          refine W.iconst 3 d0_168 rfl ?_
          refine W.iconst 3 d0_169 rfl ?_
          refine W.initN (M' := m1) d0_170 rfl rfl (hw _ (wd 6 rfl)) (hw _ (wd 7 rfl)) (w1 hw) (ok1 hw) rfl rfl rfl ?_
          refine W.astore d0_173 rfl rfl ?_
          exact w_tail hw a b c _ own_s0 p1 p2 mm1 mm2 r1 r2 own_L0 (own_every ⟨p1, hp1⟩ ⟨p2, hp2⟩ hne ⟨mm1, hmm1⟩ ⟨mm2, hmm2⟩ ⟨r1, hr1⟩ ⟨r2, hr2⟩ (own_n1 hmm1 hmm2 h107))
        · refine W.iloadN d0_110 rfl ?_
          refine W.istore d0_111 rfl ?_
          show WB _ l Z n m0 113 [(.val (.int (a))), (.val (.int (b))), (.val (.int (c))), (.val (.int (Int32.ofNat p1))), (.val (.int (Int32.ofNat p2))), (.val (.int (Int32.ofNat mm1))), (.val (.int (Int32.ofNat mm2))), (.val (.int (Int32.ofNat r1))), (.val (.int (Int32.ofNat r2))), (.val (.int (1))), (.val (.int (Int32.ofNat p1))), .unset, .unset, .unset, .unset, .unset, .unset, .unset, .unset, .unset, .unset, .unset, .unset, .unset, .unset, .unset, .unset] [] [] _ _ _
          refine W.iload d0_113 rfl ?_
          refine W.istoreN d0_115 rfl ?_
          refine W.iload d0_116 rfl ?_
          refine W.istore d0_118 rfl ?_
          refine W.iload d0_120 rfl ?_
          refine W.istore d0_122 rfl ?_
          refine W.iload d0_124 rfl ?_
          refine W.istore d0_126 rfl ?_
          show WB _ l Z n m0 128 [(.val (.int (a))), (.val (.int (b))), (.val (.int (c))), (.val (.int (Int32.ofNat p2))), (.val (.int (Int32.ofNat p1))), (.val (.int (Int32.ofNat mm2))), (.val (.int (Int32.ofNat mm2))), (.val (.int (Int32.ofNat r1))), (.val (.int (Int32.ofNat r2))), (.val (.int (1))), (.val (.int (Int32.ofNat mm1))), .unset, .unset, .unset, .unset, .unset, .unset, .unset, .unset, .unset, .unset, .unset, .unset, .unset, .unset, .unset, .unset] [] [] _ _ _
          refine W.iload d0_128 rfl ?_
          refine W.istore d0_130 rfl ?_
          refine W.iload d0_132 rfl ?_
          refine W.istore d0_134 rfl ?_
          refine W.iload d0_136 rfl ?_
          refine W.istore d0_138 rfl ?_
          refine W.iload d0_140 rfl ?_
          refine W.istore d0_142 rfl ?_
          show WB _ l Z n m0 144 [(.val (.int (a))), (.val (.int (b))), (.val (.int (c))), (.val (.int (Int32.ofNat p2))), (.val (.int (Int32.ofNat p1))), (.val (.int (Int32.ofNat mm2))), (.val (.int (Int32.ofNat mm1))), (.val (.int (Int32.ofNat r2))), (.val (.int (Int32.ofNat r1))), (.val (.int (1))), (.val (.int (Int32.ofNat r1))), .unset, .unset, .unset, .unset, .unset, .unset, .unset, .unset, .unset, .unset, .unset, .unset, .unset, .unset, .unset, .unset] [] [] _ _ _
          refine W.iconst 3 d0_144 rfl ?_
          refine W.newarray (N := 0) (cnt := 3) (cap := 3) d0_145 (hw _ (wd 2 rfl)) ⟨by decide, by decide⟩ rfl (Nat.le_refl _) (by decide) (by decide) (by decide) ?_
          refine W.astore d0_147 rfl rfl ?_
          refine W.iconst 3 d0_149 rfl ?_
          refine W.newarray (N := 1) (cnt := 3) (cap := 3) d0_150 (hw _ (wd 2 rfl)) ⟨by decide, by decide⟩ rfl (Nat.le_refl _) (by decide) (by decide) (by decide) ?_
          refine W.astore d0_152 rfl rfl ?_
          show WB _ l Z n m0 154 [(.val (.int (a))), (.val (.int (b))), (.val (.int (c))), (.val (.int (Int32.ofNat p2))), (.val (.int (Int32.ofNat p1))), (.val (.int (Int32.ofNat mm2))), (.val (.int (Int32.ofNat mm1))), (.val (.int (Int32.ofNat r2))), (.val (.int (Int32.ofNat r1))), (.val (.int (1))), (.val (.ref 0)), (.val (.ref 1)), .unset, .unset, .unset, .unset, .unset, .unset, .unset, .unset, .unset, .unset, .unset, .unset, .unset, .unset, .unset] [] [.inr (.int, [(.int (0)), (.int (0)), (.int (0))]), .inr (.int, [(.int (0)), (.int (0)), (.int (0))])] _ _ _
          refine W.iconst 3 d0_154 rfl ?_
          refine W.newarray (N := 2) (cnt := 3) (cap := 3) d0_155 (hw _ (wd 2 rfl)) ⟨by decide, by decide⟩ rfl (Nat.le_refl _) (by decide) (by decide) (by decide) ?_
          refine W.astore d0_157 rfl rfl ?_
          refine W.iconst 3 d0_159 rfl ?_
          refine W.newarray (N := 3) (cnt := 3) (cap := 3) d0_160 (hw _ (wd 2 rfl)) ⟨by decide, by decide⟩ rfl (Nat.le_refl _) (by decide) (by decide) (by decide) ?_
          refine W.astore d0_162 rfl rfl ?_
          show WB _ l Z n m0 164 [(.val (.int (a))), (.val (.int (b))), (.val (.int (c))), (.val (.int (Int32.ofNat p2))), (.val (.int (Int32.ofNat p1))), (.val (.int (Int32.ofNat mm2))), (.val (.int (Int32.ofNat mm1))), (.val (.int (Int32.ofNat r2))), (.val (.int (Int32.ofNat r1))), (.val (.int (1))), (.val (.ref 0)), (.val (.ref 1)), (.val (.ref 2)), (.val (.ref 3)), .unset, .unset, .unset, .unset, .unset, .unset, .unset, .unset, .unset, .unset, .unset, .unset, .unset] [] [.inr (.int, [(.int (0)), (.int (0)), (.int (0))]), .inr (.int, [(.int (0)), (.int (0)), (.int (0))]), .inr (.int, [(.int (0)), (.int (0)), (.int (0))]), .inr (.int, [(.int (0)), (.int (0)), (.int (0))])] _ _ _
          refine W.new (N := 4) d0_164 (hw _ (wd 3 rfl)) (okc0 hw) rfl (by decide) (by decide) ?_
          refine W.dup d0_167 rfl ?_
          refine W.iconst 3 d0_168 rfl ?_
          refine W.iconst 3 d0_169 rfl ?_
          refine W.initN (M' := m1) d0_170 rfl rfl (hw _ (wd 6 rfl)) (hw _ (wd 7 rfl)) (w1 hw) (ok1 hw) rfl rfl rfl ?_
          refine W.astore d0_173 rfl rfl ?_
          exact w_tail hw a b c _ own_s0 p2 p1 mm2 mm1 r2 r1 own_L0 (own_every ⟨p2, hp2⟩ ⟨p1, hp1⟩ (Ne.symm hne) ⟨mm2, hmm2⟩ ⟨mm1, hmm1⟩ ⟨r2, hr2⟩ ⟨r1, hr1⟩ (own_n2 hmm1 hmm2 (Or.inr (Or.inl h67)) h92 h107))
      · refine W.iconst 1 d0_95 rfl ?_
        exact W.nreturn .boolean d0_96 rfl (by simp) (by decide) (by decide) (rfl)
    · refine W.iload d0_70 rfl ?_
      refine W.iconst 4 d0_72 rfl ?_
      refine W.icmp_ne d0_73 (fun h73 => ?_) (fun h73 => ?_)
      · refine W.iconst 0 d0_80 rfl ?_
        refine W.istore d0_81 rfl ?_
        refine W.iload d0_83 rfl ?_
        refine W.if_eq d0_85 (fun h85 => ?_) (fun h => False.elim (by revert h; decide))
        refine W.iload d0_97 rfl ?_
        refine W.if_eq d0_99 (fun h99 => ?_) (fun h => False.elim (by revert h; decide))
        refine W.iconst 3 d0_144 rfl ?_
        refine W.newarray (N := 0) (cnt := 3) (cap := 3) d0_145 (hw _ (wd 2 rfl)) ⟨by decide, by decide⟩ rfl (Nat.le_refl _) (by decide) (by decide) (by decide) ?_
        show WB _ l Z n m0 147 [(.val (.int (a))), (.val (.int (b))), (.val (.int (c))), (.val (.int (Int32.ofNat p1))), (.val (.int (Int32.ofNat p2))), (.val (.int (Int32.ofNat mm1))), (.val (.int (Int32.ofNat mm2))), (.val (.int (Int32.ofNat r1))), (.val (.int (Int32.ofNat r2))), (.val (.int (0))), .unset, .unset, .unset, .unset, .unset, .unset, .unset, .unset, .unset, .unset, .unset, .unset, .unset, .unset, .unset, .unset, .unset] [(.ref 0)] [.inr (.int, [(.int (0)), (.int (0)), (.int (0))])] _ _ _
        refine W.astore d0_147 rfl rfl ?_
        refine W.iconst 3 d0_149 rfl ?_
        refine W.newarray (N := 1) (cnt := 3) (cap := 3) d0_150 (hw _ (wd 2 rfl)) ⟨by decide, by decide⟩ rfl (Nat.le_refl _) (by decide) (by decide) (by decide) ?_
        refine W.astore d0_152 rfl rfl ?_
        refine W.iconst 3 d0_154 rfl ?_
        refine W.newarray (N := 2) (cnt := 3) (cap := 3) d0_155 (hw _ (wd 2 rfl)) ⟨by decide, by decide⟩ rfl (Nat.le_refl _) (by decide) (by decide) (by decide) ?_
        show WB _ l Z n m0 157 [(.val (.int (a))), (.val (.int (b))), (.val (.int (c))), (.val (.int (Int32.ofNat p1))), (.val (.int (Int32.ofNat p2))), (.val (.int (Int32.ofNat mm1))), (.val (.int (Int32.ofNat mm2))), (.val (.int (Int32.ofNat r1))), (.val (.int (Int32.ofNat r2))), (.val (.int (0))), (.val (.ref 0)), (.val (.ref 1)), .unset, .unset, .unset, .unset, .unset, .unset, .unset, .unset, .unset, .unset, .unset, .unset, .unset, .unset, .unset] [(.ref 2)] [.inr (.int, [(.int (0)), (.int (0)), (.int (0))]), .inr (.int, [(.int (0)), (.int (0)), (.int (0))]), .inr (.int, [(.int (0)), (.int (0)), (.int (0))])] _ _ _
        refine W.astore d0_157 rfl rfl ?_
        refine W.iconst 3 d0_159 rfl ?_
        refine W.newarray (N := 3) (cnt := 3) (cap := 3) d0_160 (hw _ (wd 2 rfl)) ⟨by decide, by decide⟩ rfl (Nat.le_refl _) (by decide) (by decide) (by decide) ?_
        refine W.astore d0_162 rfl rfl ?_
        refine W.new (N := 4) d0_164 (hw _ (wd 3 rfl)) (okc0 hw) rfl (by decide) (by decide) ?_
        show WB _ l Z n m0 167 [(.val (.int (a))), (.val (.int (b))), (.val (.int (c))), (.val (.int (Int32.ofNat p1))), (.val (.int (Int32.ofNat p2))), (.val (.int (Int32.ofNat mm1))), (.val (.int (Int32.ofNat mm2))), (.val (.int (Int32.ofNat r1))), (.val (.int (Int32.ofNat r2))), (.val (.int (0))), (.val (.ref 0)), (.val (.ref 1)), (.val (.ref 2)), (.val (.ref 3)), .unset, .unset, .unset, .unset, .unset, .unset, .unset, .unset, .unset, .unset, .unset, .unset, .unset] [(.ref 4)] [.inr (.int, [(.int (0)), (.int (0)), (.int (0))]), .inr (.int, [(.int (0)), (.int (0)), (.int (0))]), .inr (.int, [(.int (0)), (.int (0)), (.int (0))]), .inr (.int, [(.int (0)), (.int (0)), (.int (0))]), .inl ("org/tourney/ValueGraph", [(("org/tourney/ValueGraph", "positions", "I"), (.int (0))), (("org/tourney/ValueGraph", "values", "I"), (.int (0))), (("org/tourney/ValueGraph", "matchedValue", "[I"), .null), (("org/tourney/ValueGraph", "matchedPosition", "[I"), .null), (("org/tourney/ValueGraph", "openPositions", "[I"), .null), (("org/tourney/ValueGraph", "edgeStart", "[I"), .null), (("org/tourney/ValueGraph", "edgeEnd", "[I"), .null), (("org/tourney/ValueGraph", "edgeValue", "[I"), .null), (("org/tourney/ValueGraph", "keepsMatch", "[Z"), .null), (("org/tourney/ValueGraph", "reached", "[I"), .null), (("org/tourney/ValueGraph", "pathPositions", "[I"), .null), (("org/tourney/ValueGraph", "pathCursors", "[I"), .null), (("org/tourney/ValueGraph", "pathTried", "[I"), .null), (("org/tourney/ValueGraph", "sizeCounts", "[I"), .null), (("org/tourney/ValueGraph", "discovery", "[I"), .null), (("org/tourney/ValueGraph", "discoveredIn", "[I"), .null), (("org/tourney/ValueGraph", "lowest", "[I"), .null), (("org/tourney/ValueGraph", "component", "[I"), .null), (("org/tourney/ValueGraph", "isOpen", "[Z"), .null), (("org/tourney/ValueGraph", "openNodes", "[I"), .null), (("org/tourney/ValueGraph", "dfsNodes", "[I"), .null), (("org/tourney/ValueGraph", "dfsCursors", "[I"), .null), (("org/tourney/ValueGraph", "openCount", "I"), (.int (0))), (("org/tourney/ValueGraph", "edgeCount", "I"), (.int (0))), (("org/tourney/ValueGraph", "stamp", "I"), (.int (0))), (("org/tourney/ValueGraph", "search", "I"), (.int (0)))])] _ _ _
        refine W.dup d0_167 rfl ?_
        refine W.iconst 3 d0_168 rfl ?_
        refine W.iconst 3 d0_169 rfl ?_
        refine W.initN (M' := m1) d0_170 rfl rfl (hw _ (wd 6 rfl)) (hw _ (wd 7 rfl)) (w1 hw) (ok1 hw) rfl rfl rfl ?_
        refine W.astore d0_173 rfl rfl ?_
        exact w_tail hw a b c _ own_s0 p1 p2 mm1 mm2 r1 r2 own_L0 (own_every ⟨p1, hp1⟩ ⟨p2, hp2⟩ hne ⟨mm1, hmm1⟩ ⟨mm2, hmm2⟩ ⟨r1, hr1⟩ ⟨r2, hr2⟩ (own_n0 hmm1 hmm2 h61 h67 h73))
      · refine W.iconst 1 d0_76 rfl ?_
        refine W.goto d0_77 ?_
        refine W.istore d0_81 rfl ?_
        refine W.iload d0_83 rfl ?_
        refine W.if_eq d0_85 (fun h => False.elim (by revert h; decide)) (fun h85 => ?_)
        refine W.iload d0_88 rfl ?_
        refine W.iload d0_90 rfl ?_
        refine W.icmp_ne d0_92 (fun h92 => ?_) (fun h92 => ?_)
        · refine W.iload d0_97 rfl ?_
          refine W.if_eq d0_99 (fun h => False.elim (by revert h; decide)) (fun h99 => ?_)
          refine W.iload d0_102 rfl ?_
          refine W.iload d0_104 rfl ?_
          refine W.iand d0_106 ?_
          refine W.if_eq d0_107 (fun h107 => ?_) (fun h107 => ?_)
          · refine W.iconst 3 d0_144 rfl ?_
            refine W.newarray (N := 0) (cnt := 3) (cap := 3) d0_145 (hw _ (wd 2 rfl)) ⟨by decide, by decide⟩ rfl (Nat.le_refl _) (by decide) (by decide) (by decide) ?_
            show WB _ l Z n m0 147 [(.val (.int (a))), (.val (.int (b))), (.val (.int (c))), (.val (.int (Int32.ofNat p1))), (.val (.int (Int32.ofNat p2))), (.val (.int (Int32.ofNat mm1))), (.val (.int (Int32.ofNat mm2))), (.val (.int (Int32.ofNat r1))), (.val (.int (Int32.ofNat r2))), (.val (.int (1))), .unset, .unset, .unset, .unset, .unset, .unset, .unset, .unset, .unset, .unset, .unset, .unset, .unset, .unset, .unset, .unset, .unset] [(.ref 0)] [.inr (.int, [(.int (0)), (.int (0)), (.int (0))])] _ _ _
            refine W.astore d0_147 rfl rfl ?_
            refine W.iconst 3 d0_149 rfl ?_
            refine W.newarray (N := 1) (cnt := 3) (cap := 3) d0_150 (hw _ (wd 2 rfl)) ⟨by decide, by decide⟩ rfl (Nat.le_refl _) (by decide) (by decide) (by decide) ?_
            refine W.astore d0_152 rfl rfl ?_
            refine W.iconst 3 d0_154 rfl ?_
            refine W.newarray (N := 2) (cnt := 3) (cap := 3) d0_155 (hw _ (wd 2 rfl)) ⟨by decide, by decide⟩ rfl (Nat.le_refl _) (by decide) (by decide) (by decide) ?_
            show WB _ l Z n m0 157 [(.val (.int (a))), (.val (.int (b))), (.val (.int (c))), (.val (.int (Int32.ofNat p1))), (.val (.int (Int32.ofNat p2))), (.val (.int (Int32.ofNat mm1))), (.val (.int (Int32.ofNat mm2))), (.val (.int (Int32.ofNat r1))), (.val (.int (Int32.ofNat r2))), (.val (.int (1))), (.val (.ref 0)), (.val (.ref 1)), .unset, .unset, .unset, .unset, .unset, .unset, .unset, .unset, .unset, .unset, .unset, .unset, .unset, .unset, .unset] [(.ref 2)] [.inr (.int, [(.int (0)), (.int (0)), (.int (0))]), .inr (.int, [(.int (0)), (.int (0)), (.int (0))]), .inr (.int, [(.int (0)), (.int (0)), (.int (0))])] _ _ _
            refine W.astore d0_157 rfl rfl ?_
            refine W.iconst 3 d0_159 rfl ?_
            refine W.newarray (N := 3) (cnt := 3) (cap := 3) d0_160 (hw _ (wd 2 rfl)) ⟨by decide, by decide⟩ rfl (Nat.le_refl _) (by decide) (by decide) (by decide) ?_
            refine W.astore d0_162 rfl rfl ?_
            refine W.new (N := 4) d0_164 (hw _ (wd 3 rfl)) (okc0 hw) rfl (by decide) (by decide) ?_
            show WB _ l Z n m0 167 [(.val (.int (a))), (.val (.int (b))), (.val (.int (c))), (.val (.int (Int32.ofNat p1))), (.val (.int (Int32.ofNat p2))), (.val (.int (Int32.ofNat mm1))), (.val (.int (Int32.ofNat mm2))), (.val (.int (Int32.ofNat r1))), (.val (.int (Int32.ofNat r2))), (.val (.int (1))), (.val (.ref 0)), (.val (.ref 1)), (.val (.ref 2)), (.val (.ref 3)), .unset, .unset, .unset, .unset, .unset, .unset, .unset, .unset, .unset, .unset, .unset, .unset, .unset] [(.ref 4)] [.inr (.int, [(.int (0)), (.int (0)), (.int (0))]), .inr (.int, [(.int (0)), (.int (0)), (.int (0))]), .inr (.int, [(.int (0)), (.int (0)), (.int (0))]), .inr (.int, [(.int (0)), (.int (0)), (.int (0))]), .inl ("org/tourney/ValueGraph", [(("org/tourney/ValueGraph", "positions", "I"), (.int (0))), (("org/tourney/ValueGraph", "values", "I"), (.int (0))), (("org/tourney/ValueGraph", "matchedValue", "[I"), .null), (("org/tourney/ValueGraph", "matchedPosition", "[I"), .null), (("org/tourney/ValueGraph", "openPositions", "[I"), .null), (("org/tourney/ValueGraph", "edgeStart", "[I"), .null), (("org/tourney/ValueGraph", "edgeEnd", "[I"), .null), (("org/tourney/ValueGraph", "edgeValue", "[I"), .null), (("org/tourney/ValueGraph", "keepsMatch", "[Z"), .null), (("org/tourney/ValueGraph", "reached", "[I"), .null), (("org/tourney/ValueGraph", "pathPositions", "[I"), .null), (("org/tourney/ValueGraph", "pathCursors", "[I"), .null), (("org/tourney/ValueGraph", "pathTried", "[I"), .null), (("org/tourney/ValueGraph", "sizeCounts", "[I"), .null), (("org/tourney/ValueGraph", "discovery", "[I"), .null), (("org/tourney/ValueGraph", "discoveredIn", "[I"), .null), (("org/tourney/ValueGraph", "lowest", "[I"), .null), (("org/tourney/ValueGraph", "component", "[I"), .null), (("org/tourney/ValueGraph", "isOpen", "[Z"), .null), (("org/tourney/ValueGraph", "openNodes", "[I"), .null), (("org/tourney/ValueGraph", "dfsNodes", "[I"), .null), (("org/tourney/ValueGraph", "dfsCursors", "[I"), .null), (("org/tourney/ValueGraph", "openCount", "I"), (.int (0))), (("org/tourney/ValueGraph", "edgeCount", "I"), (.int (0))), (("org/tourney/ValueGraph", "stamp", "I"), (.int (0))), (("org/tourney/ValueGraph", "search", "I"), (.int (0)))])] _ _ _
            refine W.dup d0_167 rfl ?_
            refine W.iconst 3 d0_168 rfl ?_
            refine W.iconst 3 d0_169 rfl ?_
            refine W.initN (M' := m1) d0_170 rfl rfl (hw _ (wd 6 rfl)) (hw _ (wd 7 rfl)) (w1 hw) (ok1 hw) rfl rfl rfl ?_
            refine W.astore d0_173 rfl rfl ?_
            exact w_tail hw a b c _ own_s0 p1 p2 mm1 mm2 r1 r2 own_L0 (own_every ⟨p1, hp1⟩ ⟨p2, hp2⟩ hne ⟨mm1, hmm1⟩ ⟨mm2, hmm2⟩ ⟨r1, hr1⟩ ⟨r2, hr2⟩ (own_n1 hmm1 hmm2 h107))
          · refine W.iloadN d0_110 rfl ?_
            refine W.istore d0_111 rfl ?_
            show WB _ l Z n m0 113 [(.val (.int (a))), (.val (.int (b))), (.val (.int (c))), (.val (.int (Int32.ofNat p1))), (.val (.int (Int32.ofNat p2))), (.val (.int (Int32.ofNat mm1))), (.val (.int (Int32.ofNat mm2))), (.val (.int (Int32.ofNat r1))), (.val (.int (Int32.ofNat r2))), (.val (.int (1))), (.val (.int (Int32.ofNat p1))), .unset, .unset, .unset, .unset, .unset, .unset, .unset, .unset, .unset, .unset, .unset, .unset, .unset, .unset, .unset, .unset] [] [] _ _ _
            refine W.iload d0_113 rfl ?_
            refine W.istoreN d0_115 rfl ?_
            refine W.iload d0_116 rfl ?_
            refine W.istore d0_118 rfl ?_
            refine W.iload d0_120 rfl ?_
            refine W.istore d0_122 rfl ?_
            refine W.iload d0_124 rfl ?_
            refine W.istore d0_126 rfl ?_
            show WB _ l Z n m0 128 [(.val (.int (a))), (.val (.int (b))), (.val (.int (c))), (.val (.int (Int32.ofNat p2))), (.val (.int (Int32.ofNat p1))), (.val (.int (Int32.ofNat mm2))), (.val (.int (Int32.ofNat mm2))), (.val (.int (Int32.ofNat r1))), (.val (.int (Int32.ofNat r2))), (.val (.int (1))), (.val (.int (Int32.ofNat mm1))), .unset, .unset, .unset, .unset, .unset, .unset, .unset, .unset, .unset, .unset, .unset, .unset, .unset, .unset, .unset, .unset] [] [] _ _ _
            refine W.iload d0_128 rfl ?_
            refine W.istore d0_130 rfl ?_
            refine W.iload d0_132 rfl ?_
            refine W.istore d0_134 rfl ?_
            refine W.iload d0_136 rfl ?_
            refine W.istore d0_138 rfl ?_
            refine W.iload d0_140 rfl ?_
            refine W.istore d0_142 rfl ?_
            show WB _ l Z n m0 144 [(.val (.int (a))), (.val (.int (b))), (.val (.int (c))), (.val (.int (Int32.ofNat p2))), (.val (.int (Int32.ofNat p1))), (.val (.int (Int32.ofNat mm2))), (.val (.int (Int32.ofNat mm1))), (.val (.int (Int32.ofNat r2))), (.val (.int (Int32.ofNat r1))), (.val (.int (1))), (.val (.int (Int32.ofNat r1))), .unset, .unset, .unset, .unset, .unset, .unset, .unset, .unset, .unset, .unset, .unset, .unset, .unset, .unset, .unset, .unset] [] [] _ _ _
            refine W.iconst 3 d0_144 rfl ?_
            refine W.newarray (N := 0) (cnt := 3) (cap := 3) d0_145 (hw _ (wd 2 rfl)) ⟨by decide, by decide⟩ rfl (Nat.le_refl _) (by decide) (by decide) (by decide) ?_
            refine W.astore d0_147 rfl rfl ?_
            refine W.iconst 3 d0_149 rfl ?_
            refine W.newarray (N := 1) (cnt := 3) (cap := 3) d0_150 (hw _ (wd 2 rfl)) ⟨by decide, by decide⟩ rfl (Nat.le_refl _) (by decide) (by decide) (by decide) ?_
            refine W.astore d0_152 rfl rfl ?_
            show WB _ l Z n m0 154 [(.val (.int (a))), (.val (.int (b))), (.val (.int (c))), (.val (.int (Int32.ofNat p2))), (.val (.int (Int32.ofNat p1))), (.val (.int (Int32.ofNat mm2))), (.val (.int (Int32.ofNat mm1))), (.val (.int (Int32.ofNat r2))), (.val (.int (Int32.ofNat r1))), (.val (.int (1))), (.val (.ref 0)), (.val (.ref 1)), .unset, .unset, .unset, .unset, .unset, .unset, .unset, .unset, .unset, .unset, .unset, .unset, .unset, .unset, .unset] [] [.inr (.int, [(.int (0)), (.int (0)), (.int (0))]), .inr (.int, [(.int (0)), (.int (0)), (.int (0))])] _ _ _
            refine W.iconst 3 d0_154 rfl ?_
            refine W.newarray (N := 2) (cnt := 3) (cap := 3) d0_155 (hw _ (wd 2 rfl)) ⟨by decide, by decide⟩ rfl (Nat.le_refl _) (by decide) (by decide) (by decide) ?_
            refine W.astore d0_157 rfl rfl ?_
            refine W.iconst 3 d0_159 rfl ?_
            refine W.newarray (N := 3) (cnt := 3) (cap := 3) d0_160 (hw _ (wd 2 rfl)) ⟨by decide, by decide⟩ rfl (Nat.le_refl _) (by decide) (by decide) (by decide) ?_
            refine W.astore d0_162 rfl rfl ?_
            show WB _ l Z n m0 164 [(.val (.int (a))), (.val (.int (b))), (.val (.int (c))), (.val (.int (Int32.ofNat p2))), (.val (.int (Int32.ofNat p1))), (.val (.int (Int32.ofNat mm2))), (.val (.int (Int32.ofNat mm1))), (.val (.int (Int32.ofNat r2))), (.val (.int (Int32.ofNat r1))), (.val (.int (1))), (.val (.ref 0)), (.val (.ref 1)), (.val (.ref 2)), (.val (.ref 3)), .unset, .unset, .unset, .unset, .unset, .unset, .unset, .unset, .unset, .unset, .unset, .unset, .unset] [] [.inr (.int, [(.int (0)), (.int (0)), (.int (0))]), .inr (.int, [(.int (0)), (.int (0)), (.int (0))]), .inr (.int, [(.int (0)), (.int (0)), (.int (0))]), .inr (.int, [(.int (0)), (.int (0)), (.int (0))])] _ _ _
            refine W.new (N := 4) d0_164 (hw _ (wd 3 rfl)) (okc0 hw) rfl (by decide) (by decide) ?_
            refine W.dup d0_167 rfl ?_
            refine W.iconst 3 d0_168 rfl ?_
            refine W.iconst 3 d0_169 rfl ?_
            refine W.initN (M' := m1) d0_170 rfl rfl (hw _ (wd 6 rfl)) (hw _ (wd 7 rfl)) (w1 hw) (ok1 hw) rfl rfl rfl ?_
            refine W.astore d0_173 rfl rfl ?_
            exact w_tail hw a b c _ own_s0 p2 p1 mm2 mm1 r2 r1 own_L0 (own_every ⟨p2, hp2⟩ ⟨p1, hp1⟩ (Ne.symm hne) ⟨mm2, hmm2⟩ ⟨mm1, hmm1⟩ ⟨r2, hr2⟩ ⟨r1, hr1⟩ (own_n2 hmm1 hmm2 (Or.inr (Or.inr h73)) h92 h107))
        · refine W.iconst 1 d0_95 rfl ?_
          exact W.nreturn .boolean d0_96 rfl (by simp) (by decide) (by decide) (rfl)
set_option maxRecDepth 65536 in
set_option maxHeartbeats 40000000 in
theorem comes_1 {Post : Tables → Env → Array Value → State → Outcome → State → Prop} (hpost : ∀ tb e args s v u, (limb_1_1.after args s (.returned v) u = true ∧ limb_1_2.after args s (.returned v) u = true ∧ True) → FrameEnd s (.returned v) u (Jvm.fieldLocs frame_1_writes args s ++ Jvm.arrayLocs frame_1_arrays args s ++ Jvm.staticLocs frame_1_statics s) 64 384 → Post tb e args s (.returned v) u) :
    ArmFor flags0 classFile x code maxLocals ret World_1 tables_1 room_1 Calls_1 rest_1 Pre_1 Post := by
  intro l hfl _ _ p e ha hc hk s m args below hf hA hF happ hP
  obtain ⟨hcalls, hrest, hpre⟩ := hP
  obtain ⟨-, -, -, hnamed, -, -, -, hat⟩ := (Spec.applies_iff hf).mp happ
  obtain ⟨hg, hn⟩ := and_e (Cond.before_iff.mp (show (Jvm.Cond.and given_1 narrow_1).before args s = true from hpre))
  obtain ⟨hcnt, g0⟩ := and_e hg
  obtain ⟨q0, g1⟩ := and_e g0
  obtain ⟨q1, g2⟩ := and_e g1
  obtain ⟨w0, w1, w2, rfl⟩ : ∃ w0 w1 w2 : Value, args = #[w0, w1, w2] := by
    have hs : args.size = 3 := by simpa [Cond.value, given_1] using hcnt
    obtain ⟨L⟩ := args
    match L, hs with
    | [w0, w1, w2], _ => exact ⟨w0, w1, w2, rfl⟩
  have hw := fun d (hd : d ∈ tables_1) => atoms_spec (ws := Jvm.Cond.code x code maxLocals ret :: tables_1) hat d (List.mem_cons_of_mem _ hd)
  obtain ⟨i0, ei0⟩ := is_v q0
  obtain rfl : w0 = (.int i0) := Option.some.inj ei0
  obtain ⟨i1, ei1⟩ := is_v q1
  obtain rfl : w1 = (.int i1) := Option.some.inj ei1
  obtain ⟨i2, ei2⟩ := is_v g2
  obtain rfl : w2 = (.int i2) := Option.some.inj ei2
  obtain ⟨n, o, h1, h2, h3, _, L, rfl, ⟨v0, H', rfl, rfl, hH, N⟩, hq⟩ := W.start (M := m0) (w_law (l := l) hw i0 i1 i2) pn0 tables_1 p e ha hc hk s m _ below hf ((Spec.applies_iff_loose hf).mp happ).1 ⟨rfl, State.Warmed39.refl s, rfl⟩ trivial
  refine ⟨n, _, h1, h2, h3, hpost _ _ _ _ _ _ ⟨Cond.after_iff.mpr rfl, Cond.after_iff.mpr (eq_i res_at (Term.int_eval (1)) rfl), trivial⟩ ⟨hq.1, hq.2.1, (hq.2.2.sift fun y hy => Or.inr (N y hy)).mono (by decide) (by decide)⟩⟩
theorem main_1_1 : Claimed_1_1 := comes_1 fun _ _ _ _ _ _ h hF => ⟨h.1, hF⟩
theorem main_1_2 : Claimed_1_2 := comes_1 fun _ _ _ _ _ _ h hF => ⟨h.2.1, hF⟩
end Jvm.Pilot.@@N@@
namespace Jvm.Pilot.@@N@@
open Jvm Jvm.ClassFile Sem Op Lib Jvm.Free Jvm.Stand Jvm.Pilot.@@N@@.Jvm.D
/-! MADE BY PROGRAM (witnessworld.py) out of the Statement's table words and the real class files: 13 classes; the members and pool entries that the words name. The judged class is class 1, her method 2. -/
namespace start1
open Jvm.ClassFile
def u (s : String) : CpInfo := .utf8 (stringToUtf16 s)
/-- a pool by its gaps: so many unusable entries, then the entry; so many at the end -/
def gap : Nat → List CpInfo → List CpInfo
  | 0, r => r
  | n + 1, r => .unusable :: gap n r
def poolList (es : List (Nat × CpInfo)) (last : Nat) : List CpInfo := es.foldr (fun e r => gap e.1 (e.2 :: r)) (gap last [])
def pool (es : List (Nat × CpInfo)) (last : Nat) : Array CpInfo := ⟨poolList es last⟩
def fileOf (pool : Array CpInfo) (this : Nat) (attrs : Array Attribute := #[]) (ms : Array MethodInfo := #[]) (fl : Nat := 33) (sup : Nat := 0) (ifs : Array Nat := #[]) (fds : Array FieldInfo := #[]) : ClassFile where
  minorVersion := 0
  majorVersion := 65
  constantPool := pool
  accessFlags := fl
  thisClass := this
  superClass := sup
  interfaces := ifs
  fields := fds
  methods := ms
  attributes := attrs
def plain (name : String) (sup : Option ClassId) : Class where
  name := name
  kind := .ordinary
  loader := none
  accessFlags := 33
  super := sup
  interfaces := #[]
  cf := none
  fields := #[]
  methods := #[]
  instanceTypes := #[]
  staticTypes := #[]
  resolved := #[]
  callSites := []
  init := .initialized
  statics := none
  mirror := none

def pool0 : Array CpInfo := pool [(5, u "<init>"), (0, u "()V"), (1, .class_ 10), (1, u "java/lang/Object")] 113

def k0c0 : Code := { maxStack := 0, maxLocals := 1, code := object_method_1_code, exceptionTable := #[], attributes := #[] }
def k0m0 : Method := { name := "<init>", desc := "()V", sig := { parameters := [], returnType := none }, accessFlags := 1, code := some k0c0 }
/-- java/lang/Object -/
def k0 : Class := { plain "java/lang/Object" none with
  accessFlags := 33
  interfaces := #[]
  cf := some (fileOf pool0 8 #[] #[{ accessFlags := 1, nameIndex := 5, descriptorIndex := 6, attributes := #[] }] 33 0 #[] #[])
  fields := #[]
  methods := #[k0m0]
  instanceTypes := #[]
  staticTypes := #[]
  resolved := Array.replicate 124 none
  statics := none }

def pool1 : Array CpInfo := pool [(2, .class_ 4), (1, u "java/lang/Object"), (0, u "<init>"), (0, u "()V"), (0, .methodref 8 9), (0, .class_ 10), (0, .nameAndType 11 12), (0, u "org/tourney/ValueGraph"), (0, u "addEdge"), (0, u "(I)I"), (0, .integer 2147483647), (0, .integer 65535), (0, .methodref 8 16), (0, .nameAndType 5 17), (0, u "(II)V"), (0, .methodref 8 19), (0, .nameAndType 20 21), (0, u "open"), (0, u "(I)V"), (0, .methodref 23 24), (0, .class_ 25), (0, .nameAndType 26 27), (0, u "org/tourney/ValueGraphIsInSomeMatchingPinLaw"), (0, u "addEdges"), (0, u "(Lorg/tourney/ValueGraph;II[I[I)I"), (0, .methodref 8 29), (0, .nameAndType 30 31), (0, u "match"), (0, u "(Lorg/tourney/Deadline;)Z"), (0, .methodref 8 33), (0, .nameAndType 34 6), (0, u "findComponents"), (0, .methodref 8 36), (0, .nameAndType 37 38), (0, u "isInSomeMatching"), (0, u "(II)Z"), (3, u "law"), (0, u "(III)Z")] 4

def k1m0 : Method := { name := "<init>", desc := "()V", sig := { parameters := [], returnType := none }, accessFlags := 1, code := none }
def k1c1 : Code := { maxStack := 4, maxLocals := 9, code := method_2_code, exceptionTable := #[], attributes := #[] }
def k1m1 : Method := { name := "addEdges", desc := "(Lorg/tourney/ValueGraph;II[I[I)I", sig := { parameters := [(.object "org/tourney/ValueGraph"), .int, .int, (.array .int), (.array .int)], returnType := some .int }, accessFlags := 10, code := some k1c1 }
def k1c2 : Code := { maxStack := 5, maxLocals := 27, code := code, exceptionTable := #[], attributes := #[] }
def k1m2 : Method := { name := "law", desc := "(III)Z", sig := { parameters := [.int, .int, .int], returnType := some .boolean }, accessFlags := 9, code := some k1c2 }
/-- org/tourney/ValueGraphIsInSomeMatchingPinLaw -/
def k1 : Class := { plain "org/tourney/ValueGraphIsInSomeMatchingPinLaw" (some 0) with
  accessFlags := 49
  interfaces := #[]
  cf := some (fileOf pool1 23 #[] #[{ accessFlags := 1, nameIndex := 5, descriptorIndex := 6, attributes := #[] }, { accessFlags := 10, nameIndex := 26, descriptorIndex := 27, attributes := #[] }, { accessFlags := 9, nameIndex := 42, descriptorIndex := 43, attributes := #[] }] 49 2 #[] #[])
  fields := #[]
  methods := #[k1m0, k1m1, k1m2]
  instanceTypes := #[]
  staticTypes := #[]
  resolved := Array.replicate 48 none
  statics := none }

def pool2 : Array CpInfo := pool [(1, .methodref 2 3), (0, .class_ 4), (0, .nameAndType 5 6), (0, u "java/lang/Object"), (0, u "<init>"), (0, u "()V"), (0, .fieldref 8 9), (0, .class_ 10), (0, .nameAndType 11 12), (0, u "org/tourney/ValueGraph"), (0, u "positions"), (0, u "I"), (0, .fieldref 8 14), (0, .nameAndType 15 12), (0, u "values"), (0, .fieldref 8 17), (0, .nameAndType 18 19), (0, u "matchedValue"), (0, u "[I"), (0, .fieldref 8 21), (0, .nameAndType 22 19), (0, u "matchedPosition"), (0, .methodref 24 25), (0, .class_ 26), (0, .nameAndType 27 28), (0, u "java/util/Arrays"), (0, u "fill"), (0, u "([II)V"), (0, .fieldref 8 30), (0, .nameAndType 31 19), (0, u "openPositions"), (0, .fieldref 8 33), (0, .nameAndType 34 19), (0, u "edgeStart"), (0, .fieldref 8 36), (0, .nameAndType 37 19), (0, u "edgeEnd"), (0, .methodref 39 40), (0, .class_ 41), (0, .nameAndType 42 43), (0, u "java/lang/Math"), (0, u "max"), (0, u "(II)I"), (0, .fieldref 8 45), (0, .nameAndType 46 19), (0, u "edgeValue"), (0, .fieldref 8 48), (0, .nameAndType 49 50), (0, u "keepsMatch"), (0, u "[Z"), (0, .fieldref 8 52), (0, .nameAndType 53 19), (0, u "reached"), (0, .fieldref 8 55), (0, .nameAndType 56 19), (0, u "pathPositions"), (0, .fieldref 8 58), (0, .nameAndType 59 19), (0, u "pathCursors"), (0, .fieldref 8 61), (0, .nameAndType 62 19), (0, u "pathTried"), (0, .fieldref 8 64), (0, .nameAndType 65 19), (0, u "sizeCounts"), (0, .fieldref 8 67), (0, .nameAndType 68 19), (0, u "discovery"), (0, .fieldref 8 70), (0, .nameAndType 71 19), (0, u "discoveredIn"), (0, .fieldref 8 73), (0, .nameAndType 74 19), (0, u "lowest"), (0, .fieldref 8 76), (0, .nameAndType 77 19), (0, u "component"), (0, .fieldref 8 79), (0, .nameAndType 80 50), (0, u "isOpen"), (0, .fieldref 8 82), (0, .nameAndType 83 19), (0, u "openNodes"), (0, .fieldref 8 85), (0, .nameAndType 86 19), (0, u "dfsNodes"), (0, .fieldref 8 88), (0, .nameAndType 89 19), (0, u "dfsCursors"), (0, .fieldref 8 91), (0, .nameAndType 92 12), (0, u "openCount"), (0, .fieldref 8 94), (0, .nameAndType 95 12), (0, u "edgeCount"), (7, u "(I)V"), (3, .methodref 8 108), (0, .nameAndType 109 110), (0, u "augment"), (0, u "(ILorg/tourney/Deadline;)Z"), (0, .methodref 8 112), (0, .nameAndType 113 6), (0, u "nextStamp"), (0, .methodref 8 115), (0, .nameAndType 116 117), (0, u "freeEdge"), (0, u "(I)I"), (0, .fieldref 8 119), (0, .nameAndType 120 12), (0, u "stamp"), (0, .long 2), (9, .integer 2147483647), (0, .fieldref 8 133), (0, .nameAndType 134 12), (0, u "search"), (0, .methodref 8 136), (0, .nameAndType 137 43), (0, u "nextSuccessor"), (0, .methodref 39 139), (0, .nameAndType 140 43), (0, u "min"), (0, u "UNMATCHED"), (2, u "(II)V"), (3, u "open"), (0, u "addEdge"), (9, u "match"), (0, u "(Lorg/tourney/Deadline;)Z"), (0, u "isInSomeMatching"), (0, u "(II)Z"), (0, u "findComponents")] 3

def k2c0 : Code := { maxStack := 3, maxLocals := 4, code := prog_61_method_1_code, exceptionTable := #[], attributes := #[] }
def k2m0 : Method := { name := "<init>", desc := "(II)V", sig := { parameters := [.int, .int], returnType := none }, accessFlags := 0, code := some k2c0 }
def k2c1 : Code := { maxStack := 5, maxLocals := 2, code := prog_61_method_3_code, exceptionTable := #[], attributes := #[] }
def k2m1 : Method := { name := "open", desc := "(I)V", sig := { parameters := [.int], returnType := none }, accessFlags := 0, code := some k2c1 }
def k2c2 : Code := { maxStack := 5, maxLocals := 3, code := prog_61_method_4_code, exceptionTable := #[], attributes := #[] }
def k2m2 : Method := { name := "addEdge", desc := "(I)I", sig := { parameters := [.int], returnType := some .int }, accessFlags := 0, code := some k2c2 }
def k2c3 : Code := { maxStack := 3, maxLocals := 4, code := prog_61_method_11_code, exceptionTable := #[], attributes := #[] }
def k2m3 : Method := { name := "match", desc := "(Lorg/tourney/Deadline;)Z", sig := { parameters := [(.object "org/tourney/Deadline")], returnType := some .boolean }, accessFlags := 0, code := some k2c3 }
def k2c4 : Code := { maxStack := 6, maxLocals := 9, code := prog_61_method_12_code, exceptionTable := #[], attributes := #[] }
def k2m4 : Method := { name := "augment", desc := "(ILorg/tourney/Deadline;)Z", sig := { parameters := [.int, (.object "org/tourney/Deadline")], returnType := some .boolean }, accessFlags := 2, code := some k2c4 }
def k2c5 : Code := { maxStack := 3, maxLocals := 3, code := prog_61_method_13_code, exceptionTable := #[], attributes := #[] }
def k2m5 : Method := { name := "freeEdge", desc := "(I)I", sig := { parameters := [.int], returnType := some .int }, accessFlags := 2, code := some k2c5 }
def k2c6 : Code := { maxStack := 3, maxLocals := 1, code := prog_61_method_15_code, exceptionTable := #[], attributes := #[] }
def k2m6 : Method := { name := "nextStamp", desc := "()V", sig := { parameters := [], returnType := none }, accessFlags := 2, code := some k2c6 }
def k2c7 : Code := { maxStack := 3, maxLocals := 4, code := prog_61_method_16_code, exceptionTable := #[], attributes := #[] }
def k2m7 : Method := { name := "isInSomeMatching", desc := "(II)Z", sig := { parameters := [.int, .int], returnType := some .boolean }, accessFlags := 0, code := some k2c7 }
def k2c8 : Code := { maxStack := 5, maxLocals := 9, code := prog_61_method_17_code, exceptionTable := #[], attributes := #[] }
def k2m8 : Method := { name := "findComponents", desc := "()V", sig := { parameters := [], returnType := none }, accessFlags := 0, code := some k2c8 }
def k2c9 : Code := { maxStack := 5, maxLocals := 6, code := prog_61_method_18_code, exceptionTable := #[], attributes := #[] }
def k2m9 : Method := { name := "nextSuccessor", desc := "(II)I", sig := { parameters := [.int, .int], returnType := some .int }, accessFlags := 2, code := some k2c9 }
/-- org/tourney/ValueGraph -/
def k2 : Class := { plain "org/tourney/ValueGraph" (some 0) with
  accessFlags := 48
  interfaces := #[]
  cf := some (fileOf pool2 8 #[] #[{ accessFlags := 0, nameIndex := 5, descriptorIndex := 144, attributes := #[] }, { accessFlags := 0, nameIndex := 148, descriptorIndex := 103, attributes := #[] }, { accessFlags := 0, nameIndex := 149, descriptorIndex := 117, attributes := #[] }, { accessFlags := 0, nameIndex := 159, descriptorIndex := 160, attributes := #[] }, { accessFlags := 2, nameIndex := 109, descriptorIndex := 110, attributes := #[] }, { accessFlags := 2, nameIndex := 116, descriptorIndex := 117, attributes := #[] }, { accessFlags := 2, nameIndex := 113, descriptorIndex := 6, attributes := #[] }, { accessFlags := 0, nameIndex := 161, descriptorIndex := 162, attributes := #[] }, { accessFlags := 0, nameIndex := 163, descriptorIndex := 6, attributes := #[] }, { accessFlags := 2, nameIndex := 137, descriptorIndex := 43, attributes := #[] }] 48 2 #[] #[{ accessFlags := 26, nameIndex := 141, descriptorIndex := 12, attributes := #[] }, { accessFlags := 18, nameIndex := 11, descriptorIndex := 12, attributes := #[] }, { accessFlags := 18, nameIndex := 15, descriptorIndex := 12, attributes := #[] }, { accessFlags := 18, nameIndex := 18, descriptorIndex := 19, attributes := #[] }, { accessFlags := 18, nameIndex := 22, descriptorIndex := 19, attributes := #[] }, { accessFlags := 18, nameIndex := 31, descriptorIndex := 19, attributes := #[] }, { accessFlags := 2, nameIndex := 92, descriptorIndex := 12, attributes := #[] }, { accessFlags := 18, nameIndex := 34, descriptorIndex := 19, attributes := #[] }, { accessFlags := 18, nameIndex := 37, descriptorIndex := 19, attributes := #[] }, { accessFlags := 2, nameIndex := 46, descriptorIndex := 19, attributes := #[] }, { accessFlags := 2, nameIndex := 95, descriptorIndex := 12, attributes := #[] }, { accessFlags := 18, nameIndex := 49, descriptorIndex := 50, attributes := #[] }, { accessFlags := 18, nameIndex := 53, descriptorIndex := 19, attributes := #[] }, { accessFlags := 2, nameIndex := 120, descriptorIndex := 12, attributes := #[] }, { accessFlags := 18, nameIndex := 56, descriptorIndex := 19, attributes := #[] }, { accessFlags := 18, nameIndex := 59, descriptorIndex := 19, attributes := #[] }, { accessFlags := 18, nameIndex := 62, descriptorIndex := 19, attributes := #[] }, { accessFlags := 18, nameIndex := 65, descriptorIndex := 19, attributes := #[] }, { accessFlags := 18, nameIndex := 68, descriptorIndex := 19, attributes := #[] }, { accessFlags := 18, nameIndex := 71, descriptorIndex := 19, attributes := #[] }, { accessFlags := 2, nameIndex := 134, descriptorIndex := 12, attributes := #[] }, { accessFlags := 18, nameIndex := 74, descriptorIndex := 19, attributes := #[] }, { accessFlags := 18, nameIndex := 77, descriptorIndex := 19, attributes := #[] }, { accessFlags := 18, nameIndex := 80, descriptorIndex := 50, attributes := #[] }, { accessFlags := 18, nameIndex := 83, descriptorIndex := 19, attributes := #[] }, { accessFlags := 18, nameIndex := 86, descriptorIndex := 19, attributes := #[] }, { accessFlags := 18, nameIndex := 89, descriptorIndex := 19, attributes := #[] }])
  fields := #[{ name := "UNMATCHED", type := .int, accessFlags := 26, slot := 0, constantValue := 0 }, { name := "positions", type := .int, accessFlags := 18, slot := 0, constantValue := 0 }, { name := "values", type := .int, accessFlags := 18, slot := 1, constantValue := 0 }, { name := "matchedValue", type := (.array .int), accessFlags := 18, slot := 2, constantValue := 0 }, { name := "matchedPosition", type := (.array .int), accessFlags := 18, slot := 3, constantValue := 0 }, { name := "openPositions", type := (.array .int), accessFlags := 18, slot := 4, constantValue := 0 }, { name := "openCount", type := .int, accessFlags := 2, slot := 5, constantValue := 0 }, { name := "edgeStart", type := (.array .int), accessFlags := 18, slot := 6, constantValue := 0 }, { name := "edgeEnd", type := (.array .int), accessFlags := 18, slot := 7, constantValue := 0 }, { name := "edgeValue", type := (.array .int), accessFlags := 2, slot := 8, constantValue := 0 }, { name := "edgeCount", type := .int, accessFlags := 2, slot := 9, constantValue := 0 }, { name := "keepsMatch", type := (.array .boolean), accessFlags := 18, slot := 10, constantValue := 0 }, { name := "reached", type := (.array .int), accessFlags := 18, slot := 11, constantValue := 0 }, { name := "stamp", type := .int, accessFlags := 2, slot := 12, constantValue := 0 }, { name := "pathPositions", type := (.array .int), accessFlags := 18, slot := 13, constantValue := 0 }, { name := "pathCursors", type := (.array .int), accessFlags := 18, slot := 14, constantValue := 0 }, { name := "pathTried", type := (.array .int), accessFlags := 18, slot := 15, constantValue := 0 }, { name := "sizeCounts", type := (.array .int), accessFlags := 18, slot := 16, constantValue := 0 }, { name := "discovery", type := (.array .int), accessFlags := 18, slot := 17, constantValue := 0 }, { name := "discoveredIn", type := (.array .int), accessFlags := 18, slot := 18, constantValue := 0 }, { name := "search", type := .int, accessFlags := 2, slot := 19, constantValue := 0 }, { name := "lowest", type := (.array .int), accessFlags := 18, slot := 20, constantValue := 0 }, { name := "component", type := (.array .int), accessFlags := 18, slot := 21, constantValue := 0 }, { name := "isOpen", type := (.array .boolean), accessFlags := 18, slot := 22, constantValue := 0 }, { name := "openNodes", type := (.array .int), accessFlags := 18, slot := 23, constantValue := 0 }, { name := "dfsNodes", type := (.array .int), accessFlags := 18, slot := 24, constantValue := 0 }, { name := "dfsCursors", type := (.array .int), accessFlags := 18, slot := 25, constantValue := 0 }]
  methods := #[k2m0, k2m1, k2m2, k2m3, k2m4, k2m5, k2m6, k2m7, k2m8, k2m9]
  instanceTypes := #[.int, .int, (.array .int), (.array .int), (.array .int), .int, (.array .int), (.array .int), (.array .int), .int, (.array .boolean), (.array .int), .int, (.array .int), (.array .int), (.array .int), (.array .int), (.array .int), (.array .int), .int, (.array .int), (.array .int), (.array .boolean), (.array .int), (.array .int), (.array .int)]
  staticTypes := #[.int]
  resolved := Array.replicate 167 none
  statics := none }

def pool3 : Array CpInfo := pool [(2, .class_ 4), (1, u "java/lang/Object"), (0, u "<init>"), (0, u "()V"), (7, .class_ 16), (1, u "java/util/Arrays"), (57, .class_ 76), (1, u "java/util/Arrays$NaturalOrder"), (36, .class_ 115), (1, u "java/util/Arrays$LegacyMergeSort"), (1, u "Z"), (257, .class_ 376), (0, u "java/util/Arrays$ArrayList"), (68, u "$assertionsDisabled"), (269, u "MIN_ARRAY_SORT_GRAN"), (0, u "I"), (2, u "INSERTIONSORT_THRESHOLD"), (120, u "fill"), (4, u "([II)V"), (129, .class_ 976), (0, u "java/util/Arrays$ArrayItr")] 52

def k3m0 : Method := { name := "<init>", desc := "()V", sig := { parameters := [], returnType := none }, accessFlags := 2, code := none }
def k3c1 : Code := { maxStack := 3, maxLocals := 4, code := jdk_65_method_103_code, exceptionTable := #[], attributes := #[] }
def k3m1 : Method := { name := "fill", desc := "([II)V", sig := { parameters := [(.array .int), .int], returnType := none }, accessFlags := 9, code := some k3c1 }
/-- java/util/Arrays -/
def k3 : Class := { plain "java/util/Arrays" (some 0) with
  accessFlags := 49
  interfaces := #[]
  cf := some (fileOf pool3 14 #[.nestMembers #[975, 375, 113, 74]] #[{ accessFlags := 2, nameIndex := 5, descriptorIndex := 6, attributes := #[] }, { accessFlags := 9, nameIndex := 840, descriptorIndex := 845, attributes := #[] }] 49 2 #[] #[{ accessFlags := 26, nameIndex := 715, descriptorIndex := 716, attributes := #[] }, { accessFlags := 26, nameIndex := 719, descriptorIndex := 716, attributes := #[] }, { accessFlags := 4120, nameIndex := 445, descriptorIndex := 117, attributes := #[] }])
  fields := #[{ name := "MIN_ARRAY_SORT_GRAN", type := .int, accessFlags := 26, slot := 0, constantValue := 0 }, { name := "INSERTIONSORT_THRESHOLD", type := .int, accessFlags := 26, slot := 1, constantValue := 0 }, { name := "$assertionsDisabled", type := .boolean, accessFlags := 4120, slot := 2, constantValue := 0 }]
  methods := #[k3m0, k3m1]
  instanceTypes := #[]
  staticTypes := #[.int, .int, .boolean]
  resolved := Array.replicate 1029 none
  statics := none }

def pool4 : Array CpInfo := pool [(1, .class_ 2), (0, u "java/lang/Math"), (1, .class_ 6), (1, u "java/lang/Object"), (0, u "<init>"), (0, u "()V"), (89, .class_ 100), (1, u "java/lang/Math$RandomNumberGeneratorHolder"), (71, u "negativeZeroFloatBits"), (0, u "J"), (2, u "negativeZeroDoubleBits"), (21, u "max"), (2, u "min"), (43, u "$assertionsDisabled"), (0, u "Z"), (88, u "(II)I"), (2, u "twoToTheDoubleScaleDown"), (0, u "D"), (4, u "twoToTheDoubleScaleUp"), (9, u "E"), (3, u "PI"), (2, u "TAU"), (2, u "DEGREES_TO_RADIANS"), (0, u "RADIANS_TO_DEGREES")] 94

def k4m0 : Method := { name := "<init>", desc := "()V", sig := { parameters := [], returnType := none }, accessFlags := 2, code := none }
def k4c1 : Code := { maxStack := 2, maxLocals := 2, code := jdk_29_method_65_code, exceptionTable := #[], attributes := #[] }
def k4m1 : Method := { name := "max", desc := "(II)I", sig := { parameters := [.int, .int], returnType := some .int }, accessFlags := 9, code := some k4c1 }
def k4c2 : Code := { maxStack := 2, maxLocals := 2, code := jdk_29_method_69_code, exceptionTable := #[], attributes := #[] }
def k4m2 : Method := { name := "min", desc := "(II)I", sig := { parameters := [.int, .int], returnType := some .int }, accessFlags := 9, code := some k4c2 }
/-- java/lang/Math -/
def k4 : Class := { plain "java/lang/Math" (some 0) with
  accessFlags := 49
  interfaces := #[]
  cf := some (fileOf pool4 1 #[.nestMembers #[98]] #[{ accessFlags := 2, nameIndex := 7, descriptorIndex := 8, attributes := #[] }, { accessFlags := 9, nameIndex := 198, descriptorIndex := 335, attributes := #[] }, { accessFlags := 9, nameIndex := 201, descriptorIndex := 335, attributes := #[] }] 49 4 #[] #[{ accessFlags := 25, nameIndex := 354, descriptorIndex := 339, attributes := #[] }, { accessFlags := 25, nameIndex := 358, descriptorIndex := 339, attributes := #[] }, { accessFlags := 25, nameIndex := 361, descriptorIndex := 339, attributes := #[] }, { accessFlags := 26, nameIndex := 364, descriptorIndex := 339, attributes := #[] }, { accessFlags := 26, nameIndex := 365, descriptorIndex := 339, attributes := #[] }, { accessFlags := 26, nameIndex := 172, descriptorIndex := 173, attributes := #[] }, { accessFlags := 26, nameIndex := 176, descriptorIndex := 173, attributes := #[] }, { accessFlags := 8, nameIndex := 344, descriptorIndex := 339, attributes := #[] }, { accessFlags := 8, nameIndex := 338, descriptorIndex := 339, attributes := #[] }, { accessFlags := 4120, nameIndex := 245, descriptorIndex := 246, attributes := #[] }])
  fields := #[{ name := "E", type := .double, accessFlags := 25, slot := 0, constantValue := 0 }, { name := "PI", type := .double, accessFlags := 25, slot := 1, constantValue := 0 }, { name := "TAU", type := .double, accessFlags := 25, slot := 2, constantValue := 0 }, { name := "DEGREES_TO_RADIANS", type := .double, accessFlags := 26, slot := 3, constantValue := 0 }, { name := "RADIANS_TO_DEGREES", type := .double, accessFlags := 26, slot := 4, constantValue := 0 }, { name := "negativeZeroFloatBits", type := .long, accessFlags := 26, slot := 5, constantValue := 0 }, { name := "negativeZeroDoubleBits", type := .long, accessFlags := 26, slot := 6, constantValue := 0 }, { name := "twoToTheDoubleScaleUp", type := .double, accessFlags := 8, slot := 7, constantValue := 0 }, { name := "twoToTheDoubleScaleDown", type := .double, accessFlags := 8, slot := 8, constantValue := 0 }, { name := "$assertionsDisabled", type := .boolean, accessFlags := 4120, slot := 9, constantValue := 0 }]
  methods := #[k4m0, k4m1, k4m2]
  instanceTypes := #[]
  staticTypes := #[.double, .double, .double, .double, .double, .long, .long, .double, .double, .boolean]
  resolved := Array.replicate 460 none
  statics := none }

def pool5 : Array CpInfo := pool [(1, u "java/lang/Cloneable"), (0, .class_ 1), (0, u "java/lang/Object"), (0, .class_ 3)] 3

/-- java/lang/Cloneable -/
def k5 : Class := { plain "java/lang/Cloneable" (some 0) with
  accessFlags := 1537
  interfaces := #[]
  cf := some (fileOf pool5 2 #[] #[] 1537 4 #[] #[])
  fields := #[]
  methods := #[]
  instanceTypes := #[]
  staticTypes := #[]
  resolved := Array.replicate 8 none
  statics := none }

def pool6 : Array CpInfo := pool [(1, u "java/io/Serializable"), (0, .class_ 1), (0, u "java/lang/Object"), (0, .class_ 3)] 3

/-- java/io/Serializable -/
def k6 : Class := { plain "java/io/Serializable" (some 0) with
  accessFlags := 1537
  interfaces := #[]
  cf := some (fileOf pool6 2 #[] #[] 1537 4 #[] #[])
  fields := #[]
  methods := #[]
  instanceTypes := #[]
  staticTypes := #[]
  resolved := Array.replicate 8 none
  statics := none }

/-- the primitive boolean -/
def k7 : Class := { plain "boolean" none with kind := .primitive 'Z', accessFlags := 0x411 }
/-- [Z -/
def k8 : Class := { plain "[Z" (some 0) with kind := .array 7 .boolean, interfaces := #[5, 6], accessFlags := 1041 }

/-- the primitive byte -/
def k9 : Class := { plain "byte" none with kind := .primitive 'B', accessFlags := 0x411 }
/-- [B -/
def k10 : Class := { plain "[B" (some 0) with kind := .array 9 .byte, interfaces := #[5, 6], accessFlags := 1041 }

/-- the primitive int -/
def k11 : Class := { plain "int" none with kind := .primitive 'I', accessFlags := 0x411 }
/-- [I -/
def k12 : Class := { plain "[I" (some 0) with kind := .array 11 .int, interfaces := #[5, 6], accessFlags := 1041 }

def heap : Heap := #[]
def classes : Array Class := #[k0, k1, k2, k3, k4, k5, k6, k7, k8, k9, k10, k11, k12]
def interned : List (Array UInt16 × Addr) := []
def slotsUsed : Nat := 0
def theMethod : MethodId := ⟨1, 2⟩
def args0 : Array Value := #[.int 5, .int 7, .int 9]
def aboutOver (below : List Frame) : State where
  vm := { classes := classes, interned := interned.toArray }
  heap := heap
  slotsUsed := slotsUsed
  threads := #[{ frames := .invoking theMethod args0 :: below }]
def below0 : List Frame := [.native { method := ⟨0, 0⟩, args := #[] }]
def about1 : State := aboutOver below0
def p0 : Program := .bare "" "" ""
def e0 : Env := launch0.env 0 0 0
theorem w_frames : about1.frames = Frame.invoking theMethod args0 :: below0 := rfl
set_option maxRecDepth 65536 in
theorem w_args : argsFit about1.vm theMethod args0 = true := by decide +kernel
set_option maxRecDepth 65536 in
theorem w_heap : heapFits about1 = true := by decide +kernel
set_option maxRecDepth 65536 in
theorem w_runnable : about1.curStatus? = some .runnable := by decide +kernel
set_option maxRecDepth 65536 in
theorem w_alone : about1.alone = true := by decide +kernel
set_option maxRecDepth 65536 in
theorem w_named : about1.methodNamed? x = some theMethod := by decide +kernel
set_option maxRecDepth 65536 in
theorem w_hears : about1.hears theMethod below0 = true := by decide +kernel
set_option maxRecDepth 65536 in
theorem w_ripe : about1.ripe theMethod args0 below0 = true := by decide +kernel
theorem w_running : about1.status = .running := rfl
set_option maxRecDepth 65536 in
theorem w_room : about1.hasRoom e0.platform room_1 = true :=
  launch0.hasRoom_least _ room_1 (by decide +kernel) (by decide +kernel) (by decide +kernel) (by decide +kernel) (by decide +kernel) (by decide +kernel)
theorem allAtoms_all (ts : List Jvm.Cond) (a : Array Jvm.Value) (st : Jvm.State) : (allAtoms ts).before a st = ts.all (fun c => c.before a st) := by
  induction ts with
  | nil => rfl
  | cons c t ih =>
    show (Jvm.Cond.and c (allAtoms t)).before a st = _
    rw [Jvm.Cond.before_and, ih, List.all_cons]
def words1 : List Jvm.Cond := Jvm.Cond.code x code maxLocals ret :: tables_1
/-- a 'code' word, met by the world's own term for the bytes: nothing is compared byte by byte -/
theorem code_word {y : MethodName} {bytes : ByteArray} {mx : Nat} {rt : Option FieldType} {a : Array Value} {s : State} {m : MethodId} {meth : Method} {c : Code} (h1 : s.methodNamed? y = some m) (h2 : s.vm.method? m = some meth) (h3 : meth.code = some c) (h4 : c.code = bytes)
    (h5 : (c.maxLocals == mx && c.exceptionTable.isEmpty && decide (c.maxStack ≤ mostOperands) && decide (meth.sig.returnType = rt) && !meth.locks && decide (parseMethodDescriptor y.desc = some meth.sig)) = true) : (Jvm.Cond.code y bytes mx rt).before a s = true := by
  simp only [Bool.and_eq_true, beq_iff_eq, Bool.not_eq_true', decide_eq_true_eq] at h5
  obtain ⟨⟨⟨⟨⟨g1, g2⟩, g3⟩, g4⟩, g5⟩, g6⟩ := h5
  simp [Cond.before, Cond.holds, Cond.value, h1, h2, h3, h4, g1, g2, g3, g4, g5, g6]
def isCode : Jvm.Cond → Bool
  | .code _ _ _ _ => true
  | _ => false
theorem all_split {L : List Jvm.Cond} {P : Jvm.Cond → Bool} (h1 : L.all (fun c => isCode c || P c) = true) (h2 : ∀ c ∈ L.filter isCode, P c = true) : L.all P = true := by
  refine List.all_eq_true.mpr fun c hc => ?_
  have h := List.all_eq_true.mp h1 c hc
  rcases Bool.eq_false_or_eq_true (isCode c) with hi | hi
  · exact h2 c (List.mem_filter.mpr ⟨hc, hi⟩)
  · simpa [hi] using h
set_option maxRecDepth 65536 in
theorem w_c0 : (Jvm.Cond.code x code maxLocals ret).before args0 about1 = true := code_word (m := ⟨1, 2⟩) (meth := k1m2) (c := k1c2) (by decide +kernel) rfl rfl rfl (by decide +kernel)
set_option maxRecDepth 65536 in
theorem w_c1 : (Jvm.Cond.code ({ cls := "org/tourney/ValueGraph", name := "<init>", desc := "(II)V" } : Jvm.MethodName) prog_61_method_1_code (4 : Nat) (Option.none : Option Jvm.ClassFile.FieldType)).before args0 about1 = true := code_word (m := ⟨2, 0⟩) (meth := k2m0) (c := k2c0) (by decide +kernel) rfl rfl rfl (by decide +kernel)
set_option maxRecDepth 65536 in
theorem w_c2 : (Jvm.Cond.code ({ cls := "java/lang/Object", name := "<init>", desc := "()V" } : Jvm.MethodName) object_method_1_code (1 : Nat) (Option.none : Option Jvm.ClassFile.FieldType)).before args0 about1 = true := code_word (m := ⟨0, 0⟩) (meth := k0m0) (c := k0c0) (by decide +kernel) rfl rfl rfl (by decide +kernel)
set_option maxRecDepth 65536 in
theorem w_c3 : (Jvm.Cond.code ({ cls := "java/util/Arrays", name := "fill", desc := "([II)V" } : Jvm.MethodName) jdk_65_method_103_code (4 : Nat) (Option.none : Option Jvm.ClassFile.FieldType)).before args0 about1 = true := code_word (m := ⟨3, 1⟩) (meth := k3m1) (c := k3c1) (by decide +kernel) rfl rfl rfl (by decide +kernel)
set_option maxRecDepth 65536 in
theorem w_c4 : (Jvm.Cond.code ({ cls := "java/lang/Math", name := "max", desc := "(II)I" } : Jvm.MethodName) jdk_29_method_65_code (2 : Nat) (Option.some Jvm.ClassFile.FieldType.int)).before args0 about1 = true := code_word (m := ⟨4, 1⟩) (meth := k4m1) (c := k4c1) (by decide +kernel) rfl rfl rfl (by decide +kernel)
set_option maxRecDepth 65536 in
theorem w_c5 : (Jvm.Cond.code ({ cls := "org/tourney/ValueGraph", name := "open", desc := "(I)V" } : Jvm.MethodName) prog_61_method_3_code (2 : Nat) (Option.none : Option Jvm.ClassFile.FieldType)).before args0 about1 = true := code_word (m := ⟨2, 1⟩) (meth := k2m1) (c := k2c1) (by decide +kernel) rfl rfl rfl (by decide +kernel)
set_option maxRecDepth 65536 in
theorem w_c6 : (Jvm.Cond.code ({ cls := "org/tourney/ValueGraphIsInSomeMatchingPinLaw", name := "addEdges", desc := "(Lorg/tourney/ValueGraph;II[I[I)I" } : Jvm.MethodName) method_2_code (9 : Nat) (Option.some Jvm.ClassFile.FieldType.int)).before args0 about1 = true := code_word (m := ⟨1, 1⟩) (meth := k1m1) (c := k1c1) (by decide +kernel) rfl rfl rfl (by decide +kernel)
set_option maxRecDepth 65536 in
theorem w_c7 : (Jvm.Cond.code ({ cls := "org/tourney/ValueGraph", name := "addEdge", desc := "(I)I" } : Jvm.MethodName) prog_61_method_4_code (3 : Nat) (Option.some Jvm.ClassFile.FieldType.int)).before args0 about1 = true := code_word (m := ⟨2, 2⟩) (meth := k2m2) (c := k2c2) (by decide +kernel) rfl rfl rfl (by decide +kernel)
set_option maxRecDepth 65536 in
theorem w_c8 : (Jvm.Cond.code ({ cls := "org/tourney/ValueGraph", name := "match", desc := "(Lorg/tourney/Deadline;)Z" } : Jvm.MethodName) prog_61_method_11_code (4 : Nat) (Option.some Jvm.ClassFile.FieldType.boolean)).before args0 about1 = true := code_word (m := ⟨2, 3⟩) (meth := k2m3) (c := k2c3) (by decide +kernel) rfl rfl rfl (by decide +kernel)
set_option maxRecDepth 65536 in
theorem w_c9 : (Jvm.Cond.code ({ cls := "org/tourney/ValueGraph", name := "augment", desc := "(ILorg/tourney/Deadline;)Z" } : Jvm.MethodName) prog_61_method_12_code (9 : Nat) (Option.some Jvm.ClassFile.FieldType.boolean)).before args0 about1 = true := code_word (m := ⟨2, 4⟩) (meth := k2m4) (c := k2c4) (by decide +kernel) rfl rfl rfl (by decide +kernel)
set_option maxRecDepth 65536 in
theorem w_c10 : (Jvm.Cond.code ({ cls := "org/tourney/ValueGraph", name := "nextStamp", desc := "()V" } : Jvm.MethodName) prog_61_method_15_code (1 : Nat) (Option.none : Option Jvm.ClassFile.FieldType)).before args0 about1 = true := code_word (m := ⟨2, 6⟩) (meth := k2m6) (c := k2c6) (by decide +kernel) rfl rfl rfl (by decide +kernel)
set_option maxRecDepth 65536 in
theorem w_c11 : (Jvm.Cond.code ({ cls := "org/tourney/ValueGraph", name := "freeEdge", desc := "(I)I" } : Jvm.MethodName) prog_61_method_13_code (3 : Nat) (Option.some Jvm.ClassFile.FieldType.int)).before args0 about1 = true := code_word (m := ⟨2, 5⟩) (meth := k2m5) (c := k2c5) (by decide +kernel) rfl rfl rfl (by decide +kernel)
set_option maxRecDepth 65536 in
theorem w_c12 : (Jvm.Cond.code ({ cls := "org/tourney/ValueGraph", name := "findComponents", desc := "()V" } : Jvm.MethodName) prog_61_method_17_code (9 : Nat) (Option.none : Option Jvm.ClassFile.FieldType)).before args0 about1 = true := code_word (m := ⟨2, 8⟩) (meth := k2m8) (c := k2c8) (by decide +kernel) rfl rfl rfl (by decide +kernel)
set_option maxRecDepth 65536 in
theorem w_c13 : (Jvm.Cond.code ({ cls := "org/tourney/ValueGraph", name := "nextSuccessor", desc := "(II)I" } : Jvm.MethodName) prog_61_method_18_code (6 : Nat) (Option.some Jvm.ClassFile.FieldType.int)).before args0 about1 = true := code_word (m := ⟨2, 9⟩) (meth := k2m9) (c := k2c9) (by decide +kernel) rfl rfl rfl (by decide +kernel)
set_option maxRecDepth 65536 in
theorem w_c14 : (Jvm.Cond.code ({ cls := "org/tourney/ValueGraph", name := "isInSomeMatching", desc := "(II)Z" } : Jvm.MethodName) prog_61_method_16_code (4 : Nat) (Option.some Jvm.ClassFile.FieldType.boolean)).before args0 about1 = true := code_word (m := ⟨2, 7⟩) (meth := k2m7) (c := k2c7) (by decide +kernel) rfl rfl rfl (by decide +kernel)
set_option maxRecDepth 65536 in
theorem w_c15 : (Jvm.Cond.code ({ cls := "java/lang/Math", name := "min", desc := "(II)I" } : Jvm.MethodName) jdk_29_method_69_code (2 : Nat) (Option.some Jvm.ClassFile.FieldType.int)).before args0 about1 = true := code_word (m := ⟨4, 2⟩) (meth := k4m2) (c := k4c2) (by decide +kernel) rfl rfl rfl (by decide +kernel)
def codes1 : List Jvm.Cond := [Jvm.Cond.code x code maxLocals ret, Jvm.Cond.code ({ cls := "org/tourney/ValueGraph", name := "<init>", desc := "(II)V" } : Jvm.MethodName) prog_61_method_1_code (4 : Nat) (Option.none : Option Jvm.ClassFile.FieldType), Jvm.Cond.code ({ cls := "java/lang/Object", name := "<init>", desc := "()V" } : Jvm.MethodName) object_method_1_code (1 : Nat) (Option.none : Option Jvm.ClassFile.FieldType), Jvm.Cond.code ({ cls := "java/util/Arrays", name := "fill", desc := "([II)V" } : Jvm.MethodName) jdk_65_method_103_code (4 : Nat) (Option.none : Option Jvm.ClassFile.FieldType), Jvm.Cond.code ({ cls := "java/lang/Math", name := "max", desc := "(II)I" } : Jvm.MethodName) jdk_29_method_65_code (2 : Nat) (Option.some Jvm.ClassFile.FieldType.int), Jvm.Cond.code ({ cls := "org/tourney/ValueGraph", name := "open", desc := "(I)V" } : Jvm.MethodName) prog_61_method_3_code (2 : Nat) (Option.none : Option Jvm.ClassFile.FieldType), Jvm.Cond.code ({ cls := "org/tourney/ValueGraphIsInSomeMatchingPinLaw", name := "addEdges", desc := "(Lorg/tourney/ValueGraph;II[I[I)I" } : Jvm.MethodName) method_2_code (9 : Nat) (Option.some Jvm.ClassFile.FieldType.int), Jvm.Cond.code ({ cls := "org/tourney/ValueGraph", name := "addEdge", desc := "(I)I" } : Jvm.MethodName) prog_61_method_4_code (3 : Nat) (Option.some Jvm.ClassFile.FieldType.int), Jvm.Cond.code ({ cls := "org/tourney/ValueGraph", name := "match", desc := "(Lorg/tourney/Deadline;)Z" } : Jvm.MethodName) prog_61_method_11_code (4 : Nat) (Option.some Jvm.ClassFile.FieldType.boolean), Jvm.Cond.code ({ cls := "org/tourney/ValueGraph", name := "augment", desc := "(ILorg/tourney/Deadline;)Z" } : Jvm.MethodName) prog_61_method_12_code (9 : Nat) (Option.some Jvm.ClassFile.FieldType.boolean), Jvm.Cond.code ({ cls := "org/tourney/ValueGraph", name := "nextStamp", desc := "()V" } : Jvm.MethodName) prog_61_method_15_code (1 : Nat) (Option.none : Option Jvm.ClassFile.FieldType), Jvm.Cond.code ({ cls := "org/tourney/ValueGraph", name := "freeEdge", desc := "(I)I" } : Jvm.MethodName) prog_61_method_13_code (3 : Nat) (Option.some Jvm.ClassFile.FieldType.int), Jvm.Cond.code ({ cls := "org/tourney/ValueGraph", name := "findComponents", desc := "()V" } : Jvm.MethodName) prog_61_method_17_code (9 : Nat) (Option.none : Option Jvm.ClassFile.FieldType), Jvm.Cond.code ({ cls := "org/tourney/ValueGraph", name := "nextSuccessor", desc := "(II)I" } : Jvm.MethodName) prog_61_method_18_code (6 : Nat) (Option.some Jvm.ClassFile.FieldType.int), Jvm.Cond.code ({ cls := "org/tourney/ValueGraph", name := "isInSomeMatching", desc := "(II)Z" } : Jvm.MethodName) prog_61_method_16_code (4 : Nat) (Option.some Jvm.ClassFile.FieldType.boolean), Jvm.Cond.code ({ cls := "java/lang/Math", name := "min", desc := "(II)I" } : Jvm.MethodName) jdk_29_method_69_code (2 : Nat) (Option.some Jvm.ClassFile.FieldType.int)]
set_option maxRecDepth 65536 in
theorem codes_eq : words1.filter isCode = codes1 := rfl
theorem w_codes : ∀ c ∈ words1.filter isCode, c.before args0 about1 = true := by
  rw [codes_eq]
  intro c hc
  simp only [codes1, List.mem_cons, List.not_mem_nil, or_false] at hc
  rcases hc with rfl | rfl | rfl | rfl | rfl | rfl | rfl | rfl | rfl | rfl | rfl | rfl | rfl | rfl | rfl | rfl
  · exact w_c0
  · exact w_c1
  · exact w_c2
  · exact w_c3
  · exact w_c4
  · exact w_c5
  · exact w_c6
  · exact w_c7
  · exact w_c8
  · exact w_c9
  · exact w_c10
  · exact w_c11
  · exact w_c12
  · exact w_c13
  · exact w_c14
  · exact w_c15
set_option maxRecDepth 65536 in
theorem w_t1 : (words1.take 24).all (fun c => isCode c || c.before args0 about1) = true := by decide +kernel
set_option maxRecDepth 65536 in
theorem w_t2 : ((words1.drop 24).take 24).all (fun c => isCode c || c.before args0 about1) = true := by decide +kernel
set_option maxRecDepth 65536 in
theorem w_t3 : (((words1.drop 24).drop 24).take 24).all (fun c => isCode c || c.before args0 about1) = true := by decide +kernel
set_option maxRecDepth 65536 in
theorem w_t4 : ((((words1.drop 24).drop 24).drop 24).take 24).all (fun c => isCode c || c.before args0 about1) = true := by decide +kernel
set_option maxRecDepth 65536 in
theorem w_t5 : (((((words1.drop 24).drop 24).drop 24).drop 24).take 24).all (fun c => isCode c || c.before args0 about1) = true := by decide +kernel
set_option maxRecDepth 65536 in
theorem w_t6 : (((((words1.drop 24).drop 24).drop 24).drop 24).drop 24).all (fun c => isCode c || c.before args0 about1) = true := by decide +kernel
theorem w_tables : (allAtoms (Jvm.Cond.code x code maxLocals ret :: tables_1)).before args0 about1 = true := by
  rw [allAtoms_all]
  show words1.all (fun c => c.before args0 about1) = true
  refine all_split ?_ w_codes
  rw [← List.take_append_drop 24 words1, List.all_append, w_t1, ← List.take_append_drop 24 (words1.drop 24), List.all_append, w_t2, ← List.take_append_drop 24 ((words1.drop 24).drop 24), List.all_append, w_t3, ← List.take_append_drop 24 (((words1.drop 24).drop 24).drop 24), List.all_append, w_t4, ← List.take_append_drop 24 ((((words1.drop 24).drop 24).drop 24).drop 24), List.all_append, w_t5, w_t6]
  rfl
set_option maxRecDepth 65536 in
theorem w_case : (Jvm.Cond.and given_1 narrow_1).before args0 about1 = true := by decide +kernel
theorem w_applies : (headSpec (Jvm.Cond.code x code maxLocals ret :: tables_1) room_1).applies x e0.platform about1 = true :=
  (Spec.applies_iff w_frames).mpr ⟨w_running, w_runnable, w_alone, w_named, w_hears, w_ripe, w_room, w_tables⟩
theorem atStart : AtStart classFile x code maxLocals ret World_1 tables_1 room_1 Calls_1 rest_1 Pre_1 launch0 p0 e0 about1 theMethod args0 below0 :=
  ⟨lists_1, trivial, launch0.admits_env _ _ _, launch0.least_env, fairChoices_fair.cas, fairChoices_fair.clock, w_frames, w_args, w_heap, w_applies, trivial, trivial, w_case⟩
end start1
theorem witness_1 : WitnessClaimed_1 := ⟨start1.p0, start1.e0, start1.about1, start1.theMethod, start1.args0, start1.below0, start1.atStart⟩
end Jvm.Pilot.@@N@@
