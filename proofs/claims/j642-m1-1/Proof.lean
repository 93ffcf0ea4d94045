import JvmDerived
import JvmDerived.Pilot.@@N@@Statement
import JvmDerived.Pilot.@@N@@Code
set_option linter.unusedVariables false
set_option linter.unusedSimpArgs false
namespace Jvm.OwnW
open Sem ClassFile Op Lib Jvm.Stand Jvm.Free Jvm.LawKit Jvm.RoadKit
/-! A plain heap (objects made since the start, in order), values whose references count from the start's size; W: from here the method comes back, and Q holds of what it returns and leaves. -/
abbrev Key : Type := String × String × String
abbrev AObj : Type := (String × List (Key × Value)) ⊕ (FieldType × List Value)
abbrev AHeap : Type := List AObj
abbrev Meth : Type := MethodName × ByteArray × Nat × Option FieldType × Room
def up (n : Nat) : Value → Value
  | .ref k => .ref (n + k)
  | .retAddr a => .ref a
  | v => v
/-- a reference: null, an object of the plain heap, or one from elsewhere (written '.retAddr', which no method here makes) -/
def rfn : Value → Bool
  | .ref _ => true
  | .null => true
  | .retAddr _ => true
  | _ => false
def upS (n : Nat) : Slot → Slot
  | .val v => .val (up n v)
  | x => x
abbrev loc (n : Nat) (ls : List Slot) : Array Slot := (ls.map (upS n)).toArray
abbrev stk (n : Nat) (st : List Value) : List Value := st.map (up n)
def OR (Z : State) (n : Nat) (h : Heap) (a : Addr) : AObj → Prop
  | .inl x => Exa Z h a x.1 ∧ (∀ (i : Nat) (q : Key × Value), x.2[i]? = some q → Fld Z h a q.1.1 q.1.2.1 q.1.2.2 (up n q.2)) ∧ ∀ (i j : Nat) (q r : Key × Value), i ≠ j → x.2[i]? = some q → x.2[j]? = some r → RoadKit.slotOf Z q.1.1 q.1.2.1 q.1.2.2 ≠ RoadKit.slotOf Z r.1.1 r.1.2.1 r.1.2.2
  | .inr x => ∃ cl : Cell, Arr Z h a cl x.1 ∧ cl.slots = (x.2.map (up n)).toArray
/-- a cell of which nothing is said -/
def junk : AObj := .inr (.object "", [])
def isJ : AObj → Bool
  | .inl _ => false
  | .inr x => match x.1 with
    | .object c => c == ""
    | _ => false
def HR (Z : State) (n : Nat) (h : Heap) (H : AHeap) : Prop := h.size = n + H.length ∧ ∀ k o, H[k]? = some o → isJ o = false → OR Z n h (n + k) o
def Ctx (Z : State) (M : Meth) (p : Program) (s : State) (m : MethodId) (meth : Method) (c : Code) : Prop :=
  p.tables.exec = Jvm.exec ∧ Z.Warmed39 s.vm ∧ s.vm.findClass M.1.cls = some m.cls ∧ c.code = M.2.1 ∧ c.maxLocals = M.2.2.1 ∧ meth.sig.returnType = M.2.2.2.1 ∧ meth.locks = false ∧ meth.name = M.1.name
/-- the end's frame: the plain one, or (a String's constant may have been resolved) the wide one -/
def EndR (b : Bool) (s : State) (o : Outcome) (t : State) (L : List Loc) (k n : Nat) : Prop := match b with
  | false => FrameEnd s o t L k n
  | true => (∃ v : Option Value, o = Outcome.returned v) ∧ s.Warmed39 t.vm ∧ s.Booked t.vm t.heap.size ∧ s.sameButNew ({ t with vm := s.vm } : State) L k n
theorem EndR.of {b : Bool} {s : State} {o : Outcome} {t : State} {L : List Loc} {k n : Nat} (h : FrameEnd s o t L k n) : EndR b s o t L k n := by
  cases b
  · exact h
  · exact ⟨h.1, (h.2.1.since t.heap.size).1, (h.2.1.since t.heap.size).2, h.2.2⟩
def FinR (b : Bool) (Z : State) (n : Nat) (M : Meth) (Q : Option Value → AHeap → Prop) (p : Program) (e : Env) (below : List Frame) (s S : State) : Prop :=
  ∃ s₂ v L H', Steps p.tables e below S s₂ ∧ s₂.status = .running ∧ Ended s₂ below (.returned (v.map (up n))) ∧ Q v H' ∧ HR Z n s₂.heap H' ∧ Fr n L ∧ EndR b s (.returned (v.map (up n))) s₂ L M.2.2.2.2.cells M.2.2.2.2.slots
def WB (b : Bool) (l : Launch) (Z : State) (n : Nat) (M : Meth) (pc : Nat) (ls : List Slot) (st : List Value) (H : AHeap) (ce sl : Nat) (Q : Option Value → AHeap → Prop) : Prop :=
  ∀ (p : Program) (e : Env) (s : State) (m : MethodId) (args : Array Value) (below : List Frame) (meth : Method) (c : Code), Ctx Z M p s m meth c → ∀ (T : State) (locs : List Loc),
    Stand p l e M.2.2.2.2 s m args below meth c T locs ce sl → HR Z n T.heap H → Fr n locs → FinR b Z n M Q p e below s (T.setTop (mkF m pc (loc n ls) (stk n st)))
abbrev W (l : Launch) (Z : State) (n : Nat) (M : Meth) (pc : Nat) (ls : List Slot) (st : List Value) (H : AHeap) (ce sl : Nat) (Q : Option Value → AHeap → Prop) : Prop := WB false l Z n M pc ls st H ce sl Q
/-- the instruction at pc, its length, the pc behind -/
def D (M : Meth) (pc : Nat) (i : Instr) (len pc' : Nat) : Prop := decode M.2.1 pc = .ok (i, len) ∧ pc' = pc + len
/-- a branch: the pc behind, the target -/
def DB (M : Meth) (pc : Nat) (i : Instr) (o : Int) (pc' t : Nat) : Prop := decode M.2.1 pc = .ok (i, 3) ∧ pc' = pc + 3 ∧ 0 ≤ (pc : Int) + o ∧ ((pc : Int) + o).toNat = t

section Facts
variable {Z : State} {n : Nat} {h h' : Heap} {a b : Addr} {x : AObj} {H : AHeap} {sl k : Nat} {v : Value}
theorem up_cat (n : Nat) (v : Value) : (up n v).category = v.category := by cases v <;> rfl
theorem up_rfn (n : Nat) {v : Value} (h : rfn v = true) : (up n v).isRef = true := by cases v <;> first | rfl | (simp [rfn] at h)
theorem up_isRef (n : Nat) {v : Value} (h : v.isRef = true) : (up n v).isRef = true := by cases v <;> first | rfl | (simp [Value.isRef] at h)
theorem rfn_cat {v : Value} (h : rfn v = true) : v.category = 1 := by cases v <;> first | rfl | (simp [rfn] at h)
theorem up_default (n : Nat) (ty : FieldType) : up n (defaultValue ty) = defaultValue ty := by cases ty <;> rfl
theorem up_inj {n : Nat} {v w : Value} (hv : v.isRef = true) (hw : w.isRef = true) (e : up n v = up n w) : v = w := by
  cases v <;> cases w <;> simp_all [up, Value.isRef]
theorem OR.other (W : Wr h h' a sl v) (hne : b ≠ a) : ∀ {x : AObj}, OR Z n h b x → OR Z n h' b x
  | .inl x, o => ⟨o.1.wr W, fun i q hq => (o.2.1 i q hq).other W (Or.inl hne), o.2.2⟩
  | .inr x, ⟨cl, A, e⟩ => ⟨cl, A.other W hne, e⟩
theorem OR.ext (E : Ext h h') : ∀ {x : AObj}, OR Z n h b x → OR Z n h' b x
  | .inl x, o => ⟨o.1.ext E, fun i q hq => (o.2.1 i q hq).ext E, o.2.2⟩
  | .inr x, ⟨cl, A, e⟩ => ⟨cl, A.ext E, e⟩
theorem HR.put (hH : HR Z n h H) (W : Wr h h' (n + k) sl v) (hx : OR Z n h' (n + k) x) : HR Z n h' (H.set k x) := by
  refine ⟨by rw [W.size, List.length_set]; exact hH.1, fun j o hj hJ => ?_⟩
  rw [List.getElem?_set] at hj
  split at hj
  · rename_i e
    subst e
    split at hj
    · cases hj; exact hx
    · cases hj
  · rename_i e
    exact (hH.2 j o hj hJ).other W (fun q => e (Nat.add_left_cancel q).symm)
theorem HR.push (hH : HR Z n h H) (E : Ext h h') (hs : h'.size = h.size + 1) (hx : OR Z n h' h.size x) : HR Z n h' (H ++ [x]) := by
  refine ⟨by rw [hs, hH.1, List.length_append]; rfl, fun j o hj hJ => ?_⟩
  rw [List.getElem?_append] at hj
  split at hj
  · exact (hH.2 j o hj hJ).ext E
  · rename_i e
    have hj' := hj
    cases hq : j - H.length with
    | zero =>
      have hge : H.length ≤ j := Nat.le_of_not_lt e
      have hle : j ≤ H.length := Nat.sub_eq_zero_iff_le.mp hq
      have this : n + j = h.size := by rw [hH.1, Nat.le_antisymm hle hge]
      rw [hq] at hj
      cases hj
      rw [this]; exact hx
    | succ q => rw [hq] at hj; cases hj
theorem OR.field {C : String} {fs : List (Key × Value)} {j : Nat} {O nm d : String} {old w : Value} (o : OR Z n h a (.inl (C, fs))) (hj : fs[j]? = some ((O, nm, d), old)) (W : Wr h h' a (RoadKit.slotOf Z O nm d) (up n w)) : OR Z n h' a (.inl (C, fs.set j ((O, nm, d), w))) := by
  have key : ∀ i q, (fs.set j ((O, nm, d), w))[i]? = some q → ∃ q', fs[i]? = some q' ∧ q'.1 = q.1 ∧ (i = j → q = ((O, nm, d), w)) ∧ (i ≠ j → q' = q) := by
    intro i q hq
    rw [List.getElem?_set] at hq
    split at hq
    · rename_i e
      subst e
      split at hq
      · cases hq; exact ⟨_, hj, rfl, fun _ => rfl, fun q => absurd rfl q⟩
      · cases hq
    · rename_i e
      exact ⟨q, hq, rfl, fun q => absurd q.symm e, fun _ => rfl⟩
  obtain ⟨o1, o2, o3⟩ := o
  refine ⟨o1.wr W, fun i q hq => ?_, fun i i' q r hne hq hr => ?_⟩
  · obtain ⟨q', g1, g2, g3, g4⟩ := key i q hq
    by_cases e : i = j
    · rw [g3 e]
      subst e
      cases hj.symm.trans g1
      have o4 : Fld Z h a O nm d (up n old) := o2 i _ hj
      exact o4.same W
    · obtain rfl := g4 e
      have hne : RoadKit.slotOf Z q'.1.1 q'.1.2.1 q'.1.2.2 ≠ RoadKit.slotOf Z O nm d := o3 i j q' ((O, nm, d), old) e g1 hj
      exact (o2 i q' g1).other W (Or.inr hne)
  · obtain ⟨q', g1, g2, -⟩ := key i q hq
    obtain ⟨r', k1, k2, -⟩ := key i' r hr
    have := o3 i i' q' r' hne g1 k1
    rw [g2, k2] at this; exact this
theorem OR.elem {ty : FieldType} {vs : List Value} {i : Nat} {w : Value} (o : OR Z n h a (.inr (ty, vs))) (W : Wr h h' a i (up n w)) : OR Z n h' a (.inr (ty, vs.set i w)) := by
  obtain ⟨cl, A, e⟩ := o
  refine ⟨_, A.same W, ?_⟩
  show cl.slots.setIfInBounds i (up n w) = _
  rw [e, List.setIfInBounds_toArray, List.map_set]
end Facts

/-- a class as the sheet lays it: its words, its fields at their first values -/
def OkC (a0 : Array Value) (Z : State) (C : String) (k : Nat) (fs : List (Key × Value)) : Prop :=
  (Cond.instantiable C k).before a0 Z = true ∧ (Cond.initialized C).before a0 Z = true ∧ (∀ q ∈ fs, ∃ ty, Laid Z a0 C q.1.1 q.1.2.1 q.1.2.2 ∧ parseFieldDescriptor q.1.2.2 = some ty ∧ q.2 = defaultValue ty) ∧ fs.Pairwise (fun q r => q.1.2.1 ≠ r.1.2.1)
theorem OkC.slots {a0 : Array Value} {Z : State} {C : String} {k : Nat} {fs : List (Key × Value)} (K : OkC a0 Z C k fs) : ∀ (i j : Nat) (q r : Key × Value), i ≠ j → fs[i]? = some q → fs[j]? = some r → RoadKit.slotOf Z q.1.1 q.1.2.1 q.1.2.2 ≠ RoadKit.slotOf Z r.1.1 r.1.2.1 r.1.2.2 := by
  intro i j q r hne hq hr
  obtain ⟨t, L, p1, -⟩ := K.2.2.1 q (List.mem_of_getElem? hq)
  obtain ⟨t', L', p2, -⟩ := K.2.2.1 r (List.mem_of_getElem? hr)
  obtain ⟨hi, ei⟩ := List.getElem?_eq_some_iff.mp hq
  obtain ⟨hj, ej⟩ := List.getElem?_eq_some_iff.mp hr
  have P := List.pairwise_iff_getElem.mp K.2.2.2
  refine slot_ne L L' ?_ p1 p2
  rcases Nat.lt_or_gt_of_ne hne with g | g
  · have := P i j hi hj g; rw [ei, ej] at this; exact this
  · have := P j i hj hi g; rw [ei, ej] at this; exact Ne.symm this

section Locals
variable {n : Nat} {ls : List Slot} {i : Nat} {x : Slot} {v : Value}
theorem loc_get (hl : ls[i]? = some x) : (loc n ls)[i]? = some (upS n x) := by
  simp [loc, hl]
def one (ls : List Slot) (i : Nat) : Bool := match ls[i]? with
  | some .unset => true
  | some (.val w) => w.category == 1
  | _ => false
/-- a long may be stored at i: the two places are there, and no other long is cut in two -/
def two (ls : List Slot) (i : Nat) : Bool := match ls[i]?, ls[i + 1]? with
  | some .unset, some .unset => true
  | some .unset, some (.val w) => w.category == 1
  | some (.val u), some .unset => u.category == 1
  | some (.val u), some (.val w) => u.category == 1 && w.category == 1
  | some (.val u), some .second => u.category == 2
  | _, _ => false
theorem loc_set (n : Nat) (ls : List Slot) (i : Nat) (x : Slot) : (loc n ls).setIfInBounds i (upS n x) = loc n (ls.set i x) := by
  simp [loc, List.map_set]
theorem store_1 (ho : one ls i = true) (hv : v.category = 1) : storeLocals (loc n ls) i (up n v) = some (loc n (ls.set i (.val v))) := by
  have : ∃ o, ls[i]? = some o ∧ (o = .unset ∨ ∃ w, o = .val w ∧ w.category = 1) := by
    unfold one at ho
    split at ho
    · rename_i h; exact ⟨_, h, Or.inl rfl⟩
    · rename_i w h; exact ⟨_, h, Or.inr ⟨w, rfl, by simpa using ho⟩⟩
    · cases ho
  obtain ⟨o, h1, h2⟩ := this
  rw [XS.store1 (loc_get (n := n) h1) ?_ ((up_cat n v).trans hv)]
  · exact congrArg some (loc_set n ls i (.val v))
  · rcases h2 with rfl | ⟨w, rfl, hw⟩
    · exact Or.inl rfl
    · exact Or.inr ⟨up n w, rfl, (up_cat n w).trans hw⟩
theorem setAt_eq {l : Array Slot} {i : Nat} (x : Slot) (h : i < l.size) : setAt l i x = some (l.setIfInBounds i x) := by simp [setAt, h]
theorem store_2 {y : Int64} (ho : two ls i = true) : storeLocals (loc n ls) i (.long y) = some (loc n ((ls.set i (.val (.long y))).set (i + 1) .second)) := by
  have e2 : (loc n ls).setIfInBounds i (.val (.long y)) = loc n (ls.set i (.val (.long y))) := loc_set n ls i (.val (.long y))
  have e3 : (loc n (ls.set i (.val (.long y)))).setIfInBounds (i + 1) .second = loc n ((ls.set i (.val (.long y))).set (i + 1) .second) := loc_set n _ (i + 1) .second
  have key : ∀ a b, ls[i]? = some a → ls[i + 1]? = some b → i < (loc n ls).size ∧ i + 1 < (loc n ls).size ∧ (loc n ls)[i]? = some (upS n a) ∧ (loc n ls)[i + 1]? = some (upS n b) := by
    intro a b h1 h2
    have g1 := (List.getElem?_eq_some_iff.mp h1).1
    have g2 := (List.getElem?_eq_some_iff.mp h2).1
    exact ⟨by simpa [loc] using g1, by simpa [loc] using g2, loc_get h1, loc_get h2⟩
  unfold two at ho
  split at ho
  · rename_i h1 h2
    obtain ⟨s1, s2, g1, g2⟩ := key _ _ h1 h2
    have g3 : ((loc n ls).setIfInBounds i (.val (.long y)))[i + 1]? = some .unset := by rw [Array.getElem?_setIfInBounds_ne (by omega)]; exact g2
    simp only [storeLocals, storeSelf, g1, upS, setAt_eq _ s1, Option.bind_eq_bind, Option.bind_some, Value.category, if_true, g3]
    rw [setAt_eq _ (by simpa using s2), e2, e3]
  · rename_i w h1 h2
    obtain ⟨s1, s2, g1, g2⟩ := key _ _ h1 h2
    have g3 : ((loc n ls).setIfInBounds i (.val (.long y)))[i + 1]? = some (.val (up n w)) := by rw [Array.getElem?_setIfInBounds_ne (by omega)]; exact g2
    have hw : (up n w).category = 1 := (up_cat n w).trans (by simpa using ho)
    have hw2 : ¬ (up n w).category = 2 := by rw [hw]; decide
    simp only [storeLocals, storeSelf, g1, upS, setAt_eq _ s1, Option.bind_eq_bind, Option.bind_some, show (Value.long y).category = 2 from rfl, if_true, g3, if_neg hw2]
    rw [setAt_eq _ (by simpa using s2), e2, e3]
  · rename_i u h1 h2
    obtain ⟨s1, s2, g1, g2⟩ := key _ _ h1 h2
    have g3 : ((loc n ls).setIfInBounds i (.val (.long y)))[i + 1]? = some .unset := by rw [Array.getElem?_setIfInBounds_ne (by omega)]; exact g2
    have hu : (up n u).category = 1 := (up_cat n u).trans (by simpa using ho)
    simp only [storeLocals, storeSelf, g1, upS, setAt_eq _ s1, Option.bind_eq_bind, Option.bind_some, hu, show ((1 : Nat) = 2) = False from by simp, if_false, g3]
    simp only [Value.category, if_true]
    rw [setAt_eq _ (by simpa using s2), e2, e3]
  · rename_i u w h1 h2
    obtain ⟨s1, s2, g1, g2⟩ := key _ _ h1 h2
    simp only [Bool.and_eq_true, beq_iff_eq] at ho
    have g3 : ((loc n ls).setIfInBounds i (.val (.long y)))[i + 1]? = some (.val (up n w)) := by rw [Array.getElem?_setIfInBounds_ne (by omega)]; exact g2
    have hu : (up n u).category = 1 := (up_cat n u).trans ho.1
    have hw : (up n w).category = 1 := (up_cat n w).trans ho.2
    simp only [storeLocals, storeSelf, g1, upS, setAt_eq _ s1, Option.bind_eq_bind, Option.bind_some, hu, hw, show ((1 : Nat) = 2) = False from by simp, if_false, g3]
    simp only [Value.category, if_true]
    rw [setAt_eq _ (by simpa using s2), e2, e3]
  · rename_i u h1 h2
    obtain ⟨s1, s2, g1, g2⟩ := key _ _ h1 h2
    have hu : (up n u).category = 2 := (up_cat n u).trans (by simpa using ho)
    have s3 : i < ((loc n ls).setIfInBounds (i + 1) .unset).size := by simpa using s1
    have g3 : (((loc n ls).setIfInBounds (i + 1) .unset).setIfInBounds i (.val (.long y)))[i + 1]? = some .unset := by rw [Array.getElem?_setIfInBounds_ne (by omega)]; simp [show i + 1 < ls.length by simpa [loc] using s2]
    simp only [storeLocals, storeSelf, g1, upS, setAt_eq _ s2, setAt_eq _ s3, Option.bind_eq_bind, Option.bind_some, hu, if_true, g3]
    simp only [Value.category, if_true]
    rw [setAt_eq _ (by simpa using s2)]
    rw [← e3, ← e2]
    congr 1
    apply Array.ext_getElem?
    intro j
    simp only [Array.getElem?_setIfInBounds, Array.size_setIfInBounds]
    by_cases q : i + 1 = j
    · simp [q]
    · by_cases q2 : i = j <;> simp [q, q2]
  · cases ho
end Locals

section Rules
variable {b : Bool} {l : Launch} {Z : State} {n : Nat} {M : Meth} {pc pc' : Nat} {ls ls' : List Slot} {st st' : List Value} {H H' : AHeap} {ce sl ce' sl' : Nat} {Q : Option Value → AHeap → Prop} {a0 : Array Value}
theorem W.step (go : ∀ (p : Program) (e : Env) (s : State) (m : MethodId) (args : Array Value) (below : List Frame) (meth : Method) (c : Code), Ctx Z M p s m meth c → ∀ (T : State) (locs : List Loc), Stand p l e M.2.2.2.2 s m args below meth c T locs ce sl → HR Z n T.heap H → Fr n locs →
      ∃ T' locs', Stand p l e M.2.2.2.2 s m args below meth c T' locs' ce' sl' ∧ HR Z n T'.heap H' ∧ Fr n locs' ∧ ∀ target, Steps p.tables e below (T'.setTop (mkF m pc' (loc n ls') (stk n st'))) target → Steps p.tables e below (T.setTop (mkF m pc (loc n ls) (stk n st))) target)
    (k : WB b l Z n M pc' ls' st' H' ce' sl' Q) : WB b l Z n M pc ls st H ce sl Q := fun p e s m args below meth c C T locs X hH hF => by
  obtain ⟨T', locs', X', hH', hF', stp⟩ := go p e s m args below meth c C T locs X hH hF
  obtain ⟨s₂, v, L, H'', h1, r⟩ := k p e s m args below meth c C T' locs' X' hH' hF'
  exact ⟨s₂, v, L, H'', stp _ h1, r⟩
theorem W.pure (go : ∀ (p : Program) (e : Env) (s : State) (m : MethodId) (args : Array Value) (below : List Frame) (meth : Method) (c : Code), Ctx Z M p s m meth c → ∀ (T : State) (locs : List Loc), Stand p l e M.2.2.2.2 s m args below meth c T locs ce sl →
      ∀ target, Steps p.tables e below (T.setTop (mkF m pc' (loc n ls') (stk n st'))) target → Steps p.tables e below (T.setTop (mkF m pc (loc n ls) (stk n st))) target)
    (k : WB b l Z n M pc' ls' st' H ce sl Q) : WB b l Z n M pc ls st H ce sl Q :=
  W.step (fun p e s m args below meth c C T locs X hH hF => ⟨T, locs, X, hH, hF, go p e s m args below meth c C T locs X⟩) k
theorem W.more (h1 : ce ≤ ce') (h2 : sl ≤ sl') (k : WB b l Z n M pc ls st H ce' sl' Q) : WB b l Z n M pc ls st H ce sl Q :=
  W.step (fun p e s m args below meth c C T locs X hH hF => ⟨T, locs, X.more h1 h2, hH, hF, fun _ h => h⟩) k
theorem W.mono {Q' : Option Value → AHeap → Prop} (k : WB b l Z n M pc ls st H ce sl Q') (hq : ∀ v H', Q' v H' → Q v H') : WB b l Z n M pc ls st H ce sl Q := fun p e s m args below meth c C T locs X hH hF => by
  obtain ⟨s₂, v, L, H'', h1, h2, h3, h4, r⟩ := k p e s m args below meth c C T locs X hH hF
  exact ⟨s₂, v, L, H'', h1, h2, h3, hq _ _ h4, r⟩
theorem W.iadd {x y : Int32} (hd : D M pc .iadd 1 pc') (k : WB b l Z n M pc' ls (.int (x + y) :: st) H ce sl Q) : WB b l Z n M pc ls (.int y :: .int x :: st) H ce sl Q := by
  obtain ⟨hd, rfl⟩ := hd
  exact W.pure (fun p e s m args below meth c C T locs X target h => XS.iadd X.here C.1 rfl (hb C.2.2.2.1 hd) rfl h) k
theorem W.isub {x y : Int32} (hd : D M pc .isub 1 pc') (k : WB b l Z n M pc' ls (.int (x - y) :: st) H ce sl Q) : WB b l Z n M pc ls (.int y :: .int x :: st) H ce sl Q := by
  obtain ⟨hd, rfl⟩ := hd
  exact W.pure (fun p e s m args below meth c C T locs X target h => XS.isub X.here C.1 rfl (hb C.2.2.2.1 hd) rfl h) k
theorem W.imul {x y : Int32} (hd : D M pc .imul 1 pc') (k : WB b l Z n M pc' ls (.int (x * y) :: st) H ce sl Q) : WB b l Z n M pc ls (.int y :: .int x :: st) H ce sl Q := by
  obtain ⟨hd, rfl⟩ := hd
  exact W.pure (fun p e s m args below meth c C T locs X target h => XS.imul X.here C.1 rfl (hb C.2.2.2.1 hd) rfl h) k
theorem W.iand {x y : Int32} (hd : D M pc .iand 1 pc') (k : WB b l Z n M pc' ls (.int (x &&& y) :: st) H ce sl Q) : WB b l Z n M pc ls (.int y :: .int x :: st) H ce sl Q := by
  obtain ⟨hd, rfl⟩ := hd
  exact W.pure (fun p e s m args below meth c C T locs X target h => XS.iand X.here C.1 rfl (hb C.2.2.2.1 hd) rfl h) k
theorem W.ior {x y : Int32} (hd : D M pc .ior 1 pc') (k : WB b l Z n M pc' ls (.int (x ||| y) :: st) H ce sl Q) : WB b l Z n M pc ls (.int y :: .int x :: st) H ce sl Q := by
  obtain ⟨hd, rfl⟩ := hd
  exact W.pure (fun p e s m args below meth c C T locs X target h => XT.ior X.here C.1 rfl (hb C.2.2.2.1 hd) rfl h) k
theorem W.ixor {x y : Int32} (hd : D M pc .ixor 1 pc') (k : WB b l Z n M pc' ls (.int (x ^^^ y) :: st) H ce sl Q) : WB b l Z n M pc ls (.int y :: .int x :: st) H ce sl Q := by
  obtain ⟨hd, rfl⟩ := hd
  exact W.pure (fun p e s m args below meth c C T locs X target h => XT.ixor X.here C.1 rfl (hb C.2.2.2.1 hd) rfl h) k
theorem W.ishl {x y : Int32} (hd : D M pc .ishl 1 pc') (k : WB b l Z n M pc' ls (.int (x <<< (y &&& 31)) :: st) H ce sl Q) : WB b l Z n M pc ls (.int y :: .int x :: st) H ce sl Q := by
  obtain ⟨hd, rfl⟩ := hd
  exact W.pure (fun p e s m args below meth c C T locs X target h => XT.ishl X.here C.1 rfl (hb C.2.2.2.1 hd) rfl h) k
theorem W.ishr {x y : Int32} (hd : D M pc .ishr 1 pc') (k : WB b l Z n M pc' ls (.int (x >>> (y &&& 31)) :: st) H ce sl Q) : WB b l Z n M pc ls (.int y :: .int x :: st) H ce sl Q := by
  obtain ⟨hd, rfl⟩ := hd
  exact W.pure (fun p e s m args below meth c C T locs X target h => XT.ishr X.here C.1 rfl (hb C.2.2.2.1 hd) rfl h) k
theorem W.iushr {x y : Int32} (hd : D M pc .iushr 1 pc') (k : WB b l Z n M pc' ls (.int (XT.ushr x y) :: st) H ce sl Q) : WB b l Z n M pc ls (.int y :: .int x :: st) H ce sl Q := by
  obtain ⟨hd, rfl⟩ := hd
  exact W.pure (fun p e s m args below meth c C T locs X target h => XT.iushr X.here C.1 rfl (hb C.2.2.2.1 hd) rfl h) k
theorem W.ladd {x y : Int64} (hd : D M pc .ladd 1 pc') (k : WB b l Z n M pc' ls (.long (x + y) :: st) H ce sl Q) : WB b l Z n M pc ls (.long y :: .long x :: st) H ce sl Q := by
  obtain ⟨hd, rfl⟩ := hd
  exact W.pure (fun p e s m args below meth c C T locs X target h => XT.ladd X.here C.1 rfl (hb C.2.2.2.1 hd) rfl h) k
theorem W.lsub {x y : Int64} (hd : D M pc .lsub 1 pc') (k : WB b l Z n M pc' ls (.long (x - y) :: st) H ce sl Q) : WB b l Z n M pc ls (.long y :: .long x :: st) H ce sl Q := by
  obtain ⟨hd, rfl⟩ := hd
  exact W.pure (fun p e s m args below meth c C T locs X target h => XT.lsub X.here C.1 rfl (hb C.2.2.2.1 hd) rfl h) k
theorem W.lmul {x y : Int64} (hd : D M pc .lmul 1 pc') (k : WB b l Z n M pc' ls (.long (x * y) :: st) H ce sl Q) : WB b l Z n M pc ls (.long y :: .long x :: st) H ce sl Q := by
  obtain ⟨hd, rfl⟩ := hd
  exact W.pure (fun p e s m args below meth c C T locs X target h => XT.lmul X.here C.1 rfl (hb C.2.2.2.1 hd) rfl h) k
theorem W.land {x y : Int64} (hd : D M pc .land 1 pc') (k : WB b l Z n M pc' ls (.long (x &&& y) :: st) H ce sl Q) : WB b l Z n M pc ls (.long y :: .long x :: st) H ce sl Q := by
  obtain ⟨hd, rfl⟩ := hd
  exact W.pure (fun p e s m args below meth c C T locs X target h => XT.land X.here C.1 rfl (hb C.2.2.2.1 hd) rfl h) k
theorem W.lor {x y : Int64} (hd : D M pc .lor 1 pc') (k : WB b l Z n M pc' ls (.long (x ||| y) :: st) H ce sl Q) : WB b l Z n M pc ls (.long y :: .long x :: st) H ce sl Q := by
  obtain ⟨hd, rfl⟩ := hd
  exact W.pure (fun p e s m args below meth c C T locs X target h => XT.lor X.here C.1 rfl (hb C.2.2.2.1 hd) rfl h) k
theorem W.lxor {x y : Int64} (hd : D M pc .lxor 1 pc') (k : WB b l Z n M pc' ls (.long (x ^^^ y) :: st) H ce sl Q) : WB b l Z n M pc ls (.long y :: .long x :: st) H ce sl Q := by
  obtain ⟨hd, rfl⟩ := hd
  exact W.pure (fun p e s m args below meth c C T locs X target h => XT.lxor X.here C.1 rfl (hb C.2.2.2.1 hd) rfl h) k
theorem W.lshl {x : Int64} {y : Int32} (hd : D M pc .lshl 1 pc') (k : WB b l Z n M pc' ls (.long (x <<< (y &&& 0x3f).toInt64) :: st) H ce sl Q) : WB b l Z n M pc ls (.int y :: .long x :: st) H ce sl Q := by
  obtain ⟨hd, rfl⟩ := hd
  exact W.pure (fun p e s m args below meth c C T locs X target h => XS.lshl X.here C.1 rfl (hb C.2.2.2.1 hd) rfl h) k
theorem W.lshr {x : Int64} {y : Int32} (hd : D M pc .lshr 1 pc') (k : WB b l Z n M pc' ls (.long (x >>> (y &&& 0x3f).toInt64) :: st) H ce sl Q) : WB b l Z n M pc ls (.int y :: .long x :: st) H ce sl Q := by
  obtain ⟨hd, rfl⟩ := hd
  exact W.pure (fun p e s m args below meth c C T locs X target h => XS.lshr X.here C.1 rfl (hb C.2.2.2.1 hd) rfl h) k
theorem W.lushr {x : Int64} {y : Int32} (hd : D M pc .lushr 1 pc') (k : WB b l Z n M pc' ls (.long (XT.ushrL x y) :: st) H ce sl Q) : WB b l Z n M pc ls (.int y :: .long x :: st) H ce sl Q := by
  obtain ⟨hd, rfl⟩ := hd
  exact W.pure (fun p e s m args below meth c C T locs X target h => XT.lushr X.here C.1 rfl (hb C.2.2.2.1 hd) rfl h) k
theorem W.idiv {x y : Int32} (hd : D M pc .idiv 1 pc') (hy : y ≠ 0) (k : WB b l Z n M pc' ls (.int (x / y) :: st) H ce sl Q) : WB b l Z n M pc ls (.int y :: .int x :: st) H ce sl Q := by
  obtain ⟨hd, rfl⟩ := hd
  exact W.pure (fun p e s m args below meth c C T locs X target h => XS.idiv X.here C.1 rfl (hb C.2.2.2.1 hd) rfl hy h) k
theorem W.irem {x y : Int32} (hd : D M pc .irem 1 pc') (hy : y ≠ 0) (k : WB b l Z n M pc' ls (.int (x % y) :: st) H ce sl Q) : WB b l Z n M pc ls (.int y :: .int x :: st) H ce sl Q := by
  obtain ⟨hd, rfl⟩ := hd
  exact W.pure (fun p e s m args below meth c C T locs X target h => iremM X C.1 rfl (hb C.2.2.2.1 hd) rfl hy h) k
theorem W.ldiv {x y : Int64} (hd : D M pc .ldiv 1 pc') (hy : y ≠ 0) (k : WB b l Z n M pc' ls (.long (x / y) :: st) H ce sl Q) : WB b l Z n M pc ls (.long y :: .long x :: st) H ce sl Q := by
  obtain ⟨hd, rfl⟩ := hd
  exact W.pure (fun p e s m args below meth c C T locs X target h => XT.ldiv X.here C.1 rfl (hb C.2.2.2.1 hd) rfl hy h) k
theorem W.lrem {x y : Int64} (hd : D M pc .lrem 1 pc') (hy : y ≠ 0) (k : WB b l Z n M pc' ls (.long (x % y) :: st) H ce sl Q) : WB b l Z n M pc ls (.long y :: .long x :: st) H ce sl Q := by
  obtain ⟨hd, rfl⟩ := hd
  exact W.pure (fun p e s m args below meth c C T locs X target h => XT.lrem X.here C.1 rfl (hb C.2.2.2.1 hd) rfl hy (by rw [lrem_mod]; exact h)) k
theorem W.ineg {x : Int32} (hd : D M pc .ineg 1 pc') (k : WB b l Z n M pc' ls (.int (-x) :: st) H ce sl Q) : WB b l Z n M pc ls (.int x :: st) H ce sl Q := by
  obtain ⟨hd, rfl⟩ := hd
  exact W.pure (fun p e s m args below meth c C T locs X target h => XS.ineg X.here C.1 rfl (hb C.2.2.2.1 hd) rfl h) k
theorem W.lneg {x : Int64} (hd : D M pc .lneg 1 pc') (k : WB b l Z n M pc' ls (.long (-x) :: st) H ce sl Q) : WB b l Z n M pc ls (.long x :: st) H ce sl Q := by
  obtain ⟨hd, rfl⟩ := hd
  exact W.pure (fun p e s m args below meth c C T locs X target h => XT.lneg X.here C.1 rfl (hb C.2.2.2.1 hd) rfl h) k
theorem W.i2l {x : Int32} (hd : D M pc .i2l 1 pc') (k : WB b l Z n M pc' ls (.long (x.toInt64) :: st) H ce sl Q) : WB b l Z n M pc ls (.int x :: st) H ce sl Q := by
  obtain ⟨hd, rfl⟩ := hd
  exact W.pure (fun p e s m args below meth c C T locs X target h => XT.i2l X.here C.1 rfl (hb C.2.2.2.1 hd) rfl h) k
theorem W.l2i {x : Int64} (hd : D M pc .l2i 1 pc') (k : WB b l Z n M pc' ls (.int (x.toInt32) :: st) H ce sl Q) : WB b l Z n M pc ls (.long x :: st) H ce sl Q := by
  obtain ⟨hd, rfl⟩ := hd
  exact W.pure (fun p e s m args below meth c C T locs X target h => XT.l2i X.here C.1 rfl (hb C.2.2.2.1 hd) rfl h) k
theorem W.i2b {x : Int32} (hd : D M pc .i2b 1 pc') (k : WB b l Z n M pc' ls (.int (x.toInt8.toInt32) :: st) H ce sl Q) : WB b l Z n M pc ls (.int x :: st) H ce sl Q := by
  obtain ⟨hd, rfl⟩ := hd
  exact W.pure (fun p e s m args below meth c C T locs X target h => XT.i2b X.here C.1 rfl (hb C.2.2.2.1 hd) rfl h) k
theorem W.i2s {x : Int32} (hd : D M pc .i2s 1 pc') (k : WB b l Z n M pc' ls (.int (x.toInt16.toInt32) :: st) H ce sl Q) : WB b l Z n M pc ls (.int x :: st) H ce sl Q := by
  obtain ⟨hd, rfl⟩ := hd
  exact W.pure (fun p e s m args below meth c C T locs X target h => XT.i2s X.here C.1 rfl (hb C.2.2.2.1 hd) rfl h) k
theorem W.lcmp {x y : Int64} (hd : D M pc .lcmp 1 pc') (k : WB b l Z n M pc' ls (.int (XT.cmpL x y) :: st) H ce sl Q) : WB b l Z n M pc ls (.long y :: .long x :: st) H ce sl Q := by
  obtain ⟨hd, rfl⟩ := hd
  exact W.pure (fun p e s m args below meth c C T locs X target h => XT.lcmp X.here C.1 rfl (hb C.2.2.2.1 hd) rfl h) k
theorem W.iconst {i : Int} (v : Int32) (hd : D M pc (.iconst i) 1 pc') (hv : Int32.ofInt i = v) (k : WB b l Z n M pc' ls (.int v :: st) H ce sl Q) : WB b l Z n M pc ls st H ce sl Q := by
  obtain ⟨hd, rfl⟩ := hd
  exact W.pure (fun p e s m args below meth c C T locs X target h => XT.iconstV X.here C.1 rfl v (hb C.2.2.2.1 hd) hv h) k
theorem W.bipush {i : Int} (v : Int32) (hd : D M pc (.bipush i) 2 pc') (hv : (Int8.ofInt i).toInt32 = v) (k : WB b l Z n M pc' ls (.int v :: st) H ce sl Q) : WB b l Z n M pc ls st H ce sl Q := by
  obtain ⟨hd, rfl⟩ := hd
  exact W.pure (fun p e s m args below meth c C T locs X target h => XT.bipushV X.here C.1 rfl v (hb C.2.2.2.1 hd) hv h) k
theorem W.sipush {i : Int} (v : Int32) (hd : D M pc (.sipush i) 3 pc') (hv : (Int16.ofInt i).toInt32 = v) (k : WB b l Z n M pc' ls (.int v :: st) H ce sl Q) : WB b l Z n M pc ls st H ce sl Q := by
  obtain ⟨hd, rfl⟩ := hd
  exact W.pure (fun p e s m args below meth c C T locs X target h => XT.sipushV X.here C.1 rfl v (hb C.2.2.2.1 hd) hv h) k
theorem W.lconst {i : Fin 2} (v : Int64) (hd : D M pc (.lconst i) 1 pc') (hv : Int64.ofNat i = v) (k : WB b l Z n M pc' ls (.long v :: st) H ce sl Q) : WB b l Z n M pc ls st H ce sl Q := by
  obtain ⟨hd, rfl⟩ := hd
  exact W.pure (fun p e s m args below meth c C T locs X target h => XT.lconstV X.here C.1 rfl v (hb C.2.2.2.1 hd) hv h) k
theorem W.aconst  (hd : D M pc .aconst_null 1 pc') (k : WB b l Z n M pc' ls (.null :: st) H ce sl Q) : WB b l Z n M pc ls st H ce sl Q := by
  obtain ⟨hd, rfl⟩ := hd
  exact W.pure (fun p e s m args below meth c C T locs X target h => XS.aconstNull X.here C.1 rfl (hb C.2.2.2.1 hd) h) k
theorem W.ldc {i : Nat} {v : Int32} (hd : D M pc (.ldc i) 2 pc') (w : (Cond.constant M.1.cls i v).before a0 Z = true) (k : WB b l Z n M pc' ls (.int v :: st) H ce sl Q) : WB b l Z n M pc ls st H ce sl Q := by
  obtain ⟨hd, rfl⟩ := hd
  exact W.pure (fun p e s m args below meth c C T locs X target h => X.ldcI C.1 C.2.2.1 (mvT C.2.1 w) rfl (hb C.2.2.2.1 hd) h) k
theorem W.ldc2 {i : Nat} {v : Int64} (hd : D M pc (.ldc2_w i) 3 pc') (w : (Cond.constantLong M.1.cls i v).before a0 Z = true) (k : WB b l Z n M pc' ls (.long v :: st) H ce sl Q) : WB b l Z n M pc ls st H ce sl Q := by
  obtain ⟨hd, rfl⟩ := hd
  exact W.pure (fun p e s m args below meth c C T locs X target h => X.ldc2J C.1 C.2.2.1 (mvT C.2.1 w) rfl (hb C.2.2.2.1 hd) h) k
theorem W.iloadN {i : Fin 4} {v : Int32} (hd : D M pc (.iload_n i) 1 pc') (hl : ls[i.val]? = some (.val (.int v))) (k : WB b l Z n M pc' ls (.int v :: st) H ce sl Q) : WB b l Z n M pc ls st H ce sl Q := by
  obtain ⟨hd, rfl⟩ := hd
  exact W.pure (fun p e s m args below meth c C T locs X target h => XS.iloadN X.here C.1 rfl (hb C.2.2.2.1 hd) (loc_get hl) h) k
theorem W.iload {i : Nat} {v : Int32} (hd : D M pc (.iload i) 2 pc') (hl : ls[i]? = some (.val (.int v))) (k : WB b l Z n M pc' ls (.int v :: st) H ce sl Q) : WB b l Z n M pc ls st H ce sl Q := by
  obtain ⟨hd, rfl⟩ := hd
  exact W.pure (fun p e s m args below meth c C T locs X target h => XS.iload X.here C.1 rfl (hb C.2.2.2.1 hd) (loc_get hl) h) k
theorem W.lloadN {i : Fin 4} {v : Int64} (hd : D M pc (.lload_n i) 1 pc') (hl : ls[i.val]? = some (.val (.long v))) (k : WB b l Z n M pc' ls (.long v :: st) H ce sl Q) : WB b l Z n M pc ls st H ce sl Q := by
  obtain ⟨hd, rfl⟩ := hd
  exact W.pure (fun p e s m args below meth c C T locs X target h => XT.lloadN X.here C.1 rfl (hb C.2.2.2.1 hd) (loc_get hl) h) k
theorem W.lload {i : Nat} {v : Int64} (hd : D M pc (.lload i) 2 pc') (hl : ls[i]? = some (.val (.long v))) (k : WB b l Z n M pc' ls (.long v :: st) H ce sl Q) : WB b l Z n M pc ls st H ce sl Q := by
  obtain ⟨hd, rfl⟩ := hd
  exact W.pure (fun p e s m args below meth c C T locs X target h => XT.lload X.here C.1 rfl (hb C.2.2.2.1 hd) (loc_get hl) h) k
theorem W.aloadN {i : Fin 4} {v : Value} (hd : D M pc (.aload_n i) 1 pc') (hl : ls[i.val]? = some (.val v)) (hv : rfn v = true) (k : WB b l Z n M pc' ls (v :: st) H ce sl Q) : WB b l Z n M pc ls st H ce sl Q := by
  obtain ⟨hd, rfl⟩ := hd
  exact W.pure (fun p e s m args below meth c C T locs X target h => XS.aloadN X.here C.1 rfl (hb C.2.2.2.1 hd) (loc_get hl) (up_rfn n hv) h) k
theorem W.aload {i : Nat} {v : Value} (hd : D M pc (.aload i) 2 pc') (hl : ls[i]? = some (.val v)) (hv : rfn v = true) (k : WB b l Z n M pc' ls (v :: st) H ce sl Q) : WB b l Z n M pc ls st H ce sl Q := by
  obtain ⟨hd, rfl⟩ := hd
  exact W.pure (fun p e s m args below meth c C T locs X target h => XS.aload X.here C.1 rfl (hb C.2.2.2.1 hd) (loc_get hl) (up_rfn n hv) h) k
theorem W.istoreN {i : Fin 4} {v : Int32} (hd : D M pc (.istore_n i) 1 pc') (ho : one ls i.val = true) (k : WB b l Z n M pc' (ls.set i.val (.val (.int v))) st H ce sl Q) : WB b l Z n M pc ls (.int v :: st) H ce sl Q := by
  obtain ⟨hd, rfl⟩ := hd
  exact W.pure (fun p e s m args below meth c C T locs X target h => XS.istoreN X.here C.1 rfl (hb C.2.2.2.1 hd) rfl (store_1 (v := .int v) ho rfl) h) k
theorem W.istore {i : Nat} {v : Int32} (hd : D M pc (.istore i) 2 pc') (ho : one ls i = true) (k : WB b l Z n M pc' (ls.set i (.val (.int v))) st H ce sl Q) : WB b l Z n M pc ls (.int v :: st) H ce sl Q := by
  obtain ⟨hd, rfl⟩ := hd
  exact W.pure (fun p e s m args below meth c C T locs X target h => XS.istore X.here C.1 rfl (hb C.2.2.2.1 hd) rfl (store_1 (v := .int v) ho rfl) h) k
theorem W.astoreN {i : Fin 4} {v : Value} (hd : D M pc (.astore_n i) 1 pc') (ho : one ls i.val = true) (hv : rfn v = true) (k : WB b l Z n M pc' (ls.set i.val (.val v)) st H ce sl Q) : WB b l Z n M pc ls (v :: st) H ce sl Q := by
  obtain ⟨hd, rfl⟩ := hd
  exact W.pure (fun p e s m args below meth c C T locs X target h => XS.astoreN X.here C.1 rfl (hb C.2.2.2.1 hd) rfl (up_rfn n hv) (store_1 ho (rfn_cat hv)) h) k
theorem W.astore {i : Nat} {v : Value} (hd : D M pc (.astore i) 2 pc') (ho : one ls i = true) (hv : rfn v = true) (k : WB b l Z n M pc' (ls.set i (.val v)) st H ce sl Q) : WB b l Z n M pc ls (v :: st) H ce sl Q := by
  obtain ⟨hd, rfl⟩ := hd
  exact W.pure (fun p e s m args below meth c C T locs X target h => XS.astore X.here C.1 rfl (hb C.2.2.2.1 hd) rfl (up_rfn n hv) (store_1 ho (rfn_cat hv)) h) k
theorem W.lstoreN {i : Fin 4} {v : Int64} (hd : D M pc (.lstore_n i) 1 pc') (ho : two ls i.val = true) (k : WB b l Z n M pc' ((ls.set i.val (.val (.long v))).set (i.val + 1) .second) st H ce sl Q) : WB b l Z n M pc ls (.long v :: st) H ce sl Q := by
  obtain ⟨hd, rfl⟩ := hd
  exact W.pure (fun p e s m args below meth c C T locs X target h => XT.lstoreN X.here C.1 rfl (hb C.2.2.2.1 hd) rfl (store_2 ho) h) k
theorem W.lstore {i : Nat} {v : Int64} (hd : D M pc (.lstore i) 2 pc') (ho : two ls i = true) (k : WB b l Z n M pc' ((ls.set i (.val (.long v))).set (i + 1) .second) st H ce sl Q) : WB b l Z n M pc ls (.long v :: st) H ce sl Q := by
  obtain ⟨hd, rfl⟩ := hd
  exact W.pure (fun p e s m args below meth c C T locs X target h => XT.lstore X.here C.1 rfl (hb C.2.2.2.1 hd) rfl (store_2 ho) h) k
theorem W.iinc {i : Nat} {cst : Int} {x : Int32} (v : Int32) (hd : D M pc (.iinc i cst) 3 pc') (hv : Int32.ofInt cst = v) (hl : ls[i]? = some (.val (.int x))) (k : WB b l Z n M pc' (ls.set i (.val (.int (x + v)))) st H ce sl Q) : WB b l Z n M pc ls st H ce sl Q := by
  obtain ⟨hd, rfl⟩ := hd
  exact W.pure (fun p e s m args below meth c C T locs X target h => XT.iincV X.here C.1 rfl v (hb C.2.2.2.1 hd) hv (loc_get hl) (store_1 (v := .int (x + v)) (by simp [one, hl, Value.category]) rfl) h) k
theorem W.dup {v : Value} (hd : D M pc .dup 1 pc') (hv : v.category = 1) (k : WB b l Z n M pc' ls (v :: v :: st) H ce sl Q) : WB b l Z n M pc ls (v :: st) H ce sl Q := by
  obtain ⟨hd, rfl⟩ := hd
  exact W.pure (fun p e s m args below meth c C T locs X target h => XS.dup X.here C.1 rfl (hb C.2.2.2.1 hd) rfl ((up_cat n v).trans hv) h) k
theorem W.pop {v : Value} (hd : D M pc .pop 1 pc') (hv : v.category = 1) (k : WB b l Z n M pc' ls st H ce sl Q) : WB b l Z n M pc ls (v :: st) H ce sl Q := by
  obtain ⟨hd, rfl⟩ := hd
  exact W.pure (fun p e s m args below meth c C T locs X target h => XT.pop X.here C.1 rfl (hb C.2.2.2.1 hd) rfl ((up_cat n v).trans hv) h) k
theorem W.dupX1 {v w : Value} (hd : D M pc .dup_x1 1 pc') (hv : v.category = 1) (hw : w.category = 1) (k : WB b l Z n M pc' ls (v :: w :: v :: st) H ce sl Q) : WB b l Z n M pc ls (v :: w :: st) H ce sl Q := by
  obtain ⟨hd, rfl⟩ := hd
  exact W.pure (fun p e s m args below meth c C T locs X target h => XT.dupX1 X.here C.1 rfl (hb C.2.2.2.1 hd) rfl ((up_cat n v).trans hv) ((up_cat n w).trans hw) h) k
theorem W.dup2 {v w : Value} (hd : D M pc .dup2 1 pc') (hv : v.category = 1) (hw : w.category = 1) (k : WB b l Z n M pc' ls (v :: w :: v :: w :: st) H ce sl Q) : WB b l Z n M pc ls (v :: w :: st) H ce sl Q := by
  obtain ⟨hd, rfl⟩ := hd
  exact W.pure (fun p e s m args below meth c C T locs X target h => XT.dup2 X.here C.1 rfl (hb C.2.2.2.1 hd) rfl ((up_cat n v).trans hv) ((up_cat n w).trans hw) h) k
theorem W.dup2L {x : Int64} (hd : D M pc .dup2 1 pc') (k : WB b l Z n M pc' ls (.long x :: .long x :: st) H ce sl Q) : WB b l Z n M pc ls (.long x :: st) H ce sl Q := by
  obtain ⟨hd, rfl⟩ := hd
  exact W.pure (fun p e s m args below meth c C T locs X target h => XT.dup2L X.here C.1 rfl (hb C.2.2.2.1 hd) rfl h) k
theorem W.goto {o : Int} {t : Nat} (hd : DB M pc (.goto o) o pc' t) (k : WB b l Z n M t ls st H ce sl Q) : WB b l Z n M pc ls st H ce sl Q :=
  W.pure (fun p e s m args below meth c C T locs X target h => XS.goto X.here C.1 rfl rfl (hb C.2.2.2.1 hd.1) hd.2.2.1 hd.2.2.2 h) k
theorem W.if_eq {x : Int32} {o : Int} {t : Nat} (hd : DB M pc (.ifCond .eq o) o pc' t) (ky : (x = 0) → WB b l Z n M t ls st H ce sl Q) (kn : (¬ x = 0) → WB b l Z n M pc' ls st H ce sl Q) : WB b l Z n M pc ls (.int x :: st) H ce sl Q := by
  obtain ⟨h1, rfl, h3, h4⟩ := hd
  by_cases q : (x = 0)
  · exact W.pure (fun p e s m args below meth c C T locs X target h => XS.ifYes X.here C.1 rfl rfl (hb C.2.2.2.1 h1) rfl (XT.i0_eq_t q) h3 h4 h) (ky q)
  · exact W.pure (fun p e s m args below meth c C T locs X target h => XS.ifNo X.here C.1 rfl (hb C.2.2.2.1 h1) rfl (XT.i0_eq_f q) h) (kn q)
theorem W.ifl_eq {x y : Int64} {o : Int} {t : Nat} (hd : DB M pc (.ifCond .eq o) o pc' t) (ky : (x = y) → WB b l Z n M t ls st H ce sl Q) (kn : (¬ x = y) → WB b l Z n M pc' ls st H ce sl Q) : WB b l Z n M pc ls (.int (XT.cmpL x y) :: st) H ce sl Q := by
  obtain ⟨h1, rfl, h3, h4⟩ := hd
  by_cases q : (x = y)
  · exact W.pure (fun p e s m args below meth c C T locs X target h => XS.ifYes X.here C.1 rfl rfl (hb C.2.2.2.1 h1) rfl (XT.ll_eq_t q) h3 h4 h) (ky q)
  · exact W.pure (fun p e s m args below meth c C T locs X target h => XS.ifNo X.here C.1 rfl (hb C.2.2.2.1 h1) rfl (XT.ll_eq_f q) h) (kn q)
theorem W.icmp_eq {x y : Int32} {o : Int} {t : Nat} (hd : DB M pc (.if_icmp .eq o) o pc' t) (ky : (x = y) → WB b l Z n M t ls st H ce sl Q) (kn : (¬ x = y) → WB b l Z n M pc' ls st H ce sl Q) : WB b l Z n M pc ls (.int y :: .int x :: st) H ce sl Q := by
  obtain ⟨h1, rfl, h3, h4⟩ := hd
  by_cases q : (x = y)
  · exact W.pure (fun p e s m args below meth c C T locs X target h => XS.icmpYes X.here C.1 rfl rfl (hb C.2.2.2.1 h1) rfl (XT.ii_eq_t q) h3 h4 h) (ky q)
  · exact W.pure (fun p e s m args below meth c C T locs X target h => XS.icmpNo X.here C.1 rfl (hb C.2.2.2.1 h1) rfl (XT.ii_eq_f q) h) (kn q)
theorem W.if_ne {x : Int32} {o : Int} {t : Nat} (hd : DB M pc (.ifCond .ne o) o pc' t) (ky : (¬ x = 0) → WB b l Z n M t ls st H ce sl Q) (kn : (x = 0) → WB b l Z n M pc' ls st H ce sl Q) : WB b l Z n M pc ls (.int x :: st) H ce sl Q := by
  obtain ⟨h1, rfl, h3, h4⟩ := hd
  by_cases q : (x = 0)
  · exact W.pure (fun p e s m args below meth c C T locs X target h => XS.ifNo X.here C.1 rfl (hb C.2.2.2.1 h1) rfl (XT.i0_ne_f q) h) (kn q)
  · exact W.pure (fun p e s m args below meth c C T locs X target h => XS.ifYes X.here C.1 rfl rfl (hb C.2.2.2.1 h1) rfl (XT.i0_ne_t q) h3 h4 h) (ky q)
theorem W.ifl_ne {x y : Int64} {o : Int} {t : Nat} (hd : DB M pc (.ifCond .ne o) o pc' t) (ky : (¬ x = y) → WB b l Z n M t ls st H ce sl Q) (kn : (x = y) → WB b l Z n M pc' ls st H ce sl Q) : WB b l Z n M pc ls (.int (XT.cmpL x y) :: st) H ce sl Q := by
  obtain ⟨h1, rfl, h3, h4⟩ := hd
  by_cases q : (x = y)
  · exact W.pure (fun p e s m args below meth c C T locs X target h => XS.ifNo X.here C.1 rfl (hb C.2.2.2.1 h1) rfl (XT.ll_ne_f q) h) (kn q)
  · exact W.pure (fun p e s m args below meth c C T locs X target h => XS.ifYes X.here C.1 rfl rfl (hb C.2.2.2.1 h1) rfl (XT.ll_ne_t q) h3 h4 h) (ky q)
theorem W.icmp_ne {x y : Int32} {o : Int} {t : Nat} (hd : DB M pc (.if_icmp .ne o) o pc' t) (ky : (¬ x = y) → WB b l Z n M t ls st H ce sl Q) (kn : (x = y) → WB b l Z n M pc' ls st H ce sl Q) : WB b l Z n M pc ls (.int y :: .int x :: st) H ce sl Q := by
  obtain ⟨h1, rfl, h3, h4⟩ := hd
  by_cases q : (x = y)
  · exact W.pure (fun p e s m args below meth c C T locs X target h => XS.icmpNo X.here C.1 rfl (hb C.2.2.2.1 h1) rfl (XT.ii_ne_f q) h) (kn q)
  · exact W.pure (fun p e s m args below meth c C T locs X target h => XS.icmpYes X.here C.1 rfl rfl (hb C.2.2.2.1 h1) rfl (XT.ii_ne_t q) h3 h4 h) (ky q)
theorem W.if_lt {x : Int32} {o : Int} {t : Nat} (hd : DB M pc (.ifCond .lt o) o pc' t) (ky : (x < 0) → WB b l Z n M t ls st H ce sl Q) (kn : (¬ x < 0) → WB b l Z n M pc' ls st H ce sl Q) : WB b l Z n M pc ls (.int x :: st) H ce sl Q := by
  obtain ⟨h1, rfl, h3, h4⟩ := hd
  by_cases q : (x < 0)
  · exact W.pure (fun p e s m args below meth c C T locs X target h => XS.ifYes X.here C.1 rfl rfl (hb C.2.2.2.1 h1) rfl (XT.i0_lt_t q) h3 h4 h) (ky q)
  · exact W.pure (fun p e s m args below meth c C T locs X target h => XS.ifNo X.here C.1 rfl (hb C.2.2.2.1 h1) rfl (XT.i0_lt_f q) h) (kn q)
theorem W.ifl_lt {x y : Int64} {o : Int} {t : Nat} (hd : DB M pc (.ifCond .lt o) o pc' t) (ky : (x < y) → WB b l Z n M t ls st H ce sl Q) (kn : (¬ x < y) → WB b l Z n M pc' ls st H ce sl Q) : WB b l Z n M pc ls (.int (XT.cmpL x y) :: st) H ce sl Q := by
  obtain ⟨h1, rfl, h3, h4⟩ := hd
  by_cases q : (x < y)
  · exact W.pure (fun p e s m args below meth c C T locs X target h => XS.ifYes X.here C.1 rfl rfl (hb C.2.2.2.1 h1) rfl (XT.ll_lt_t q) h3 h4 h) (ky q)
  · exact W.pure (fun p e s m args below meth c C T locs X target h => XS.ifNo X.here C.1 rfl (hb C.2.2.2.1 h1) rfl (XT.ll_lt_f q) h) (kn q)
theorem W.icmp_lt {x y : Int32} {o : Int} {t : Nat} (hd : DB M pc (.if_icmp .lt o) o pc' t) (ky : (x < y) → WB b l Z n M t ls st H ce sl Q) (kn : (¬ x < y) → WB b l Z n M pc' ls st H ce sl Q) : WB b l Z n M pc ls (.int y :: .int x :: st) H ce sl Q := by
  obtain ⟨h1, rfl, h3, h4⟩ := hd
  by_cases q : (x < y)
  · exact W.pure (fun p e s m args below meth c C T locs X target h => XS.icmpYes X.here C.1 rfl rfl (hb C.2.2.2.1 h1) rfl (XT.ii_lt_t q) h3 h4 h) (ky q)
  · exact W.pure (fun p e s m args below meth c C T locs X target h => XS.icmpNo X.here C.1 rfl (hb C.2.2.2.1 h1) rfl (XT.ii_lt_f q) h) (kn q)
theorem W.if_ge {x : Int32} {o : Int} {t : Nat} (hd : DB M pc (.ifCond .ge o) o pc' t) (ky : (¬ x < 0) → WB b l Z n M t ls st H ce sl Q) (kn : (x < 0) → WB b l Z n M pc' ls st H ce sl Q) : WB b l Z n M pc ls (.int x :: st) H ce sl Q := by
  obtain ⟨h1, rfl, h3, h4⟩ := hd
  by_cases q : (x < 0)
  · exact W.pure (fun p e s m args below meth c C T locs X target h => XS.ifNo X.here C.1 rfl (hb C.2.2.2.1 h1) rfl (XT.i0_ge_f q) h) (kn q)
  · exact W.pure (fun p e s m args below meth c C T locs X target h => XS.ifYes X.here C.1 rfl rfl (hb C.2.2.2.1 h1) rfl (XT.i0_ge_t q) h3 h4 h) (ky q)
theorem W.ifl_ge {x y : Int64} {o : Int} {t : Nat} (hd : DB M pc (.ifCond .ge o) o pc' t) (ky : (¬ x < y) → WB b l Z n M t ls st H ce sl Q) (kn : (x < y) → WB b l Z n M pc' ls st H ce sl Q) : WB b l Z n M pc ls (.int (XT.cmpL x y) :: st) H ce sl Q := by
  obtain ⟨h1, rfl, h3, h4⟩ := hd
  by_cases q : (x < y)
  · exact W.pure (fun p e s m args below meth c C T locs X target h => XS.ifNo X.here C.1 rfl (hb C.2.2.2.1 h1) rfl (XT.ll_ge_f q) h) (kn q)
  · exact W.pure (fun p e s m args below meth c C T locs X target h => XS.ifYes X.here C.1 rfl rfl (hb C.2.2.2.1 h1) rfl (XT.ll_ge_t q) h3 h4 h) (ky q)
theorem W.icmp_ge {x y : Int32} {o : Int} {t : Nat} (hd : DB M pc (.if_icmp .ge o) o pc' t) (ky : (¬ x < y) → WB b l Z n M t ls st H ce sl Q) (kn : (x < y) → WB b l Z n M pc' ls st H ce sl Q) : WB b l Z n M pc ls (.int y :: .int x :: st) H ce sl Q := by
  obtain ⟨h1, rfl, h3, h4⟩ := hd
  by_cases q : (x < y)
  · exact W.pure (fun p e s m args below meth c C T locs X target h => XS.icmpNo X.here C.1 rfl (hb C.2.2.2.1 h1) rfl (XT.ii_ge_f q) h) (kn q)
  · exact W.pure (fun p e s m args below meth c C T locs X target h => XS.icmpYes X.here C.1 rfl rfl (hb C.2.2.2.1 h1) rfl (XT.ii_ge_t q) h3 h4 h) (ky q)
theorem W.if_gt {x : Int32} {o : Int} {t : Nat} (hd : DB M pc (.ifCond .gt o) o pc' t) (ky : (0 < x) → WB b l Z n M t ls st H ce sl Q) (kn : (¬ 0 < x) → WB b l Z n M pc' ls st H ce sl Q) : WB b l Z n M pc ls (.int x :: st) H ce sl Q := by
  obtain ⟨h1, rfl, h3, h4⟩ := hd
  by_cases q : (0 < x)
  · exact W.pure (fun p e s m args below meth c C T locs X target h => XS.ifYes X.here C.1 rfl rfl (hb C.2.2.2.1 h1) rfl (XT.i0_gt_t q) h3 h4 h) (ky q)
  · exact W.pure (fun p e s m args below meth c C T locs X target h => XS.ifNo X.here C.1 rfl (hb C.2.2.2.1 h1) rfl (XT.i0_gt_f q) h) (kn q)
theorem W.ifl_gt {x y : Int64} {o : Int} {t : Nat} (hd : DB M pc (.ifCond .gt o) o pc' t) (ky : (y < x) → WB b l Z n M t ls st H ce sl Q) (kn : (¬ y < x) → WB b l Z n M pc' ls st H ce sl Q) : WB b l Z n M pc ls (.int (XT.cmpL x y) :: st) H ce sl Q := by
  obtain ⟨h1, rfl, h3, h4⟩ := hd
  by_cases q : (y < x)
  · exact W.pure (fun p e s m args below meth c C T locs X target h => XS.ifYes X.here C.1 rfl rfl (hb C.2.2.2.1 h1) rfl (XT.ll_gt_t q) h3 h4 h) (ky q)
  · exact W.pure (fun p e s m args below meth c C T locs X target h => XS.ifNo X.here C.1 rfl (hb C.2.2.2.1 h1) rfl (XT.ll_gt_f q) h) (kn q)
theorem W.icmp_gt {x y : Int32} {o : Int} {t : Nat} (hd : DB M pc (.if_icmp .gt o) o pc' t) (ky : (y < x) → WB b l Z n M t ls st H ce sl Q) (kn : (¬ y < x) → WB b l Z n M pc' ls st H ce sl Q) : WB b l Z n M pc ls (.int y :: .int x :: st) H ce sl Q := by
  obtain ⟨h1, rfl, h3, h4⟩ := hd
  by_cases q : (y < x)
  · exact W.pure (fun p e s m args below meth c C T locs X target h => XS.icmpYes X.here C.1 rfl rfl (hb C.2.2.2.1 h1) rfl (XT.ii_gt_t q) h3 h4 h) (ky q)
  · exact W.pure (fun p e s m args below meth c C T locs X target h => XS.icmpNo X.here C.1 rfl (hb C.2.2.2.1 h1) rfl (XT.ii_gt_f q) h) (kn q)
theorem W.if_le {x : Int32} {o : Int} {t : Nat} (hd : DB M pc (.ifCond .le o) o pc' t) (ky : (¬ 0 < x) → WB b l Z n M t ls st H ce sl Q) (kn : (0 < x) → WB b l Z n M pc' ls st H ce sl Q) : WB b l Z n M pc ls (.int x :: st) H ce sl Q := by
  obtain ⟨h1, rfl, h3, h4⟩ := hd
  by_cases q : (0 < x)
  · exact W.pure (fun p e s m args below meth c C T locs X target h => XS.ifNo X.here C.1 rfl (hb C.2.2.2.1 h1) rfl (XT.i0_le_f q) h) (kn q)
  · exact W.pure (fun p e s m args below meth c C T locs X target h => XS.ifYes X.here C.1 rfl rfl (hb C.2.2.2.1 h1) rfl (XT.i0_le_t q) h3 h4 h) (ky q)
theorem W.ifl_le {x y : Int64} {o : Int} {t : Nat} (hd : DB M pc (.ifCond .le o) o pc' t) (ky : (¬ y < x) → WB b l Z n M t ls st H ce sl Q) (kn : (y < x) → WB b l Z n M pc' ls st H ce sl Q) : WB b l Z n M pc ls (.int (XT.cmpL x y) :: st) H ce sl Q := by
  obtain ⟨h1, rfl, h3, h4⟩ := hd
  by_cases q : (y < x)
  · exact W.pure (fun p e s m args below meth c C T locs X target h => XS.ifNo X.here C.1 rfl (hb C.2.2.2.1 h1) rfl (XT.ll_le_f q) h) (kn q)
  · exact W.pure (fun p e s m args below meth c C T locs X target h => XS.ifYes X.here C.1 rfl rfl (hb C.2.2.2.1 h1) rfl (XT.ll_le_t q) h3 h4 h) (ky q)
theorem W.icmp_le {x y : Int32} {o : Int} {t : Nat} (hd : DB M pc (.if_icmp .le o) o pc' t) (ky : (¬ y < x) → WB b l Z n M t ls st H ce sl Q) (kn : (y < x) → WB b l Z n M pc' ls st H ce sl Q) : WB b l Z n M pc ls (.int y :: .int x :: st) H ce sl Q := by
  obtain ⟨h1, rfl, h3, h4⟩ := hd
  by_cases q : (y < x)
  · exact W.pure (fun p e s m args below meth c C T locs X target h => XS.icmpNo X.here C.1 rfl (hb C.2.2.2.1 h1) rfl (XT.ii_le_f q) h) (kn q)
  · exact W.pure (fun p e s m args below meth c C T locs X target h => XS.icmpYes X.here C.1 rfl rfl (hb C.2.2.2.1 h1) rfl (XT.ii_le_t q) h3 h4 h) (ky q)
theorem W.acmp_eq {v w : Value} {o : Int} {t : Nat} (hd : DB M pc (.if_acmp .eq o) o pc' t) (hv : v.isRef = true) (hw : w.isRef = true) (ky : (v = w) → WB b l Z n M t ls st H ce sl Q) (kn : (¬ v = w) → WB b l Z n M pc' ls st H ce sl Q) : WB b l Z n M pc ls (w :: v :: st) H ce sl Q := by
  obtain ⟨h1, rfl, h3, h4⟩ := hd
  by_cases q : (v = w)
  · exact W.pure (fun p e s m args below meth c C T locs X target h => XT.acmpYes X.here C.1 rfl rfl (hb C.2.2.2.1 h1) rfl (up_isRef n hv) (up_isRef n hw) (XT.aa_eq_t (congrArg (up n) q)) h3 h4 h) (ky q)
  · exact W.pure (fun p e s m args below meth c C T locs X target h => XT.acmpNo X.here C.1 rfl (hb C.2.2.2.1 h1) rfl (up_isRef n hv) (up_isRef n hw) (XT.aa_eq_f (fun z => q (up_inj hv hw z))) h) (kn q)
theorem W.acmp_ne {v w : Value} {o : Int} {t : Nat} (hd : DB M pc (.if_acmp .ne o) o pc' t) (hv : v.isRef = true) (hw : w.isRef = true) (ky : (¬ v = w) → WB b l Z n M t ls st H ce sl Q) (kn : (v = w) → WB b l Z n M pc' ls st H ce sl Q) : WB b l Z n M pc ls (w :: v :: st) H ce sl Q := by
  obtain ⟨h1, rfl, h3, h4⟩ := hd
  by_cases q : (v = w)
  · exact W.pure (fun p e s m args below meth c C T locs X target h => XT.acmpNo X.here C.1 rfl (hb C.2.2.2.1 h1) rfl (up_isRef n hv) (up_isRef n hw) (XT.aa_ne_f (congrArg (up n) q)) h) (kn q)
  · exact W.pure (fun p e s m args below meth c C T locs X target h => XT.acmpYes X.here C.1 rfl rfl (hb C.2.2.2.1 h1) rfl (up_isRef n hv) (up_isRef n hw) (XT.aa_ne_t (fun z => q (up_inj hv hw z))) h3 h4 h) (ky q)
theorem up_null {n : Nat} {v : Value} (hv : v.isRef = true) (h : ¬ v = .null) : ¬ up n v = .null := by cases v <;> simp_all [up, Value.isRef]
theorem W.ifnull {v : Value} {o : Int} {t : Nat} (hd : DB M pc (.ifnull o) o pc' t) (hv : v.isRef = true) (ky : (v = .null) → WB b l Z n M t ls st H ce sl Q) (kn : (¬ v = .null) → WB b l Z n M pc' ls st H ce sl Q) : WB b l Z n M pc ls (v :: st) H ce sl Q := by
  obtain ⟨h1, rfl, h3, h4⟩ := hd
  by_cases q : (v = .null)
  · exact W.pure (fun p e s m args below meth c C T locs X target h => XT.nullYes X.here C.1 rfl rfl (hb C.2.2.2.1 h1) rfl (congrArg (up n) q) h3 h4 h) (ky q)
  · exact W.pure (fun p e s m args below meth c C T locs X target h => XT.nullNo X.here C.1 rfl (hb C.2.2.2.1 h1) rfl (up_isRef n hv) (up_null hv q) h) (kn q)
theorem W.ifnonnull {v : Value} {o : Int} {t : Nat} (hd : DB M pc (.ifnonnull o) o pc' t) (hv : v.isRef = true) (ky : (¬ v = .null) → WB b l Z n M t ls st H ce sl Q) (kn : (v = .null) → WB b l Z n M pc' ls st H ce sl Q) : WB b l Z n M pc ls (v :: st) H ce sl Q := by
  obtain ⟨h1, rfl, h3, h4⟩ := hd
  by_cases q : (v = .null)
  · exact W.pure (fun p e s m args below meth c C T locs X target h => XT.nonnullNo X.here C.1 rfl (hb C.2.2.2.1 h1) rfl (congrArg (up n) q) h) (kn q)
  · exact W.pure (fun p e s m args below meth c C T locs X target h => XT.nonnullYes X.here C.1 rfl rfl (hb C.2.2.2.1 h1) rfl (up_isRef n hv) (up_null hv q) h3 h4 h) (ky q)
theorem W.nop_ {H2 : AHeap} (e : H2 = H) (k : WB b l Z n M pc ls st H2 ce sl Q) : WB b l Z n M pc ls st H ce sl Q := e ▸ k
/-! heap: reads -/
theorem W.getfield {i : Nat} {C O nm d : String} {fs : List (Key × Value)} {v : Value} {k : Nat} (j : Nat) (hd : D M pc (.getfield i) 3 pc') (w : (Cond.fieldLink M.1.cls i O nm d).before a0 Z = true) (hk : H[k]? = some (.inl (C, fs))) (hj : fs[j]? = some ((O, nm, d), v))
    (kk : WB b l Z n M pc' ls (v :: st) H ce sl Q) : WB b l Z n M pc ls (.ref k :: st) H ce sl Q := by
  obtain ⟨hd, rfl⟩ := hd
  refine W.step (fun p e s m args below meth c C T locs X hH hF => ?_) kk
  obtain ⟨T', X', e', stp⟩ := getF X C.1 C.2.1 C.2.2.1 (host := "") (Or.inl w) Via.refl rfl ((hH.2 k _ hk rfl).2.1 j _ hj) (g := mkF m pc (loc n ls) (stk n (.ref k :: st))) rfl rfl (hb C.2.2.2.1 hd)
  exact ⟨T', locs, X', e' ▸ hH, hF, stp⟩
theorem W.putfield {i : Nat} {C O nm d : String} {fs : List (Key × Value)} {v old : Value} {k kk : Nat} {ty : FieldType} (j : Nat) (hd : D M pc (.putfield i) 3 pc') (w : (Cond.fieldLink M.1.cls i O nm d).before a0 Z = true) (hk : H[k]? = some (.inl (C, fs))) (hj : fs[j]? = some ((O, nm, d), old))
    (L : (Cond.lays C O nm d).before a0 Z = true ∨ ((Cond.laysFinal C O nm d).before a0 Z = true ∧ M.1.cls = O ∧ M.1.name = "<init>")) (wi : (Cond.instantiable C kk).before a0 Z = true) (hty : parseFieldDescriptor d = some ty) (hn : ∀ n, narrow ty (up n v) = up n v) (hf : ∀ n, fits ty (up n v) = true)
    (k' : WB b l Z n M pc' ls st (H.set k (.inl (C, fs.set j ((O, nm, d), v)))) ce sl Q) : WB b l Z n M pc ls (v :: .ref k :: st) H ce sl Q := by
  obtain ⟨hd, rfl⟩ := hd
  refine W.step (fun p e s m args below meth c C T locs X hH hF => ?_) k'
  have O1 := hH.2 k _ hk rfl
  obtain ⟨T', h', X', e', Wq, stp⟩ := putF X C.1 C.2.1 C.2.2.1 (host := "") (Or.inl w) Via.refl rfl (O1.2.1 j _ hj) O1.1 (L.imp id (fun q => ⟨q.1, q.2.1, C.2.2.2.2.2.2.2.trans q.2.2⟩)) wi hty (hn n) (hf n) (g := mkF m pc (loc n ls) (stk n (v :: .ref k :: st))) rfl rfl (hb C.2.2.2.1 hd)
  subst e'
  exact ⟨T', _, X', hH.put Wq (OR.field (hH.2 k _ hk rfl) hj Wq), Fr.snoc X' hF (Nat.le_add_right n k), stp⟩
theorem arr_at {ty : FieldType} {vs : List Value} {cl : Cell} {i : Nat} {v : Value} {j : Int32} (e : cl.slots = (vs.map (up n)).toArray) (hj : ¬ j < 0 ∧ j.toNatClampNeg = i) (hv : vs[i]? = some v) : ¬ (j < 0 ∨ cl.slots.size ≤ j.toNatClampNeg) ∧ cl.slots[j.toNatClampNeg]? = some (up n v) := by
  have hlt := (List.getElem?_eq_some_iff.mp hv).1
  refine ⟨fun q => q.elim hj.1 fun q => ?_, ?_⟩
  · rw [e, hj.2, List.size_toArray, List.length_map] at q; omega
  · rw [e, hj.2]; simp [hv]
theorem W.arraylength {k : Nat} {ty : FieldType} {vs : List Value} (z : Int32) (hd : D M pc .arraylength 1 pc') (hk : H[k]? = some (.inr (ty, vs))) (hJ : isJ (.inr (ty, vs)) = false) (hN : Int32.ofNat vs.length = z) (kk : WB b l Z n M pc' ls (.int z :: st) H ce sl Q) : WB b l Z n M pc ls (.ref k :: st) H ce sl Q := by
  obtain ⟨hd, rfl⟩ := hd
  refine W.step (fun p e s m args below meth c C T locs X hH hF => ?_) kk
  obtain ⟨cl, A, e'⟩ := hH.2 k _ hk hJ
  refine ⟨T, locs, X, hH, hF, fun target h => X.arraylength C.1 A.1 (State.isArrayOf_alike C.2.1.alike A.2.1) (g := mkF m pc (loc n ls) (stk n (.ref k :: st))) rfl rfl (hb C.2.2.2.1 hd) _ ?_⟩
  have : cl.slots.size.toInt32 = z := by rw [e', List.size_toArray, List.length_map, ← hN]
  rw [this]; exact h
theorem W.iaload {k i : Nat} {vs : List Value} {v : Value} {j : Int32} (hd : D M pc .iaload 1 pc') (hk : H[k]? = some (.inr (.int, vs))) (hj : ¬ j < 0 ∧ j.toNatClampNeg = i) (hv : vs[i]? = some v) (kk : WB b l Z n M pc' ls (v :: st) H ce sl Q) : WB b l Z n M pc ls (.int j :: .ref k :: st) H ce sl Q := by
  obtain ⟨hd, rfl⟩ := hd
  refine W.step (fun p e s m args below meth c C T locs X hH hF => ?_) kk
  obtain ⟨cl, A, e'⟩ := hH.2 k _ hk rfl
  obtain ⟨q1, q2⟩ := arr_at (ty := .int) e' hj hv
  exact ⟨T, locs, X, hH, hF, fun target h => X.iaload C.1 A.1 (State.isArrayOf_alike C.2.1.alike A.2.1) A.2.2 q1 q2 (g := mkF m pc (loc n ls) (stk n (.int j :: .ref k :: st))) rfl rfl (hb C.2.2.2.1 hd) _ h⟩
theorem W.laload {k i : Nat} {vs : List Value} {v : Value} {j : Int32} (hd : D M pc .laload 1 pc') (hk : H[k]? = some (.inr (.long, vs))) (hj : ¬ j < 0 ∧ j.toNatClampNeg = i) (hv : vs[i]? = some v) (kk : WB b l Z n M pc' ls (v :: st) H ce sl Q) : WB b l Z n M pc ls (.int j :: .ref k :: st) H ce sl Q := by
  obtain ⟨hd, rfl⟩ := hd
  refine W.step (fun p e s m args below meth c C T locs X hH hF => ?_) kk
  obtain ⟨cl, A, e'⟩ := hH.2 k _ hk rfl
  obtain ⟨q1, q2⟩ := arr_at (ty := .int) e' hj hv
  exact ⟨T, locs, X, hH, hF, fun target h => X.laload C.1 A.1 (State.isArrayOf_alike C.2.1.alike A.2.1) A.2.2 q1 q2 (g := mkF m pc (loc n ls) (stk n (.int j :: .ref k :: st))) rfl rfl (hb C.2.2.2.1 hd) _ h⟩
theorem W.baload {k i : Nat} {vs : List Value} {v : Value} {j : Int32} (hd : D M pc .baload 1 pc') (hk : H[k]? = some (.inr (.byte, vs))) (hj : ¬ j < 0 ∧ j.toNatClampNeg = i) (hv : vs[i]? = some v) (kk : WB b l Z n M pc' ls (v :: st) H ce sl Q) : WB b l Z n M pc ls (.int j :: .ref k :: st) H ce sl Q := by
  obtain ⟨hd, rfl⟩ := hd
  refine W.step (fun p e s m args below meth c C T locs X hH hF => ?_) kk
  obtain ⟨cl, A, e'⟩ := hH.2 k _ hk rfl
  obtain ⟨q1, q2⟩ := arr_at (ty := .int) e' hj hv
  exact ⟨T, locs, X, hH, hF, fun target h => X.baloadBytes C.1 A.1 (State.isArrayOf_alike C.2.1.alike A.2.1) A.2.2 q1 q2 (g := mkF m pc (loc n ls) (stk n (.int j :: .ref k :: st))) rfl rfl (hb C.2.2.2.1 hd) _ h⟩
theorem W.zaload {k i : Nat} {vs : List Value} {v : Value} {j : Int32} (hd : D M pc .baload 1 pc') (hk : H[k]? = some (.inr (.boolean, vs))) (hj : ¬ j < 0 ∧ j.toNatClampNeg = i) (hv : vs[i]? = some v) (kk : WB b l Z n M pc' ls (v :: st) H ce sl Q) : WB b l Z n M pc ls (.int j :: .ref k :: st) H ce sl Q := by
  obtain ⟨hd, rfl⟩ := hd
  refine W.step (fun p e s m args below meth c C T locs X hH hF => ?_) kk
  obtain ⟨cl, A, e'⟩ := hH.2 k _ hk rfl
  obtain ⟨q1, q2⟩ := arr_at (ty := .int) e' hj hv
  exact ⟨T, locs, X, hH, hF, fun target h => X.baloadBooleans C.1 A.1 (State.isArrayOf_alike C.2.1.alike A.2.1) A.2.2 q1 q2 (g := mkF m pc (loc n ls) (stk n (.int j :: .ref k :: st))) rfl rfl (hb C.2.2.2.1 hd) _ h⟩
/-! heap: stores into arrays -/
theorem arr_in' {vs : List Value} {cl : Cell} {i : Nat} {j : Int32} (e : cl.slots = (vs.map (up n)).toArray) (hj : ¬ j < 0 ∧ j.toNatClampNeg = i) (hv : i < vs.length) : ¬ (j < 0 ∨ cl.slots.size ≤ j.toNatClampNeg) := by
  refine fun q => q.elim hj.1 fun q => ?_
  rw [e, hj.2] at q; simp at q; omega
theorem W.iastore {k i : Nat} {vs : List Value} {x : Int32} {j : Int32} (hd : D M pc .iastore 1 pc') (hk : H[k]? = some (.inr (.int, vs))) (hj : ¬ j < 0 ∧ j.toNatClampNeg = i) (hv : i < vs.length) (kk : WB b l Z n M pc' ls st (H.set k (.inr (.int, vs.set i (.int x)))) ce sl Q) : WB b l Z n M pc ls (.int x :: .int j :: .ref k :: st) H ce sl Q := by
  obtain ⟨hd, rfl⟩ := hd
  refine W.step (fun p e s m args below meth c C T locs X hH hF => ?_) kk
  have O1 := hH.2 k _ hk rfl
  obtain ⟨cl, A, e'⟩ := O1
  obtain ⟨T', h', X', eh, Wq, stp⟩ := stI X C.1 C.2.1 rfl A (arr_in' e' hj hv) (g := mkF m pc (loc n ls) (stk n (.int x :: .int j :: .ref k :: st))) rfl rfl (hb C.2.2.2.1 hd)
  subst eh
  rw [hj.2] at Wq
  exact ⟨T', _, X', hH.put Wq (OR.elem (w := .int x) ⟨cl, A, e'⟩ Wq), Fr.snoc X' hF (Nat.le_add_right n k), stp⟩
theorem W.lastore {k i : Nat} {vs : List Value} {x : Int64} {j : Int32} (hd : D M pc .lastore 1 pc') (hk : H[k]? = some (.inr (.long, vs))) (hj : ¬ j < 0 ∧ j.toNatClampNeg = i) (hv : i < vs.length) (kk : WB b l Z n M pc' ls st (H.set k (.inr (.long, vs.set i (.long x)))) ce sl Q) : WB b l Z n M pc ls (.long x :: .int j :: .ref k :: st) H ce sl Q := by
  obtain ⟨hd, rfl⟩ := hd
  refine W.step (fun p e s m args below meth c C T locs X hH hF => ?_) kk
  have O1 := hH.2 k _ hk rfl
  obtain ⟨cl, A, e'⟩ := O1
  obtain ⟨T', h', X', eh, Wq, stp⟩ := stJ X C.1 C.2.1 rfl A (arr_in' e' hj hv) (g := mkF m pc (loc n ls) (stk n (.long x :: .int j :: .ref k :: st))) rfl rfl (hb C.2.2.2.1 hd)
  subst eh
  rw [hj.2] at Wq
  exact ⟨T', _, X', hH.put Wq (OR.elem (w := .long x) ⟨cl, A, e'⟩ Wq), Fr.snoc X' hF (Nat.le_add_right n k), stp⟩
theorem W.bastore {k i : Nat} {vs : List Value} {x : Int32} {j : Int32} (hd : D M pc .bastore 1 pc') (hk : H[k]? = some (.inr (.byte, vs))) (hj : ¬ j < 0 ∧ j.toNatClampNeg = i) (hv : i < vs.length) (kk : WB b l Z n M pc' ls st (H.set k (.inr (.byte, vs.set i (.int x.toInt8.toInt32)))) ce sl Q) : WB b l Z n M pc ls (.int x :: .int j :: .ref k :: st) H ce sl Q := by
  obtain ⟨hd, rfl⟩ := hd
  refine W.step (fun p e s m args below meth c C T locs X hH hF => ?_) kk
  have O1 := hH.2 k _ hk rfl
  obtain ⟨cl, A, e'⟩ := O1
  obtain ⟨T', h', X', eh, Wq, stp⟩ := stB X C.1 C.2.1 rfl A (arr_in' e' hj hv) (g := mkF m pc (loc n ls) (stk n (.int x :: .int j :: .ref k :: st))) rfl rfl (hb C.2.2.2.1 hd)
  subst eh
  rw [hj.2] at Wq
  exact ⟨T', _, X', hH.put Wq (OR.elem (w := .int x.toInt8.toInt32) ⟨cl, A, e'⟩ Wq), Fr.snoc X' hF (Nat.le_add_right n k), stp⟩
theorem W.zastore {k i : Nat} {vs : List Value} {x : Int32} {j : Int32} (hd : D M pc .bastore 1 pc') (hk : H[k]? = some (.inr (.boolean, vs))) (hj : ¬ j < 0 ∧ j.toNatClampNeg = i) (hv : i < vs.length) (kk : WB b l Z n M pc' ls st (H.set k (.inr (.boolean, vs.set i (.int (x &&& 1))))) ce sl Q) : WB b l Z n M pc ls (.int x :: .int j :: .ref k :: st) H ce sl Q := by
  obtain ⟨hd, rfl⟩ := hd
  refine W.step (fun p e s m args below meth c C T locs X hH hF => ?_) kk
  have O1 := hH.2 k _ hk rfl
  obtain ⟨cl, A, e'⟩ := O1
  obtain ⟨T', h', X', eh, Wq, stp⟩ := stZ X C.1 C.2.1 rfl A (arr_in' e' hj hv) (g := mkF m pc (loc n ls) (stk n (.int x :: .int j :: .ref k :: st))) rfl rfl (hb C.2.2.2.1 hd)
  subst eh
  rw [hj.2] at Wq
  exact ⟨T', _, X', hH.put Wq (OR.elem (w := .int (x &&& 1)) ⟨cl, A, e'⟩ Wq), Fr.snoc X' hF (Nat.le_add_right n k), stp⟩
/-! heap: makers -/
theorem ext_push (h : Heap) (x : Cell) : Ext h (h.push x) ∧ (h.push x).size = h.size + 1 ∧ (h.push x)[h.size]? = some x :=
  ⟨⟨by simp, fun a c q => by rw [Array.getElem?_push_lt (Array.getElem?_eq_some_iff.mp q).1]; exact (Array.getElem?_eq_getElem _).symm.trans q⟩, by simp, by simp⟩
theorem W.new {i nk N : Nat} {C : String} {fs : List (Key × Value)} (hd : D M pc (.new i) 3 pc') (w : (Cond.classLink M.1.cls i C).before a0 Z = true) (K : OkC a0 Z C nk fs) (hN : H.length = N) (hc : ce + 1 ≤ M.2.2.2.2.cells) (hl : sl + nk ≤ M.2.2.2.2.slots)
    (kk : WB b l Z n M pc' ls (.ref N :: st) (H ++ [.inl (C, fs)]) (ce + 1) (sl + nk) Q) : WB b l Z n M pc ls st H ce sl Q := by
  obtain ⟨hd, rfl⟩ := hd
  refine W.step (fun p e s m args below meth c Cx T locs X hH hF => ?_) kk
  obtain ⟨vm', cC, kC, h1, h2, h3, h4, X', stp⟩ := X.newCold Cx.1 Cx.2.2.1 (mv Cx.2.1 w) (mv Cx.2.1 K.1) (mv Cx.2.1 K.2.1) (g := mkF m pc (loc n ls) (stk n st)) rfl (hb Cx.2.2.2.1 hd) hc hl
  obtain ⟨E, S, G⟩ := ext_push T.heap { cls := cC, slots := kC.instanceTypes.map defaultValue, vm := .none }
  have hfc : Z.vm.findClass C = some cC := by rw [← Cx.2.1.alike.findClass]; exact h1
  obtain ⟨kZ, z1, -⟩ := Vm.findClass_spec hfc
  obtain ⟨k', z2, z3⟩ := Cx.2.1.alike.2.2 _ _ z1
  cases h2.symm.trans z2
  have ei : kC.instanceTypes = kZ.instanceTypes := by rw [z3]
  refine ⟨_, locs, X', hH.push E S ⟨⟨_, kZ, G, hfc, z1, rfl, fun _ => by simp [ei]⟩, fun j q hq => ?_, K.slots⟩, hF, fun target h => stp target ?_⟩
  · obtain ⟨ty, L, ht, hv⟩ := K.2.2.1 q (List.mem_of_getElem? hq)
    obtain ⟨c1, k1, cf, kf, i1, f, a1, a2, a3, a4, a5, a6, -⟩ := L.spec
    cases hfc.symm.trans a1
    cases z1.symm.trans a2
    exact ⟨_, cf, kf, i1, f, G, a3, a4, by simp, rfl, a5, by rw [hv, up_default]; simp [ei, a6, (State.fieldFound?_type a3 ht).2]⟩
  · have : T.heap.size = n + N := by rw [hH.1, hN]
    rw [this]; exact h
theorem W.newarray {aty : ArrayType} {N cnt cap : Nat} {z : Int32} (hd : D M pc (.newarray aty) 2 pc') (w : (Cond.arrayClass (newarray.typeOf aty)).before a0 Z = true) (hz : ¬ z < 0 ∧ z.toNatClampNeg = cnt) (hN : H.length = N) (hcap : cnt ≤ cap) (hb8 : cap * 8 ≤ 536870912) (hc : ce + 1 ≤ M.2.2.2.2.cells) (hl : sl + cap ≤ M.2.2.2.2.slots)
    (kk : WB b l Z n M pc' ls (.ref N :: st) (H ++ [.inr (newarray.typeOf aty, List.replicate cnt (defaultValue (newarray.typeOf aty)))]) (ce + 1) (sl + cap) Q) : WB b l Z n M pc ls (.int z :: st) H ce sl Q := by
  obtain ⟨hd, rfl⟩ := hd
  obtain ⟨hz0, rfl⟩ := hz
  refine W.step (fun p e s m args below meth c Cx T locs X hH hF => ?_) kk
  have hcb : componentBytes (newarray.typeOf aty) ≤ 8 := by cases aty <;> decide
  obtain ⟨cA, kA, comp, h1, h2, h3, X', stp⟩ := X.newarrayPrim Cx.1 (mvA Cx.2.1 w) (g := mkF m pc (loc n ls) (stk n (.int z :: st))) rfl (hb Cx.2.2.2.1 hd) rfl hz0 (Nat.le_trans (Nat.mul_le_mul hcap hcb) hb8) hc (Nat.le_trans (Nat.add_le_add_left hcap _) hl)
  obtain ⟨E, S, G⟩ := ext_push T.heap { cls := cA, slots := Array.replicate z.toNatClampNeg (defaultValue (newarray.typeOf aty)), vm := .none }
  have hfc := h1
  rw [Cx.2.1.alike.findClass] at hfc
  obtain ⟨kZ, z1, -⟩ := Vm.findClass_spec hfc
  obtain ⟨k', z2, z3⟩ := Cx.2.1.alike.2.2 _ _ z1
  cases h2.symm.trans z2
  refine ⟨_, locs, X'.more (Nat.le_refl _) (Nat.add_le_add_left hcap _), hH.push E S ⟨_, ⟨G, ⟨by simp, kZ, z1, comp, by rw [← h3, z3]⟩, by simp⟩, ?_⟩, hF, fun target h => stp target ?_⟩
  · simp [up_default]
  · have : T.heap.size = n + N := by rw [hH.1, hN]
    rw [this]; exact h
/-! returns -/
theorem W.fin {v : Option Value} (hv : M.2.2.2.1 = none → v = none) (hc : ce ≤ M.2.2.2.2.cells) (hl : sl ≤ M.2.2.2.2.slots)
    (go : ∀ (p : Program) (e : Env) (s : State) (m : MethodId) (args : Array Value) (below : List Frame) (meth : Method) (c : Code), Ctx Z M p s m meth c → ∀ (T : State) (locs : List Loc), Stand p l e M.2.2.2.2 s m args below meth c T locs ce sl →
      ∀ fs : List Frame, (∀ (f : JFrame) (acts : List Action), f.method = m → f.locked = none → f.entered = [] → (doReturn e (T.setTop f) acts (v.map (up n))).1 = T.setFrames fs) → Steps p.tables e below (T.setTop (mkF m pc (loc n ls) (stk n st))) (T.setFrames fs))
    (q : Q v H) : WB b l Z n M pc ls st H ce sl Q := fun p e s m args below meth c C T locs X hH hF => by
  obtain ⟨fs, hr, hrun, hended, hW, hsame⟩ := X.leave (v := v.map (up n)) (fun h => by rw [hv (C.2.2.2.2.2.1.symm.trans h)]; rfl) C.2.2.2.2.2.2.1
  exact ⟨_, v, locs, H, go p e s m args below meth c C T locs X fs hr, hrun, hended, q, hH, hF, EndR.of ⟨⟨_, rfl⟩, hW, hsame.mono hc hl⟩⟩
theorem W.leave (hd : D M pc .return_ 1 pc') (hr : M.2.2.2.1 = none) (hc : ce ≤ M.2.2.2.2.cells) (hl : sl ≤ M.2.2.2.2.slots) (q : Q none H) : WB b l Z n M pc ls [] H ce sl Q :=
  W.fin (v := none) (fun _ => rfl) hc hl (fun p e s m args below meth c C T locs X fs h => X.returnOut C.1 (C.2.2.2.2.2.1.trans hr) (hb C.2.2.2.1 hd.1) h) q
theorem W.ireturn {x : Int32} (hd : D M pc .ireturn 1 pc') (hr : M.2.2.2.1 = some .int) (hc : ce ≤ M.2.2.2.2.cells) (hl : sl ≤ M.2.2.2.2.slots) (q : Q (some (.int x)) H) : WB b l Z n M pc ls (.int x :: st) H ce sl Q :=
  W.fin (v := some (.int x)) (fun h => by rw [hr] at h; cases h) hc hl (fun p e s m args below meth c C T locs X fs h => retOut X C.1 (t := .int) (w := .int x) (i := .ireturn) (C.2.2.2.2.2.1.trans hr) rfl (Or.inl ⟨rfl, Or.inl rfl, _, rfl⟩) (hb C.2.2.2.1 hd.1) h) q
theorem W.lreturn {x : Int64} (hd : D M pc .lreturn 1 pc') (hr : M.2.2.2.1 = some .long) (hc : ce ≤ M.2.2.2.2.cells) (hl : sl ≤ M.2.2.2.2.slots) (q : Q (some (.long x)) H) : WB b l Z n M pc ls (.long x :: st) H ce sl Q :=
  W.fin (v := some (.long x)) (fun h => by rw [hr] at h; cases h) hc hl (fun p e s m args below meth c C T locs X fs h => retOut X C.1 (t := .long) (w := .long x) (i := .lreturn) (C.2.2.2.2.2.1.trans hr) rfl (Or.inr (Or.inl ⟨rfl, rfl, _, rfl⟩)) (hb C.2.2.2.1 hd.1) h) q
/-- a boolean, byte, char or short: what is left of the int -/
theorem W.nreturn {x : Int32} (t : FieldType) (hd : D M pc .ireturn 1 pc') (hr : M.2.2.2.1 = some t) (ht : t = .boolean ∨ t = .byte ∨ t = .char ∨ t = .short) (hc : ce ≤ M.2.2.2.2.cells) (hl : sl ≤ M.2.2.2.2.slots) (q : Q (some (.int (nar t x))) H) : WB b l Z n M pc ls (.int x :: st) H ce sl Q :=
  W.fin (v := some (.int (nar t x))) (fun h => by rw [hr] at h; cases h) hc hl (fun p e s m args below meth c C T locs X fs h => retN X C.1 (C.2.2.2.2.2.1.trans hr) ht (hb C.2.2.2.1 hd.1) h) q
theorem W.areturn {v : Value} {t : FieldType} (hd : D M pc .areturn 1 pc') (hr : M.2.2.2.1 = some t) (ht : t.isReference = true) (hv : rfn v = true) (hc : ce ≤ M.2.2.2.2.cells) (hl : sl ≤ M.2.2.2.2.slots) (q : Q (some v) H) : WB b l Z n M pc ls (v :: st) H ce sl Q :=
  W.fin (v := some v) (fun h => by rw [hr] at h; cases h) hc hl (fun p e s m args below meth c C T locs X fs h => retOut X C.1 (t := t) (w := up n v) (i := .areturn) (C.2.2.2.2.2.1.trans hr) (by cases v <;> simp [rfn] at hv <;> cases t <;> simp_all [FieldType.isReference, narrow, up]) (Or.inr (Or.inr (Or.inr (Or.inr ⟨rfl, ht, up_rfn n hv⟩)))) (hb C.2.2.2.1 hd.1) h) q
/-! calls -/
def entryL (as : List Value) (k : Nat) : List Slot := Jvm.Sym.laidSlots as ++ List.replicate (k - (Jvm.Sym.laidSlots as).length) .unset
theorem laid_up (n : Nat) : ∀ as : List Value, Jvm.Sym.laidSlots (as.map (up n)) = (Jvm.Sym.laidSlots as).map (upS n)
  | [] => rfl
  | v :: as => by
    have ih := laid_up n as
    simp only [List.map_cons, Jvm.Sym.laidSlots, up_cat]
    split <;> simp [ih, upS]
theorem entry_up (n : Nat) (as : List Value) (k : Nat) (m : MethodId) : entryFrame m (as.map (up n)).toArray k = mkF m 0 (loc n (entryL as k)) [] := by
  have : argsToLocals (as.map (up n)).toArray k = loc n (entryL as k) := Array.toList_inj.mp (by
    rw [Jvm.Sym.argsToLocals_toList]
    simp [entryL, laid_up, loc, upS])
  unfold entryFrame
  rw [this]
theorem W.met {as : List Value} (hW : WB b l Z n M 0 (entryL as M.2.2.1) [] H 0 0 Q) (pn : plainName M.1.cls = true) {h : Heap} (hH : HR Z n h H) (ws : List Jvm.Cond) :
    MetFree l M.1 (head1 (Cond.code M.1 M.2.1 M.2.2.1 M.2.2.2.1 :: ws) M.2.2.2.2) (fun a U => a = (as.map (up n)).toArray ∧ Z.Warmed39 U.vm ∧ U.heap = h) (fun _ _ _ _ _ => True)
      (fun _ U o U' => ∃ v L, o = .returned v ∧ (∃ v0 H', v = v0.map (up n) ∧ Q v0 H' ∧ HR Z n U'.heap H' ∧ Fr n L) ∧ EndR b U o U' L M.2.2.2.2.cells M.2.2.2.2.slots) := by
  refine MetFree.of_bodySF (plainFor_of_name pn) hisR ?_
  intro p e s m args below meth c s₁ Bd hml hP hK
  obtain ⟨rfl, hZ, hh⟩ := hP
  have X0 : Stand p l e M.2.2.2.2 s m _ below meth c s₁ [] 0 0 := Stand.of_body Bd
  have e0 : s₁.heap = h := by rw [← hh, Bd.state]; rfl
  obtain ⟨s₂, v, L, H', h1, h2, h3, h4, h5, h6, h7⟩ := hW p e s m _ below meth c ⟨Bd.exec, hZ, findClass_of_methodNamed Bd.named, Bd.bytes, hml, Bd.returns, Bd.notSynchronized, (name_of_methodNamed Bd.named Bd.method).1⟩ s₁ [] X0 (e0 ▸ hH) (Fr.nil n)
  exact ⟨s₂, _, castTop (entry_up n as _ m) h1, h2, h3, _, L, rfl, ⟨v, H', rfl, h4, h5, h6⟩, h7⟩
def RetQ (Z : State) (n : Nat) (Q : Option Value → AHeap → Prop) (v : Option Value) (h2 : Heap) (L : List Loc) : Prop := ∃ v0 H', v = v0.map (up n) ∧ Q v0 H' ∧ HR Z n h2 H' ∧ Fr n L
theorem W.metF {as : List Value} (hW : W l Z n M 0 (entryL as M.2.2.1) [] H 0 0 Q) (pn : plainName M.1.cls = true) {h : Heap} (hH : HR Z n h H) (ws : List Jvm.Cond) :
    MetFree l M.1 (head1 (Cond.code M.1 M.2.1 M.2.2.1 M.2.2.2.1 :: ws) M.2.2.2.2) (fun a U => a = (as.map (up n)).toArray ∧ Z.Warmed39 U.vm ∧ U.heap = h) (fun _ _ _ _ _ => True)
      (fun _ U o U' => ∃ v L, o = .returned v ∧ RetQ Z n Q v U'.heap L ∧ FrameEnd U o U' L M.2.2.2.2.cells M.2.2.2.2.slots) := W.met hW pn hH ws
/-- what every call asks of the callee's own words -/
def OkM (a0 : Array Value) (Z : State) (M : Meth) (k : Nat) : Prop :=
  (Cond.code M.1 M.2.1 M.2.2.1 M.2.2.2.1).before a0 Z = true ∧ (Cond.initialized M.1.cls).before a0 Z = true ∧ plainName M.1.cls = true ∧ (M.1.cls ≠ "java/lang/invoke/MethodHandle" ∧ M.1.cls ≠ "java/lang/invoke/VarHandle") ∧ ∀ sig, parseMethodDescriptor M.1.desc = some sig → k = sig.parameters.length
theorem arity {d : String} {ps : List FieldType} {r : Option FieldType} {k : Nat} (hd : parseMethodDescriptor d = some ⟨ps, r⟩) (hl : k = ps.length) : ∀ sig, parseMethodDescriptor d = some sig → k = sig.parameters.length := fun sig h => by
  cases hd.symm.trans h; exact hl
def wt (st : List Value) : Nat := (st.map fun v => v.category).sum
theorem wt_up (n : Nat) : ∀ st : List Value, ((stk n st).map fun v => v.category).sum = wt st
  | [] => rfl
  | v :: st => by
    have ih := wt_up n st
    simp only [stk, wt, List.map_cons, List.sum_cons, up_cat] at ih ⊢
    rw [ih]
/-- the callee's frames, words, cells and slots fit -/
def fitsRoom (M M' : Meth) (rest : List Value) (ce sl : Nat) : Bool :=
  decide (M'.2.2.2.2.frames + 1 ≤ M.2.2.2.2.frames) && decide (wt rest + (M'.2.2.1 + 11) + M'.2.2.2.2.locals ≤ M.2.2.2.2.locals) && decide (ce + M'.2.2.2.2.cells ≤ M.2.2.2.2.cells) && decide (sl + M'.2.2.2.2.slots ≤ M.2.2.2.2.slots)
theorem fits_ {M M' : Meth} {rest : List Value} {ce sl : Nat} (h : fitsRoom M M' rest ce sl = true) : M'.2.2.2.2.frames + 1 ≤ M.2.2.2.2.frames ∧ wt rest + (M'.2.2.1 + 11) + M'.2.2.2.2.locals ≤ M.2.2.2.2.locals ∧ ce + M'.2.2.2.2.cells ≤ M.2.2.2.2.cells ∧ sl + M'.2.2.2.2.slots ≤ M.2.2.2.2.slots := by
  simp only [fitsRoom, Bool.and_eq_true, decide_eq_true_eq] at h
  exact ⟨h.1.1.1, h.1.1.2, h.1.2, h.2⟩
theorem size_loc (n : Nat) (ls : List Slot) : (loc n ls).size = ls.length := by simp [loc]
theorem W.calls {M' : Meth} {i : Nat} {as rest : List Value} {Qc : Option Value → AHeap → Prop} (hd : D M pc (.invokestatic i) 3 pc') (w : (Cond.methodLink M.1.cls i M'.1).before a0 Z = true) (ws : (Cond.static M'.1).before a0 Z = true) (K : OkM a0 Z M' as.length) (hs : st = as.reverse ++ rest) (hz : ls.length = M.2.2.1) (hf : fitsRoom M M' rest ce sl = true)
    (hM : W l Z n M' 0 (entryL as M'.2.2.1) [] H 0 0 Qc) (kk : ∀ v H', Qc v H' → WB b l Z n M pc' ls (v.toList ++ rest) H' (ce + M'.2.2.2.2.cells) (sl + M'.2.2.2.2.slots) Q) : WB b l Z n M pc ls st H ce sl Q := by
  obtain ⟨hd, rfl⟩ := hd
  subst hs
  intro p e s m args below meth c C T locs X hH hF
  obtain ⟨f1, f2, f3, f4⟩ := fits_ hf
  obtain ⟨_, _, ⟨T', L', c', s'⟩, -, X', ⟨Lc, ⟨v0, H', hv, q1, q2, q3⟩, l1, l2, l3⟩, stp⟩ := Jvm.LawKit.callS X C.1 (y := M'.1) C.2.2.1 (mvT C.2.1 w) (mvT C.2.1 ws) (mvT C.2.1 K.2.1) (mvT C.2.1 K.1) K.2.2.2.1 (backOf (Q := RetQ Z n Qc) (W := wt rest) (W.metF hM K.2.2.1 hH []) C.2.1 K.1 K.2.1 f1 f2) (g := mkF m pc (loc n ls) (stk n (as.reverse ++ rest))) rfl
    ((size_loc n ls).trans (hz.trans C.2.2.2.2.1.symm)) (argsL := as.map (up n)) (rest := stk n rest) (fun sig h => by rw [List.length_map]; exact K.2.2.2.2 sig h) (by simp [stk, List.map_append, List.map_reverse]) (by rw [wt_up]; exact Nat.le_of_eq (Nat.zero_add _)) (hb C.2.2.2.1 hd) (fun _ _ => ⟨rfl, rfl, f3, f4⟩)
  dsimp only [Pt.U, Pt.locs, Pt.cells, Pt.slots] at X' l1 l2 l3 stp q2
  subst l1 l2 l3 hv
  obtain ⟨s₂, v, L, H'', g1, g2⟩ := kk v0 H' q1 p e s m args below meth c C T' _ X' q2 (Fr.app hF q3)
  refine ⟨s₂, v, L, H'', stp _ ?_, g2⟩
  have : stk n (v0.toList ++ rest) = (v0.map (up n)).toList ++ stk n rest := by cases v0 <;> simp [stk]
  rw [this] at g1; exact g1
theorem W.callv {M' : Meth} {i k : Nat} {C : String} {fs : List (Key × Value)} {as rest : List Value} {Qc : Option Value → AHeap → Prop} (hd : D M pc (.invokevirtual i) 3 pc') (w : (Cond.methodLink M.1.cls i M'.1).before a0 Z = true) (wd : (Cond.declares M'.1).before a0 Z = true) (wi : (Cond.instanceMethod M'.1).before a0 Z = true) (wsel : (Cond.selects C M'.1 M'.1).before a0 Z = true) (K : OkM a0 Z M' as.length) (hk : H[k]? = some (.inl (C, fs))) (hs : st = as.reverse ++ .ref k :: rest) (hz : ls.length = M.2.2.1) (hf : fitsRoom M M' rest ce sl = true)
    (hM : W l Z n M' 0 (entryL (.ref k :: as) M'.2.2.1) [] H 0 0 Qc) (kk : ∀ v H', Qc v H' → WB b l Z n M pc' ls (v.toList ++ rest) H' (ce + M'.2.2.2.2.cells) (sl + M'.2.2.2.2.slots) Q) : WB b l Z n M pc ls st H ce sl Q := by
  obtain ⟨hd, rfl⟩ := hd
  subst hs
  intro p e s m args below meth c Cx T locs X hH hF
  obtain ⟨f1, f2, f3, f4⟩ := fits_ hf
  obtain ⟨cq, kq, qa, qb, qc⟩ := isOf (T := T) Cx.2.1 rfl (hH.2 k _ hk rfl).1
  obtain ⟨_, _, ⟨T', L', c', s'⟩, -, X', ⟨Lc, ⟨v0, H', hv, q1, q2, q3⟩, l1, l2, l3⟩, stp⟩ := X.virtualBack Cx.1 (y := M'.1) (z := M'.1) Cx.2.2.1 (mvT Cx.2.1 w) (mvT Cx.2.1 wd) (notFace_of_selects (args := #[]) (mvT Cx.2.1 wsel)) (mvT Cx.2.1 wsel) (mvT Cx.2.1 wi) K.2.2.2.1 (backOf (Q := RetQ Z n Qc) (W := wt rest) (W.metF hM K.2.2.1 hH []) Cx.2.1 K.1 K.2.1 f1 f2) qa qc (g := mkF m pc (loc n ls) (stk n (as.reverse ++ .ref k :: rest))) rfl
    ((size_loc n ls).trans (hz.trans Cx.2.2.2.2.1.symm)) (Steps.refl _) (argsL := as.map (up n)) (rest := stk n rest) (fun sig h => by rw [List.length_map]; exact K.2.2.2.2 sig h) (by simp [stk, List.map_append, List.map_reverse, up]) (by rw [wt_up]; exact Nat.le_of_eq (Nat.zero_add _)) (hb Cx.2.2.2.1 hd) (fun _ _ => ⟨rfl, rfl, f3, f4⟩)
  dsimp only [Pt.U, Pt.locs, Pt.cells, Pt.slots] at X' l1 l2 l3 stp q2
  subst l1 l2 l3 hv
  obtain ⟨s₂, v, L, H'', g1, g2⟩ := kk v0 H' q1 p e s m args below meth c Cx T' _ X' q2 (Fr.app hF q3)
  refine ⟨s₂, v, L, H'', stp.trans ?_, g2⟩
  have : stk n (v0.toList ++ rest) = (v0.map (up n)).toList ++ stk n rest := by cases v0 <;> simp [stk]
  rw [this] at g1; exact g1
theorem W.callp {M' : Meth} {i k kk0 : Nat} {fs : List (Key × Value)} {as rest : List Value} {Qc : Option Value → AHeap → Prop} (hd : D M pc (.invokevirtual i) 3 pc') (w : (Cond.methodLink M.1.cls i M'.1).before a0 Z = true) (wi : (Cond.instanceMethod M'.1).before a0 Z = true) (wp : (Cond.privateMethod M'.1).before a0 Z = true) (wk : (Cond.instantiable M'.1.cls kk0).before a0 Z = true) (K : OkM a0 Z M' as.length) (hk : H[k]? = some (.inl (M'.1.cls, fs))) (hs : st = as.reverse ++ .ref k :: rest) (hz : ls.length = M.2.2.1) (hf : fitsRoom M M' rest ce sl = true)
    (hM : W l Z n M' 0 (entryL (.ref k :: as) M'.2.2.1) [] H 0 0 Qc) (kk : ∀ v H', Qc v H' → WB b l Z n M pc' ls (v.toList ++ rest) H' (ce + M'.2.2.2.2.cells) (sl + M'.2.2.2.2.slots) Q) : WB b l Z n M pc ls st H ce sl Q := by
  obtain ⟨hd, rfl⟩ := hd
  subst hs
  intro p e s m args below meth c Cx T locs X hH hF
  obtain ⟨f1, f2, f3, f4⟩ := fits_ hf
  obtain ⟨cell, hc1, hc2⟩ := (hH.2 k _ hk rfl).1.cell
  have hpriv : s.PrivateAt M'.1 := Cond.privateMethod_at (mvP Cx.2.1 wp (args := #[]))
  obtain ⟨c2, k2, i1, i2, i3, i4, -⟩ := Cond.instantiable_spec (mvT (args := args) Cx.2.1 wk)
  have hni : k2.isInterface = false := by simp only [Bool.or_eq_false_iff] at i4; exact i4.1
  have hsel : (Cond.selects M'.1.cls M'.1 M'.1).before args s = true := selects_self_of_private i1 i2 hni hpriv (mvT Cx.2.1 wi) K.2.2.2.1
  obtain ⟨_, _, ⟨T', L', c', s'⟩, -, X', ⟨Lc, ⟨v0, H', hv, q1, q2, q3⟩, l1, l2, l3⟩, stp⟩ := X.privateBack Cx.1 (y := M'.1) Cx.2.2.1 (mvT Cx.2.1 w) (mvT Cx.2.1 wi) hsel hpriv (mvT Cx.2.1 K.1) K.2.2.2.1 (backOf (Q := RetQ Z n Qc) (W := wt rest) (W.metF hM K.2.2.1 hH []) Cx.2.1 K.1 K.2.1 f1 f2) (g := mkF m pc (loc n ls) (stk n (as.reverse ++ .ref k :: rest))) rfl
    ((size_loc n ls).trans (hz.trans Cx.2.2.2.2.1.symm)) (Steps.refl _) (a := n + k) hc1 hc2 (argsL := as.map (up n)) (rest := stk n rest) (fun sig h => by rw [List.length_map]; exact K.2.2.2.2 sig h) (by simp [stk, List.map_append, List.map_reverse, up]) (by rw [wt_up]; exact Nat.le_of_eq (Nat.zero_add _)) (hb Cx.2.2.2.1 hd) (fun _ _ => ⟨rfl, rfl, f3, f4⟩)
  dsimp only [Pt.U, Pt.locs, Pt.cells, Pt.slots] at X' l1 l2 l3 stp q2
  subst l1 l2 l3 hv
  obtain ⟨s₂, v, L, H'', g1, g2⟩ := kk v0 H' q1 p e s m args below meth c Cx T' _ X' q2 (Fr.app hF q3)
  refine ⟨s₂, v, L, H'', stp.trans ?_, g2⟩
  have : stk n (v0.toList ++ rest) = (v0.map (up n)).toList ++ stk n rest := by cases v0 <;> simp [stk]
  rw [this] at g1; exact g1
theorem W.init {M' : Meth} {i k : Nat} {as rest : List Value} {Qc : Option Value → AHeap → Prop} (hd : D M pc (.invokespecial i) 3 pc') (hnm : M'.1.name = "<init>") (hrt : M'.2.2.2.1 = none) (w : (Cond.methodLink M.1.cls i M'.1).before a0 Z = true) (wi : (Cond.instanceMethod M'.1).before a0 Z = true) (K : OkM a0 Z M' as.length) (hs : st = as.reverse ++ .ref k :: rest) (hz : ls.length = M.2.2.1) (hf : fitsRoom M M' rest ce sl = true)
    (hM : W l Z n M' 0 (entryL (.ref k :: as) M'.2.2.1) [] H 0 0 Qc) (kk : ∀ v H', Qc v H' → WB b l Z n M pc' ls (v.toList ++ rest) H' (ce + M'.2.2.2.2.cells) (sl + M'.2.2.2.2.slots) Q) : WB b l Z n M pc ls st H ce sl Q := by
  obtain ⟨hd, rfl⟩ := hd
  subst hs
  intro p e s m args below meth c Cx T locs X hH hF
  obtain ⟨f1, f2, f3, f4⟩ := fits_ hf
  have wc := K.1
  rw [hrt] at wc
  obtain ⟨_, _, ⟨T', L', c', s'⟩, -, X', ⟨Lc, ⟨v0, H', hv, q1, q2, q3⟩, l1, l2, l3⟩, stp⟩ := X.specialBack Cx.1 (y := M'.1) hnm Cx.2.2.1 (mvT Cx.2.1 w) (mvT Cx.2.1 wi) (mvT Cx.2.1 wc) K.2.2.2.1 (backOf (Q := RetQ Z n Qc) (W := wt rest) (W.metF hM K.2.2.1 hH []) Cx.2.1 K.1 K.2.1 f1 f2) (g := mkF m pc (loc n ls) (stk n (as.reverse ++ .ref k :: rest))) rfl
    ((size_loc n ls).trans (hz.trans Cx.2.2.2.2.1.symm)) (Steps.refl _) (a := n + k) (argsL := as.map (up n)) (rest := stk n rest) (fun sig h => by rw [List.length_map]; exact K.2.2.2.2 sig h) (by simp [stk, List.map_append, List.map_reverse, up]) (by rw [wt_up]; exact Nat.le_of_eq (Nat.zero_add _)) (hb Cx.2.2.2.1 hd) (fun _ _ => ⟨rfl, rfl, f3, f4⟩)
  dsimp only [Pt.U, Pt.locs, Pt.cells, Pt.slots] at X' l1 l2 l3 stp q2
  subst l1 l2 l3 hv
  obtain ⟨s₂, v, L, H'', g1, g2⟩ := kk v0 H' q1 p e s m args below meth c Cx T' _ X' q2 (Fr.app hF q3)
  refine ⟨s₂, v, L, H'', stp.trans ?_, g2⟩
  have : stk n (v0.toList ++ rest) = (v0.map (up n)).toList ++ stk n rest := by cases v0 <;> simp [stk]
  rw [this] at g1; exact g1
theorem W.initO {i k : Nat} {rest : List Value} (hd : D M pc (.invokespecial i) 3 pc') (w1 : (Cond.methodLink M.1.cls i Lib.objectInit).before a0 Z = true) (w2 : (Cond.instanceMethod Lib.objectInit).before a0 Z = true) (w3 : (Cond.code Lib.objectInit ⟨#[0xb1]⟩ 1 none).before a0 Z = true) (hz : ls.length = M.2.2.1) (hf : decide (1 ≤ M.2.2.2.2.frames) && decide (wt rest + 12 ≤ M.2.2.2.2.locals) = true)
    (kk : WB b l Z n M pc' ls rest H ce sl Q) : WB b l Z n M pc ls (.ref k :: rest) H ce sl Q := by
  obtain ⟨hd, rfl⟩ := hd
  simp only [Bool.and_eq_true, decide_eq_true_eq] at hf
  refine W.step (fun p e s m args below meth c Cx T locs X hH hF => ?_) kk
  obtain ⟨T', X', e', stp⟩ := RoadKit.initO X Cx.1 Cx.2.1 Cx.2.2.1 w1 w2 w3 rfl (g := mkF m pc (loc n ls) (stk n (.ref k :: rest))) rfl ((size_loc n ls).trans (hz.trans Cx.2.2.2.2.1.symm)) rfl (hb Cx.2.2.2.1 hd) hf.1 (W := wt rest) (by rw [wt_up]; exact Nat.le_of_eq (Nat.zero_add _)) hf.2
  exact ⟨T', locs, X', e' ▸ hH, hF, stp⟩
/-- from W of the whole method to the run's end, over the heap at the start -/
theorem W.start {as : List Value} (hW : WB b l Z Z.heap.size M 0 (entryL as M.2.2.1) [] [] 0 0 Q) (pn : plainName M.1.cls = true) (ws : List Jvm.Cond) :
    MetFree l M.1 (head1 (Cond.code M.1 M.2.1 M.2.2.1 M.2.2.2.1 :: ws) M.2.2.2.2) (fun a U => a = (as.map (up Z.heap.size)).toArray ∧ Z.Warmed39 U.vm ∧ U.heap = Z.heap) (fun _ _ _ _ _ => True)
      (fun _ U o U' => ∃ v L, o = .returned v ∧ (∃ v0 H', v = v0.map (up Z.heap.size) ∧ Q v0 H' ∧ HR Z Z.heap.size U'.heap H' ∧ Fr Z.heap.size L) ∧ EndR b U o U' L M.2.2.2.2.cells M.2.2.2.2.slots) :=
  W.met hW pn ⟨rfl, fun k o h _ => by cases h⟩ ws

/-- what it returns, and the heap it leaves -/
def Is (v : Option Value) (H1 : AHeap) : Option Value → AHeap → Prop := fun v' H' => v' = v ∧ H' = H1
theorem W.callsV {M' : Meth} {i : Nat} {as rest : List Value} {u : Value} {H1 : AHeap} (hd : D M pc (.invokestatic i) 3 pc') (w : (Cond.methodLink M.1.cls i M'.1).before a0 Z = true) (ws : (Cond.static M'.1).before a0 Z = true) (hM : W l Z n M' 0 (entryL as M'.2.2.1) [] H 0 0 (Is (some u) H1)) (K : OkM a0 Z M' as.length) (hs : st = as.reverse ++ rest) (hz : ls.length = M.2.2.1) (hf : fitsRoom M M' rest ce sl = true)
    (kk : WB b l Z n M pc' ls (u :: rest) H1 (ce + M'.2.2.2.2.cells) (sl + M'.2.2.2.2.slots) Q) : WB b l Z n M pc ls st H ce sl Q := W.calls hd w ws K hs hz hf hM fun v H' q => by obtain ⟨rfl, rfl⟩ := q; exact kk
theorem W.callsN {M' : Meth} {i : Nat} {as rest : List Value} {H1 : AHeap} (hd : D M pc (.invokestatic i) 3 pc') (w : (Cond.methodLink M.1.cls i M'.1).before a0 Z = true) (ws : (Cond.static M'.1).before a0 Z = true) (hM : W l Z n M' 0 (entryL as M'.2.2.1) [] H 0 0 (Is none H1)) (K : OkM a0 Z M' as.length) (hs : st = as.reverse ++ rest) (hz : ls.length = M.2.2.1) (hf : fitsRoom M M' rest ce sl = true)
    (kk : WB b l Z n M pc' ls rest H1 (ce + M'.2.2.2.2.cells) (sl + M'.2.2.2.2.slots) Q) : WB b l Z n M pc ls st H ce sl Q := W.calls hd w ws K hs hz hf hM fun v H' q => by obtain ⟨rfl, rfl⟩ := q; exact kk
theorem W.callvV {M' : Meth} {i k : Nat} {C : String} {fs : List (Key × Value)} {as rest : List Value} {u : Value} {H1 : AHeap} (hd : D M pc (.invokevirtual i) 3 pc') (w : (Cond.methodLink M.1.cls i M'.1).before a0 Z = true) (wd : (Cond.declares M'.1).before a0 Z = true) (wi : (Cond.instanceMethod M'.1).before a0 Z = true) (wsel : (Cond.selects C M'.1 M'.1).before a0 Z = true) (hM : W l Z n M' 0 (entryL (.ref k :: as) M'.2.2.1) [] H 0 0 (Is (some u) H1)) (K : OkM a0 Z M' as.length) (hk : H[k]? = some (.inl (C, fs))) (hs : st = as.reverse ++ .ref k :: rest) (hz : ls.length = M.2.2.1) (hf : fitsRoom M M' rest ce sl = true)
    (kk : WB b l Z n M pc' ls (u :: rest) H1 (ce + M'.2.2.2.2.cells) (sl + M'.2.2.2.2.slots) Q) : WB b l Z n M pc ls st H ce sl Q := W.callv hd w wd wi wsel K hk hs hz hf hM fun v H' q => by obtain ⟨rfl, rfl⟩ := q; exact kk
theorem W.callvN {M' : Meth} {i k : Nat} {C : String} {fs : List (Key × Value)} {as rest : List Value} {H1 : AHeap} (hd : D M pc (.invokevirtual i) 3 pc') (w : (Cond.methodLink M.1.cls i M'.1).before a0 Z = true) (wd : (Cond.declares M'.1).before a0 Z = true) (wi : (Cond.instanceMethod M'.1).before a0 Z = true) (wsel : (Cond.selects C M'.1 M'.1).before a0 Z = true) (hM : W l Z n M' 0 (entryL (.ref k :: as) M'.2.2.1) [] H 0 0 (Is none H1)) (K : OkM a0 Z M' as.length) (hk : H[k]? = some (.inl (C, fs))) (hs : st = as.reverse ++ .ref k :: rest) (hz : ls.length = M.2.2.1) (hf : fitsRoom M M' rest ce sl = true)
    (kk : WB b l Z n M pc' ls rest H1 (ce + M'.2.2.2.2.cells) (sl + M'.2.2.2.2.slots) Q) : WB b l Z n M pc ls st H ce sl Q := W.callv hd w wd wi wsel K hk hs hz hf hM fun v H' q => by obtain ⟨rfl, rfl⟩ := q; exact kk
theorem W.callpV {M' : Meth} {i k kk0 : Nat} {fs : List (Key × Value)} {as rest : List Value} {u : Value} {H1 : AHeap} (hd : D M pc (.invokevirtual i) 3 pc') (w : (Cond.methodLink M.1.cls i M'.1).before a0 Z = true) (wi : (Cond.instanceMethod M'.1).before a0 Z = true) (wp : (Cond.privateMethod M'.1).before a0 Z = true) (wk : (Cond.instantiable M'.1.cls kk0).before a0 Z = true) (hM : W l Z n M' 0 (entryL (.ref k :: as) M'.2.2.1) [] H 0 0 (Is (some u) H1)) (K : OkM a0 Z M' as.length) (hk : H[k]? = some (.inl (M'.1.cls, fs))) (hs : st = as.reverse ++ .ref k :: rest) (hz : ls.length = M.2.2.1) (hf : fitsRoom M M' rest ce sl = true)
    (kk : WB b l Z n M pc' ls (u :: rest) H1 (ce + M'.2.2.2.2.cells) (sl + M'.2.2.2.2.slots) Q) : WB b l Z n M pc ls st H ce sl Q := W.callp hd w wi wp wk K hk hs hz hf hM fun v H' q => by obtain ⟨rfl, rfl⟩ := q; exact kk
theorem W.callpN {M' : Meth} {i k kk0 : Nat} {fs : List (Key × Value)} {as rest : List Value} {H1 : AHeap} (hd : D M pc (.invokevirtual i) 3 pc') (w : (Cond.methodLink M.1.cls i M'.1).before a0 Z = true) (wi : (Cond.instanceMethod M'.1).before a0 Z = true) (wp : (Cond.privateMethod M'.1).before a0 Z = true) (wk : (Cond.instantiable M'.1.cls kk0).before a0 Z = true) (hM : W l Z n M' 0 (entryL (.ref k :: as) M'.2.2.1) [] H 0 0 (Is none H1)) (K : OkM a0 Z M' as.length) (hk : H[k]? = some (.inl (M'.1.cls, fs))) (hs : st = as.reverse ++ .ref k :: rest) (hz : ls.length = M.2.2.1) (hf : fitsRoom M M' rest ce sl = true)
    (kk : WB b l Z n M pc' ls rest H1 (ce + M'.2.2.2.2.cells) (sl + M'.2.2.2.2.slots) Q) : WB b l Z n M pc ls st H ce sl Q := W.callp hd w wi wp wk K hk hs hz hf hM fun v H' q => by obtain ⟨rfl, rfl⟩ := q; exact kk
theorem W.initN {M' : Meth} {i k : Nat} {as rest : List Value} {H1 : AHeap} (hd : D M pc (.invokespecial i) 3 pc') (hnm : M'.1.name = "<init>") (hrt : M'.2.2.2.1 = none) (w : (Cond.methodLink M.1.cls i M'.1).before a0 Z = true) (wi : (Cond.instanceMethod M'.1).before a0 Z = true) (hM : W l Z n M' 0 (entryL (.ref k :: as) M'.2.2.1) [] H 0 0 (Is none H1)) (K : OkM a0 Z M' as.length) (hs : st = as.reverse ++ .ref k :: rest) (hz : ls.length = M.2.2.1) (hf : fitsRoom M M' rest ce sl = true)
    (kk : WB b l Z n M pc' ls rest H1 (ce + M'.2.2.2.2.cells) (sl + M'.2.2.2.2.slots) Q) : WB b l Z n M pc ls st H ce sl Q := W.init hd hnm hrt w wi K hs hz hf hM fun v H' q => by obtain ⟨rfl, rfl⟩ := q; exact kk
theorem W.callpX {M' : Meth} {i k kk0 : Nat} {fs : List (Key × Value)} {as rest : List Value} {P : Value → AHeap → Prop} (hd : D M pc (.invokevirtual i) 3 pc') (w : (Cond.methodLink M.1.cls i M'.1).before a0 Z = true) (wi : (Cond.instanceMethod M'.1).before a0 Z = true) (wp : (Cond.privateMethod M'.1).before a0 Z = true) (wk : (Cond.instantiable M'.1.cls kk0).before a0 Z = true) (hM : W l Z n M' 0 (entryL (.ref k :: as) M'.2.2.1) [] H 0 0 (fun v H' => ∃ u, v = some u ∧ P u H')) (K : OkM a0 Z M' as.length) (hk : H[k]? = some (.inl (M'.1.cls, fs))) (hs : st = as.reverse ++ .ref k :: rest) (hz : ls.length = M.2.2.1) (hf : fitsRoom M M' rest ce sl = true)
    (kk : ∀ u H', P u H' → WB b l Z n M pc' ls (u :: rest) H' (ce + M'.2.2.2.2.cells) (sl + M'.2.2.2.2.slots) Q) : WB b l Z n M pc ls st H ce sl Q := W.callp hd w wi wp wk K hk hs hz hf hM fun v H' q => by obtain ⟨u, rfl, q⟩ := q; exact kk u H' q
theorem W.callsX {M' : Meth} {i : Nat} {as rest : List Value} {P : Value → AHeap → Prop} (hd : D M pc (.invokestatic i) 3 pc') (w : (Cond.methodLink M.1.cls i M'.1).before a0 Z = true) (ws : (Cond.static M'.1).before a0 Z = true) (hM : W l Z n M' 0 (entryL as M'.2.2.1) [] H 0 0 (fun v H' => ∃ u, v = some u ∧ P u H')) (K : OkM a0 Z M' as.length) (hs : st = as.reverse ++ rest) (hz : ls.length = M.2.2.1) (hf : fitsRoom M M' rest ce sl = true)
    (kk : ∀ u H', P u H' → WB b l Z n M pc' ls (u :: rest) H' (ce + M'.2.2.2.2.cells) (sl + M'.2.2.2.2.slots) Q) : WB b l Z n M pc ls st H ce sl Q := W.calls hd w ws K hs hz hf hM fun v H' q => by obtain ⟨u, rfl, q⟩ := q; exact kk u H' q
theorem W.callsY {M' : Meth} {i : Nat} {as rest : List Value} {P : AHeap → Prop} (hd : D M pc (.invokestatic i) 3 pc') (w : (Cond.methodLink M.1.cls i M'.1).before a0 Z = true) (ws : (Cond.static M'.1).before a0 Z = true) (hM : W l Z n M' 0 (entryL as M'.2.2.1) [] H 0 0 (fun v H' => v = none ∧ P H')) (K : OkM a0 Z M' as.length) (hs : st = as.reverse ++ rest) (hz : ls.length = M.2.2.1) (hf : fitsRoom M M' rest ce sl = true)
    (kk : ∀ H', P H' → WB b l Z n M pc' ls rest H' (ce + M'.2.2.2.2.cells) (sl + M'.2.2.2.2.slots) Q) : WB b l Z n M pc ls st H ce sl Q := W.calls hd w ws K hs hz hf hM fun v H' q => by obtain ⟨rfl, q⟩ := q; exact kk H' q
theorem W.callvX {M' : Meth} {i k : Nat} {C : String} {fs : List (Key × Value)} {as rest : List Value} {P : Value → AHeap → Prop} (hd : D M pc (.invokevirtual i) 3 pc') (w : (Cond.methodLink M.1.cls i M'.1).before a0 Z = true) (wd : (Cond.declares M'.1).before a0 Z = true) (wi : (Cond.instanceMethod M'.1).before a0 Z = true) (wsel : (Cond.selects C M'.1 M'.1).before a0 Z = true) (hM : W l Z n M' 0 (entryL (.ref k :: as) M'.2.2.1) [] H 0 0 (fun v H' => ∃ u, v = some u ∧ P u H')) (K : OkM a0 Z M' as.length) (hk : H[k]? = some (.inl (C, fs))) (hs : st = as.reverse ++ .ref k :: rest) (hz : ls.length = M.2.2.1) (hf : fitsRoom M M' rest ce sl = true)
    (kk : ∀ u H', P u H' → WB b l Z n M pc' ls (u :: rest) H' (ce + M'.2.2.2.2.cells) (sl + M'.2.2.2.2.slots) Q) : WB b l Z n M pc ls st H ce sl Q := W.callv hd w wd wi wsel K hk hs hz hf hM fun v H' q => by obtain ⟨u, rfl, q⟩ := q; exact kk u H' q
theorem W.callvY {M' : Meth} {i k : Nat} {C : String} {fs : List (Key × Value)} {as rest : List Value} {P : AHeap → Prop} (hd : D M pc (.invokevirtual i) 3 pc') (w : (Cond.methodLink M.1.cls i M'.1).before a0 Z = true) (wd : (Cond.declares M'.1).before a0 Z = true) (wi : (Cond.instanceMethod M'.1).before a0 Z = true) (wsel : (Cond.selects C M'.1 M'.1).before a0 Z = true) (hM : W l Z n M' 0 (entryL (.ref k :: as) M'.2.2.1) [] H 0 0 (fun v H' => v = none ∧ P H')) (K : OkM a0 Z M' as.length) (hk : H[k]? = some (.inl (C, fs))) (hs : st = as.reverse ++ .ref k :: rest) (hz : ls.length = M.2.2.1) (hf : fitsRoom M M' rest ce sl = true)
    (kk : ∀ H', P H' → WB b l Z n M pc' ls rest H' (ce + M'.2.2.2.2.cells) (sl + M'.2.2.2.2.slots) Q) : WB b l Z n M pc ls st H ce sl Q := W.callv hd w wd wi wsel K hk hs hz hf hM fun v H' q => by obtain ⟨rfl, q⟩ := q; exact kk H' q
/-- ldc of a String: behind it the walk goes on over the tables that the constant left -/
theorem W.ldcStr {i nn : Nat} {text : String} (hd : D M pc (.ldc i) 2 pc') (w : (Cond.stringLink M.1.cls i text).before a0 Z = true) (wS : ∀ a ∈ Bundle.stringAtoms, a.before a0 Z = true) (hn : 4 * text.toList.length ≤ nn) (hbig : nn ≤ 536870912) (hc : ce + 2 ≤ M.2.2.2.2.cells) (hl : sl + (nn + 4) ≤ M.2.2.2.2.slots)
    (kk : ∀ (a : Addr) (d : Nat), WB false l Z n M pc' ls (.retAddr a :: st) (H ++ List.replicate d junk) (ce + 2) (sl + (nn + 4)) (fun v H' => Q v H' ∧ H.length + d ≤ H'.length)) : WB true l Z n M pc ls st H ce sl Q := by
  obtain ⟨hd, rfl⟩ := hd
  intro p e s m args below meth c C T locs X hH hF
  have X0 : Stand p l e M.2.2.2.2 (s.setVm s.vm) m args below meth c T locs ce sl := X
  obtain ⟨a, T', h', k1, X', e', E, hS', hk1, hZ', hown', stp⟩ := ldcS (Z := Z) (a0 := a0) X0 C.1 C.2.1 (own := M.1.cls) (text := text) (index := i) C.2.2.1 w wS rfl (k0 := 0) ((State.WarmedH.refl s).since 0) (Nat.zero_le _) (g := mkF m pc (loc n ls) (stk n st)) rfl (hb C.2.2.2.1 hd) hn hbig hc hl
  subst e'
  have hH' : HR Z n T'.heap (H ++ List.replicate (T'.heap.size - T.heap.size) junk) := by
    have h1 := E.1
    refine ⟨by rw [List.length_append, List.length_replicate]; have := hH.1; omega, fun k o hk hJ => ?_⟩
    rw [List.getElem?_append] at hk
    split at hk
    · exact (hH.2 k o hk hJ).ext E
    · have := List.eq_of_mem_replicate (List.mem_of_getElem? hk)
      rw [this] at hJ; cases hJ
  obtain ⟨s₂, v, L, H'', g1, g2, g3, ⟨g4, g4'⟩, g5, g6, g7⟩ := kk a (T'.heap.size - T.heap.size) p e (s.setVm T'.vm) m args below meth c ⟨C.1, hZ', hown', C.2.2.2⟩ T' locs X' hH' hF
  have hsz : k1 ≤ s₂.heap.size := by have h1 := E.1; have h2 := hH.1; have h3 := g5.1; omega
  obtain ⟨q1, q2, q3⟩ := hS'.ended (U := s₂) g7.2.1 hsz g7.2.2
  exact ⟨s₂, v, L, H'', stp _ g1, g2, g3, g4, g5, g6, g7.1, q1, q2, q3⟩
theorem nar_ref (n : Nat) {v : Value} {c : String} (h : v.isRef = true) : narrow (.object c) (up n v) = up n v := by
  cases v <;> first | rfl | (simp [Value.isRef] at h)
theorem fits_ref' (n : Nat) {v : Value} {c : String} (h : v.isRef = true) : fits (.object c) (up n v) = true := by
  cases v <;> first | rfl | (simp [Value.isRef] at h)
theorem rfn_of {v : Value} (h : v.isRef = true) : rfn v = true := by cases v <;> first | rfl | (simp [Value.isRef] at h)
end Rules
/-! bits of ints and longs -/
theorem bx32 {a b : Int32} (h : ∀ i, i < 32 → a.toBitVec.getLsbD i = b.toBitVec.getLsbD i) : a = b := Int32.toBitVec_inj.mp (BitVec.eq_of_getLsbD_eq h)
theorem bx64 {a b : Int64} (h : ∀ i, i < 64 → a.toBitVec.getLsbD i = b.toBitVec.getLsbD i) : a = b := Int64.toBitVec_inj.mp (BitVec.eq_of_getLsbD_eq h)
theorem sm32 : ∀ m : Fin 32, ((BitVec.ofNat 32 m.1).smod 32).toNat = m.1 := by decide
theorem sm64 : ∀ m : Fin 64, ((BitVec.ofNat 64 m.1).smod 64).toNat = m.1 := by decide
theorem amt32 {k : Int32} {m : Nat} (hk : k.toBitVec.toNat = m) (hm : m < 32) : (k.toBitVec.smod 32).toNat = m := by
  have : k.toBitVec = BitVec.ofNat 32 m := BitVec.eq_of_toNat_eq (by rw [hk, BitVec.toNat_ofNat]; omega)
  rw [this]; exact sm32 ⟨m, hm⟩
theorem amt64 {k : Int64} {m : Nat} (hk : k.toBitVec.toNat = m) (hm : m < 64) : (k.toBitVec.smod 64).toNat = m := by
  have : k.toBitVec = BitVec.ofNat 64 m := BitVec.eq_of_toNat_eq (by rw [hk, BitVec.toNat_ofNat]; omega)
  rw [this]; exact sm64 ⟨m, hm⟩
theorem shl_bit {x k : Int32} {m : Nat} (hk : k.toBitVec.toNat = m) (hm : m < 32) (i : Nat) : (x <<< k).toBitVec.getLsbD i = (decide (i < 32) && !decide (i < m) && x.toBitVec.getLsbD (i - m)) := by
  show (x.toBitVec <<< (k.toBitVec.smod 32)).getLsbD i = _
  rw [BitVec.shiftLeft_eq', amt32 hk hm, BitVec.getLsbD_shiftLeft]
theorem shlL_bit {x k : Int64} {m : Nat} (hk : k.toBitVec.toNat = m) (hm : m < 64) (i : Nat) : (x <<< k).toBitVec.getLsbD i = (decide (i < 64) && !decide (i < m) && x.toBitVec.getLsbD (i - m)) := by
  show (x.toBitVec <<< (k.toBitVec.smod 64)).getLsbD i = _
  rw [BitVec.shiftLeft_eq', amt64 hk hm, BitVec.getLsbD_shiftLeft]
theorem ushr_bit {v k : Int32} {m : Nat} (hk : (k &&& 31).toBitVec.toNat = m) (i : Nat) : (XT.ushr v k).toBitVec.getLsbD i = v.toBitVec.getLsbD (m + i) := by
  have hm : m < 32 := by
    subst hk
    have : (k &&& 31).toBitVec = k.toBitVec &&& 31#32 := rfl
    rw [this, BitVec.toNat_and]
    exact Nat.lt_of_le_of_lt Nat.and_le_right (by decide)
  show (v.toBitVec >>> ((k &&& 31).toBitVec % 32)).getLsbD i = _
  have h2 : ((k &&& 31).toBitVec % 32).toNat = m := by rw [BitVec.toNat_umod, hk]; exact Nat.mod_eq_of_lt hm
  rw [BitVec.ushiftRight_eq', h2, BitVec.getLsbD_ushiftRight]
theorem ushrL_bit {v : Int64} {k : Int32} {m : Nat} (hk : (k.toInt64 &&& 63).toBitVec.toNat = m) (i : Nat) : (XT.ushrL v k).toBitVec.getLsbD i = v.toBitVec.getLsbD (m + i) := by
  have hm : m < 64 := by
    subst hk
    have : (k.toInt64 &&& 63).toBitVec = k.toInt64.toBitVec &&& 63#64 := rfl
    rw [this, BitVec.toNat_and]
    exact Nat.lt_of_le_of_lt Nat.and_le_right (by decide)
  show (v.toBitVec >>> ((k.toInt64 &&& 63).toBitVec % 64)).getLsbD i = _
  have h2 : ((k.toInt64 &&& 63).toBitVec % 64).toNat = m := by rw [BitVec.toNat_umod, hk]; exact Nat.mod_eq_of_lt hm
  rw [BitVec.ushiftRight_eq', h2, BitVec.getLsbD_ushiftRight]
theorem byte_bit (x : Int32) (i : Nat) : (x.toInt8.toInt32).toBitVec.getLsbD i = (decide (i < 32) && x.toBitVec.getLsbD (if i < 8 then i else 7)) := by
  show ((x.toBitVec.signExtend 8).signExtend 32).getLsbD i = _
  rw [BitVec.getLsbD_signExtend, BitVec.msb_eq_getLsbD_last, BitVec.getLsbD_signExtend, BitVec.getLsbD_signExtend]
  by_cases h : i < 8
  · simp [h, show i < 32 by omega]
  · simp [h]
theorem and_bit (x y : Int32) (i : Nat) : (x &&& y).toBitVec.getLsbD i = (x.toBitVec.getLsbD i && y.toBitVec.getLsbD i) := BitVec.getLsbD_and
theorem or_bit (x y : Int32) (i : Nat) : (x ||| y).toBitVec.getLsbD i = (x.toBitVec.getLsbD i || y.toBitVec.getLsbD i) := BitVec.getLsbD_or
theorem andL_bit (x y : Int64) (i : Nat) : (x &&& y).toBitVec.getLsbD i = (x.toBitVec.getLsbD i && y.toBitVec.getLsbD i) := BitVec.getLsbD_and
theorem orL_bit (x y : Int64) (i : Nat) : (x ||| y).toBitVec.getLsbD i = (x.toBitVec.getLsbD i || y.toBitVec.getLsbD i) := BitVec.getLsbD_or
theorem i2l_bit (x : Int32) (i : Nat) : x.toInt64.toBitVec.getLsbD i = (decide (i < 64) && x.toBitVec.getLsbD (if i < 32 then i else 31)) := by
  show (x.toBitVec.signExtend 64).getLsbD i = _
  rw [BitVec.getLsbD_signExtend, BitVec.msb_eq_getLsbD_last]
  by_cases h : i < 32 <;> simp [h]
theorem l2i_bit (x : Int64) (i : Nat) : x.toInt32.toBitVec.getLsbD i = (decide (i < 32) && x.toBitVec.getLsbD i) := by
  show (x.toBitVec.signExtend 32).getLsbD i = _
  rw [BitVec.getLsbD_signExtend]
  by_cases h : i < 32
  · simp [h, show i < 64 by omega]
  · simp [h]
theorem lit_bit (m i : Nat) : (Int32.ofNat m).toBitVec.getLsbD i = (decide (i < 32) && m.testBit i) := by
  show (BitVec.ofNat 32 m).getLsbD i = _
  rw [BitVec.getLsbD_ofNat]
theorem litL_bit (m i : Nat) : (Int64.ofNat m).toBitVec.getLsbD i = (decide (i < 64) && m.testBit i) := by
  show (BitVec.ofNat 64 m).getLsbD i = _
  rw [BitVec.getLsbD_ofNat]
theorem m255 (i : Nat) : (255 : Int32).toBitVec.getLsbD i = decide (i < 8) := by
  have : (255 : Int32) = Int32.ofNat (2 ^ 8 - 1) := rfl
  rw [this, lit_bit, Nat.testBit_two_pow_sub_one]
  by_cases h : i < 8 <;> simp [h]; omega
theorem and_nat (x y : Int32) (m : Nat) (hy : y.toBitVec.toNat = m) : (x &&& y).toBitVec.toNat ≤ m := by
  show (x.toBitVec &&& y.toBitVec).toNat ≤ m
  rw [BitVec.toNat_and, hy]; exact Nat.and_le_right
theorem of_nat32 {x : Int32} {m : Nat} (h : x.toBitVec.toNat = m) : x = Int32.ofNat m := by
  apply Int32.toBitVec_inj.mp
  apply BitVec.eq_of_toNat_eq
  show _ = (BitVec.ofNat 32 m).toNat
  rw [BitVec.toNat_ofNat, h]
  have := x.toBitVec.isLt
  omega
theorem and_three (x : Int32) : x &&& 3 = 0 ∨ x &&& 3 = 1 ∨ x &&& 3 = 2 ∨ x &&& 3 = 3 := by
  have h := and_nat x 3 3 rfl
  have hc : (x &&& 3).toBitVec.toNat = 0 ∨ (x &&& 3).toBitVec.toNat = 1 ∨ (x &&& 3).toBitVec.toNat = 2 ∨ (x &&& 3).toBitVec.toNat = 3 := by omega
  rcases hc with q | q | q | q
  · exact Or.inl (of_nat32 q)
  · exact Or.inr (Or.inl (of_nat32 q))
  · exact Or.inr (Or.inr (Or.inl (of_nat32 q)))
  · exact Or.inr (Or.inr (Or.inr (of_nat32 q)))
theorem nar_byte (y : Int32) : nar .byte (y.toInt8.toInt32) = y.toInt8.toInt32 := by
  show y.toInt8.toInt32.toInt8.toInt32 = y.toInt8.toInt32
  simp
theorem ushr_zero (x : Int32) (k : Int32) (hk : (k &&& 31).toBitVec.toNat = 0) : XT.ushr x k = x := bx32 fun i _ => by rw [ushr_bit hk, Nat.zero_add]
theorem rem_nat (x d : Int32) (m : Nat) (hx : 0 ≤ x.toInt) (hd : d.toInt = m) (hm : 0 < m) (hb : m < 2 ^ 31) : ∃ k, k < m ∧ x % d = Int32.ofNat k := by
  have h1 : (x % d).toInt = x.toInt % m := by rw [Int32.toInt_mod, hd, Int.tmod_eq_emod_of_nonneg hx]
  have h2 := Int.emod_nonneg x.toInt (show (m : Int) ≠ 0 by omega)
  have h3 := Int.emod_lt_of_pos x.toInt (show (0 : Int) < m by omega)
  refine ⟨(x.toInt % m).toNat, by omega, ?_⟩
  apply Int32.toInt_inj.mp
  rw [h1, Int32.toInt_ofNat_of_lt (by omega)]
  omega
end Jvm.OwnW
namespace Jvm.Pilot.@@N@@
open Jvm Jvm.ClassFile Sem Op Lib Jvm.Free Jvm.Stand Jvm.LawKit Jvm.RoadKit Bundle Jvm.Pilot.@@N@@.Jvm.D Jvm.OwnW

theorem wd {c : Jvm.Cond} (k : Nat) (h : tables_1[k]? = some c) : c ∈ tables_1 := List.mem_of_getElem? h
def m0 : Meth := (x, code, maxLocals, ret, room_1)
def m1 : Meth := (⟨"boundwright/examples/BstSetRemovePinLaw", "key", "(I)I"⟩, method_2_code, 1, some .int, { frames := 0, cells := 0, slots := 0, locals := 0 })
def m2 : Meth := (⟨"boundwright/examples/BstSet", "<init>", "()V"⟩, prog_1_method_1_code, 1, none, { frames := 1, cells := 0, slots := 0, locals := 16 })
def m4 : Meth := (⟨"boundwright/examples/BstSet", "add", "(I)V"⟩, prog_1_method_2_code, 3, none, { frames := 3, cells := 1, slots := 3, locals := 49 })
def m5 : Meth := (⟨"boundwright/examples/BstSet", "leaf", "(I)Lboundwright/examples/BstSet$Node;"⟩, prog_1_method_4_code, 2, some (.object "boundwright/examples/BstSet$Node"), { frames := 2, cells := 1, slots := 3, locals := 32 })
def m6 : Meth := (⟨"boundwright/examples/BstSet$Node", "<init>", "()V"⟩, prog_2_method_1_code, 1, none, { frames := 1, cells := 0, slots := 0, locals := 16 })
def m7 : Meth := (⟨"boundwright/examples/BstSetRemovePinLaw", "rankOf", "(I)I"⟩, method_3_code, 1, some .int, { frames := 0, cells := 0, slots := 0, locals := 0 })
def m8 : Meth := (⟨"boundwright/examples/BstSetRemovePinLaw", "posOf", "(I)I"⟩, method_4_code, 1, some .int, { frames := 0, cells := 0, slots := 0, locals := 0 })
def m9 : Meth := (⟨"boundwright/examples/BstSetRemovePinLaw", "removeAt", "([II)V"⟩, method_9_code, 4, none, { frames := 0, cells := 0, slots := 0, locals := 0 })
def m10 : Meth := (⟨"boundwright/examples/BstSet", "remove", "(I)V"⟩, prog_1_method_3_code, 6, none, { frames := 0, cells := 0, slots := 0, locals := 0 })
def m11 : Meth := (⟨"boundwright/examples/BstSetRemovePinLaw", "left", "(Lboundwright/examples/BstSet$Node;)Lboundwright/examples/BstSet$Node;"⟩, method_5_code, 1, some (.object "boundwright/examples/BstSet$Node"), { frames := 0, cells := 0, slots := 0, locals := 0 })
def m12 : Meth := (⟨"boundwright/examples/BstSetRemovePinLaw", "right", "(Lboundwright/examples/BstSet$Node;)Lboundwright/examples/BstSet$Node;"⟩, method_6_code, 1, some (.object "boundwright/examples/BstSet$Node"), { frames := 0, cells := 0, slots := 0, locals := 0 })
def m13 : Meth := (⟨"boundwright/examples/BstSetRemovePinLaw", "match", "(Lboundwright/examples/BstSet$Node;I)Z"⟩, method_7_code, 2, some .boolean, { frames := 1, cells := 0, slots := 0, locals := 16 })
def m14 : Meth := (⟨"boundwright/examples/BstSetRemovePinLaw", "leafOk", "(Lboundwright/examples/BstSet$Node;)Z"⟩, method_8_code, 1, some .boolean, { frames := 1, cells := 0, slots := 0, locals := 16 })
theorem d0_0 : D m0 0 (.iload_n 0) 1 1 := ⟨by decide +kernel, rfl⟩
theorem d0_1 : D m0 1 (.iconst 2) 1 2 := ⟨by decide +kernel, rfl⟩
theorem d0_2 : D m0 2 (.iand) 1 3 := ⟨by decide +kernel, rfl⟩
theorem d0_3 : DB m0 3 (.ifCond .eq 7) 7 6 10 := ⟨by decide +kernel, rfl, by decide, by decide⟩
theorem d0_6 : D m0 6 (.iconst 1) 1 7 := ⟨by decide +kernel, rfl⟩
theorem d0_7 : DB m0 7 (.goto 4) 4 10 11 := ⟨by decide +kernel, rfl, by decide, by decide⟩
theorem d0_10 : D m0 10 (.iconst 0) 1 11 := ⟨by decide +kernel, rfl⟩
theorem d0_11 : D m0 11 (.istore_n 3) 1 12 := ⟨by decide +kernel, rfl⟩
theorem d0_12 : D m0 12 (.iload_n 3) 1 13 := ⟨by decide +kernel, rfl⟩
theorem d0_13 : DB m0 13 (.ifCond .eq 13) 13 16 26 := ⟨by decide +kernel, rfl, by decide, by decide⟩
theorem d0_16 : D m0 16 (.iload_n 0) 1 17 := ⟨by decide +kernel, rfl⟩
theorem d0_17 : D m0 17 (.iconst 1) 1 18 := ⟨by decide +kernel, rfl⟩
theorem d0_18 : D m0 18 (.iand) 1 19 := ⟨by decide +kernel, rfl⟩
theorem d0_19 : DB m0 19 (.ifCond .eq 7) 7 22 26 := ⟨by decide +kernel, rfl, by decide, by decide⟩
theorem d0_22 : D m0 22 (.iconst 1) 1 23 := ⟨by decide +kernel, rfl⟩
theorem d0_23 : DB m0 23 (.goto 4) 4 26 27 := ⟨by decide +kernel, rfl, by decide, by decide⟩
theorem d0_26 : D m0 26 (.iconst 0) 1 27 := ⟨by decide +kernel, rfl⟩
theorem d0_27 : D m0 27 (.istore 4) 2 29 := ⟨by decide +kernel, rfl⟩
theorem d0_29 : D m0 29 (.iload_n 3) 1 30 := ⟨by decide +kernel, rfl⟩
theorem d0_30 : DB m0 30 (.ifCond .eq 13) 13 33 43 := ⟨by decide +kernel, rfl, by decide, by decide⟩
theorem d0_33 : D m0 33 (.iload_n 0) 1 34 := ⟨by decide +kernel, rfl⟩
theorem d0_34 : D m0 34 (.iconst 4) 1 35 := ⟨by decide +kernel, rfl⟩
theorem d0_35 : D m0 35 (.iand) 1 36 := ⟨by decide +kernel, rfl⟩
theorem d0_36 : DB m0 36 (.ifCond .eq 7) 7 39 43 := ⟨by decide +kernel, rfl, by decide, by decide⟩
theorem d0_39 : D m0 39 (.iconst 1) 1 40 := ⟨by decide +kernel, rfl⟩
theorem d0_40 : DB m0 40 (.goto 4) 4 43 44 := ⟨by decide +kernel, rfl, by decide, by decide⟩
theorem d0_43 : D m0 43 (.iconst 0) 1 44 := ⟨by decide +kernel, rfl⟩
theorem d0_44 : D m0 44 (.istore 5) 2 46 := ⟨by decide +kernel, rfl⟩
theorem d0_46 : D m0 46 (.iload_n 0) 1 47 := ⟨by decide +kernel, rfl⟩
theorem d0_47 : D m0 47 (.bipush 32) 2 49 := ⟨by decide +kernel, rfl⟩
theorem d0_49 : D m0 49 (.iand) 1 50 := ⟨by decide +kernel, rfl⟩
theorem d0_50 : DB m0 50 (.ifCond .eq 7) 7 53 57 := ⟨by decide +kernel, rfl, by decide, by decide⟩
theorem d0_53 : D m0 53 (.iconst 1) 1 54 := ⟨by decide +kernel, rfl⟩
theorem d0_54 : DB m0 54 (.goto 4) 4 57 58 := ⟨by decide +kernel, rfl, by decide, by decide⟩
theorem d0_57 : D m0 57 (.iconst 0) 1 58 := ⟨by decide +kernel, rfl⟩
theorem d0_58 : D m0 58 (.istore 6) 2 60 := ⟨by decide +kernel, rfl⟩
theorem d0_60 : D m0 60 (.iload 6) 2 62 := ⟨by decide +kernel, rfl⟩
theorem d0_62 : DB m0 62 (.ifCond .eq 14) 14 65 76 := ⟨by decide +kernel, rfl, by decide, by decide⟩
theorem d0_65 : D m0 65 (.iload_n 0) 1 66 := ⟨by decide +kernel, rfl⟩
theorem d0_66 : D m0 66 (.bipush 16) 2 68 := ⟨by decide +kernel, rfl⟩
theorem d0_68 : D m0 68 (.iand) 1 69 := ⟨by decide +kernel, rfl⟩
theorem d0_69 : DB m0 69 (.ifCond .eq 7) 7 72 76 := ⟨by decide +kernel, rfl, by decide, by decide⟩
theorem d0_72 : D m0 72 (.iconst 1) 1 73 := ⟨by decide +kernel, rfl⟩
theorem d0_73 : DB m0 73 (.goto 4) 4 76 77 := ⟨by decide +kernel, rfl, by decide, by decide⟩
theorem d0_76 : D m0 76 (.iconst 0) 1 77 := ⟨by decide +kernel, rfl⟩
theorem d0_77 : D m0 77 (.istore 7) 2 79 := ⟨by decide +kernel, rfl⟩
theorem d0_79 : D m0 79 (.iload 6) 2 81 := ⟨by decide +kernel, rfl⟩
theorem d0_81 : DB m0 81 (.ifCond .eq 14) 14 84 95 := ⟨by decide +kernel, rfl, by decide, by decide⟩
theorem d0_84 : D m0 84 (.iload_n 0) 1 85 := ⟨by decide +kernel, rfl⟩
theorem d0_85 : D m0 85 (.bipush 64) 2 87 := ⟨by decide +kernel, rfl⟩
theorem d0_87 : D m0 87 (.iand) 1 88 := ⟨by decide +kernel, rfl⟩
theorem d0_88 : DB m0 88 (.ifCond .eq 7) 7 91 95 := ⟨by decide +kernel, rfl, by decide, by decide⟩
theorem d0_91 : D m0 91 (.iconst 1) 1 92 := ⟨by decide +kernel, rfl⟩
theorem d0_92 : DB m0 92 (.goto 4) 4 95 96 := ⟨by decide +kernel, rfl, by decide, by decide⟩
theorem d0_95 : D m0 95 (.iconst 0) 1 96 := ⟨by decide +kernel, rfl⟩
theorem d0_96 : D m0 96 (.istore 8) 2 98 := ⟨by decide +kernel, rfl⟩
theorem d0_98 : D m0 98 (.iload_n 1) 1 99 := ⟨by decide +kernel, rfl⟩
theorem d0_99 : D m0 99 (.ldc 10) 2 101 := ⟨by decide +kernel, rfl⟩
theorem d0_101 : D m0 101 (.iand) 1 102 := ⟨by decide +kernel, rfl⟩
theorem d0_102 : D m0 102 (.bipush 8) 2 104 := ⟨by decide +kernel, rfl⟩
theorem d0_104 : D m0 104 (.irem) 1 105 := ⟨by decide +kernel, rfl⟩
theorem d0_105 : D m0 105 (.istore 9) 2 107 := ⟨by decide +kernel, rfl⟩
theorem d0_107 : D m0 107 (.iload 9) 2 109 := ⟨by decide +kernel, rfl⟩
theorem d0_109 : D m0 109 (.bipush 7) 2 111 := ⟨by decide +kernel, rfl⟩
theorem d0_111 : DB m0 111 (.if_icmp .ge 11) 11 114 122 := ⟨by decide +kernel, rfl, by decide, by decide⟩
theorem d0_114 : D m0 114 (.iload 9) 2 116 := ⟨by decide +kernel, rfl⟩
theorem d0_116 : D m0 116 (.invokestatic 24) 3 119 := ⟨by decide +kernel, rfl⟩
theorem d0_119 : DB m0 119 (.goto 4) 4 122 123 := ⟨by decide +kernel, rfl, by decide, by decide⟩
theorem d0_122 : D m0 122 (.iload_n 2) 1 123 := ⟨by decide +kernel, rfl⟩
theorem d0_123 : D m0 123 (.istore 10) 2 125 := ⟨by decide +kernel, rfl⟩
theorem d0_125 : D m0 125 (.bipush 7) 2 127 := ⟨by decide +kernel, rfl⟩
theorem d0_127 : D m0 127 (.newarray .int) 2 129 := ⟨by decide +kernel, rfl⟩
theorem d0_129 : D m0 129 (.astore 11) 2 131 := ⟨by decide +kernel, rfl⟩
theorem d0_131 : D m0 131 (.new 35) 3 134 := ⟨by decide +kernel, rfl⟩
theorem d0_134 : D m0 134 (.dup) 1 135 := ⟨by decide +kernel, rfl⟩
theorem d0_135 : D m0 135 (.invokespecial 37) 3 138 := ⟨by decide +kernel, rfl⟩
theorem d0_138 : D m0 138 (.astore 12) 2 140 := ⟨by decide +kernel, rfl⟩
theorem d0_140 : D m0 140 (.aload 12) 2 142 := ⟨by decide +kernel, rfl⟩
theorem d0_142 : D m0 142 (.iconst 3) 1 143 := ⟨by decide +kernel, rfl⟩
theorem d0_143 : D m0 143 (.invokestatic 24) 3 146 := ⟨by decide +kernel, rfl⟩
theorem d0_146 : D m0 146 (.invokevirtual 38) 3 149 := ⟨by decide +kernel, rfl⟩
theorem d0_149 : D m0 149 (.iload_n 3) 1 150 := ⟨by decide +kernel, rfl⟩
theorem d0_150 : DB m0 150 (.ifCond .eq 12) 12 153 162 := ⟨by decide +kernel, rfl, by decide, by decide⟩
theorem d0_153 : D m0 153 (.aload 12) 2 155 := ⟨by decide +kernel, rfl⟩
theorem d0_155 : D m0 155 (.iconst 1) 1 156 := ⟨by decide +kernel, rfl⟩
theorem d0_156 : D m0 156 (.invokestatic 24) 3 159 := ⟨by decide +kernel, rfl⟩
theorem d0_159 : D m0 159 (.invokevirtual 38) 3 162 := ⟨by decide +kernel, rfl⟩
theorem d0_162 : D m0 162 (.iload 6) 2 164 := ⟨by decide +kernel, rfl⟩
theorem d0_164 : DB m0 164 (.ifCond .eq 12) 12 167 176 := ⟨by decide +kernel, rfl, by decide, by decide⟩
theorem d0_167 : D m0 167 (.aload 12) 2 169 := ⟨by decide +kernel, rfl⟩
theorem d0_169 : D m0 169 (.iconst 5) 1 170 := ⟨by decide +kernel, rfl⟩
theorem d0_170 : D m0 170 (.invokestatic 24) 3 173 := ⟨by decide +kernel, rfl⟩
theorem d0_173 : D m0 173 (.invokevirtual 38) 3 176 := ⟨by decide +kernel, rfl⟩
theorem d0_176 : D m0 176 (.iload 4) 2 178 := ⟨by decide +kernel, rfl⟩
theorem d0_178 : DB m0 178 (.ifCond .eq 12) 12 181 190 := ⟨by decide +kernel, rfl, by decide, by decide⟩
theorem d0_181 : D m0 181 (.aload 12) 2 183 := ⟨by decide +kernel, rfl⟩
theorem d0_183 : D m0 183 (.iconst 0) 1 184 := ⟨by decide +kernel, rfl⟩
theorem d0_184 : D m0 184 (.invokestatic 24) 3 187 := ⟨by decide +kernel, rfl⟩
theorem d0_187 : D m0 187 (.invokevirtual 38) 3 190 := ⟨by decide +kernel, rfl⟩
theorem d0_190 : D m0 190 (.iload 5) 2 192 := ⟨by decide +kernel, rfl⟩
theorem d0_192 : DB m0 192 (.ifCond .eq 12) 12 195 204 := ⟨by decide +kernel, rfl, by decide, by decide⟩
theorem d0_195 : D m0 195 (.aload 12) 2 197 := ⟨by decide +kernel, rfl⟩
theorem d0_197 : D m0 197 (.iconst 2) 1 198 := ⟨by decide +kernel, rfl⟩
theorem d0_198 : D m0 198 (.invokestatic 24) 3 201 := ⟨by decide +kernel, rfl⟩
theorem d0_201 : D m0 201 (.invokevirtual 38) 3 204 := ⟨by decide +kernel, rfl⟩
theorem d0_204 : D m0 204 (.iload 7) 2 206 := ⟨by decide +kernel, rfl⟩
theorem d0_206 : DB m0 206 (.ifCond .eq 12) 12 209 218 := ⟨by decide +kernel, rfl, by decide, by decide⟩
theorem d0_209 : D m0 209 (.aload 12) 2 211 := ⟨by decide +kernel, rfl⟩
theorem d0_211 : D m0 211 (.iconst 4) 1 212 := ⟨by decide +kernel, rfl⟩
theorem d0_212 : D m0 212 (.invokestatic 24) 3 215 := ⟨by decide +kernel, rfl⟩
theorem d0_215 : D m0 215 (.invokevirtual 38) 3 218 := ⟨by decide +kernel, rfl⟩
theorem d0_218 : D m0 218 (.iload 8) 2 220 := ⟨by decide +kernel, rfl⟩
theorem d0_220 : DB m0 220 (.ifCond .eq 13) 13 223 233 := ⟨by decide +kernel, rfl, by decide, by decide⟩
theorem d0_223 : D m0 223 (.aload 12) 2 225 := ⟨by decide +kernel, rfl⟩
theorem d0_225 : D m0 225 (.bipush 6) 2 227 := ⟨by decide +kernel, rfl⟩
theorem d0_227 : D m0 227 (.invokestatic 24) 3 230 := ⟨by decide +kernel, rfl⟩
theorem d0_230 : D m0 230 (.invokevirtual 38) 3 233 := ⟨by decide +kernel, rfl⟩
theorem d0_233 : D m0 233 (.aload 11) 2 235 := ⟨by decide +kernel, rfl⟩
theorem d0_235 : D m0 235 (.iconst 0) 1 236 := ⟨by decide +kernel, rfl⟩
theorem d0_236 : D m0 236 (.iconst 3) 1 237 := ⟨by decide +kernel, rfl⟩
theorem d0_237 : D m0 237 (.iastore) 1 238 := ⟨by decide +kernel, rfl⟩
theorem d0_238 : D m0 238 (.aload 11) 2 240 := ⟨by decide +kernel, rfl⟩
theorem d0_240 : D m0 240 (.iconst 1) 1 241 := ⟨by decide +kernel, rfl⟩
theorem d0_241 : D m0 241 (.iload_n 3) 1 242 := ⟨by decide +kernel, rfl⟩
theorem d0_242 : DB m0 242 (.ifCond .eq 7) 7 245 249 := ⟨by decide +kernel, rfl, by decide, by decide⟩
theorem d0_245 : D m0 245 (.iconst 1) 1 246 := ⟨by decide +kernel, rfl⟩
theorem d0_246 : DB m0 246 (.goto 4) 4 249 250 := ⟨by decide +kernel, rfl, by decide, by decide⟩
theorem d0_249 : D m0 249 (.iconst (-1)) 1 250 := ⟨by decide +kernel, rfl⟩
theorem d0_250 : D m0 250 (.iastore) 1 251 := ⟨by decide +kernel, rfl⟩
theorem d0_251 : D m0 251 (.aload 11) 2 253 := ⟨by decide +kernel, rfl⟩
theorem d0_253 : D m0 253 (.iconst 2) 1 254 := ⟨by decide +kernel, rfl⟩
theorem d0_254 : D m0 254 (.iload 6) 2 256 := ⟨by decide +kernel, rfl⟩
theorem d0_256 : DB m0 256 (.ifCond .eq 7) 7 259 263 := ⟨by decide +kernel, rfl, by decide, by decide⟩
theorem d0_259 : D m0 259 (.iconst 5) 1 260 := ⟨by decide +kernel, rfl⟩
theorem d0_260 : DB m0 260 (.goto 4) 4 263 264 := ⟨by decide +kernel, rfl, by decide, by decide⟩
theorem d0_263 : D m0 263 (.iconst (-1)) 1 264 := ⟨by decide +kernel, rfl⟩
theorem d0_264 : D m0 264 (.iastore) 1 265 := ⟨by decide +kernel, rfl⟩
theorem d0_265 : D m0 265 (.aload 11) 2 267 := ⟨by decide +kernel, rfl⟩
theorem d0_267 : D m0 267 (.iconst 3) 1 268 := ⟨by decide +kernel, rfl⟩
theorem d0_268 : D m0 268 (.iload 4) 2 270 := ⟨by decide +kernel, rfl⟩
theorem d0_270 : DB m0 270 (.ifCond .eq 7) 7 273 277 := ⟨by decide +kernel, rfl, by decide, by decide⟩
theorem d0_273 : D m0 273 (.iconst 0) 1 274 := ⟨by decide +kernel, rfl⟩
theorem d0_274 : DB m0 274 (.goto 4) 4 277 278 := ⟨by decide +kernel, rfl, by decide, by decide⟩
theorem d0_277 : D m0 277 (.iconst (-1)) 1 278 := ⟨by decide +kernel, rfl⟩
theorem d0_278 : D m0 278 (.iastore) 1 279 := ⟨by decide +kernel, rfl⟩
theorem d0_279 : D m0 279 (.aload 11) 2 281 := ⟨by decide +kernel, rfl⟩
theorem d0_281 : D m0 281 (.iconst 4) 1 282 := ⟨by decide +kernel, rfl⟩
theorem d0_282 : D m0 282 (.iload 5) 2 284 := ⟨by decide +kernel, rfl⟩
theorem d0_284 : DB m0 284 (.ifCond .eq 7) 7 287 291 := ⟨by decide +kernel, rfl, by decide, by decide⟩
theorem d0_287 : D m0 287 (.iconst 2) 1 288 := ⟨by decide +kernel, rfl⟩
theorem d0_288 : DB m0 288 (.goto 4) 4 291 292 := ⟨by decide +kernel, rfl, by decide, by decide⟩
theorem d0_291 : D m0 291 (.iconst (-1)) 1 292 := ⟨by decide +kernel, rfl⟩
theorem d0_292 : D m0 292 (.iastore) 1 293 := ⟨by decide +kernel, rfl⟩
theorem d0_293 : D m0 293 (.aload 11) 2 295 := ⟨by decide +kernel, rfl⟩
theorem d0_295 : D m0 295 (.iconst 5) 1 296 := ⟨by decide +kernel, rfl⟩
theorem d0_296 : D m0 296 (.iload 7) 2 298 := ⟨by decide +kernel, rfl⟩
theorem d0_298 : DB m0 298 (.ifCond .eq 7) 7 301 305 := ⟨by decide +kernel, rfl, by decide, by decide⟩
theorem d0_301 : D m0 301 (.iconst 4) 1 302 := ⟨by decide +kernel, rfl⟩
theorem d0_302 : DB m0 302 (.goto 4) 4 305 306 := ⟨by decide +kernel, rfl, by decide, by decide⟩
theorem d0_305 : D m0 305 (.iconst (-1)) 1 306 := ⟨by decide +kernel, rfl⟩
theorem d0_306 : D m0 306 (.iastore) 1 307 := ⟨by decide +kernel, rfl⟩
theorem d0_307 : D m0 307 (.aload 11) 2 309 := ⟨by decide +kernel, rfl⟩
theorem d0_309 : D m0 309 (.bipush 6) 2 311 := ⟨by decide +kernel, rfl⟩
theorem d0_311 : D m0 311 (.iload 8) 2 313 := ⟨by decide +kernel, rfl⟩
theorem d0_313 : DB m0 313 (.ifCond .eq 8) 8 316 321 := ⟨by decide +kernel, rfl, by decide, by decide⟩
theorem d0_316 : D m0 316 (.bipush 6) 2 318 := ⟨by decide +kernel, rfl⟩
theorem d0_318 : DB m0 318 (.goto 4) 4 321 322 := ⟨by decide +kernel, rfl, by decide, by decide⟩
theorem d0_321 : D m0 321 (.iconst (-1)) 1 322 := ⟨by decide +kernel, rfl⟩
theorem d0_322 : D m0 322 (.iastore) 1 323 := ⟨by decide +kernel, rfl⟩
theorem d0_323 : D m0 323 (.iconst 1) 1 324 := ⟨by decide +kernel, rfl⟩
theorem d0_324 : D m0 324 (.iload_n 3) 1 325 := ⟨by decide +kernel, rfl⟩
theorem d0_325 : DB m0 325 (.ifCond .eq 7) 7 328 332 := ⟨by decide +kernel, rfl, by decide, by decide⟩
theorem d0_328 : D m0 328 (.iconst 1) 1 329 := ⟨by decide +kernel, rfl⟩
theorem d0_329 : DB m0 329 (.goto 4) 4 332 333 := ⟨by decide +kernel, rfl, by decide, by decide⟩
theorem d0_332 : D m0 332 (.iconst 0) 1 333 := ⟨by decide +kernel, rfl⟩
theorem d0_333 : D m0 333 (.iadd) 1 334 := ⟨by decide +kernel, rfl⟩
theorem d0_334 : D m0 334 (.iload 6) 2 336 := ⟨by decide +kernel, rfl⟩
theorem d0_336 : DB m0 336 (.ifCond .eq 7) 7 339 343 := ⟨by decide +kernel, rfl, by decide, by decide⟩
theorem d0_339 : D m0 339 (.iconst 1) 1 340 := ⟨by decide +kernel, rfl⟩
theorem d0_340 : DB m0 340 (.goto 4) 4 343 344 := ⟨by decide +kernel, rfl, by decide, by decide⟩
theorem d0_343 : D m0 343 (.iconst 0) 1 344 := ⟨by decide +kernel, rfl⟩
theorem d0_344 : D m0 344 (.iadd) 1 345 := ⟨by decide +kernel, rfl⟩
theorem d0_345 : D m0 345 (.iload 4) 2 347 := ⟨by decide +kernel, rfl⟩
theorem d0_347 : DB m0 347 (.ifCond .eq 7) 7 350 354 := ⟨by decide +kernel, rfl, by decide, by decide⟩
theorem d0_350 : D m0 350 (.iconst 1) 1 351 := ⟨by decide +kernel, rfl⟩
theorem d0_351 : DB m0 351 (.goto 4) 4 354 355 := ⟨by decide +kernel, rfl, by decide, by decide⟩
theorem d0_354 : D m0 354 (.iconst 0) 1 355 := ⟨by decide +kernel, rfl⟩
theorem d0_355 : D m0 355 (.iadd) 1 356 := ⟨by decide +kernel, rfl⟩
theorem d0_356 : D m0 356 (.iload 5) 2 358 := ⟨by decide +kernel, rfl⟩
theorem d0_358 : DB m0 358 (.ifCond .eq 7) 7 361 365 := ⟨by decide +kernel, rfl, by decide, by decide⟩
theorem d0_361 : D m0 361 (.iconst 1) 1 362 := ⟨by decide +kernel, rfl⟩
theorem d0_362 : DB m0 362 (.goto 4) 4 365 366 := ⟨by decide +kernel, rfl, by decide, by decide⟩
theorem d0_365 : D m0 365 (.iconst 0) 1 366 := ⟨by decide +kernel, rfl⟩
theorem d0_366 : D m0 366 (.iadd) 1 367 := ⟨by decide +kernel, rfl⟩
theorem d0_367 : D m0 367 (.iload 7) 2 369 := ⟨by decide +kernel, rfl⟩
theorem d0_369 : DB m0 369 (.ifCond .eq 7) 7 372 376 := ⟨by decide +kernel, rfl, by decide, by decide⟩
theorem d0_372 : D m0 372 (.iconst 1) 1 373 := ⟨by decide +kernel, rfl⟩
theorem d0_373 : DB m0 373 (.goto 4) 4 376 377 := ⟨by decide +kernel, rfl, by decide, by decide⟩
theorem d0_376 : D m0 376 (.iconst 0) 1 377 := ⟨by decide +kernel, rfl⟩
theorem d0_377 : D m0 377 (.iadd) 1 378 := ⟨by decide +kernel, rfl⟩
theorem d0_378 : D m0 378 (.iload 8) 2 380 := ⟨by decide +kernel, rfl⟩
theorem d0_380 : DB m0 380 (.ifCond .eq 7) 7 383 387 := ⟨by decide +kernel, rfl, by decide, by decide⟩
theorem d0_383 : D m0 383 (.iconst 1) 1 384 := ⟨by decide +kernel, rfl⟩
theorem d0_384 : DB m0 384 (.goto 4) 4 387 388 := ⟨by decide +kernel, rfl, by decide, by decide⟩
theorem d0_387 : D m0 387 (.iconst 0) 1 388 := ⟨by decide +kernel, rfl⟩
theorem d0_388 : D m0 388 (.iadd) 1 389 := ⟨by decide +kernel, rfl⟩
theorem d0_389 : D m0 389 (.istore 13) 2 391 := ⟨by decide +kernel, rfl⟩
theorem d0_391 : D m0 391 (.iload 10) 2 393 := ⟨by decide +kernel, rfl⟩
theorem d0_393 : D m0 393 (.invokestatic 42) 3 396 := ⟨by decide +kernel, rfl⟩
theorem d0_396 : D m0 396 (.istore 14) 2 398 := ⟨by decide +kernel, rfl⟩
theorem d0_398 : D m0 398 (.iload 14) 2 400 := ⟨by decide +kernel, rfl⟩
theorem d0_400 : DB m0 400 (.ifCond .ge 7) 7 403 407 := ⟨by decide +kernel, rfl, by decide, by decide⟩
theorem d0_403 : D m0 403 (.iconst (-1)) 1 404 := ⟨by decide +kernel, rfl⟩
theorem d0_404 : DB m0 404 (.goto 8) 8 407 412 := ⟨by decide +kernel, rfl, by decide, by decide⟩
theorem d0_407 : D m0 407 (.iload 14) 2 409 := ⟨by decide +kernel, rfl⟩
theorem d0_409 : D m0 409 (.invokestatic 45) 3 412 := ⟨by decide +kernel, rfl⟩
theorem d0_412 : D m0 412 (.istore 15) 2 414 := ⟨by decide +kernel, rfl⟩
theorem d0_414 : D m0 414 (.iload 15) 2 416 := ⟨by decide +kernel, rfl⟩
theorem d0_416 : DB m0 416 (.ifCond .lt 26) 26 419 442 := ⟨by decide +kernel, rfl, by decide, by decide⟩
theorem d0_419 : D m0 419 (.aload 11) 2 421 := ⟨by decide +kernel, rfl⟩
theorem d0_421 : D m0 421 (.iload 15) 2 423 := ⟨by decide +kernel, rfl⟩
theorem d0_423 : D m0 423 (.iaload) 1 424 := ⟨by decide +kernel, rfl⟩
theorem d0_424 : D m0 424 (.iload 14) 2 426 := ⟨by decide +kernel, rfl⟩
theorem d0_426 : DB m0 426 (.if_icmp .ne 16) 16 429 442 := ⟨by decide +kernel, rfl, by decide, by decide⟩
theorem d0_429 : D m0 429 (.iload 13) 2 431 := ⟨by decide +kernel, rfl⟩
theorem d0_431 : D m0 431 (.iconst 1) 1 432 := ⟨by decide +kernel, rfl⟩
theorem d0_432 : D m0 432 (.isub) 1 433 := ⟨by decide +kernel, rfl⟩
theorem d0_433 : D m0 433 (.istore 13) 2 435 := ⟨by decide +kernel, rfl⟩
theorem d0_435 : D m0 435 (.aload 11) 2 437 := ⟨by decide +kernel, rfl⟩
theorem d0_437 : D m0 437 (.iload 15) 2 439 := ⟨by decide +kernel, rfl⟩
theorem d0_439 : D m0 439 (.invokestatic 48) 3 442 := ⟨by decide +kernel, rfl⟩
theorem d0_442 : D m0 442 (.aload 12) 2 444 := ⟨by decide +kernel, rfl⟩
theorem d0_444 : D m0 444 (.iload 10) 2 446 := ⟨by decide +kernel, rfl⟩
theorem d0_446 : D m0 446 (.invokevirtual 52) 3 449 := ⟨by decide +kernel, rfl⟩
theorem d0_449 : D m0 449 (.aload 12) 2 451 := ⟨by decide +kernel, rfl⟩
theorem d0_451 : D m0 451 (.getfield 55) 3 454 := ⟨by decide +kernel, rfl⟩
theorem d0_454 : D m0 454 (.astore 16) 2 456 := ⟨by decide +kernel, rfl⟩
theorem d0_456 : D m0 456 (.aload 16) 2 458 := ⟨by decide +kernel, rfl⟩
theorem d0_458 : D m0 458 (.invokestatic 30) 3 461 := ⟨by decide +kernel, rfl⟩
theorem d0_461 : D m0 461 (.astore 17) 2 463 := ⟨by decide +kernel, rfl⟩
theorem d0_463 : D m0 463 (.aload 16) 2 465 := ⟨by decide +kernel, rfl⟩
theorem d0_465 : D m0 465 (.invokestatic 33) 3 468 := ⟨by decide +kernel, rfl⟩
theorem d0_468 : D m0 468 (.astore 18) 2 470 := ⟨by decide +kernel, rfl⟩
theorem d0_470 : D m0 470 (.aload 17) 2 472 := ⟨by decide +kernel, rfl⟩
theorem d0_472 : D m0 472 (.invokestatic 30) 3 475 := ⟨by decide +kernel, rfl⟩
theorem d0_475 : D m0 475 (.astore 19) 2 477 := ⟨by decide +kernel, rfl⟩
theorem d0_477 : D m0 477 (.aload 17) 2 479 := ⟨by decide +kernel, rfl⟩
theorem d0_479 : D m0 479 (.invokestatic 33) 3 482 := ⟨by decide +kernel, rfl⟩
theorem d0_482 : D m0 482 (.astore 20) 2 484 := ⟨by decide +kernel, rfl⟩
theorem d0_484 : D m0 484 (.aload 18) 2 486 := ⟨by decide +kernel, rfl⟩
theorem d0_486 : D m0 486 (.invokestatic 30) 3 489 := ⟨by decide +kernel, rfl⟩
theorem d0_489 : D m0 489 (.astore 21) 2 491 := ⟨by decide +kernel, rfl⟩
theorem d0_491 : D m0 491 (.aload 18) 2 493 := ⟨by decide +kernel, rfl⟩
theorem d0_493 : D m0 493 (.invokestatic 33) 3 496 := ⟨by decide +kernel, rfl⟩
theorem d0_496 : D m0 496 (.astore 22) 2 498 := ⟨by decide +kernel, rfl⟩
theorem d0_498 : D m0 498 (.aload 12) 2 500 := ⟨by decide +kernel, rfl⟩
theorem d0_500 : D m0 500 (.getfield 58) 3 503 := ⟨by decide +kernel, rfl⟩
theorem d0_503 : D m0 503 (.iload 13) 2 505 := ⟨by decide +kernel, rfl⟩
theorem d0_505 : DB m0 505 (.if_icmp .ne 124) 124 508 629 := ⟨by decide +kernel, rfl, by decide, by decide⟩
theorem d0_508 : D m0 508 (.aload 16) 2 510 := ⟨by decide +kernel, rfl⟩
theorem d0_510 : D m0 510 (.aload 11) 2 512 := ⟨by decide +kernel, rfl⟩
theorem d0_512 : D m0 512 (.iconst 0) 1 513 := ⟨by decide +kernel, rfl⟩
theorem d0_513 : D m0 513 (.iaload) 1 514 := ⟨by decide +kernel, rfl⟩
theorem d0_514 : D m0 514 (.invokestatic 61) 3 517 := ⟨by decide +kernel, rfl⟩
theorem d0_517 : DB m0 517 (.ifCond .eq 112) 112 520 629 := ⟨by decide +kernel, rfl, by decide, by decide⟩
theorem d0_520 : D m0 520 (.aload 17) 2 522 := ⟨by decide +kernel, rfl⟩
theorem d0_522 : D m0 522 (.aload 11) 2 524 := ⟨by decide +kernel, rfl⟩
theorem d0_524 : D m0 524 (.iconst 1) 1 525 := ⟨by decide +kernel, rfl⟩
theorem d0_525 : D m0 525 (.iaload) 1 526 := ⟨by decide +kernel, rfl⟩
theorem d0_526 : D m0 526 (.invokestatic 61) 3 529 := ⟨by decide +kernel, rfl⟩
theorem d0_529 : DB m0 529 (.ifCond .eq 100) 100 532 629 := ⟨by decide +kernel, rfl, by decide, by decide⟩
theorem d0_532 : D m0 532 (.aload 18) 2 534 := ⟨by decide +kernel, rfl⟩
theorem d0_534 : D m0 534 (.aload 11) 2 536 := ⟨by decide +kernel, rfl⟩
theorem d0_536 : D m0 536 (.iconst 2) 1 537 := ⟨by decide +kernel, rfl⟩
theorem d0_537 : D m0 537 (.iaload) 1 538 := ⟨by decide +kernel, rfl⟩
theorem d0_538 : D m0 538 (.invokestatic 61) 3 541 := ⟨by decide +kernel, rfl⟩
theorem d0_541 : DB m0 541 (.ifCond .eq 88) 88 544 629 := ⟨by decide +kernel, rfl, by decide, by decide⟩
theorem d0_544 : D m0 544 (.aload 19) 2 546 := ⟨by decide +kernel, rfl⟩
theorem d0_546 : D m0 546 (.aload 11) 2 548 := ⟨by decide +kernel, rfl⟩
theorem d0_548 : D m0 548 (.iconst 3) 1 549 := ⟨by decide +kernel, rfl⟩
theorem d0_549 : D m0 549 (.iaload) 1 550 := ⟨by decide +kernel, rfl⟩
theorem d0_550 : D m0 550 (.invokestatic 61) 3 553 := ⟨by decide +kernel, rfl⟩
theorem d0_553 : DB m0 553 (.ifCond .eq 76) 76 556 629 := ⟨by decide +kernel, rfl, by decide, by decide⟩
theorem d0_556 : D m0 556 (.aload 20) 2 558 := ⟨by decide +kernel, rfl⟩
theorem d0_558 : D m0 558 (.aload 11) 2 560 := ⟨by decide +kernel, rfl⟩
theorem d0_560 : D m0 560 (.iconst 4) 1 561 := ⟨by decide +kernel, rfl⟩
theorem d0_561 : D m0 561 (.iaload) 1 562 := ⟨by decide +kernel, rfl⟩
theorem d0_562 : D m0 562 (.invokestatic 61) 3 565 := ⟨by decide +kernel, rfl⟩
theorem d0_565 : DB m0 565 (.ifCond .eq 64) 64 568 629 := ⟨by decide +kernel, rfl, by decide, by decide⟩
theorem d0_568 : D m0 568 (.aload 21) 2 570 := ⟨by decide +kernel, rfl⟩
theorem d0_570 : D m0 570 (.aload 11) 2 572 := ⟨by decide +kernel, rfl⟩
theorem d0_572 : D m0 572 (.iconst 5) 1 573 := ⟨by decide +kernel, rfl⟩
theorem d0_573 : D m0 573 (.iaload) 1 574 := ⟨by decide +kernel, rfl⟩
theorem d0_574 : D m0 574 (.invokestatic 61) 3 577 := ⟨by decide +kernel, rfl⟩
theorem d0_577 : DB m0 577 (.ifCond .eq 52) 52 580 629 := ⟨by decide +kernel, rfl, by decide, by decide⟩
theorem d0_580 : D m0 580 (.aload 22) 2 582 := ⟨by decide +kernel, rfl⟩
theorem d0_582 : D m0 582 (.aload 11) 2 584 := ⟨by decide +kernel, rfl⟩
theorem d0_584 : D m0 584 (.bipush 6) 2 586 := ⟨by decide +kernel, rfl⟩
theorem d0_586 : D m0 586 (.iaload) 1 587 := ⟨by decide +kernel, rfl⟩
theorem d0_587 : D m0 587 (.invokestatic 61) 3 590 := ⟨by decide +kernel, rfl⟩
theorem d0_590 : DB m0 590 (.ifCond .eq 39) 39 593 629 := ⟨by decide +kernel, rfl, by decide, by decide⟩
theorem d0_593 : D m0 593 (.aload 19) 2 595 := ⟨by decide +kernel, rfl⟩
theorem d0_595 : D m0 595 (.invokestatic 65) 3 598 := ⟨by decide +kernel, rfl⟩
theorem d0_598 : DB m0 598 (.ifCond .eq 31) 31 601 629 := ⟨by decide +kernel, rfl, by decide, by decide⟩
theorem d0_601 : D m0 601 (.aload 20) 2 603 := ⟨by decide +kernel, rfl⟩
theorem d0_603 : D m0 603 (.invokestatic 65) 3 606 := ⟨by decide +kernel, rfl⟩
theorem d0_606 : DB m0 606 (.ifCond .eq 23) 23 609 629 := ⟨by decide +kernel, rfl, by decide, by decide⟩
theorem d0_609 : D m0 609 (.aload 21) 2 611 := ⟨by decide +kernel, rfl⟩
theorem d0_611 : D m0 611 (.invokestatic 65) 3 614 := ⟨by decide +kernel, rfl⟩
theorem d0_614 : DB m0 614 (.ifCond .eq 15) 15 617 629 := ⟨by decide +kernel, rfl, by decide, by decide⟩
theorem d0_617 : D m0 617 (.aload 22) 2 619 := ⟨by decide +kernel, rfl⟩
theorem d0_619 : D m0 619 (.invokestatic 65) 3 622 := ⟨by decide +kernel, rfl⟩
theorem d0_622 : DB m0 622 (.ifCond .eq 7) 7 625 629 := ⟨by decide +kernel, rfl, by decide, by decide⟩
theorem d0_625 : D m0 625 (.iconst 1) 1 626 := ⟨by decide +kernel, rfl⟩
theorem d0_626 : DB m0 626 (.goto 4) 4 629 630 := ⟨by decide +kernel, rfl, by decide, by decide⟩
theorem d0_629 : D m0 629 (.iconst 0) 1 630 := ⟨by decide +kernel, rfl⟩
theorem d0_630 : D m0 630 (.ireturn) 1 631 := ⟨by decide +kernel, rfl⟩
theorem d1_0 : D m1 0 (.iload_n 0) 1 1 := ⟨by decide +kernel, rfl⟩
theorem d1_1 : DB m1 1 (.ifCond .ne 6) 6 4 7 := ⟨by decide +kernel, rfl, by decide, by decide⟩
theorem d1_4 : D m1 4 (.ldc 9) 2 6 := ⟨by decide +kernel, rfl⟩
theorem d1_6 : D m1 6 (.ireturn) 1 7 := ⟨by decide +kernel, rfl⟩
theorem d1_7 : D m1 7 (.iload_n 0) 1 8 := ⟨by decide +kernel, rfl⟩
theorem d1_8 : D m1 8 (.iconst 1) 1 9 := ⟨by decide +kernel, rfl⟩
theorem d1_9 : DB m1 9 (.if_icmp .ne 7) 7 12 16 := ⟨by decide +kernel, rfl, by decide, by decide⟩
theorem d1_12 : D m1 12 (.sipush (-1000)) 3 15 := ⟨by decide +kernel, rfl⟩
theorem d1_15 : D m1 15 (.ireturn) 1 16 := ⟨by decide +kernel, rfl⟩
theorem d1_16 : D m1 16 (.iload_n 0) 1 17 := ⟨by decide +kernel, rfl⟩
theorem d1_17 : D m1 17 (.iconst 2) 1 18 := ⟨by decide +kernel, rfl⟩
theorem d1_18 : DB m1 18 (.if_icmp .ne 5) 5 21 23 := ⟨by decide +kernel, rfl, by decide, by decide⟩
theorem d1_21 : D m1 21 (.iconst (-1)) 1 22 := ⟨by decide +kernel, rfl⟩
theorem d1_22 : D m1 22 (.ireturn) 1 23 := ⟨by decide +kernel, rfl⟩
theorem d1_23 : D m1 23 (.iload_n 0) 1 24 := ⟨by decide +kernel, rfl⟩
theorem d1_24 : D m1 24 (.iconst 3) 1 25 := ⟨by decide +kernel, rfl⟩
theorem d1_25 : DB m1 25 (.if_icmp .ne 5) 5 28 30 := ⟨by decide +kernel, rfl, by decide, by decide⟩
theorem d1_28 : D m1 28 (.iconst 0) 1 29 := ⟨by decide +kernel, rfl⟩
theorem d1_29 : D m1 29 (.ireturn) 1 30 := ⟨by decide +kernel, rfl⟩
theorem d1_30 : D m1 30 (.iload_n 0) 1 31 := ⟨by decide +kernel, rfl⟩
theorem d1_31 : D m1 31 (.iconst 4) 1 32 := ⟨by decide +kernel, rfl⟩
theorem d1_32 : DB m1 32 (.if_icmp .ne 5) 5 35 37 := ⟨by decide +kernel, rfl, by decide, by decide⟩
theorem d1_35 : D m1 35 (.iconst 1) 1 36 := ⟨by decide +kernel, rfl⟩
theorem d1_36 : D m1 36 (.ireturn) 1 37 := ⟨by decide +kernel, rfl⟩
theorem d1_37 : D m1 37 (.iload_n 0) 1 38 := ⟨by decide +kernel, rfl⟩
theorem d1_38 : D m1 38 (.iconst 5) 1 39 := ⟨by decide +kernel, rfl⟩
theorem d1_39 : DB m1 39 (.if_icmp .ne 7) 7 42 46 := ⟨by decide +kernel, rfl, by decide, by decide⟩
theorem d1_42 : D m1 42 (.sipush 1000) 3 45 := ⟨by decide +kernel, rfl⟩
theorem d1_45 : D m1 45 (.ireturn) 1 46 := ⟨by decide +kernel, rfl⟩
theorem d1_46 : D m1 46 (.ldc 10) 2 48 := ⟨by decide +kernel, rfl⟩
theorem d1_48 : D m1 48 (.ireturn) 1 49 := ⟨by decide +kernel, rfl⟩
theorem d2_0 : D m2 0 (.aload_n 0) 1 1 := ⟨by decide +kernel, rfl⟩
theorem d2_1 : D m2 1 (.invokespecial 1) 3 4 := ⟨by decide +kernel, rfl⟩
theorem d2_4 : D m2 4 (.return_) 1 5 := ⟨by decide +kernel, rfl⟩
theorem d4_0 : D m4 0 (.aload_n 0) 1 1 := ⟨by decide +kernel, rfl⟩
theorem d4_1 : D m4 1 (.getfield 7) 3 4 := ⟨by decide +kernel, rfl⟩
theorem d4_4 : DB m4 4 (.ifnonnull 22) 22 7 26 := ⟨by decide +kernel, rfl, by decide, by decide⟩
theorem d4_7 : D m4 7 (.aload_n 0) 1 8 := ⟨by decide +kernel, rfl⟩
theorem d4_8 : D m4 8 (.iload_n 1) 1 9 := ⟨by decide +kernel, rfl⟩
theorem d4_9 : D m4 9 (.invokestatic 13) 3 12 := ⟨by decide +kernel, rfl⟩
theorem d4_12 : D m4 12 (.putfield 7) 3 15 := ⟨by decide +kernel, rfl⟩
theorem d4_15 : D m4 15 (.aload_n 0) 1 16 := ⟨by decide +kernel, rfl⟩
theorem d4_16 : D m4 16 (.dup) 1 17 := ⟨by decide +kernel, rfl⟩
theorem d4_17 : D m4 17 (.getfield 17) 3 20 := ⟨by decide +kernel, rfl⟩
theorem d4_20 : D m4 20 (.iconst 1) 1 21 := ⟨by decide +kernel, rfl⟩
theorem d4_21 : D m4 21 (.iadd) 1 22 := ⟨by decide +kernel, rfl⟩
theorem d4_22 : D m4 22 (.putfield 17) 3 25 := ⟨by decide +kernel, rfl⟩
theorem d4_25 : D m4 25 (.return_) 1 26 := ⟨by decide +kernel, rfl⟩
theorem d4_26 : D m4 26 (.aload_n 0) 1 27 := ⟨by decide +kernel, rfl⟩
theorem d4_27 : D m4 27 (.getfield 7) 3 30 := ⟨by decide +kernel, rfl⟩
theorem d4_30 : D m4 30 (.astore_n 2) 1 31 := ⟨by decide +kernel, rfl⟩
theorem d4_31 : D m4 31 (.aload_n 2) 1 32 := ⟨by decide +kernel, rfl⟩
theorem d4_32 : D m4 32 (.getfield 21) 3 35 := ⟨by decide +kernel, rfl⟩
theorem d4_35 : D m4 35 (.iload_n 1) 1 36 := ⟨by decide +kernel, rfl⟩
theorem d4_36 : DB m4 36 (.if_icmp .ge 29) 29 39 65 := ⟨by decide +kernel, rfl, by decide, by decide⟩
theorem d4_39 : D m4 39 (.aload_n 2) 1 40 := ⟨by decide +kernel, rfl⟩
theorem d4_40 : D m4 40 (.getfield 26) 3 43 := ⟨by decide +kernel, rfl⟩
theorem d4_43 : DB m4 43 (.ifnonnull 14) 14 46 57 := ⟨by decide +kernel, rfl, by decide, by decide⟩
theorem d4_46 : D m4 46 (.aload_n 2) 1 47 := ⟨by decide +kernel, rfl⟩
theorem d4_47 : D m4 47 (.iload_n 1) 1 48 := ⟨by decide +kernel, rfl⟩
theorem d4_48 : D m4 48 (.invokestatic 13) 3 51 := ⟨by decide +kernel, rfl⟩
theorem d4_51 : D m4 51 (.putfield 26) 3 54 := ⟨by decide +kernel, rfl⟩
theorem d4_54 : DB m4 54 (.goto 46) 46 57 100 := ⟨by decide +kernel, rfl, by decide, by decide⟩
theorem d4_57 : D m4 57 (.aload_n 2) 1 58 := ⟨by decide +kernel, rfl⟩
theorem d4_58 : D m4 58 (.getfield 26) 3 61 := ⟨by decide +kernel, rfl⟩
theorem d4_61 : D m4 61 (.astore_n 2) 1 62 := ⟨by decide +kernel, rfl⟩
theorem d4_62 : DB m4 62 (.goto (-31)) (-31) 65 31 := ⟨by decide +kernel, rfl, by decide, by decide⟩
theorem d4_65 : D m4 65 (.aload_n 2) 1 66 := ⟨by decide +kernel, rfl⟩
theorem d4_66 : D m4 66 (.getfield 21) 3 69 := ⟨by decide +kernel, rfl⟩
theorem d4_69 : D m4 69 (.iload_n 1) 1 70 := ⟨by decide +kernel, rfl⟩
theorem d4_70 : DB m4 70 (.if_icmp .le 29) 29 73 99 := ⟨by decide +kernel, rfl, by decide, by decide⟩
theorem d4_73 : D m4 73 (.aload_n 2) 1 74 := ⟨by decide +kernel, rfl⟩
theorem d4_74 : D m4 74 (.getfield 29) 3 77 := ⟨by decide +kernel, rfl⟩
theorem d4_77 : DB m4 77 (.ifnonnull 14) 14 80 91 := ⟨by decide +kernel, rfl, by decide, by decide⟩
theorem d4_80 : D m4 80 (.aload_n 2) 1 81 := ⟨by decide +kernel, rfl⟩
theorem d4_81 : D m4 81 (.iload_n 1) 1 82 := ⟨by decide +kernel, rfl⟩
theorem d4_82 : D m4 82 (.invokestatic 13) 3 85 := ⟨by decide +kernel, rfl⟩
theorem d4_85 : D m4 85 (.putfield 29) 3 88 := ⟨by decide +kernel, rfl⟩
theorem d4_88 : DB m4 88 (.goto 12) 12 91 100 := ⟨by decide +kernel, rfl, by decide, by decide⟩
theorem d4_91 : D m4 91 (.aload_n 2) 1 92 := ⟨by decide +kernel, rfl⟩
theorem d4_92 : D m4 92 (.getfield 29) 3 95 := ⟨by decide +kernel, rfl⟩
theorem d4_95 : D m4 95 (.astore_n 2) 1 96 := ⟨by decide +kernel, rfl⟩
theorem d4_96 : DB m4 96 (.goto (-65)) (-65) 99 31 := ⟨by decide +kernel, rfl, by decide, by decide⟩
theorem d4_99 : D m4 99 (.return_) 1 100 := ⟨by decide +kernel, rfl⟩
theorem d4_100 : D m4 100 (.aload_n 0) 1 101 := ⟨by decide +kernel, rfl⟩
theorem d4_101 : D m4 101 (.dup) 1 102 := ⟨by decide +kernel, rfl⟩
theorem d4_102 : D m4 102 (.getfield 17) 3 105 := ⟨by decide +kernel, rfl⟩
theorem d4_105 : D m4 105 (.iconst 1) 1 106 := ⟨by decide +kernel, rfl⟩
theorem d4_106 : D m4 106 (.iadd) 1 107 := ⟨by decide +kernel, rfl⟩
theorem d4_107 : D m4 107 (.putfield 17) 3 110 := ⟨by decide +kernel, rfl⟩
theorem d4_110 : D m4 110 (.return_) 1 111 := ⟨by decide +kernel, rfl⟩
theorem d5_0 : D m5 0 (.new 22) 3 3 := ⟨by decide +kernel, rfl⟩
theorem d5_3 : D m5 3 (.dup) 1 4 := ⟨by decide +kernel, rfl⟩
theorem d5_4 : D m5 4 (.invokespecial 32) 3 7 := ⟨by decide +kernel, rfl⟩
theorem d5_7 : D m5 7 (.astore_n 1) 1 8 := ⟨by decide +kernel, rfl⟩
theorem d5_8 : D m5 8 (.aload_n 1) 1 9 := ⟨by decide +kernel, rfl⟩
theorem d5_9 : D m5 9 (.iload_n 0) 1 10 := ⟨by decide +kernel, rfl⟩
theorem d5_10 : D m5 10 (.putfield 21) 3 13 := ⟨by decide +kernel, rfl⟩
theorem d5_13 : D m5 13 (.aload_n 1) 1 14 := ⟨by decide +kernel, rfl⟩
theorem d5_14 : D m5 14 (.areturn) 1 15 := ⟨by decide +kernel, rfl⟩
theorem d6_0 : D m6 0 (.aload_n 0) 1 1 := ⟨by decide +kernel, rfl⟩
theorem d6_1 : D m6 1 (.invokespecial 1) 3 4 := ⟨by decide +kernel, rfl⟩
theorem d6_4 : D m6 4 (.return_) 1 5 := ⟨by decide +kernel, rfl⟩
theorem d7_0 : D m7 0 (.iload_n 0) 1 1 := ⟨by decide +kernel, rfl⟩
theorem d7_1 : D m7 1 (.ldc 9) 2 3 := ⟨by decide +kernel, rfl⟩
theorem d7_3 : DB m7 3 (.if_icmp .ne 5) 5 6 8 := ⟨by decide +kernel, rfl, by decide, by decide⟩
theorem d7_6 : D m7 6 (.iconst 0) 1 7 := ⟨by decide +kernel, rfl⟩
theorem d7_7 : D m7 7 (.ireturn) 1 8 := ⟨by decide +kernel, rfl⟩
theorem d7_8 : D m7 8 (.iload_n 0) 1 9 := ⟨by decide +kernel, rfl⟩
theorem d7_9 : D m7 9 (.sipush (-1000)) 3 12 := ⟨by decide +kernel, rfl⟩
theorem d7_12 : DB m7 12 (.if_icmp .ne 5) 5 15 17 := ⟨by decide +kernel, rfl, by decide, by decide⟩
theorem d7_15 : D m7 15 (.iconst 1) 1 16 := ⟨by decide +kernel, rfl⟩
theorem d7_16 : D m7 16 (.ireturn) 1 17 := ⟨by decide +kernel, rfl⟩
theorem d7_17 : D m7 17 (.iload_n 0) 1 18 := ⟨by decide +kernel, rfl⟩
theorem d7_18 : D m7 18 (.iconst (-1)) 1 19 := ⟨by decide +kernel, rfl⟩
theorem d7_19 : DB m7 19 (.if_icmp .ne 5) 5 22 24 := ⟨by decide +kernel, rfl, by decide, by decide⟩
theorem d7_22 : D m7 22 (.iconst 2) 1 23 := ⟨by decide +kernel, rfl⟩
theorem d7_23 : D m7 23 (.ireturn) 1 24 := ⟨by decide +kernel, rfl⟩
theorem d7_24 : D m7 24 (.iload_n 0) 1 25 := ⟨by decide +kernel, rfl⟩
theorem d7_25 : DB m7 25 (.ifCond .ne 5) 5 28 30 := ⟨by decide +kernel, rfl, by decide, by decide⟩
theorem d7_28 : D m7 28 (.iconst 3) 1 29 := ⟨by decide +kernel, rfl⟩
theorem d7_29 : D m7 29 (.ireturn) 1 30 := ⟨by decide +kernel, rfl⟩
theorem d7_30 : D m7 30 (.iload_n 0) 1 31 := ⟨by decide +kernel, rfl⟩
theorem d7_31 : D m7 31 (.iconst 1) 1 32 := ⟨by decide +kernel, rfl⟩
theorem d7_32 : DB m7 32 (.if_icmp .ne 5) 5 35 37 := ⟨by decide +kernel, rfl, by decide, by decide⟩
theorem d7_35 : D m7 35 (.iconst 4) 1 36 := ⟨by decide +kernel, rfl⟩
theorem d7_36 : D m7 36 (.ireturn) 1 37 := ⟨by decide +kernel, rfl⟩
theorem d7_37 : D m7 37 (.iload_n 0) 1 38 := ⟨by decide +kernel, rfl⟩
theorem d7_38 : D m7 38 (.sipush 1000) 3 41 := ⟨by decide +kernel, rfl⟩
theorem d7_41 : DB m7 41 (.if_icmp .ne 5) 5 44 46 := ⟨by decide +kernel, rfl, by decide, by decide⟩
theorem d7_44 : D m7 44 (.iconst 5) 1 45 := ⟨by decide +kernel, rfl⟩
theorem d7_45 : D m7 45 (.ireturn) 1 46 := ⟨by decide +kernel, rfl⟩
theorem d7_46 : D m7 46 (.iload_n 0) 1 47 := ⟨by decide +kernel, rfl⟩
theorem d7_47 : D m7 47 (.ldc 10) 2 49 := ⟨by decide +kernel, rfl⟩
theorem d7_49 : DB m7 49 (.if_icmp .ne 6) 6 52 55 := ⟨by decide +kernel, rfl, by decide, by decide⟩
theorem d7_52 : D m7 52 (.bipush 6) 2 54 := ⟨by decide +kernel, rfl⟩
theorem d7_54 : D m7 54 (.ireturn) 1 55 := ⟨by decide +kernel, rfl⟩
theorem d7_55 : D m7 55 (.iconst (-1)) 1 56 := ⟨by decide +kernel, rfl⟩
theorem d7_56 : D m7 56 (.ireturn) 1 57 := ⟨by decide +kernel, rfl⟩
theorem d8_0 : D m8 0 (.iload_n 0) 1 1 := ⟨by decide +kernel, rfl⟩
theorem d8_1 : D m8 1 (.iconst 3) 1 2 := ⟨by decide +kernel, rfl⟩
theorem d8_2 : DB m8 2 (.if_icmp .ne 5) 5 5 7 := ⟨by decide +kernel, rfl, by decide, by decide⟩
theorem d8_5 : D m8 5 (.iconst 0) 1 6 := ⟨by decide +kernel, rfl⟩
theorem d8_6 : D m8 6 (.ireturn) 1 7 := ⟨by decide +kernel, rfl⟩
theorem d8_7 : D m8 7 (.iload_n 0) 1 8 := ⟨by decide +kernel, rfl⟩
theorem d8_8 : D m8 8 (.iconst 1) 1 9 := ⟨by decide +kernel, rfl⟩
theorem d8_9 : DB m8 9 (.if_icmp .ne 5) 5 12 14 := ⟨by decide +kernel, rfl, by decide, by decide⟩
theorem d8_12 : D m8 12 (.iconst 1) 1 13 := ⟨by decide +kernel, rfl⟩
theorem d8_13 : D m8 13 (.ireturn) 1 14 := ⟨by decide +kernel, rfl⟩
theorem d8_14 : D m8 14 (.iload_n 0) 1 15 := ⟨by decide +kernel, rfl⟩
theorem d8_15 : D m8 15 (.iconst 5) 1 16 := ⟨by decide +kernel, rfl⟩
theorem d8_16 : DB m8 16 (.if_icmp .ne 5) 5 19 21 := ⟨by decide +kernel, rfl, by decide, by decide⟩
theorem d8_19 : D m8 19 (.iconst 2) 1 20 := ⟨by decide +kernel, rfl⟩
theorem d8_20 : D m8 20 (.ireturn) 1 21 := ⟨by decide +kernel, rfl⟩
theorem d8_21 : D m8 21 (.iload_n 0) 1 22 := ⟨by decide +kernel, rfl⟩
theorem d8_22 : DB m8 22 (.ifCond .ne 5) 5 25 27 := ⟨by decide +kernel, rfl, by decide, by decide⟩
theorem d8_25 : D m8 25 (.iconst 3) 1 26 := ⟨by decide +kernel, rfl⟩
theorem d8_26 : D m8 26 (.ireturn) 1 27 := ⟨by decide +kernel, rfl⟩
theorem d8_27 : D m8 27 (.iload_n 0) 1 28 := ⟨by decide +kernel, rfl⟩
theorem d8_28 : D m8 28 (.iconst 2) 1 29 := ⟨by decide +kernel, rfl⟩
theorem d8_29 : DB m8 29 (.if_icmp .ne 5) 5 32 34 := ⟨by decide +kernel, rfl, by decide, by decide⟩
theorem d8_32 : D m8 32 (.iconst 4) 1 33 := ⟨by decide +kernel, rfl⟩
theorem d8_33 : D m8 33 (.ireturn) 1 34 := ⟨by decide +kernel, rfl⟩
theorem d8_34 : D m8 34 (.iload_n 0) 1 35 := ⟨by decide +kernel, rfl⟩
theorem d8_35 : D m8 35 (.iconst 4) 1 36 := ⟨by decide +kernel, rfl⟩
theorem d8_36 : DB m8 36 (.if_icmp .ne 5) 5 39 41 := ⟨by decide +kernel, rfl, by decide, by decide⟩
theorem d8_39 : D m8 39 (.iconst 5) 1 40 := ⟨by decide +kernel, rfl⟩
theorem d8_40 : D m8 40 (.ireturn) 1 41 := ⟨by decide +kernel, rfl⟩
theorem d8_41 : D m8 41 (.bipush 6) 2 43 := ⟨by decide +kernel, rfl⟩
theorem d8_43 : D m8 43 (.ireturn) 1 44 := ⟨by decide +kernel, rfl⟩
theorem d9_0 : D m9 0 (.iload_n 1) 1 1 := ⟨by decide +kernel, rfl⟩
theorem d9_1 : D m9 1 (.iconst 3) 1 2 := ⟨by decide +kernel, rfl⟩
theorem d9_2 : DB m9 2 (.if_icmp .lt 8) 8 5 10 := ⟨by decide +kernel, rfl, by decide, by decide⟩
theorem d9_5 : D m9 5 (.aload_n 0) 1 6 := ⟨by decide +kernel, rfl⟩
theorem d9_6 : D m9 6 (.iload_n 1) 1 7 := ⟨by decide +kernel, rfl⟩
theorem d9_7 : D m9 7 (.iconst (-1)) 1 8 := ⟨by decide +kernel, rfl⟩
theorem d9_8 : D m9 8 (.iastore) 1 9 := ⟨by decide +kernel, rfl⟩
theorem d9_9 : D m9 9 (.return_) 1 10 := ⟨by decide +kernel, rfl⟩
theorem d9_10 : D m9 10 (.aload_n 0) 1 11 := ⟨by decide +kernel, rfl⟩
theorem d9_11 : D m9 11 (.iconst 2) 1 12 := ⟨by decide +kernel, rfl⟩
theorem d9_12 : D m9 12 (.iload_n 1) 1 13 := ⟨by decide +kernel, rfl⟩
theorem d9_13 : D m9 13 (.imul) 1 14 := ⟨by decide +kernel, rfl⟩
theorem d9_14 : D m9 14 (.iconst 1) 1 15 := ⟨by decide +kernel, rfl⟩
theorem d9_15 : D m9 15 (.iadd) 1 16 := ⟨by decide +kernel, rfl⟩
theorem d9_16 : D m9 16 (.iaload) 1 17 := ⟨by decide +kernel, rfl⟩
theorem d9_17 : D m9 17 (.istore_n 2) 1 18 := ⟨by decide +kernel, rfl⟩
theorem d9_18 : D m9 18 (.aload_n 0) 1 19 := ⟨by decide +kernel, rfl⟩
theorem d9_19 : D m9 19 (.iconst 2) 1 20 := ⟨by decide +kernel, rfl⟩
theorem d9_20 : D m9 20 (.iload_n 1) 1 21 := ⟨by decide +kernel, rfl⟩
theorem d9_21 : D m9 21 (.imul) 1 22 := ⟨by decide +kernel, rfl⟩
theorem d9_22 : D m9 22 (.iconst 2) 1 23 := ⟨by decide +kernel, rfl⟩
theorem d9_23 : D m9 23 (.iadd) 1 24 := ⟨by decide +kernel, rfl⟩
theorem d9_24 : D m9 24 (.iaload) 1 25 := ⟨by decide +kernel, rfl⟩
theorem d9_25 : D m9 25 (.istore_n 3) 1 26 := ⟨by decide +kernel, rfl⟩
theorem d9_26 : D m9 26 (.iload_n 1) 1 27 := ⟨by decide +kernel, rfl⟩
theorem d9_27 : DB m9 27 (.ifCond .le 69) 69 30 96 := ⟨by decide +kernel, rfl, by decide, by decide⟩
theorem d9_30 : D m9 30 (.iload_n 2) 1 31 := ⟨by decide +kernel, rfl⟩
theorem d9_31 : DB m9 31 (.ifCond .lt 22) 22 34 53 := ⟨by decide +kernel, rfl, by decide, by decide⟩
theorem d9_34 : D m9 34 (.iload_n 3) 1 35 := ⟨by decide +kernel, rfl⟩
theorem d9_35 : DB m9 35 (.ifCond .lt 18) 18 38 53 := ⟨by decide +kernel, rfl, by decide, by decide⟩
theorem d9_38 : D m9 38 (.aload_n 0) 1 39 := ⟨by decide +kernel, rfl⟩
theorem d9_39 : D m9 39 (.iload_n 1) 1 40 := ⟨by decide +kernel, rfl⟩
theorem d9_40 : D m9 40 (.iload_n 3) 1 41 := ⟨by decide +kernel, rfl⟩
theorem d9_41 : D m9 41 (.iastore) 1 42 := ⟨by decide +kernel, rfl⟩
theorem d9_42 : D m9 42 (.aload_n 0) 1 43 := ⟨by decide +kernel, rfl⟩
theorem d9_43 : D m9 43 (.iconst 2) 1 44 := ⟨by decide +kernel, rfl⟩
theorem d9_44 : D m9 44 (.iload_n 1) 1 45 := ⟨by decide +kernel, rfl⟩
theorem d9_45 : D m9 45 (.imul) 1 46 := ⟨by decide +kernel, rfl⟩
theorem d9_46 : D m9 46 (.iconst 2) 1 47 := ⟨by decide +kernel, rfl⟩
theorem d9_47 : D m9 47 (.iadd) 1 48 := ⟨by decide +kernel, rfl⟩
theorem d9_48 : D m9 48 (.iconst (-1)) 1 49 := ⟨by decide +kernel, rfl⟩
theorem d9_49 : D m9 49 (.iastore) 1 50 := ⟨by decide +kernel, rfl⟩
theorem d9_50 : DB m9 50 (.goto 45) 45 53 95 := ⟨by decide +kernel, rfl, by decide, by decide⟩
theorem d9_53 : D m9 53 (.iload_n 2) 1 54 := ⟨by decide +kernel, rfl⟩
theorem d9_54 : DB m9 54 (.ifCond .lt 18) 18 57 72 := ⟨by decide +kernel, rfl, by decide, by decide⟩
theorem d9_57 : D m9 57 (.aload_n 0) 1 58 := ⟨by decide +kernel, rfl⟩
theorem d9_58 : D m9 58 (.iload_n 1) 1 59 := ⟨by decide +kernel, rfl⟩
theorem d9_59 : D m9 59 (.iload_n 2) 1 60 := ⟨by decide +kernel, rfl⟩
theorem d9_60 : D m9 60 (.iastore) 1 61 := ⟨by decide +kernel, rfl⟩
theorem d9_61 : D m9 61 (.aload_n 0) 1 62 := ⟨by decide +kernel, rfl⟩
theorem d9_62 : D m9 62 (.iconst 2) 1 63 := ⟨by decide +kernel, rfl⟩
theorem d9_63 : D m9 63 (.iload_n 1) 1 64 := ⟨by decide +kernel, rfl⟩
theorem d9_64 : D m9 64 (.imul) 1 65 := ⟨by decide +kernel, rfl⟩
theorem d9_65 : D m9 65 (.iconst 1) 1 66 := ⟨by decide +kernel, rfl⟩
theorem d9_66 : D m9 66 (.iadd) 1 67 := ⟨by decide +kernel, rfl⟩
theorem d9_67 : D m9 67 (.iconst (-1)) 1 68 := ⟨by decide +kernel, rfl⟩
theorem d9_68 : D m9 68 (.iastore) 1 69 := ⟨by decide +kernel, rfl⟩
theorem d9_69 : DB m9 69 (.goto 26) 26 72 95 := ⟨by decide +kernel, rfl, by decide, by decide⟩
theorem d9_72 : D m9 72 (.iload_n 3) 1 73 := ⟨by decide +kernel, rfl⟩
theorem d9_73 : DB m9 73 (.ifCond .lt 18) 18 76 91 := ⟨by decide +kernel, rfl, by decide, by decide⟩
theorem d9_76 : D m9 76 (.aload_n 0) 1 77 := ⟨by decide +kernel, rfl⟩
theorem d9_77 : D m9 77 (.iload_n 1) 1 78 := ⟨by decide +kernel, rfl⟩
theorem d9_78 : D m9 78 (.iload_n 3) 1 79 := ⟨by decide +kernel, rfl⟩
theorem d9_79 : D m9 79 (.iastore) 1 80 := ⟨by decide +kernel, rfl⟩
theorem d9_80 : D m9 80 (.aload_n 0) 1 81 := ⟨by decide +kernel, rfl⟩
theorem d9_81 : D m9 81 (.iconst 2) 1 82 := ⟨by decide +kernel, rfl⟩
theorem d9_82 : D m9 82 (.iload_n 1) 1 83 := ⟨by decide +kernel, rfl⟩
theorem d9_83 : D m9 83 (.imul) 1 84 := ⟨by decide +kernel, rfl⟩
theorem d9_84 : D m9 84 (.iconst 2) 1 85 := ⟨by decide +kernel, rfl⟩
theorem d9_85 : D m9 85 (.iadd) 1 86 := ⟨by decide +kernel, rfl⟩
theorem d9_86 : D m9 86 (.iconst (-1)) 1 87 := ⟨by decide +kernel, rfl⟩
theorem d9_87 : D m9 87 (.iastore) 1 88 := ⟨by decide +kernel, rfl⟩
theorem d9_88 : DB m9 88 (.goto 7) 7 91 95 := ⟨by decide +kernel, rfl, by decide, by decide⟩
theorem d9_91 : D m9 91 (.aload_n 0) 1 92 := ⟨by decide +kernel, rfl⟩
theorem d9_92 : D m9 92 (.iload_n 1) 1 93 := ⟨by decide +kernel, rfl⟩
theorem d9_93 : D m9 93 (.iconst (-1)) 1 94 := ⟨by decide +kernel, rfl⟩
theorem d9_94 : D m9 94 (.iastore) 1 95 := ⟨by decide +kernel, rfl⟩
theorem d9_95 : D m9 95 (.return_) 1 96 := ⟨by decide +kernel, rfl⟩
theorem d9_96 : D m9 96 (.iload_n 2) 1 97 := ⟨by decide +kernel, rfl⟩
theorem d9_97 : DB m9 97 (.ifCond .lt 47) 47 100 144 := ⟨by decide +kernel, rfl, by decide, by decide⟩
theorem d9_100 : D m9 100 (.iload_n 3) 1 101 := ⟨by decide +kernel, rfl⟩
theorem d9_101 : DB m9 101 (.ifCond .lt 43) 43 104 144 := ⟨by decide +kernel, rfl, by decide, by decide⟩
theorem d9_104 : D m9 104 (.aload_n 0) 1 105 := ⟨by decide +kernel, rfl⟩
theorem d9_105 : D m9 105 (.iconst 5) 1 106 := ⟨by decide +kernel, rfl⟩
theorem d9_106 : D m9 106 (.iaload) 1 107 := ⟨by decide +kernel, rfl⟩
theorem d9_107 : DB m9 107 (.ifCond .lt 16) 16 110 123 := ⟨by decide +kernel, rfl, by decide, by decide⟩
theorem d9_110 : D m9 110 (.aload_n 0) 1 111 := ⟨by decide +kernel, rfl⟩
theorem d9_111 : D m9 111 (.iconst 0) 1 112 := ⟨by decide +kernel, rfl⟩
theorem d9_112 : D m9 112 (.aload_n 0) 1 113 := ⟨by decide +kernel, rfl⟩
theorem d9_113 : D m9 113 (.iconst 5) 1 114 := ⟨by decide +kernel, rfl⟩
theorem d9_114 : D m9 114 (.iaload) 1 115 := ⟨by decide +kernel, rfl⟩
theorem d9_115 : D m9 115 (.iastore) 1 116 := ⟨by decide +kernel, rfl⟩
theorem d9_116 : D m9 116 (.aload_n 0) 1 117 := ⟨by decide +kernel, rfl⟩
theorem d9_117 : D m9 117 (.iconst 5) 1 118 := ⟨by decide +kernel, rfl⟩
theorem d9_118 : D m9 118 (.iconst (-1)) 1 119 := ⟨by decide +kernel, rfl⟩
theorem d9_119 : D m9 119 (.iastore) 1 120 := ⟨by decide +kernel, rfl⟩
theorem d9_120 : DB m9 120 (.goto 96) 96 123 216 := ⟨by decide +kernel, rfl, by decide, by decide⟩
theorem d9_123 : D m9 123 (.aload_n 0) 1 124 := ⟨by decide +kernel, rfl⟩
theorem d9_124 : D m9 124 (.iconst 0) 1 125 := ⟨by decide +kernel, rfl⟩
theorem d9_125 : D m9 125 (.aload_n 0) 1 126 := ⟨by decide +kernel, rfl⟩
theorem d9_126 : D m9 126 (.iconst 2) 1 127 := ⟨by decide +kernel, rfl⟩
theorem d9_127 : D m9 127 (.iaload) 1 128 := ⟨by decide +kernel, rfl⟩
theorem d9_128 : D m9 128 (.iastore) 1 129 := ⟨by decide +kernel, rfl⟩
theorem d9_129 : D m9 129 (.aload_n 0) 1 130 := ⟨by decide +kernel, rfl⟩
theorem d9_130 : D m9 130 (.iconst 2) 1 131 := ⟨by decide +kernel, rfl⟩
theorem d9_131 : D m9 131 (.aload_n 0) 1 132 := ⟨by decide +kernel, rfl⟩
theorem d9_132 : D m9 132 (.bipush 6) 2 134 := ⟨by decide +kernel, rfl⟩
theorem d9_134 : D m9 134 (.iaload) 1 135 := ⟨by decide +kernel, rfl⟩
theorem d9_135 : D m9 135 (.iastore) 1 136 := ⟨by decide +kernel, rfl⟩
theorem d9_136 : D m9 136 (.aload_n 0) 1 137 := ⟨by decide +kernel, rfl⟩
theorem d9_137 : D m9 137 (.bipush 6) 2 139 := ⟨by decide +kernel, rfl⟩
theorem d9_139 : D m9 139 (.iconst (-1)) 1 140 := ⟨by decide +kernel, rfl⟩
theorem d9_140 : D m9 140 (.iastore) 1 141 := ⟨by decide +kernel, rfl⟩
theorem d9_141 : DB m9 141 (.goto 75) 75 144 216 := ⟨by decide +kernel, rfl, by decide, by decide⟩
theorem d9_144 : D m9 144 (.iload_n 2) 1 145 := ⟨by decide +kernel, rfl⟩
theorem d9_145 : DB m9 145 (.ifCond .lt 32) 32 148 177 := ⟨by decide +kernel, rfl, by decide, by decide⟩
theorem d9_148 : D m9 148 (.aload_n 0) 1 149 := ⟨by decide +kernel, rfl⟩
theorem d9_149 : D m9 149 (.iconst 0) 1 150 := ⟨by decide +kernel, rfl⟩
theorem d9_150 : D m9 150 (.aload_n 0) 1 151 := ⟨by decide +kernel, rfl⟩
theorem d9_151 : D m9 151 (.iconst 1) 1 152 := ⟨by decide +kernel, rfl⟩
theorem d9_152 : D m9 152 (.iaload) 1 153 := ⟨by decide +kernel, rfl⟩
theorem d9_153 : D m9 153 (.iastore) 1 154 := ⟨by decide +kernel, rfl⟩
theorem d9_154 : D m9 154 (.aload_n 0) 1 155 := ⟨by decide +kernel, rfl⟩
theorem d9_155 : D m9 155 (.iconst 1) 1 156 := ⟨by decide +kernel, rfl⟩
theorem d9_156 : D m9 156 (.aload_n 0) 1 157 := ⟨by decide +kernel, rfl⟩
theorem d9_157 : D m9 157 (.iconst 3) 1 158 := ⟨by decide +kernel, rfl⟩
theorem d9_158 : D m9 158 (.iaload) 1 159 := ⟨by decide +kernel, rfl⟩
theorem d9_159 : D m9 159 (.iastore) 1 160 := ⟨by decide +kernel, rfl⟩
theorem d9_160 : D m9 160 (.aload_n 0) 1 161 := ⟨by decide +kernel, rfl⟩
theorem d9_161 : D m9 161 (.iconst 2) 1 162 := ⟨by decide +kernel, rfl⟩
theorem d9_162 : D m9 162 (.aload_n 0) 1 163 := ⟨by decide +kernel, rfl⟩
theorem d9_163 : D m9 163 (.iconst 4) 1 164 := ⟨by decide +kernel, rfl⟩
theorem d9_164 : D m9 164 (.iaload) 1 165 := ⟨by decide +kernel, rfl⟩
theorem d9_165 : D m9 165 (.iastore) 1 166 := ⟨by decide +kernel, rfl⟩
theorem d9_166 : D m9 166 (.aload_n 0) 1 167 := ⟨by decide +kernel, rfl⟩
theorem d9_167 : D m9 167 (.iconst 3) 1 168 := ⟨by decide +kernel, rfl⟩
theorem d9_168 : D m9 168 (.iconst (-1)) 1 169 := ⟨by decide +kernel, rfl⟩
theorem d9_169 : D m9 169 (.iastore) 1 170 := ⟨by decide +kernel, rfl⟩
theorem d9_170 : D m9 170 (.aload_n 0) 1 171 := ⟨by decide +kernel, rfl⟩
theorem d9_171 : D m9 171 (.iconst 4) 1 172 := ⟨by decide +kernel, rfl⟩
theorem d9_172 : D m9 172 (.iconst (-1)) 1 173 := ⟨by decide +kernel, rfl⟩
theorem d9_173 : D m9 173 (.iastore) 1 174 := ⟨by decide +kernel, rfl⟩
theorem d9_174 : DB m9 174 (.goto 42) 42 177 216 := ⟨by decide +kernel, rfl, by decide, by decide⟩
theorem d9_177 : D m9 177 (.iload_n 3) 1 178 := ⟨by decide +kernel, rfl⟩
theorem d9_178 : DB m9 178 (.ifCond .lt 34) 34 181 212 := ⟨by decide +kernel, rfl, by decide, by decide⟩
theorem d9_181 : D m9 181 (.aload_n 0) 1 182 := ⟨by decide +kernel, rfl⟩
theorem d9_182 : D m9 182 (.iconst 0) 1 183 := ⟨by decide +kernel, rfl⟩
theorem d9_183 : D m9 183 (.aload_n 0) 1 184 := ⟨by decide +kernel, rfl⟩
theorem d9_184 : D m9 184 (.iconst 2) 1 185 := ⟨by decide +kernel, rfl⟩
theorem d9_185 : D m9 185 (.iaload) 1 186 := ⟨by decide +kernel, rfl⟩
theorem d9_186 : D m9 186 (.iastore) 1 187 := ⟨by decide +kernel, rfl⟩
theorem d9_187 : D m9 187 (.aload_n 0) 1 188 := ⟨by decide +kernel, rfl⟩
theorem d9_188 : D m9 188 (.iconst 1) 1 189 := ⟨by decide +kernel, rfl⟩
theorem d9_189 : D m9 189 (.aload_n 0) 1 190 := ⟨by decide +kernel, rfl⟩
theorem d9_190 : D m9 190 (.iconst 5) 1 191 := ⟨by decide +kernel, rfl⟩
theorem d9_191 : D m9 191 (.iaload) 1 192 := ⟨by decide +kernel, rfl⟩
theorem d9_192 : D m9 192 (.iastore) 1 193 := ⟨by decide +kernel, rfl⟩
theorem d9_193 : D m9 193 (.aload_n 0) 1 194 := ⟨by decide +kernel, rfl⟩
theorem d9_194 : D m9 194 (.iconst 2) 1 195 := ⟨by decide +kernel, rfl⟩
theorem d9_195 : D m9 195 (.aload_n 0) 1 196 := ⟨by decide +kernel, rfl⟩
theorem d9_196 : D m9 196 (.bipush 6) 2 198 := ⟨by decide +kernel, rfl⟩
theorem d9_198 : D m9 198 (.iaload) 1 199 := ⟨by decide +kernel, rfl⟩
theorem d9_199 : D m9 199 (.iastore) 1 200 := ⟨by decide +kernel, rfl⟩
theorem d9_200 : D m9 200 (.aload_n 0) 1 201 := ⟨by decide +kernel, rfl⟩
theorem d9_201 : D m9 201 (.iconst 5) 1 202 := ⟨by decide +kernel, rfl⟩
theorem d9_202 : D m9 202 (.iconst (-1)) 1 203 := ⟨by decide +kernel, rfl⟩
theorem d9_203 : D m9 203 (.iastore) 1 204 := ⟨by decide +kernel, rfl⟩
theorem d9_204 : D m9 204 (.aload_n 0) 1 205 := ⟨by decide +kernel, rfl⟩
theorem d9_205 : D m9 205 (.bipush 6) 2 207 := ⟨by decide +kernel, rfl⟩
theorem d9_207 : D m9 207 (.iconst (-1)) 1 208 := ⟨by decide +kernel, rfl⟩
theorem d9_208 : D m9 208 (.iastore) 1 209 := ⟨by decide +kernel, rfl⟩
theorem d9_209 : DB m9 209 (.goto 7) 7 212 216 := ⟨by decide +kernel, rfl, by decide, by decide⟩
theorem d9_212 : D m9 212 (.aload_n 0) 1 213 := ⟨by decide +kernel, rfl⟩
theorem d9_213 : D m9 213 (.iconst 0) 1 214 := ⟨by decide +kernel, rfl⟩
theorem d9_214 : D m9 214 (.iconst (-1)) 1 215 := ⟨by decide +kernel, rfl⟩
theorem d9_215 : D m9 215 (.iastore) 1 216 := ⟨by decide +kernel, rfl⟩
theorem d9_216 : D m9 216 (.return_) 1 217 := ⟨by decide +kernel, rfl⟩
theorem d10_0 : D m10 0 (.aconst_null) 1 1 := ⟨by decide +kernel, rfl⟩
theorem d10_1 : D m10 1 (.astore_n 2) 1 2 := ⟨by decide +kernel, rfl⟩
theorem d10_2 : D m10 2 (.aload_n 0) 1 3 := ⟨by decide +kernel, rfl⟩
theorem d10_3 : D m10 3 (.getfield 7) 3 6 := ⟨by decide +kernel, rfl⟩
theorem d10_6 : D m10 6 (.astore_n 3) 1 7 := ⟨by decide +kernel, rfl⟩
theorem d10_7 : D m10 7 (.aload_n 3) 1 8 := ⟨by decide +kernel, rfl⟩
theorem d10_8 : DB m10 8 (.ifnull 36) 36 11 44 := ⟨by decide +kernel, rfl, by decide, by decide⟩
theorem d10_11 : D m10 11 (.aload_n 3) 1 12 := ⟨by decide +kernel, rfl⟩
theorem d10_12 : D m10 12 (.getfield 21) 3 15 := ⟨by decide +kernel, rfl⟩
theorem d10_15 : D m10 15 (.iload_n 1) 1 16 := ⟨by decide +kernel, rfl⟩
theorem d10_16 : DB m10 16 (.if_icmp .eq 28) 28 19 44 := ⟨by decide +kernel, rfl, by decide, by decide⟩
theorem d10_19 : D m10 19 (.aload_n 3) 1 20 := ⟨by decide +kernel, rfl⟩
theorem d10_20 : D m10 20 (.astore_n 2) 1 21 := ⟨by decide +kernel, rfl⟩
theorem d10_21 : D m10 21 (.aload_n 3) 1 22 := ⟨by decide +kernel, rfl⟩
theorem d10_22 : D m10 22 (.getfield 21) 3 25 := ⟨by decide +kernel, rfl⟩
theorem d10_25 : D m10 25 (.iload_n 1) 1 26 := ⟨by decide +kernel, rfl⟩
theorem d10_26 : DB m10 26 (.if_icmp .ge 10) 10 29 36 := ⟨by decide +kernel, rfl, by decide, by decide⟩
theorem d10_29 : D m10 29 (.aload_n 3) 1 30 := ⟨by decide +kernel, rfl⟩
theorem d10_30 : D m10 30 (.getfield 26) 3 33 := ⟨by decide +kernel, rfl⟩
theorem d10_33 : DB m10 33 (.goto 7) 7 36 40 := ⟨by decide +kernel, rfl, by decide, by decide⟩
theorem d10_36 : D m10 36 (.aload_n 3) 1 37 := ⟨by decide +kernel, rfl⟩
theorem d10_37 : D m10 37 (.getfield 29) 3 40 := ⟨by decide +kernel, rfl⟩
theorem d10_40 : D m10 40 (.astore_n 3) 1 41 := ⟨by decide +kernel, rfl⟩
theorem d10_41 : DB m10 41 (.goto (-34)) (-34) 44 7 := ⟨by decide +kernel, rfl, by decide, by decide⟩
theorem d10_44 : D m10 44 (.aload_n 3) 1 45 := ⟨by decide +kernel, rfl⟩
theorem d10_45 : DB m10 45 (.ifnonnull 4) 4 48 49 := ⟨by decide +kernel, rfl, by decide, by decide⟩
theorem d10_48 : D m10 48 (.return_) 1 49 := ⟨by decide +kernel, rfl⟩
theorem d10_49 : D m10 49 (.aload_n 3) 1 50 := ⟨by decide +kernel, rfl⟩
theorem d10_50 : D m10 50 (.getfield 29) 3 53 := ⟨by decide +kernel, rfl⟩
theorem d10_53 : DB m10 53 (.ifnull 56) 56 56 109 := ⟨by decide +kernel, rfl, by decide, by decide⟩
theorem d10_56 : D m10 56 (.aload_n 3) 1 57 := ⟨by decide +kernel, rfl⟩
theorem d10_57 : D m10 57 (.getfield 26) 3 60 := ⟨by decide +kernel, rfl⟩
theorem d10_60 : DB m10 60 (.ifnull 49) 49 63 109 := ⟨by decide +kernel, rfl, by decide, by decide⟩
theorem d10_63 : D m10 63 (.aload_n 3) 1 64 := ⟨by decide +kernel, rfl⟩
theorem d10_64 : D m10 64 (.astore 4) 2 66 := ⟨by decide +kernel, rfl⟩
theorem d10_66 : D m10 66 (.aload_n 3) 1 67 := ⟨by decide +kernel, rfl⟩
theorem d10_67 : D m10 67 (.getfield 26) 3 70 := ⟨by decide +kernel, rfl⟩
theorem d10_70 : D m10 70 (.astore 5) 2 72 := ⟨by decide +kernel, rfl⟩
theorem d10_72 : D m10 72 (.aload 5) 2 74 := ⟨by decide +kernel, rfl⟩
theorem d10_74 : D m10 74 (.getfield 29) 3 77 := ⟨by decide +kernel, rfl⟩
theorem d10_77 : DB m10 77 (.ifnull 17) 17 80 94 := ⟨by decide +kernel, rfl, by decide, by decide⟩
theorem d10_80 : D m10 80 (.aload 5) 2 82 := ⟨by decide +kernel, rfl⟩
theorem d10_82 : D m10 82 (.astore 4) 2 84 := ⟨by decide +kernel, rfl⟩
theorem d10_84 : D m10 84 (.aload 5) 2 86 := ⟨by decide +kernel, rfl⟩
theorem d10_86 : D m10 86 (.getfield 29) 3 89 := ⟨by decide +kernel, rfl⟩
theorem d10_89 : D m10 89 (.astore 5) 2 91 := ⟨by decide +kernel, rfl⟩
theorem d10_91 : DB m10 91 (.goto (-19)) (-19) 94 72 := ⟨by decide +kernel, rfl, by decide, by decide⟩
theorem d10_94 : D m10 94 (.aload_n 3) 1 95 := ⟨by decide +kernel, rfl⟩
theorem d10_95 : D m10 95 (.aload 5) 2 97 := ⟨by decide +kernel, rfl⟩
theorem d10_97 : D m10 97 (.getfield 21) 3 100 := ⟨by decide +kernel, rfl⟩
theorem d10_100 : D m10 100 (.putfield 21) 3 103 := ⟨by decide +kernel, rfl⟩
theorem d10_103 : D m10 103 (.aload 4) 2 105 := ⟨by decide +kernel, rfl⟩
theorem d10_105 : D m10 105 (.astore_n 2) 1 106 := ⟨by decide +kernel, rfl⟩
theorem d10_106 : D m10 106 (.aload 5) 2 108 := ⟨by decide +kernel, rfl⟩
theorem d10_108 : D m10 108 (.astore_n 3) 1 109 := ⟨by decide +kernel, rfl⟩
theorem d10_109 : D m10 109 (.aload_n 3) 1 110 := ⟨by decide +kernel, rfl⟩
theorem d10_110 : D m10 110 (.getfield 29) 3 113 := ⟨by decide +kernel, rfl⟩
theorem d10_113 : DB m10 113 (.ifnull 10) 10 116 123 := ⟨by decide +kernel, rfl, by decide, by decide⟩
theorem d10_116 : D m10 116 (.aload_n 3) 1 117 := ⟨by decide +kernel, rfl⟩
theorem d10_117 : D m10 117 (.getfield 29) 3 120 := ⟨by decide +kernel, rfl⟩
theorem d10_120 : DB m10 120 (.goto 7) 7 123 127 := ⟨by decide +kernel, rfl, by decide, by decide⟩
theorem d10_123 : D m10 123 (.aload_n 3) 1 124 := ⟨by decide +kernel, rfl⟩
theorem d10_124 : D m10 124 (.getfield 26) 3 127 := ⟨by decide +kernel, rfl⟩
theorem d10_127 : D m10 127 (.astore 4) 2 129 := ⟨by decide +kernel, rfl⟩
theorem d10_129 : D m10 129 (.aload_n 2) 1 130 := ⟨by decide +kernel, rfl⟩
theorem d10_130 : DB m10 130 (.ifnonnull 12) 12 133 142 := ⟨by decide +kernel, rfl, by decide, by decide⟩
theorem d10_133 : D m10 133 (.aload_n 0) 1 134 := ⟨by decide +kernel, rfl⟩
theorem d10_134 : D m10 134 (.aload 4) 2 136 := ⟨by decide +kernel, rfl⟩
theorem d10_136 : D m10 136 (.putfield 7) 3 139 := ⟨by decide +kernel, rfl⟩
theorem d10_139 : DB m10 139 (.goto 26) 26 142 165 := ⟨by decide +kernel, rfl, by decide, by decide⟩
theorem d10_142 : D m10 142 (.aload_n 2) 1 143 := ⟨by decide +kernel, rfl⟩
theorem d10_143 : D m10 143 (.getfield 29) 3 146 := ⟨by decide +kernel, rfl⟩
theorem d10_146 : D m10 146 (.aload_n 3) 1 147 := ⟨by decide +kernel, rfl⟩
theorem d10_147 : DB m10 147 (.if_acmp .ne 12) 12 150 159 := ⟨by decide +kernel, rfl, by decide, by decide⟩
theorem d10_150 : D m10 150 (.aload_n 2) 1 151 := ⟨by decide +kernel, rfl⟩
theorem d10_151 : D m10 151 (.aload 4) 2 153 := ⟨by decide +kernel, rfl⟩
theorem d10_153 : D m10 153 (.putfield 29) 3 156 := ⟨by decide +kernel, rfl⟩
theorem d10_156 : DB m10 156 (.goto 9) 9 159 165 := ⟨by decide +kernel, rfl, by decide, by decide⟩
theorem d10_159 : D m10 159 (.aload_n 2) 1 160 := ⟨by decide +kernel, rfl⟩
theorem d10_160 : D m10 160 (.aload 4) 2 162 := ⟨by decide +kernel, rfl⟩
theorem d10_162 : D m10 162 (.putfield 26) 3 165 := ⟨by decide +kernel, rfl⟩
theorem d10_165 : D m10 165 (.aload_n 0) 1 166 := ⟨by decide +kernel, rfl⟩
theorem d10_166 : D m10 166 (.dup) 1 167 := ⟨by decide +kernel, rfl⟩
theorem d10_167 : D m10 167 (.getfield 17) 3 170 := ⟨by decide +kernel, rfl⟩
theorem d10_170 : D m10 170 (.iconst 1) 1 171 := ⟨by decide +kernel, rfl⟩
theorem d10_171 : D m10 171 (.isub) 1 172 := ⟨by decide +kernel, rfl⟩
theorem d10_172 : D m10 172 (.putfield 17) 3 175 := ⟨by decide +kernel, rfl⟩
theorem d10_175 : D m10 175 (.return_) 1 176 := ⟨by decide +kernel, rfl⟩
theorem d11_0 : D m11 0 (.aload_n 0) 1 1 := ⟨by decide +kernel, rfl⟩
theorem d11_1 : DB m11 1 (.ifnonnull 7) 7 4 8 := ⟨by decide +kernel, rfl, by decide, by decide⟩
theorem d11_4 : D m11 4 (.aconst_null) 1 5 := ⟨by decide +kernel, rfl⟩
theorem d11_5 : DB m11 5 (.goto 7) 7 8 12 := ⟨by decide +kernel, rfl, by decide, by decide⟩
theorem d11_8 : D m11 8 (.aload_n 0) 1 9 := ⟨by decide +kernel, rfl⟩
theorem d11_9 : D m11 9 (.getfield 11) 3 12 := ⟨by decide +kernel, rfl⟩
theorem d11_12 : D m11 12 (.areturn) 1 13 := ⟨by decide +kernel, rfl⟩
theorem d12_0 : D m12 0 (.aload_n 0) 1 1 := ⟨by decide +kernel, rfl⟩
theorem d12_1 : DB m12 1 (.ifnonnull 7) 7 4 8 := ⟨by decide +kernel, rfl, by decide, by decide⟩
theorem d12_4 : D m12 4 (.aconst_null) 1 5 := ⟨by decide +kernel, rfl⟩
theorem d12_5 : DB m12 5 (.goto 7) 7 8 12 := ⟨by decide +kernel, rfl, by decide, by decide⟩
theorem d12_8 : D m12 8 (.aload_n 0) 1 9 := ⟨by decide +kernel, rfl⟩
theorem d12_9 : D m12 9 (.getfield 17) 3 12 := ⟨by decide +kernel, rfl⟩
theorem d12_12 : D m12 12 (.areturn) 1 13 := ⟨by decide +kernel, rfl⟩
theorem d13_0 : D m13 0 (.iload_n 1) 1 1 := ⟨by decide +kernel, rfl⟩
theorem d13_1 : DB m13 1 (.ifCond .ge 13) 13 4 14 := ⟨by decide +kernel, rfl, by decide, by decide⟩
theorem d13_4 : D m13 4 (.aload_n 0) 1 5 := ⟨by decide +kernel, rfl⟩
theorem d13_5 : DB m13 5 (.ifnonnull 7) 7 8 12 := ⟨by decide +kernel, rfl, by decide, by decide⟩
theorem d13_8 : D m13 8 (.iconst 1) 1 9 := ⟨by decide +kernel, rfl⟩
theorem d13_9 : DB m13 9 (.goto 4) 4 12 13 := ⟨by decide +kernel, rfl, by decide, by decide⟩
theorem d13_12 : D m13 12 (.iconst 0) 1 13 := ⟨by decide +kernel, rfl⟩
theorem d13_13 : D m13 13 (.ireturn) 1 14 := ⟨by decide +kernel, rfl⟩
theorem d13_14 : D m13 14 (.aload_n 0) 1 15 := ⟨by decide +kernel, rfl⟩
theorem d13_15 : DB m13 15 (.ifnull 18) 18 18 33 := ⟨by decide +kernel, rfl, by decide, by decide⟩
theorem d13_18 : D m13 18 (.aload_n 0) 1 19 := ⟨by decide +kernel, rfl⟩
theorem d13_19 : D m13 19 (.getfield 20) 3 22 := ⟨by decide +kernel, rfl⟩
theorem d13_22 : D m13 22 (.iload_n 1) 1 23 := ⟨by decide +kernel, rfl⟩
theorem d13_23 : D m13 23 (.invokestatic 24) 3 26 := ⟨by decide +kernel, rfl⟩
theorem d13_26 : DB m13 26 (.if_icmp .ne 7) 7 29 33 := ⟨by decide +kernel, rfl, by decide, by decide⟩
theorem d13_29 : D m13 29 (.iconst 1) 1 30 := ⟨by decide +kernel, rfl⟩
theorem d13_30 : DB m13 30 (.goto 4) 4 33 34 := ⟨by decide +kernel, rfl, by decide, by decide⟩
theorem d13_33 : D m13 33 (.iconst 0) 1 34 := ⟨by decide +kernel, rfl⟩
theorem d13_34 : D m13 34 (.ireturn) 1 35 := ⟨by decide +kernel, rfl⟩
theorem d14_0 : D m14 0 (.aload_n 0) 1 1 := ⟨by decide +kernel, rfl⟩
theorem d14_1 : D m14 1 (.invokestatic 30) 3 4 := ⟨by decide +kernel, rfl⟩
theorem d14_4 : DB m14 4 (.ifnonnull 14) 14 7 18 := ⟨by decide +kernel, rfl, by decide, by decide⟩
theorem d14_7 : D m14 7 (.aload_n 0) 1 8 := ⟨by decide +kernel, rfl⟩
theorem d14_8 : D m14 8 (.invokestatic 33) 3 11 := ⟨by decide +kernel, rfl⟩
theorem d14_11 : DB m14 11 (.ifnonnull 7) 7 14 18 := ⟨by decide +kernel, rfl, by decide, by decide⟩
theorem d14_14 : D m14 14 (.iconst 1) 1 15 := ⟨by decide +kernel, rfl⟩
theorem d14_15 : DB m14 15 (.goto 4) 4 18 19 := ⟨by decide +kernel, rfl, by decide, by decide⟩
theorem d14_18 : D m14 18 (.iconst 0) 1 19 := ⟨by decide +kernel, rfl⟩
theorem d14_19 : D m14 19 (.ireturn) 1 20 := ⟨by decide +kernel, rfl⟩
theorem pn0 : plainName "boundwright/examples/BstSetRemovePinLaw" = true := by first | (simp [plainName, overriddenIn]; done) | decide +kernel
theorem pd1 : parseMethodDescriptor "(I)I" = some ⟨[.int], some .int⟩ := by decide +kernel
theorem ok1 {Z : State} {a0 : Array Value} (hw : ∀ d ∈ tables_1, d.before a0 Z = true) : OkM a0 Z m1 1 := ⟨hw _ (wd 4 rfl), hw _ (wd 3 rfl), pn0, ⟨by decide, by decide⟩, arity pd1 rfl⟩
theorem pn1 : plainName "boundwright/examples/BstSet" = true := by first | (simp [plainName, overriddenIn]; done) | decide +kernel
theorem pd2 : parseMethodDescriptor "()V" = some ⟨[], none⟩ := by decide +kernel
theorem ok2 {Z : State} {a0 : Array Value} (hw : ∀ d ∈ tables_1, d.before a0 Z = true) : OkM a0 Z m2 0 := ⟨hw _ (wd 11 rfl), hw _ (wd 8 rfl), pn1, ⟨by decide, by decide⟩, arity pd2 rfl⟩
theorem pd4 : parseMethodDescriptor "(I)V" = some ⟨[.int], none⟩ := by decide +kernel
theorem ok4 {Z : State} {a0 : Array Value} (hw : ∀ d ∈ tables_1, d.before a0 Z = true) : OkM a0 Z m4 1 := ⟨hw _ (wd 19 rfl), hw _ (wd 8 rfl), pn1, ⟨by decide, by decide⟩, arity pd4 rfl⟩
theorem pd5 : parseMethodDescriptor "(I)Lboundwright/examples/BstSet$Node;" = some ⟨[.int], some (.object "boundwright/examples/BstSet$Node")⟩ := by decide +kernel
theorem ok5 {Z : State} {a0 : Array Value} (hw : ∀ d ∈ tables_1, d.before a0 Z = true) : OkM a0 Z m5 1 := ⟨hw _ (wd 24 rfl), hw _ (wd 8 rfl), pn1, ⟨by decide, by decide⟩, arity pd5 rfl⟩
theorem pn2 : plainName "boundwright/examples/BstSet$Node" = true := by first | (simp [plainName, overriddenIn]; done) | decide +kernel
theorem pd6 : parseMethodDescriptor "()V" = some ⟨[], none⟩ := by decide +kernel
theorem ok6 {Z : State} {a0 : Array Value} (hw : ∀ d ∈ tables_1, d.before a0 Z = true) : OkM a0 Z m6 0 := ⟨hw _ (wd 30 rfl), hw _ (wd 27 rfl), pn2, ⟨by decide, by decide⟩, arity pd6 rfl⟩
theorem pd7 : parseMethodDescriptor "(I)I" = some ⟨[.int], some .int⟩ := by decide +kernel
theorem ok7 {Z : State} {a0 : Array Value} (hw : ∀ d ∈ tables_1, d.before a0 Z = true) : OkM a0 Z m7 1 := ⟨hw _ (wd 38 rfl), hw _ (wd 3 rfl), pn0, ⟨by decide, by decide⟩, arity pd7 rfl⟩
theorem pd8 : parseMethodDescriptor "(I)I" = some ⟨[.int], some .int⟩ := by decide +kernel
theorem ok8 {Z : State} {a0 : Array Value} (hw : ∀ d ∈ tables_1, d.before a0 Z = true) : OkM a0 Z m8 1 := ⟨hw _ (wd 42 rfl), hw _ (wd 3 rfl), pn0, ⟨by decide, by decide⟩, arity pd8 rfl⟩
theorem pd9 : parseMethodDescriptor "([II)V" = some ⟨[(.array .int), .int], none⟩ := by decide +kernel
theorem ok9 {Z : State} {a0 : Array Value} (hw : ∀ d ∈ tables_1, d.before a0 Z = true) : OkM a0 Z m9 2 := ⟨hw _ (wd 45 rfl), hw _ (wd 3 rfl), pn0, ⟨by decide, by decide⟩, arity pd9 rfl⟩
theorem pd10 : parseMethodDescriptor "(I)V" = some ⟨[.int], none⟩ := by decide +kernel
theorem ok10 {Z : State} {a0 : Array Value} (hw : ∀ d ∈ tables_1, d.before a0 Z = true) : OkM a0 Z m10 1 := ⟨hw _ (wd 50 rfl), hw _ (wd 8 rfl), pn1, ⟨by decide, by decide⟩, arity pd10 rfl⟩
theorem pd11 : parseMethodDescriptor "(Lboundwright/examples/BstSet$Node;)Lboundwright/examples/BstSet$Node;" = some ⟨[(.object "boundwright/examples/BstSet$Node")], some (.object "boundwright/examples/BstSet$Node")⟩ := by decide +kernel
theorem ok11 {Z : State} {a0 : Array Value} (hw : ∀ d ∈ tables_1, d.before a0 Z = true) : OkM a0 Z m11 1 := ⟨hw _ (wd 58 rfl), hw _ (wd 3 rfl), pn0, ⟨by decide, by decide⟩, arity pd11 rfl⟩
theorem pd12 : parseMethodDescriptor "(Lboundwright/examples/BstSet$Node;)Lboundwright/examples/BstSet$Node;" = some ⟨[(.object "boundwright/examples/BstSet$Node")], some (.object "boundwright/examples/BstSet$Node")⟩ := by decide +kernel
theorem ok12 {Z : State} {a0 : Array Value} (hw : ∀ d ∈ tables_1, d.before a0 Z = true) : OkM a0 Z m12 1 := ⟨hw _ (wd 61 rfl), hw _ (wd 3 rfl), pn0, ⟨by decide, by decide⟩, arity pd12 rfl⟩
theorem pd13 : parseMethodDescriptor "(Lboundwright/examples/BstSet$Node;I)Z" = some ⟨[(.object "boundwright/examples/BstSet$Node"), .int], some .boolean⟩ := by decide +kernel
theorem ok13 {Z : State} {a0 : Array Value} (hw : ∀ d ∈ tables_1, d.before a0 Z = true) : OkM a0 Z m13 2 := ⟨hw _ (wd 65 rfl), hw _ (wd 3 rfl), pn0, ⟨by decide, by decide⟩, arity pd13 rfl⟩
theorem pd14 : parseMethodDescriptor "(Lboundwright/examples/BstSet$Node;)Z" = some ⟨[(.object "boundwright/examples/BstSet$Node")], some .boolean⟩ := by decide +kernel
theorem ok14 {Z : State} {a0 : Array Value} (hw : ∀ d ∈ tables_1, d.before a0 Z = true) : OkM a0 Z m14 1 := ⟨hw _ (wd 68 rfl), hw _ (wd 3 rfl), pn0, ⟨by decide, by decide⟩, arity pd14 rfl⟩
def fs0 : List (Key × Value) := [(("boundwright/examples/BstSet", "root", "Lboundwright/examples/BstSet$Node;"), .null), (("boundwright/examples/BstSet", "size", "I"), .int 0)]
theorem okc0 {Z : State} {a0 : Array Value} (hw : ∀ d ∈ tables_1, d.before a0 Z = true) : OkC a0 Z "boundwright/examples/BstSet" 2 fs0 := by
  refine ⟨hw _ (wd 7 rfl), hw _ (wd 8 rfl), fun q hq => ?_, by simp [fs0]⟩
  simp only [fs0, List.mem_cons, List.not_mem_nil, or_false] at hq
  rcases hq with rfl | rfl
  · exact ⟨(.object "boundwright/examples/BstSet$Node"), Or.inl (hw _ (wd 21 rfl)), by decide, rfl⟩
  · exact ⟨.int, Or.inl (hw _ (wd 35 rfl)), by decide, rfl⟩
def fs1 : List (Key × Value) := [(("boundwright/examples/BstSet$Node", "value", "I"), .int 0), (("boundwright/examples/BstSet$Node", "left", "Lboundwright/examples/BstSet$Node;"), .null), (("boundwright/examples/BstSet$Node", "right", "Lboundwright/examples/BstSet$Node;"), .null)]
theorem okc1 {Z : State} {a0 : Array Value} (hw : ∀ d ∈ tables_1, d.before a0 Z = true) : OkC a0 Z "boundwright/examples/BstSet$Node" 3 fs1 := by
  refine ⟨hw _ (wd 26 rfl), hw _ (wd 27 rfl), fun q hq => ?_, by simp [fs1]⟩
  simp only [fs1, List.mem_cons, List.not_mem_nil, or_false] at hq
  rcases hq with rfl | rfl | rfl
  · exact ⟨.int, Or.inl (hw _ (wd 33 rfl)), by decide, rfl⟩
  · exact ⟨(.object "boundwright/examples/BstSet$Node"), Or.inl (hw _ (wd 52 rfl)), by decide, rfl⟩
  · exact ⟨(.object "boundwright/examples/BstSet$Node"), Or.inl (hw _ (wd 54 rfl)), by decide, rfl⟩
abbrev ND : Type := Int32 × Value × Value
def own_nd (x : ND) : AObj := .inl ("boundwright/examples/BstSet$Node", [(("boundwright/examples/BstSet$Node", "value", "I"), .int x.1), (("boundwright/examples/BstSet$Node", "left", "Lboundwright/examples/BstSet$Node;"), x.2.1), (("boundwright/examples/BstSet$Node", "right", "Lboundwright/examples/BstSet$Node;"), x.2.2)])
def own_st (rt : Value) (sz : Int32) : AObj := .inl ("boundwright/examples/BstSet", [(("boundwright/examples/BstSet", "root", "Lboundwright/examples/BstSet$Node;"), rt), (("boundwright/examples/BstSet", "size", "I"), .int sz)])
def own_H (e : List Int32) (rt : Value) (sz : Int32) (ns : List ND) : AHeap := .inr (.int, e.map Value.int) :: own_st rt sz :: ns.map own_nd
def own_get (ns : List ND) (k : Nat) : Option ND := if 2 ≤ k then ns[k - 2]? else none
theorem own_at {e : List Int32} {rt : Value} {sz : Int32} {ns : List ND} {k : Nat} {x : ND} (h : own_get ns k = some x) : (own_H e rt sz ns)[k]? = some (own_nd x) := by
  unfold own_get at h
  split at h
  · rename_i hk
    obtain ⟨j, rfl⟩ : ∃ j, k = j + 2 := ⟨k - 2, by omega⟩
    rw [Nat.add_sub_cancel] at h
    show (ns.map own_nd)[j]? = _
    rw [List.getElem?_map, h] <;> rfl
  · cases h
theorem own_put {e : List Int32} {rt : Value} {sz : Int32} {ns : List ND} {k : Nat} {x : ND} (h : own_get ns k = some x) (y : ND) : own_H e rt sz (ns.set (k - 2) y) = (own_H e rt sz ns).set k (own_nd y) := by
  unfold own_get at h
  split at h
  · rename_i hk
    obtain ⟨j, rfl⟩ : ∃ j, k = j + 2 := ⟨k - 2, by omega⟩
    rw [Nat.add_sub_cancel]
    show _ :: _ :: (ns.set j y).map own_nd = _ :: _ :: (ns.map own_nd).set j (own_nd y)
    rw [List.map_set]
  · cases h
theorem own_mem {ns : List ND} {k : Nat} {x : ND} (h : own_get ns k = some x) : x ∈ ns := by
  unfold own_get at h
  split at h
  · exact List.mem_of_getElem? h
  · cases h
theorem own_getset {ns : List ND} {k j : Nat} {x : ND} (h : own_get ns k = some x) (y : ND) : own_get (ns.set (k - 2) y) j = if j = k then some y else own_get ns j := by
  unfold own_get at h ⊢
  split at h
  · rename_i hk
    have hl := (List.getElem?_eq_some_iff.mp h).1
    by_cases c : j = k
    · subst c; rw [if_pos hk, if_pos rfl, List.getElem?_set]; simp [hl]
    · rw [if_neg c]
      by_cases d : 2 ≤ j
      · rw [if_pos d, if_pos d, List.getElem?_set, if_neg (by omega)]
      · rw [if_neg d, if_neg d]
  · cases h
def own_ok (ns : List ND) : Prop := ∀ x ∈ ns, x.2.1.isRef = true ∧ x.2.2.isRef = true
theorem own_okset {ns : List ND} (h : own_ok ns) (k : Nat) (y : ND) (hy : y.2.1.isRef = true ∧ y.2.2.isRef = true) : own_ok (ns.set k y) := fun x hx => by
  rcases List.mem_or_eq_of_mem_set hx with q | q
  · exact h x q
  · subst q; exact hy
def own_srch : Nat → List ND → Int32 → Value → Value → Option (Value × Value)
  | 0, _, _, _, _ => none
  | f + 1, ns, v, p, q => match q with
    | .null => some (p, .null)
    | .ref k => match own_get ns k with
      | none => none
      | some x => if x.1 = v then some (p, .ref k) else own_srch f ns v (.ref k) (if x.1 < v then x.2.2 else x.2.1)
    | _ => none
def own_suc : Nat → List ND → Nat → Nat → Option (Nat × Nat)
  | 0, _, _, _ => none
  | f + 1, ns, sp, s => match own_get ns s with
    | none => none
    | some y => match y.2.1 with
      | .null => some (sp, s)
      | .ref t => own_suc f ns s t
      | _ => none
def own_fix (ns : List ND) (rt : Value) (sz : Int32) (p : Value) (k : Nat) : Option (List ND × Value × Int32) :=
  match own_get ns k with
  | none => none
  | some z => match p with
    | .null => some (ns, (if z.2.1 = .null then z.2.2 else z.2.1), sz - 1)
    | .ref a => match own_get ns a with
      | none => none
      | some w => if w.2.1 = .ref k then some (ns.set (a - 2) (w.1, (if z.2.1 = .null then z.2.2 else z.2.1), w.2.2), rt, sz - 1) else some (ns.set (a - 2) (w.1, w.2.1, (if z.2.1 = .null then z.2.2 else z.2.1)), rt, sz - 1)
    | _ => none
def own_rem (ns : List ND) (rt : Value) (sz : Int32) (v : Int32) : Option (List ND × Value × Int32) :=
  match own_srch 10 ns v .null rt with
  | none => none
  | some (p, q) => match q with
    | .null => some (ns, rt, sz)
    | .ref k => match own_get ns k with
      | none => none
      | some x => if x.2.1 = .null then own_fix ns rt sz p k else match x.2.2 with
        | .null => own_fix ns rt sz p k
        | .ref r => match own_suc 10 ns k r with
          | none => none
          | some (sp, s) => match own_get ns s with
            | none => none
            | some y => own_fix (ns.set (k - 2) (y.1, x.2.1, x.2.2)) rt sz (.ref sp) s
        | _ => none
    | _ => none
def own_addgo : Nat → List ND → Int32 → Nat → Option (List ND)
  | 0, _, _, _ => none
  | f + 1, ns, v, k => match own_get ns k with
    | none => none
    | some x => if x.1 < v then (match x.2.2 with
        | .null => some ((ns ++ [(v, Value.null, Value.null)]).set (k - 2) (x.1, x.2.1, .ref (ns.length + 2)))
        | .ref r => own_addgo f ns v r
        | _ => none)
      else if v < x.1 then (match x.2.1 with
        | .null => some ((ns ++ [(v, Value.null, Value.null)]).set (k - 2) (x.1, .ref (ns.length + 2), x.2.2))
        | .ref r => own_addgo f ns v r
        | _ => none)
      else none
def own_rank (x : Int32) : Int32 := if x = -2147483648 then 0 else if x = -1000 then 1 else if x = -1 then 2 else if x = 0 then 3 else if x = 1 then 4 else if x = 1000 then 5 else if x = 2147483647 then 6 else -1
def own_pos (t : Int32) : Int32 := if t = 3 then 0 else if t = 1 then 1 else if t = 5 then 2 else if t = 0 then 3 else if t = 2 then 4 else if t = 4 then 5 else 6
def own_key (i : Int32) : Int32 := if i = 0 then -2147483648 else if i = 1 then -1000 else if i = 2 then -1 else if i = 3 then 0 else if i = 4 then 1 else if i = 5 then 1000 else 2147483647
def own_left (ns : List ND) (v : Value) : Value := match v with
  | .ref k => match own_get ns k with
    | some x => x.2.1
    | none => .null
  | _ => .null
def own_right (ns : List ND) (v : Value) : Value := match v with
  | .ref k => match own_get ns k with
    | some x => x.2.2
    | none => .null
  | _ => .null
/-- null, or a node that is there -/
def own_is (ns : List ND) (v : Value) : Bool := match v with
  | .null => true
  | .ref k => (own_get ns k).isSome
  | _ => false
def own_match (ns : List ND) (v : Value) (r : Int32) : Bool := if r < 0 then decide (v = .null) else match v with
  | .ref k => match own_get ns k with
    | some x => decide (x.1 = own_key r)
    | none => false
  | _ => false
def own_leaf (ns : List ND) (v : Value) : Bool := decide (own_left ns v = .null) && decide (own_right ns v = .null)
def own_rm (e : List Int32) (p : Nat) : List Int32 :=
  if 3 ≤ p then e.set p (-1)
  else if 0 < p then
    (if ¬ e.getD (2 * p + 1) 0 < 0 ∧ ¬ e.getD (2 * p + 2) 0 < 0 then (e.set p (e.getD (2 * p + 2) 0)).set (2 * p + 2) (-1)
     else if ¬ e.getD (2 * p + 1) 0 < 0 then (e.set p (e.getD (2 * p + 1) 0)).set (2 * p + 1) (-1)
     else if ¬ e.getD (2 * p + 2) 0 < 0 then (e.set p (e.getD (2 * p + 2) 0)).set (2 * p + 2) (-1)
     else e.set p (-1))
  else
    (if ¬ e.getD 1 0 < 0 ∧ ¬ e.getD 2 0 < 0 then
       (if ¬ e.getD 5 0 < 0 then (e.set 0 (e.getD 5 0)).set 5 (-1) else ((e.set 0 (e.getD 2 0)).set 2 (e.getD 6 0)).set 6 (-1))
     else if ¬ e.getD 1 0 < 0 then ((((e.set 0 (e.getD 1 0)).set 1 (e.getD 3 0)).set 2 (e.getD 4 0)).set 3 (-1)).set 4 (-1)
     else if ¬ e.getD 2 0 < 0 then ((((e.set 0 (e.getD 2 0)).set 1 (e.getD 5 0)).set 2 (e.getD 6 0)).set 5 (-1)).set 6 (-1)
     else e.set 0 (-1))
/-- what the law asks of the tree behind the removal -/
def own_okb (ns : List ND) : Bool := ns.all fun x => x.2.1.isRef && x.2.2.isRef
theorem own_okb_ok {ns : List ND} (h : own_okb ns = true) : own_ok ns := fun x hx => by
  have := List.all_eq_true.mp h x hx
  simpa using this
def own_chkC (e : List Int32) (nn : Int32) (ns : List ND) (rt : Value) (sz : Int32) : Bool :=
  own_okb ns && (own_is ns rt && (own_is ns (own_left ns rt) && (own_is ns (own_right ns rt) && (own_is ns (own_left ns (own_left ns rt)) && (own_is ns (own_right ns (own_left ns rt)) && (own_is ns (own_left ns (own_right ns rt)) && (own_is ns (own_right ns (own_right ns rt)) && (decide (sz = nn) && (own_match ns rt (e.getD 0 0) && (own_match ns (own_left ns rt) (e.getD 1 0) && (own_match ns (own_right ns rt) (e.getD 2 0) && (own_match ns (own_left ns (own_left ns rt)) (e.getD 3 0) && (own_match ns (own_right ns (own_left ns rt)) (e.getD 4 0) && (own_match ns (own_left ns (own_right ns rt)) (e.getD 5 0) && (own_match ns (own_right ns (own_right ns rt)) (e.getD 6 0) && (own_leaf ns (own_left ns (own_left ns rt)) && (own_leaf ns (own_right ns (own_left ns rt)) && (own_leaf ns (own_left ns (own_right ns rt)) && (own_leaf ns (own_right ns (own_right ns rt)))))))))))))))))))))
def own_chkB (e : List Int32) (nn : Int32) (ns : List ND) (rt : Value) (sz : Int32) (x : Int32) : Bool := match own_rem ns rt sz x with
  | none => false
  | some r => own_chkC e nn r.1 r.2.1 r.2.2
def own_chk (e : List Int32) (nn : Int32) (ns : List ND) (rt : Value) (sz : Int32) (x : Int32) : Bool :=
  if own_rank x < 0 then own_chkB e nn ns rt sz x
  else if e.getD (own_pos (own_rank x)).toNatClampNeg 0 = own_rank x then own_chkB (own_rm e (own_pos (own_rank x)).toNatClampNeg) (nn - 1) ns rt sz x
  else own_chkB e nn ns rt sz x
/-! a value that no node holds: nothing is removed -/
def own_deep : Nat → List ND → Value → Bool
  | 0, _, _ => false
  | f + 1, ns, v => match v with
    | .null => true
    | .ref k => match own_get ns k with
      | none => false
      | some x => own_deep f ns x.2.1 && own_deep f ns x.2.2
    | _ => false
theorem own_non (ns : List ND) (x : Int32) (h : ∀ y ∈ ns, ¬ y.1 = x) : ∀ f p q, own_deep f ns q = true → ∃ p', own_srch f ns x p q = some (p', .null) := by
  intro f
  induction f with
  | zero => intro p q h; simp [own_deep] at h
  | succ f ih =>
    intro p q hq
    cases q with
    | null => exact ⟨p, rfl⟩
    | ref k =>
      simp only [own_deep] at hq
      simp only [own_srch]
      cases hx : own_get ns k with
      | none => simp [hx] at hq
      | some y =>
        simp only [hx, Bool.and_eq_true] at hq
        simp only [if_neg (h y (own_mem hx))]
        by_cases c : y.1 < x
        · rw [if_pos c]; exact ih _ _ hq.2
        · rw [if_neg c]; exact ih _ _ hq.1
    | int _ => simp [own_deep] at hq
    | long _ => simp [own_deep] at hq
    | float _ => simp [own_deep] at hq
    | double _ => simp [own_deep] at hq
    | retAddr _ => simp [own_deep] at hq
theorem own_none (ns : List ND) (rt : Value) (sz x : Int32) (h : ∀ y ∈ ns, ¬ y.1 = x) (hd : own_deep 10 ns rt = true) : own_rem ns rt sz x = some (ns, rt, sz) := by
  obtain ⟨p', e⟩ := own_non ns x h 10 .null rt hd
  simp only [own_rem, e]
set_option maxRecDepth 65536 in
set_option maxHeartbeats 40000000 in
theorem w1 {l : Launch} {Z : State} {a0 : Array Value} {n : Nat} (hw : ∀ d ∈ tables_1, d.before a0 Z = true) (x : Int32) (H : AHeap) : W l Z n m1 0 (entryL [.int x] 1) [] H 0 0 (Is (some (.int (own_key x))) H) := by
  show W l Z n m1 0 [.val (.int x)] [] H 0 0 _
  refine W.iloadN d1_0 rfl ?_
  refine W.if_ne d1_1 (fun h1 => ?_) (fun h1 => ?_)
  · refine W.iloadN d1_7 rfl ?_
    refine W.iconst 1 d1_8 rfl ?_
    refine W.icmp_ne d1_9 (fun h9 => ?_) (fun h9 => ?_)
    · refine W.iloadN d1_16 rfl ?_
      refine W.iconst 2 d1_17 rfl ?_
      refine W.icmp_ne d1_18 (fun h18 => ?_) (fun h18 => ?_)
      · refine W.iloadN d1_23 rfl ?_
        refine W.iconst 3 d1_24 rfl ?_
        refine W.icmp_ne d1_25 (fun h25 => ?_) (fun h25 => ?_)
        · refine W.iloadN d1_30 rfl ?_
          refine W.iconst 4 d1_31 rfl ?_
          refine W.icmp_ne d1_32 (fun h32 => ?_) (fun h32 => ?_)
          · refine W.iloadN d1_37 rfl ?_
            refine W.iconst 5 d1_38 rfl ?_
            refine W.icmp_ne d1_39 (fun h39 => ?_) (fun h39 => ?_)
            · refine W.ldc d1_46 (hw _ (wd 0 rfl)) ?_
              exact W.ireturn d1_48 rfl (by decide) (by decide) (⟨by simp [own_key, h1, h9, h18, h25, h32, h39] <;> rfl, rfl⟩)
            · refine W.sipush 1000 d1_42 rfl ?_
              exact W.ireturn d1_45 rfl (by decide) (by decide) (⟨by simp [own_key, h1, h9, h18, h25, h32, h39] <;> rfl, rfl⟩)
          · refine W.iconst 1 d1_35 rfl ?_
            exact W.ireturn d1_36 rfl (by decide) (by decide) (⟨by simp [own_key, h1, h9, h18, h25, h32] <;> rfl, rfl⟩)
        · refine W.iconst 0 d1_28 rfl ?_
          exact W.ireturn d1_29 rfl (by decide) (by decide) (⟨by simp [own_key, h1, h9, h18, h25] <;> rfl, rfl⟩)
      · refine W.iconst (-1) d1_21 rfl ?_
        exact W.ireturn d1_22 rfl (by decide) (by decide) (⟨by simp [own_key, h1, h9, h18] <;> rfl, rfl⟩)
    · refine W.sipush (-1000) d1_12 rfl ?_
      exact W.ireturn d1_15 rfl (by decide) (by decide) (⟨by simp [own_key, h1, h9] <;> rfl, rfl⟩)
  · refine W.ldc d1_4 (hw _ (wd 39 rfl)) ?_
    exact W.ireturn d1_6 rfl (by decide) (by decide) (⟨by simp [own_key, h1] <;> rfl, rfl⟩)
set_option maxRecDepth 65536 in
set_option maxHeartbeats 40000000 in
theorem w7 {l : Launch} {Z : State} {a0 : Array Value} {n : Nat} (hw : ∀ d ∈ tables_1, d.before a0 Z = true) (x : Int32) (H : AHeap) : W l Z n m7 0 (entryL [.int x] 1) [] H 0 0 (Is (some (.int (own_rank x))) H) := by
  show W l Z n m7 0 [.val (.int x)] [] H 0 0 _
  refine W.iloadN d7_0 rfl ?_
  refine W.ldc d7_1 (hw _ (wd 39 rfl)) ?_
  refine W.icmp_ne d7_3 (fun h3 => ?_) (fun h3 => ?_)
  · refine W.iloadN d7_8 rfl ?_
    refine W.sipush (-1000) d7_9 rfl ?_
    refine W.icmp_ne d7_12 (fun h12 => ?_) (fun h12 => ?_)
    · refine W.iloadN d7_17 rfl ?_
      refine W.iconst (-1) d7_18 rfl ?_
      refine W.icmp_ne d7_19 (fun h19 => ?_) (fun h19 => ?_)
      · refine W.iloadN d7_24 rfl ?_
        refine W.if_ne d7_25 (fun h25 => ?_) (fun h25 => ?_)
        · refine W.iloadN d7_30 rfl ?_
          refine W.iconst 1 d7_31 rfl ?_
          refine W.icmp_ne d7_32 (fun h32 => ?_) (fun h32 => ?_)
          · refine W.iloadN d7_37 rfl ?_
            refine W.sipush 1000 d7_38 rfl ?_
            refine W.icmp_ne d7_41 (fun h41 => ?_) (fun h41 => ?_)
            · refine W.iloadN d7_46 rfl ?_
              refine W.ldc d7_47 (hw _ (wd 0 rfl)) ?_
              refine W.icmp_ne d7_49 (fun h49 => ?_) (fun h49 => ?_)
              · refine W.iconst (-1) d7_55 rfl ?_
                exact W.ireturn d7_56 rfl (by decide) (by decide) (⟨by simp [own_rank, h3, h12, h19, h25, h32, h41, h49] <;> rfl, rfl⟩)
              · refine W.bipush 6 d7_52 rfl ?_
                exact W.ireturn d7_54 rfl (by decide) (by decide) (⟨by simp [own_rank, h3, h12, h19, h25, h32, h41, h49] <;> rfl, rfl⟩)
            · refine W.iconst 5 d7_44 rfl ?_
              exact W.ireturn d7_45 rfl (by decide) (by decide) (⟨by simp [own_rank, h3, h12, h19, h25, h32, h41] <;> rfl, rfl⟩)
          · refine W.iconst 4 d7_35 rfl ?_
            exact W.ireturn d7_36 rfl (by decide) (by decide) (⟨by simp [own_rank, h3, h12, h19, h25, h32] <;> rfl, rfl⟩)
        · refine W.iconst 3 d7_28 rfl ?_
          exact W.ireturn d7_29 rfl (by decide) (by decide) (⟨by simp [own_rank, h3, h12, h19, h25] <;> rfl, rfl⟩)
      · refine W.iconst 2 d7_22 rfl ?_
        exact W.ireturn d7_23 rfl (by decide) (by decide) (⟨by simp [own_rank, h3, h12, h19] <;> rfl, rfl⟩)
    · refine W.iconst 1 d7_15 rfl ?_
      exact W.ireturn d7_16 rfl (by decide) (by decide) (⟨by simp [own_rank, h3, h12] <;> rfl, rfl⟩)
  · refine W.iconst 0 d7_6 rfl ?_
    exact W.ireturn d7_7 rfl (by decide) (by decide) (⟨by simp [own_rank, h3] <;> rfl, rfl⟩)
set_option maxRecDepth 65536 in
set_option maxHeartbeats 40000000 in
theorem w8 {l : Launch} {Z : State} {a0 : Array Value} {n : Nat} (hw : ∀ d ∈ tables_1, d.before a0 Z = true) (x : Int32) (H : AHeap) : W l Z n m8 0 (entryL [.int x] 1) [] H 0 0 (Is (some (.int (own_pos x))) H) := by
  show W l Z n m8 0 [.val (.int x)] [] H 0 0 _
  refine W.iloadN d8_0 rfl ?_
  refine W.iconst 3 d8_1 rfl ?_
  refine W.icmp_ne d8_2 (fun h2 => ?_) (fun h2 => ?_)
  · refine W.iloadN d8_7 rfl ?_
    refine W.iconst 1 d8_8 rfl ?_
    refine W.icmp_ne d8_9 (fun h9 => ?_) (fun h9 => ?_)
    · refine W.iloadN d8_14 rfl ?_
      refine W.iconst 5 d8_15 rfl ?_
      refine W.icmp_ne d8_16 (fun h16 => ?_) (fun h16 => ?_)
      · refine W.iloadN d8_21 rfl ?_
        refine W.if_ne d8_22 (fun h22 => ?_) (fun h22 => ?_)
        · refine W.iloadN d8_27 rfl ?_
          refine W.iconst 2 d8_28 rfl ?_
          refine W.icmp_ne d8_29 (fun h29 => ?_) (fun h29 => ?_)
          · refine W.iloadN d8_34 rfl ?_
            refine W.iconst 4 d8_35 rfl ?_
            refine W.icmp_ne d8_36 (fun h36 => ?_) (fun h36 => ?_)
            · refine W.bipush 6 d8_41 rfl ?_
              exact W.ireturn d8_43 rfl (by decide) (by decide) (⟨by simp [own_pos, h2, h9, h16, h22, h29, h36] <;> rfl, rfl⟩)
            · refine W.iconst 5 d8_39 rfl ?_
              exact W.ireturn d8_40 rfl (by decide) (by decide) (⟨by simp [own_pos, h2, h9, h16, h22, h29, h36] <;> rfl, rfl⟩)
          · refine W.iconst 4 d8_32 rfl ?_
            exact W.ireturn d8_33 rfl (by decide) (by decide) (⟨by simp [own_pos, h2, h9, h16, h22, h29] <;> rfl, rfl⟩)
        · refine W.iconst 3 d8_25 rfl ?_
          exact W.ireturn d8_26 rfl (by decide) (by decide) (⟨by simp [own_pos, h2, h9, h16, h22] <;> rfl, rfl⟩)
      · refine W.iconst 2 d8_19 rfl ?_
        exact W.ireturn d8_20 rfl (by decide) (by decide) (⟨by simp [own_pos, h2, h9, h16] <;> rfl, rfl⟩)
    · refine W.iconst 1 d8_12 rfl ?_
      exact W.ireturn d8_13 rfl (by decide) (by decide) (⟨by simp [own_pos, h2, h9] <;> rfl, rfl⟩)
  · refine W.iconst 0 d8_5 rfl ?_
    exact W.ireturn d8_6 rfl (by decide) (by decide) (⟨by simp [own_pos, h2] <;> rfl, rfl⟩)
theorem own_refc {v : Value} (h : v.isRef = true) : v = .null ∨ ∃ a, v = .ref a := by cases v <;> simp [Value.isRef] at h ⊢
theorem own_oneV {a b : Slot} {rest : List Slot} {p : Value} (h : p.isRef = true) : one (a :: b :: .val p :: rest) 2 = true := by
  show (p.category == 1) = true
  rw [rfn_cat (rfn_of h)] <;> rfl
theorem own_one {a b c d s4 s5 : Slot} (h4 : s4 = .unset ∨ ∃ w, s4 = .val w ∧ w.category = 1) : one [a, b, c, d, s4, s5] 4 = true := by
  rcases h4 with rfl | ⟨w, rfl, q4⟩
  · rfl
  · show (w.category == 1) = true
    rw [q4] <;> rfl
set_option maxRecDepth 65536 in
set_option maxHeartbeats 40000000 in
theorem w6 {l : Launch} {Z : State} {a0 : Array Value} {n : Nat} (hw : ∀ d ∈ tables_1, d.before a0 Z = true) (k : Nat) (H : AHeap) : W l Z n m6 0 (entryL [.ref k] 1) [] H 0 0 (Is none H) := by
  show W l Z n m6 0 [.val (.ref k)] [] H 0 0 _
  refine W.aloadN d6_0 rfl rfl ?_
  refine W.initO d6_1 (hw _ (wd 31 rfl)) (hw _ (wd 13 rfl)) (hw _ (wd 14 rfl)) rfl rfl ?_
  exact W.leave d6_4 rfl (by decide) (by decide) (⟨rfl, rfl⟩)
set_option maxRecDepth 65536 in
set_option maxHeartbeats 40000000 in
theorem w5 {l : Launch} {Z : State} {a0 : Array Value} {n : Nat} (hw : ∀ d ∈ tables_1, d.before a0 Z = true) (v : Int32) (e : List Int32) (rt : Value) (sz : Int32) (ns : List ND) : W l Z n m5 0 (entryL [.int v] 2) [] (own_H e rt sz ns) 0 0 (Is (some (.ref (ns.length + 2))) (own_H e rt sz (ns ++ [(v, .null, .null)]))) := by
  show W l Z n m5 0 [.val (.int v), .unset] [] (own_H e rt sz ns) 0 0 _
  refine W.new (N := ns.length + 2) d5_0 (hw _ (wd 25 rfl)) (okc1 hw) (by simp [own_H]) (by decide) (by decide) ?_
  rw [show own_H e rt sz ns ++ [.inl ("boundwright/examples/BstSet$Node", fs1)] = own_H e rt sz (ns ++ [(0, .null, .null)]) from by simp [own_H, own_nd, fs1]]
  obtain ⟨K, hK⟩ : ∃ K, K = ns.length + 2 := ⟨_, rfl⟩
  have hg : own_get (ns ++ [(0, .null, .null)]) K = some (0, .null, .null) := by first | (rw [hK]; simp [own_get]; done) | (rw [hK, own_get, if_pos (by omega), Nat.add_sub_cancel, List.getElem?_append_right (Nat.le_refl _), Nat.sub_self] <;> rfl)
  have own_last : (ns ++ [((0 : Int32), Value.null, Value.null)]).set (K - 2) (v, .null, .null) = ns ++ [(v, .null, .null)] := by first | (rw [hK, Nat.add_sub_cancel, List.set_append, if_neg (Nat.lt_irrefl _), Nat.sub_self] <;> rfl) | (rw [hK]; simp)
  rw [← hK]
  refine W.dup d5_3 rfl ?_
  refine W.initN (M' := m6) d5_4 rfl rfl (hw _ (wd 28 rfl)) (hw _ (wd 29 rfl)) (w6 hw _ _) (ok6 hw) rfl rfl rfl ?_
  refine W.astoreN d5_7 rfl rfl ?_
  refine W.aloadN d5_8 rfl rfl ?_
  refine W.iloadN d5_9 rfl ?_
  refine W.putfield 0 d5_10 (hw _ (wd 32 rfl)) (own_at hg) rfl (Or.inl (hw _ (wd 33 rfl))) (hw _ (wd 26 rfl)) (ty := .int) (by decide) (fun _ => rfl) (fun _ => rfl) ?_
  refine W.nop_ (own_put hg (v, .null, .null)) ?_
  rw [own_last]
  refine W.aloadN d5_13 rfl rfl ?_
  exact W.areturn d5_14 rfl rfl rfl (by decide) (by decide) (⟨rfl, rfl⟩)
set_option maxRecDepth 65536 in
set_option maxHeartbeats 40000000 in
theorem w11 {l : Launch} {Z : State} {a0 : Array Value} {n : Nat} (hw : ∀ d ∈ tables_1, d.before a0 Z = true) (e : List Int32) (rt : Value) (sz : Int32) (ns : List ND) (v : Value) (hok : own_ok ns) (hv : own_is ns v = true) : W l Z n m11 0 (entryL [v] 1) [] (own_H e rt sz ns) 0 0 (Is (some (own_left ns v)) (own_H e rt sz ns)) := by
  cases v with
  | null =>
    show W l Z n m11 0 [.val .null] [] (own_H e rt sz ns) 0 0 _
    refine W.aloadN d11_0 rfl rfl ?_
    refine W.ifnonnull d11_1 rfl (fun h => False.elim (h rfl)) (fun h1 => ?_)
    refine W.aconst d11_4 ?_
    refine W.goto d11_5 ?_
    exact W.areturn d11_12 rfl rfl rfl (by decide) (by decide) (⟨rfl, rfl⟩)
  | ref k =>
    show W l Z n m11 0 [.val (.ref k)] [] (own_H e rt sz ns) 0 0 _
    cases hx : own_get ns k with
    | none => simp [own_is, hx] at hv
    | some x =>
      refine W.aloadN d11_0 rfl rfl ?_
      refine W.ifnonnull d11_1 rfl (fun h1 => ?_) (fun h => False.elim (by first | (simp at h; done) | (cases h; done)))
      refine W.aloadN d11_8 rfl rfl ?_
      refine W.getfield 1 d11_9 (hw _ (wd 69 rfl)) (own_at hx) rfl ?_
      exact W.areturn d11_12 rfl rfl (rfn_of (hok x (own_mem hx)).1) (by decide) (by decide) (⟨by simp [own_left, hx], rfl⟩)
  | int _ => simp [own_is] at hv
  | long _ => simp [own_is] at hv
  | float _ => simp [own_is] at hv
  | double _ => simp [own_is] at hv
  | retAddr _ => simp [own_is] at hv
set_option maxRecDepth 65536 in
set_option maxHeartbeats 40000000 in
theorem w12 {l : Launch} {Z : State} {a0 : Array Value} {n : Nat} (hw : ∀ d ∈ tables_1, d.before a0 Z = true) (e : List Int32) (rt : Value) (sz : Int32) (ns : List ND) (v : Value) (hok : own_ok ns) (hv : own_is ns v = true) : W l Z n m12 0 (entryL [v] 1) [] (own_H e rt sz ns) 0 0 (Is (some (own_right ns v)) (own_H e rt sz ns)) := by
  cases v with
  | null =>
    show W l Z n m12 0 [.val .null] [] (own_H e rt sz ns) 0 0 _
    refine W.aloadN d12_0 rfl rfl ?_
    refine W.ifnonnull d12_1 rfl (fun h => False.elim (h rfl)) (fun h1 => ?_)
    refine W.aconst d12_4 ?_
    refine W.goto d12_5 ?_
    exact W.areturn d12_12 rfl rfl rfl (by decide) (by decide) (⟨rfl, rfl⟩)
  | ref k =>
    show W l Z n m12 0 [.val (.ref k)] [] (own_H e rt sz ns) 0 0 _
    cases hx : own_get ns k with
    | none => simp [own_is, hx] at hv
    | some x =>
      refine W.aloadN d12_0 rfl rfl ?_
      refine W.ifnonnull d12_1 rfl (fun h1 => ?_) (fun h => False.elim (by first | (simp at h; done) | (cases h; done)))
      refine W.aloadN d12_8 rfl rfl ?_
      refine W.getfield 2 d12_9 (hw _ (wd 70 rfl)) (own_at hx) rfl ?_
      exact W.areturn d12_12 rfl rfl (rfn_of (hok x (own_mem hx)).2) (by decide) (by decide) (⟨by simp [own_right, hx], rfl⟩)
  | int _ => simp [own_is] at hv
  | long _ => simp [own_is] at hv
  | float _ => simp [own_is] at hv
  | double _ => simp [own_is] at hv
  | retAddr _ => simp [own_is] at hv
set_option maxRecDepth 65536 in
set_option maxHeartbeats 40000000 in
theorem w13 {l : Launch} {Z : State} {a0 : Array Value} {n : Nat} (hw : ∀ d ∈ tables_1, d.before a0 Z = true) (e : List Int32) (rt : Value) (sz : Int32) (ns : List ND) (v : Value) (r : Int32) (hv : own_match ns v r = true) : W l Z n m13 0 (entryL [v, .int r] 2) [] (own_H e rt sz ns) 0 0 (Is (some (.int 1)) (own_H e rt sz ns)) := by
  by_cases c : r < 0
  · unfold own_match at hv
    rw [if_pos c, decide_eq_true_eq] at hv
    subst hv
    show W l Z n m13 0 [.val .null, .val (.int r)] [] (own_H e rt sz ns) 0 0 _
    refine W.iloadN d13_0 rfl ?_
    refine W.if_ge d13_1 (fun h => False.elim (h c)) (fun h1 => ?_)
    refine W.aloadN d13_4 rfl rfl ?_
    refine W.ifnonnull d13_5 rfl (fun h => False.elim (h rfl)) (fun h5 => ?_)
    refine W.iconst 1 d13_8 rfl ?_
    refine W.goto d13_9 ?_
    exact W.nreturn .boolean d13_13 rfl (by simp) (by decide) (by decide) (⟨rfl, rfl⟩)
  · unfold own_match at hv
    rw [if_neg c] at hv
    cases v with
    | null => simp at hv
    | ref k =>
      show W l Z n m13 0 [.val (.ref k), .val (.int r)] [] (own_H e rt sz ns) 0 0 _
      cases hx : own_get ns k with
      | none => simp [hx] at hv
      | some x =>
        simp only [hx, decide_eq_true_eq] at hv
        refine W.iloadN d13_0 rfl ?_
        refine W.if_ge d13_1 (fun h1 => ?_) (fun h => False.elim (c h))
        refine W.aloadN d13_14 rfl rfl ?_
        refine W.ifnull d13_15 rfl (fun h => False.elim (by first | (simp at h; done) | (cases h; done))) (fun h15 => ?_)
        refine W.aloadN d13_18 rfl rfl ?_
        refine W.getfield 0 d13_19 (hw _ (wd 71 rfl)) (own_at hx) rfl ?_
        refine W.iloadN d13_22 rfl ?_
        refine W.callsV (M' := m1) d13_23 (hw _ (wd 1 rfl)) (hw _ (wd 2 rfl)) (w1 hw r _) (ok1 hw) rfl rfl rfl ?_
        refine W.icmp_ne d13_26 (fun h => False.elim (h hv.symm.symm)) (fun h26 => ?_)
        refine W.iconst 1 d13_29 rfl ?_
        refine W.goto d13_30 ?_
        exact W.nreturn .boolean d13_34 rfl (by simp) (by decide) (by decide) (⟨rfl, rfl⟩)
    | int _ => simp at hv
    | long _ => simp at hv
    | float _ => simp at hv
    | double _ => simp at hv
    | retAddr _ => simp at hv
theorem own_isref {ns : List ND} {v : Value} (h : own_is ns v = true) : v.isRef = true := by
  cases v <;> simp [own_is, Value.isRef] at h ⊢
set_option maxRecDepth 65536 in
set_option maxHeartbeats 40000000 in
theorem w14 {l : Launch} {Z : State} {a0 : Array Value} {n : Nat} (hw : ∀ d ∈ tables_1, d.before a0 Z = true) (e : List Int32) (rt : Value) (sz : Int32) (ns : List ND) (v : Value) (hok : own_ok ns) (hi : own_is ns v = true) (hv : own_leaf ns v = true) : W l Z n m14 0 (entryL [v] 1) [] (own_H e rt sz ns) 0 0 (Is (some (.int 1)) (own_H e rt sz ns)) := by
  have hr := own_isref hi
  have hcat := rfn_cat (rfn_of hr)
  simp only [own_leaf, Bool.and_eq_true, decide_eq_true_eq] at hv
  have hl := hv
  have he : entryL [v] 1 = [.val v] := by simp [entryL, Jvm.Sym.laidSlots, hcat]
  rw [he]
  refine W.aloadN d14_0 rfl (rfn_of hr) ?_
  refine W.callsV (M' := m11) d14_1 (hw _ (wd 56 rfl)) (hw _ (wd 57 rfl)) (w11 hw e rt sz ns v hok hi) (ok11 hw) rfl rfl rfl ?_
  refine W.ifnonnull d14_4 (by rw [hl.1] <;> rfl) (fun h => False.elim (h hl.1)) (fun h4 => ?_)
  refine W.aloadN d14_7 rfl (rfn_of hr) ?_
  refine W.callsV (M' := m12) d14_8 (hw _ (wd 59 rfl)) (hw _ (wd 60 rfl)) (w12 hw e rt sz ns v hok hi) (ok12 hw) rfl rfl rfl ?_
  refine W.ifnonnull d14_11 (by rw [hl.2] <;> rfl) (fun h => False.elim (h hl.2)) (fun h11 => ?_)
  refine W.iconst 1 d14_14 rfl ?_
  refine W.goto d14_15 ?_
  exact W.nreturn .boolean d14_19 rfl (by simp) (by decide) (by decide) (⟨rfl, rfl⟩)
theorem own_nx {ns : List ND} {k : Nat} {x y : ND} (h : own_get ns k = some x) : own_get (ns ++ [y]) k = some x := by
  unfold own_get at h ⊢
  split at h
  · rename_i hk
    rw [if_pos hk, List.getElem?_append_left (List.getElem?_eq_some_iff.mp h).1]; exact h
  · cases h
theorem own_sz {e : List Int32} {rt rt' : Value} {sz sz' : Int32} {ns : List ND} : own_H e rt' sz' ns = (own_H e rt sz ns).set 1 (own_st rt' sz') := rfl
set_option maxRecDepth 65536 in
set_option maxHeartbeats 40000000 in
theorem addW {l : Launch} {Z : State} {a0 : Array Value} {n : Nat} (hw : ∀ d ∈ tables_1, d.before a0 Z = true) (v : Int32) (e : List Int32) (rt : Value) (sz : Int32) (ns : List ND) (hok : own_ok ns) (hrt : rt.isRef = true) (ns' : List ND) : ∀ (f k : Nat), own_addgo f ns v k = some ns' → W l Z n m4 31 [.val (.ref 1), .val (.int v), .val (.ref k)] [] (own_H e rt sz ns) 0 0 (Is none (own_H e rt (sz + 1) ns')) := by
  intro f
  induction f with
  | zero => intro k h; simp [own_addgo] at h
  | succ f ih =>
    intro k h
    simp only [own_addgo] at h
    cases hx : own_get ns k with
    | none => simp [hx] at h
    | some x =>
      obtain ⟨xa, xl, xr⟩ := x
      have hm := hok _ (own_mem hx)
      simp only [hx] at h
      by_cases c1 : xa < v
      · simp only [if_pos c1] at h
        rcases own_refc hm.2 with q | ⟨r, q⟩
        · simp only at q
          subst q
          simp only [Option.some.injEq] at h
          subst h
          refine W.aloadN d4_31 rfl rfl ?_
          refine W.getfield 0 d4_32 (hw _ (wd 32 rfl)) (own_at hx) rfl ?_
          refine W.iloadN d4_35 rfl ?_
          refine W.icmp_ge d4_36 (fun h => False.elim (h c1)) (fun h36 => ?_)
          refine W.aloadN d4_39 rfl rfl ?_
          refine W.getfield 2 d4_40 (hw _ (wd 53 rfl)) (own_at hx) rfl ?_
          refine W.ifnonnull d4_43 rfl (fun h => False.elim (h rfl)) (fun h43 => ?_)
          refine W.aloadN d4_46 rfl rfl ?_
          refine W.iloadN d4_47 rfl ?_
          refine W.callsV (M' := m5) d4_48 (hw _ (wd 22 rfl)) (hw _ (wd 23 rfl)) (w5 hw v _ _ _ _) (ok5 hw) rfl rfl rfl ?_
          refine W.putfield 2 d4_51 (hw _ (wd 53 rfl)) (own_at (own_nx hx)) rfl (Or.inl (hw _ (wd 54 rfl))) (hw _ (wd 26 rfl)) (ty := (.object "boundwright/examples/BstSet$Node")) (by decide) (fun _ => rfl) (fun _ => rfl) ?_
          refine W.goto d4_54 ?_
          refine W.nop_ (own_put (own_nx hx) (xa, xl, .ref (ns.length + 2))) ?_
          refine W.aloadN d4_100 rfl rfl ?_
          refine W.dup d4_101 rfl ?_
          refine W.getfield 1 d4_102 (hw _ (wd 34 rfl)) rfl rfl ?_
          refine W.iconst 1 d4_105 rfl ?_
          refine W.iadd d4_106 ?_
          refine W.putfield 1 d4_107 (hw _ (wd 34 rfl)) rfl rfl (Or.inl (hw _ (wd 35 rfl))) (hw _ (wd 7 rfl)) (ty := .int) (by decide) (fun _ => rfl) (fun _ => rfl) ?_
          exact W.leave d4_110 rfl (by decide) (by decide) (⟨rfl, rfl⟩)
        · simp only at q
          subst q
          simp only at h
          refine W.aloadN d4_31 rfl rfl ?_
          refine W.getfield 0 d4_32 (hw _ (wd 32 rfl)) (own_at hx) rfl ?_
          refine W.iloadN d4_35 rfl ?_
          refine W.icmp_ge d4_36 (fun h => False.elim (h c1)) (fun h36 => ?_)
          refine W.aloadN d4_39 rfl rfl ?_
          refine W.getfield 2 d4_40 (hw _ (wd 53 rfl)) (own_at hx) rfl ?_
          refine W.ifnonnull d4_43 rfl (fun h43 => ?_) (fun h => False.elim (by first | (simp at h; done) | (cases h; done)))
          refine W.aloadN d4_57 rfl rfl ?_
          refine W.getfield 2 d4_58 (hw _ (wd 53 rfl)) (own_at hx) rfl ?_
          refine W.astoreN d4_61 rfl rfl ?_
          refine W.goto d4_62 ?_
          exact ih r h
      · simp only [if_neg c1] at h
        by_cases c2 : v < xa
        · simp only [if_pos c2] at h
          rcases own_refc hm.1 with q | ⟨r, q⟩
          · simp only at q
            subst q
            simp only [Option.some.injEq] at h
            subst h
            refine W.aloadN d4_31 rfl rfl ?_
            refine W.getfield 0 d4_32 (hw _ (wd 32 rfl)) (own_at hx) rfl ?_
            refine W.iloadN d4_35 rfl ?_
            refine W.icmp_ge d4_36 (fun h36 => ?_) (fun h => False.elim (c1 h))
            refine W.aloadN d4_65 rfl rfl ?_
            refine W.getfield 0 d4_66 (hw _ (wd 32 rfl)) (own_at hx) rfl ?_
            refine W.iloadN d4_69 rfl ?_
            refine W.icmp_le d4_70 (fun h => False.elim (h c2)) (fun h70 => ?_)
            refine W.aloadN d4_73 rfl rfl ?_
            refine W.getfield 1 d4_74 (hw _ (wd 51 rfl)) (own_at hx) rfl ?_
            refine W.ifnonnull d4_77 rfl (fun h => False.elim (h rfl)) (fun h77 => ?_)
            refine W.aloadN d4_80 rfl rfl ?_
            refine W.iloadN d4_81 rfl ?_
            refine W.callsV (M' := m5) d4_82 (hw _ (wd 22 rfl)) (hw _ (wd 23 rfl)) (w5 hw v _ _ _ _) (ok5 hw) rfl rfl rfl ?_
            refine W.putfield 1 d4_85 (hw _ (wd 51 rfl)) (own_at (own_nx hx)) rfl (Or.inl (hw _ (wd 52 rfl))) (hw _ (wd 26 rfl)) (ty := (.object "boundwright/examples/BstSet$Node")) (by decide) (fun _ => rfl) (fun _ => rfl) ?_
            refine W.goto d4_88 ?_
            refine W.nop_ (own_put (own_nx hx) (xa, .ref (ns.length + 2), xr)) ?_
            refine W.aloadN d4_100 rfl rfl ?_
            refine W.dup d4_101 rfl ?_
            refine W.getfield 1 d4_102 (hw _ (wd 34 rfl)) rfl rfl ?_
            refine W.iconst 1 d4_105 rfl ?_
            refine W.iadd d4_106 ?_
            refine W.putfield 1 d4_107 (hw _ (wd 34 rfl)) rfl rfl (Or.inl (hw _ (wd 35 rfl))) (hw _ (wd 7 rfl)) (ty := .int) (by decide) (fun _ => rfl) (fun _ => rfl) ?_
            exact W.leave d4_110 rfl (by decide) (by decide) (⟨rfl, rfl⟩)
          · simp only at q
            subst q
            simp only at h
            refine W.aloadN d4_31 rfl rfl ?_
            refine W.getfield 0 d4_32 (hw _ (wd 32 rfl)) (own_at hx) rfl ?_
            refine W.iloadN d4_35 rfl ?_
            refine W.icmp_ge d4_36 (fun h36 => ?_) (fun h => False.elim (c1 h))
            refine W.aloadN d4_65 rfl rfl ?_
            refine W.getfield 0 d4_66 (hw _ (wd 32 rfl)) (own_at hx) rfl ?_
            refine W.iloadN d4_69 rfl ?_
            refine W.icmp_le d4_70 (fun h => False.elim (h c2)) (fun h70 => ?_)
            refine W.aloadN d4_73 rfl rfl ?_
            refine W.getfield 1 d4_74 (hw _ (wd 51 rfl)) (own_at hx) rfl ?_
            refine W.ifnonnull d4_77 rfl (fun h77 => ?_) (fun h => False.elim (by first | (simp at h; done) | (cases h; done)))
            refine W.aloadN d4_91 rfl rfl ?_
            refine W.getfield 1 d4_92 (hw _ (wd 51 rfl)) (own_at hx) rfl ?_
            refine W.astoreN d4_95 rfl rfl ?_
            refine W.goto d4_96 ?_
            exact ih r h
        · simp [if_neg c2] at h
set_option maxRecDepth 65536 in
set_option maxHeartbeats 40000000 in
theorem w4a {l : Launch} {Z : State} {a0 : Array Value} {n : Nat} (hw : ∀ d ∈ tables_1, d.before a0 Z = true) (v : Int32) (e : List Int32) (sz : Int32) (ns : List ND) : W l Z n m4 0 (entryL [.ref 1, .int v] 3) [] (own_H e .null sz ns) 0 0 (Is none (own_H e (.ref (ns.length + 2)) (sz + 1) (ns ++ [(v, .null, .null)]))) := by
  show W l Z n m4 0 [.val (.ref 1), .val (.int v), .unset] [] (own_H e .null sz ns) 0 0 _
  refine W.aloadN d4_0 rfl rfl ?_
  refine W.getfield 0 d4_1 (hw _ (wd 20 rfl)) rfl rfl ?_
  refine W.ifnonnull d4_4 rfl (fun h => False.elim (h rfl)) (fun h4 => ?_)
  refine W.aloadN d4_7 rfl rfl ?_
  refine W.iloadN d4_8 rfl ?_
  refine W.callsV (M' := m5) d4_9 (hw _ (wd 22 rfl)) (hw _ (wd 23 rfl)) (w5 hw v _ _ _ _) (ok5 hw) rfl rfl rfl ?_
  refine W.putfield 0 d4_12 (hw _ (wd 20 rfl)) rfl rfl (Or.inl (hw _ (wd 21 rfl))) (hw _ (wd 7 rfl)) (ty := (.object "boundwright/examples/BstSet$Node")) (by decide) (fun _ => rfl) (fun _ => rfl) ?_
  refine W.aloadN d4_15 rfl rfl ?_
  refine W.dup d4_16 rfl ?_
  refine W.getfield 1 d4_17 (hw _ (wd 34 rfl)) rfl rfl ?_
  refine W.iconst 1 d4_20 rfl ?_
  refine W.iadd d4_21 ?_
  refine W.putfield 1 d4_22 (hw _ (wd 34 rfl)) rfl rfl (Or.inl (hw _ (wd 35 rfl))) (hw _ (wd 7 rfl)) (ty := .int) (by decide) (fun _ => rfl) (fun _ => rfl) ?_
  exact W.leave d4_25 rfl (by decide) (by decide) (⟨rfl, rfl⟩)
set_option maxRecDepth 65536 in
set_option maxHeartbeats 40000000 in
theorem w4b {l : Launch} {Z : State} {a0 : Array Value} {n : Nat} (hw : ∀ d ∈ tables_1, d.before a0 Z = true) (v : Int32) (e : List Int32) (sz : Int32) (ns ns' : List ND) (k : Nat) (hok : own_ok ns) (h : own_addgo 10 ns v k = some ns') : W l Z n m4 0 (entryL [.ref 1, .int v] 3) [] (own_H e (.ref k) sz ns) 0 0 (Is none (own_H e (.ref k) (sz + 1) ns')) := by
  show W l Z n m4 0 [.val (.ref 1), .val (.int v), .unset] [] (own_H e (.ref k) sz ns) 0 0 _
  refine W.aloadN d4_0 rfl rfl ?_
  refine W.getfield 0 d4_1 (hw _ (wd 20 rfl)) rfl rfl ?_
  refine W.ifnonnull d4_4 rfl (fun h4 => ?_) (fun h => False.elim (by first | (simp at h; done) | (cases h; done)))
  refine W.aloadN d4_26 rfl rfl ?_
  refine W.getfield 0 d4_27 (hw _ (wd 20 rfl)) rfl rfl ?_
  refine W.astoreN d4_30 rfl rfl ?_
  exact addW hw v e (.ref k) sz ns hok rfl ns' 10 k h
set_option maxRecDepth 65536 in
set_option maxHeartbeats 40000000 in
theorem srchW {l : Launch} {Z : State} {a0 : Array Value} {n : Nat} (hw : ∀ d ∈ tables_1, d.before a0 Z = true) (v : Int32) (e : List Int32) (rt : Value) (sz : Int32) (ns : List ND) (hok : own_ok ns) (Q : Option Value → AHeap → Prop) : ∀ (f : Nat) (p q p' q' : Value), own_srch f ns v p q = some (p', q') → p.isRef = true → q.isRef = true → (p'.isRef = true → q'.isRef = true → W l Z n m10 44 [.val (.ref 1), .val (.int v), .val p', .val q', .unset, .unset] [] (own_H e rt sz ns) 0 0 Q) → W l Z n m10 7 [.val (.ref 1), .val (.int v), .val p, .val q, .unset, .unset] [] (own_H e rt sz ns) 0 0 Q := by
  intro f
  induction f with
  | zero => intro p q p' q' h; simp [own_srch] at h
  | succ f ih =>
    intro p q p' q' h hp hq k
    rcases own_refc hq with rfl | ⟨a, rfl⟩
    · simp only [own_srch, Option.some.injEq, Prod.mk.injEq] at h
      obtain ⟨rfl, rfl⟩ := h
      refine W.aloadN d10_7 rfl rfl ?_
      refine W.ifnull d10_8 rfl (fun h8 => ?_) (fun h => False.elim (h rfl))
      exact k hp rfl
    · simp only [own_srch] at h
      cases hx : own_get ns a with
      | none => simp [hx] at h
      | some x =>
        obtain ⟨xa, xl, xr⟩ := x
        have hm := hok _ (own_mem hx)
        simp only [hx] at h
        by_cases c1 : xa = v
        · simp only [if_pos c1, Option.some.injEq, Prod.mk.injEq] at h
          obtain ⟨rfl, rfl⟩ := h
          refine W.aloadN d10_7 rfl rfl ?_
          refine W.ifnull d10_8 rfl (fun h => False.elim (by first | (simp at h; done) | (cases h; done))) (fun h8 => ?_)
          refine W.aloadN d10_11 rfl rfl ?_
          refine W.getfield 0 d10_12 (hw _ (wd 32 rfl)) (own_at hx) rfl ?_
          refine W.iloadN d10_15 rfl ?_
          refine W.icmp_eq d10_16 (fun h16 => ?_) (fun h => False.elim (h c1))
          exact k hp rfl
        · simp only [if_neg c1] at h
          refine W.aloadN d10_7 rfl rfl ?_
          refine W.ifnull d10_8 rfl (fun h => False.elim (by first | (simp at h; done) | (cases h; done))) (fun h8 => ?_)
          refine W.aloadN d10_11 rfl rfl ?_
          refine W.getfield 0 d10_12 (hw _ (wd 32 rfl)) (own_at hx) rfl ?_
          refine W.iloadN d10_15 rfl ?_
          refine W.icmp_eq d10_16 (fun h => False.elim (c1 h)) (fun h16 => ?_)
          refine W.aloadN d10_19 rfl rfl ?_
          refine W.astoreN d10_20 (own_oneV hp) rfl ?_
          refine W.aloadN d10_21 rfl rfl ?_
          refine W.getfield 0 d10_22 (hw _ (wd 32 rfl)) (own_at hx) rfl ?_
          refine W.iloadN d10_25 rfl ?_
          refine W.icmp_ge d10_26 (fun h26 => ?_) (fun h26 => ?_)
          · refine W.aloadN d10_36 rfl rfl ?_
            refine W.getfield 1 d10_37 (hw _ (wd 51 rfl)) (own_at hx) rfl ?_
            refine W.astoreN d10_40 rfl (rfn_of hm.1) ?_
            refine W.goto d10_41 ?_
            simp only [if_neg h26] at h
            exact ih _ _ _ _ h rfl hm.1 k
          · refine W.aloadN d10_29 rfl rfl ?_
            refine W.getfield 2 d10_30 (hw _ (wd 53 rfl)) (own_at hx) rfl ?_
            refine W.goto d10_33 ?_
            refine W.astoreN d10_40 rfl (rfn_of hm.2) ?_
            refine W.goto d10_41 ?_
            simp only [if_pos h26] at h
            exact ih _ _ _ _ h rfl hm.2 k
set_option maxRecDepth 65536 in
set_option maxHeartbeats 40000000 in
theorem fixW {l : Launch} {Z : State} {a0 : Array Value} {n : Nat} (hw : ∀ d ∈ tables_1, d.before a0 Z = true) (v : Int32) (e : List Int32) (rt : Value) (sz : Int32) (ns : List ND) (hok : own_ok ns) (hrt : rt.isRef = true) (p : Value) (k : Nat) (s4 s5 : Slot) (h4 : s4 = .unset ∨ ∃ w, s4 = .val w ∧ w.category = 1) (hp : p.isRef = true) (ns' : List ND) (rt' : Value) (sz' : Int32) (h : own_fix ns rt sz p k = some (ns', rt', sz')) : W l Z n m10 109 [.val (.ref 1), .val (.int v), .val p, .val (.ref k), s4, s5] [] (own_H e rt sz ns) 0 0 (Is none (own_H e rt' sz' ns')) := by
  unfold own_fix at h
  cases hx : own_get ns k with
  | none => simp [hx] at h
  | some z =>
    obtain ⟨za, zl, zr⟩ := z
    have hz := hok _ (own_mem hx)
    simp only [hx] at h
    rcases own_refc hp with rfl | ⟨a, rfl⟩
    · simp only [Option.some.injEq, Prod.mk.injEq] at h
      obtain ⟨rfl, rfl, rfl⟩ := h
      by_cases cz : zl = .null
      · rw [if_pos cz]
        refine W.aloadN d10_109 rfl rfl ?_
        refine W.getfield 1 d10_110 (hw _ (wd 51 rfl)) (own_at hx) rfl ?_
        refine W.ifnull d10_113 hz.1 (fun h113 => ?_) (fun h => False.elim (h cz))
        refine W.aloadN d10_123 rfl rfl ?_
        refine W.getfield 2 d10_124 (hw _ (wd 53 rfl)) (own_at hx) rfl ?_
        refine W.astore d10_127 (own_one h4) (rfn_of hz.2) ?_
        refine W.aloadN d10_129 rfl rfl ?_
        refine W.ifnonnull d10_130 rfl (fun h => False.elim (h rfl)) (fun h130 => ?_)
        refine W.aloadN d10_133 rfl rfl ?_
        refine W.aload d10_134 rfl (rfn_of hz.2) ?_
        refine W.putfield 0 d10_136 (hw _ (wd 20 rfl)) rfl rfl (Or.inl (hw _ (wd 21 rfl))) (hw _ (wd 7 rfl)) (ty := (.object "boundwright/examples/BstSet$Node")) (by decide) (fun n => nar_ref n hz.2) (fun n => fits_ref' n hz.2) ?_
        refine W.goto d10_139 ?_
        refine W.aloadN d10_165 rfl rfl ?_
        refine W.dup d10_166 rfl ?_
        refine W.getfield 1 d10_167 (hw _ (wd 34 rfl)) rfl rfl ?_
        refine W.iconst 1 d10_170 rfl ?_
        refine W.isub d10_171 ?_
        refine W.putfield 1 d10_172 (hw _ (wd 34 rfl)) rfl rfl (Or.inl (hw _ (wd 35 rfl))) (hw _ (wd 7 rfl)) (ty := .int) (by decide) (fun _ => rfl) (fun _ => rfl) ?_
        exact W.leave d10_175 rfl (by decide) (by decide) (⟨rfl, rfl⟩)
      · rw [if_neg cz]
        refine W.aloadN d10_109 rfl rfl ?_
        refine W.getfield 1 d10_110 (hw _ (wd 51 rfl)) (own_at hx) rfl ?_
        refine W.ifnull d10_113 hz.1 (fun h => False.elim (cz h)) (fun h113 => ?_)
        refine W.aloadN d10_116 rfl rfl ?_
        refine W.getfield 1 d10_117 (hw _ (wd 51 rfl)) (own_at hx) rfl ?_
        refine W.goto d10_120 ?_
        refine W.astore d10_127 (own_one h4) (rfn_of hz.1) ?_
        refine W.aloadN d10_129 rfl rfl ?_
        refine W.ifnonnull d10_130 rfl (fun h => False.elim (h rfl)) (fun h130 => ?_)
        refine W.aloadN d10_133 rfl rfl ?_
        refine W.aload d10_134 rfl (rfn_of hz.1) ?_
        refine W.putfield 0 d10_136 (hw _ (wd 20 rfl)) rfl rfl (Or.inl (hw _ (wd 21 rfl))) (hw _ (wd 7 rfl)) (ty := (.object "boundwright/examples/BstSet$Node")) (by decide) (fun n => nar_ref n hz.1) (fun n => fits_ref' n hz.1) ?_
        refine W.goto d10_139 ?_
        refine W.aloadN d10_165 rfl rfl ?_
        refine W.dup d10_166 rfl ?_
        refine W.getfield 1 d10_167 (hw _ (wd 34 rfl)) rfl rfl ?_
        refine W.iconst 1 d10_170 rfl ?_
        refine W.isub d10_171 ?_
        refine W.putfield 1 d10_172 (hw _ (wd 34 rfl)) rfl rfl (Or.inl (hw _ (wd 35 rfl))) (hw _ (wd 7 rfl)) (ty := .int) (by decide) (fun _ => rfl) (fun _ => rfl) ?_
        exact W.leave d10_175 rfl (by decide) (by decide) (⟨rfl, rfl⟩)
    · simp only at h
      cases hu' : own_get ns a with
      | none => simp [hu'] at h
      | some w =>
        obtain ⟨wa, wl, wr⟩ := w
        have hu := hok _ (own_mem hu')
        simp only [hu'] at h
        by_cases cw : wl = .ref k
        · simp only [if_pos cw, Option.some.injEq, Prod.mk.injEq] at h
          obtain ⟨rfl, rfl, rfl⟩ := h
          by_cases cz : zl = .null
          · rw [if_pos cz]
            refine W.aloadN d10_109 rfl rfl ?_
            refine W.getfield 1 d10_110 (hw _ (wd 51 rfl)) (own_at hx) rfl ?_
            refine W.ifnull d10_113 hz.1 (fun h113 => ?_) (fun h => False.elim (h cz))
            refine W.aloadN d10_123 rfl rfl ?_
            refine W.getfield 2 d10_124 (hw _ (wd 53 rfl)) (own_at hx) rfl ?_
            refine W.astore d10_127 (own_one h4) (rfn_of hz.2) ?_
            refine W.aloadN d10_129 rfl rfl ?_
            refine W.ifnonnull d10_130 rfl (fun h130 => ?_) (fun h => False.elim (by first | (simp at h; done) | (cases h; done)))
            refine W.aloadN d10_142 rfl rfl ?_
            refine W.getfield 1 d10_143 (hw _ (wd 51 rfl)) (own_at hu') rfl ?_
            refine W.aloadN d10_146 rfl rfl ?_
            refine W.acmp_ne d10_147 hu.1 rfl (fun h => False.elim (h cw)) (fun h147 => ?_)
            refine W.aloadN d10_150 rfl rfl ?_
            refine W.aload d10_151 rfl (rfn_of hz.2) ?_
            refine W.putfield 1 d10_153 (hw _ (wd 51 rfl)) (own_at hu') rfl (Or.inl (hw _ (wd 52 rfl))) (hw _ (wd 26 rfl)) (ty := (.object "boundwright/examples/BstSet$Node")) (by decide) (fun n => nar_ref n hz.2) (fun n => fits_ref' n hz.2) ?_
            refine W.goto d10_156 ?_
            refine W.nop_ (own_put hu' (wa, zr, wr)) ?_
            refine W.aloadN d10_165 rfl rfl ?_
            refine W.dup d10_166 rfl ?_
            refine W.getfield 1 d10_167 (hw _ (wd 34 rfl)) rfl rfl ?_
            refine W.iconst 1 d10_170 rfl ?_
            refine W.isub d10_171 ?_
            refine W.putfield 1 d10_172 (hw _ (wd 34 rfl)) rfl rfl (Or.inl (hw _ (wd 35 rfl))) (hw _ (wd 7 rfl)) (ty := .int) (by decide) (fun _ => rfl) (fun _ => rfl) ?_
            exact W.leave d10_175 rfl (by decide) (by decide) (⟨rfl, rfl⟩)
          · rw [if_neg cz]
            refine W.aloadN d10_109 rfl rfl ?_
            refine W.getfield 1 d10_110 (hw _ (wd 51 rfl)) (own_at hx) rfl ?_
            refine W.ifnull d10_113 hz.1 (fun h => False.elim (cz h)) (fun h113 => ?_)
            refine W.aloadN d10_116 rfl rfl ?_
            refine W.getfield 1 d10_117 (hw _ (wd 51 rfl)) (own_at hx) rfl ?_
            refine W.goto d10_120 ?_
            refine W.astore d10_127 (own_one h4) (rfn_of hz.1) ?_
            refine W.aloadN d10_129 rfl rfl ?_
            refine W.ifnonnull d10_130 rfl (fun h130 => ?_) (fun h => False.elim (by first | (simp at h; done) | (cases h; done)))
            refine W.aloadN d10_142 rfl rfl ?_
            refine W.getfield 1 d10_143 (hw _ (wd 51 rfl)) (own_at hu') rfl ?_
            refine W.aloadN d10_146 rfl rfl ?_
            refine W.acmp_ne d10_147 hu.1 rfl (fun h => False.elim (h cw)) (fun h147 => ?_)
            refine W.aloadN d10_150 rfl rfl ?_
            refine W.aload d10_151 rfl (rfn_of hz.1) ?_
            refine W.putfield 1 d10_153 (hw _ (wd 51 rfl)) (own_at hu') rfl (Or.inl (hw _ (wd 52 rfl))) (hw _ (wd 26 rfl)) (ty := (.object "boundwright/examples/BstSet$Node")) (by decide) (fun n => nar_ref n hz.1) (fun n => fits_ref' n hz.1) ?_
            refine W.goto d10_156 ?_
            refine W.nop_ (own_put hu' (wa, zl, wr)) ?_
            refine W.aloadN d10_165 rfl rfl ?_
            refine W.dup d10_166 rfl ?_
            refine W.getfield 1 d10_167 (hw _ (wd 34 rfl)) rfl rfl ?_
            refine W.iconst 1 d10_170 rfl ?_
            refine W.isub d10_171 ?_
            refine W.putfield 1 d10_172 (hw _ (wd 34 rfl)) rfl rfl (Or.inl (hw _ (wd 35 rfl))) (hw _ (wd 7 rfl)) (ty := .int) (by decide) (fun _ => rfl) (fun _ => rfl) ?_
            exact W.leave d10_175 rfl (by decide) (by decide) (⟨rfl, rfl⟩)
        · simp only [if_neg cw, Option.some.injEq, Prod.mk.injEq] at h
          obtain ⟨rfl, rfl, rfl⟩ := h
          by_cases cz : zl = .null
          · rw [if_pos cz]
            refine W.aloadN d10_109 rfl rfl ?_
            refine W.getfield 1 d10_110 (hw _ (wd 51 rfl)) (own_at hx) rfl ?_
            refine W.ifnull d10_113 hz.1 (fun h113 => ?_) (fun h => False.elim (h cz))
            refine W.aloadN d10_123 rfl rfl ?_
            refine W.getfield 2 d10_124 (hw _ (wd 53 rfl)) (own_at hx) rfl ?_
            refine W.astore d10_127 (own_one h4) (rfn_of hz.2) ?_
            refine W.aloadN d10_129 rfl rfl ?_
            refine W.ifnonnull d10_130 rfl (fun h130 => ?_) (fun h => False.elim (by first | (simp at h; done) | (cases h; done)))
            refine W.aloadN d10_142 rfl rfl ?_
            refine W.getfield 1 d10_143 (hw _ (wd 51 rfl)) (own_at hu') rfl ?_
            refine W.aloadN d10_146 rfl rfl ?_
            refine W.acmp_ne d10_147 hu.1 rfl (fun h147 => ?_) (fun h => False.elim (cw h))
            refine W.aloadN d10_159 rfl rfl ?_
            refine W.aload d10_160 rfl (rfn_of hz.2) ?_
            refine W.putfield 2 d10_162 (hw _ (wd 53 rfl)) (own_at hu') rfl (Or.inl (hw _ (wd 54 rfl))) (hw _ (wd 26 rfl)) (ty := (.object "boundwright/examples/BstSet$Node")) (by decide) (fun n => nar_ref n hz.2) (fun n => fits_ref' n hz.2) ?_
            refine W.nop_ (own_put hu' (wa, wl, zr)) ?_
            refine W.aloadN d10_165 rfl rfl ?_
            refine W.dup d10_166 rfl ?_
            refine W.getfield 1 d10_167 (hw _ (wd 34 rfl)) rfl rfl ?_
            refine W.iconst 1 d10_170 rfl ?_
            refine W.isub d10_171 ?_
            refine W.putfield 1 d10_172 (hw _ (wd 34 rfl)) rfl rfl (Or.inl (hw _ (wd 35 rfl))) (hw _ (wd 7 rfl)) (ty := .int) (by decide) (fun _ => rfl) (fun _ => rfl) ?_
            exact W.leave d10_175 rfl (by decide) (by decide) (⟨rfl, rfl⟩)
          · rw [if_neg cz]
            refine W.aloadN d10_109 rfl rfl ?_
            refine W.getfield 1 d10_110 (hw _ (wd 51 rfl)) (own_at hx) rfl ?_
            refine W.ifnull d10_113 hz.1 (fun h => False.elim (cz h)) (fun h113 => ?_)
            refine W.aloadN d10_116 rfl rfl ?_
            refine W.getfield 1 d10_117 (hw _ (wd 51 rfl)) (own_at hx) rfl ?_
            refine W.goto d10_120 ?_
            refine W.astore d10_127 (own_one h4) (rfn_of hz.1) ?_
            refine W.aloadN d10_129 rfl rfl ?_
            refine W.ifnonnull d10_130 rfl (fun h130 => ?_) (fun h => False.elim (by first | (simp at h; done) | (cases h; done)))
            refine W.aloadN d10_142 rfl rfl ?_
            refine W.getfield 1 d10_143 (hw _ (wd 51 rfl)) (own_at hu') rfl ?_
            refine W.aloadN d10_146 rfl rfl ?_
            refine W.acmp_ne d10_147 hu.1 rfl (fun h147 => ?_) (fun h => False.elim (cw h))
            refine W.aloadN d10_159 rfl rfl ?_
            refine W.aload d10_160 rfl (rfn_of hz.1) ?_
            refine W.putfield 2 d10_162 (hw _ (wd 53 rfl)) (own_at hu') rfl (Or.inl (hw _ (wd 54 rfl))) (hw _ (wd 26 rfl)) (ty := (.object "boundwright/examples/BstSet$Node")) (by decide) (fun n => nar_ref n hz.1) (fun n => fits_ref' n hz.1) ?_
            refine W.nop_ (own_put hu' (wa, wl, zl)) ?_
            refine W.aloadN d10_165 rfl rfl ?_
            refine W.dup d10_166 rfl ?_
            refine W.getfield 1 d10_167 (hw _ (wd 34 rfl)) rfl rfl ?_
            refine W.iconst 1 d10_170 rfl ?_
            refine W.isub d10_171 ?_
            refine W.putfield 1 d10_172 (hw _ (wd 34 rfl)) rfl rfl (Or.inl (hw _ (wd 35 rfl))) (hw _ (wd 7 rfl)) (ty := .int) (by decide) (fun _ => rfl) (fun _ => rfl) ?_
            exact W.leave d10_175 rfl (by decide) (by decide) (⟨rfl, rfl⟩)
set_option maxRecDepth 65536 in
set_option maxHeartbeats 40000000 in
theorem sucW {l : Launch} {Z : State} {a0 : Array Value} {n : Nat} (hw : ∀ d ∈ tables_1, d.before a0 Z = true) (v : Int32) (e : List Int32) (rt : Value) (sz : Int32) (ns : List ND) (hok : own_ok ns) (p : Value) (hp : p.isRef = true) (i sp' s' : Nat) (Q : Option Value → AHeap → Prop) : ∀ (f sp s : Nat), own_suc f ns sp s = some (sp', s') → W l Z n m10 94 [.val (.ref 1), .val (.int v), .val p, .val (.ref i), .val (.ref sp'), .val (.ref s')] [] (own_H e rt sz ns) 0 0 Q → W l Z n m10 72 [.val (.ref 1), .val (.int v), .val p, .val (.ref i), .val (.ref sp), .val (.ref s)] [] (own_H e rt sz ns) 0 0 Q := by
  intro f
  induction f with
  | zero => intro sp s h; simp [own_suc] at h
  | succ f ih =>
    intro sp s h k
    simp only [own_suc] at h
    cases hx : own_get ns s with
    | none => simp [hx] at h
    | some y =>
      obtain ⟨ya, yl, yr⟩ := y
      have hm := hok _ (own_mem hx)
      simp only [hx] at h
      rcases own_refc hm.1 with q | ⟨t, q⟩
      · simp only at q
        subst q
        simp only [Option.some.injEq, Prod.mk.injEq] at h
        obtain ⟨rfl, rfl⟩ := h
        refine W.aload d10_72 rfl rfl ?_
        refine W.getfield 1 d10_74 (hw _ (wd 51 rfl)) (own_at hx) rfl ?_
        refine W.ifnull d10_77 rfl (fun h77 => ?_) (fun h => False.elim (h rfl))
        exact k
      · simp only at q
        subst q
        simp only at h
        refine W.aload d10_72 rfl rfl ?_
        refine W.getfield 1 d10_74 (hw _ (wd 51 rfl)) (own_at hx) rfl ?_
        refine W.ifnull d10_77 rfl (fun h => False.elim (by first | (simp at h; done) | (cases h; done))) (fun h77 => ?_)
        refine W.aload d10_80 rfl rfl ?_
        refine W.astore d10_82 rfl rfl ?_
        refine W.aload d10_84 rfl rfl ?_
        refine W.getfield 1 d10_86 (hw _ (wd 51 rfl)) (own_at hx) rfl ?_
        refine W.astore d10_89 rfl rfl ?_
        refine W.goto d10_91 ?_
        exact ih s t h k
set_option maxRecDepth 65536 in
set_option maxHeartbeats 40000000 in
theorem w10 {l : Launch} {Z : State} {a0 : Array Value} {n : Nat} (hw : ∀ d ∈ tables_1, d.before a0 Z = true) (v : Int32) (e : List Int32) (rt : Value) (sz : Int32) (ns : List ND) (hok : own_ok ns) (hrt : rt.isRef = true) (ns' : List ND) (rt' : Value) (sz' : Int32) (h : own_rem ns rt sz v = some (ns', rt', sz')) : W l Z n m10 0 (entryL [.ref 1, .int v] 6) [] (own_H e rt sz ns) 0 0 (Is none (own_H e rt' sz' ns')) := by
  show W l Z n m10 0 [.val (.ref 1), .val (.int v), .unset, .unset, .unset, .unset] [] (own_H e rt sz ns) 0 0 _
  unfold own_rem at h
  cases hs : own_srch 10 ns v .null rt with
  | none => simp [hs] at h
  | some pq =>
    obtain ⟨p, q⟩ := pq
    simp only [hs] at h
    refine W.aconst d10_0 ?_
    refine W.astoreN d10_1 rfl rfl ?_
    refine W.aloadN d10_2 rfl rfl ?_
    refine W.getfield 0 d10_3 (hw _ (wd 20 rfl)) rfl rfl ?_
    refine W.astoreN d10_6 rfl (rfn_of hrt) ?_
    refine srchW hw v e rt sz ns hok _ 10 .null rt p q hs rfl hrt ?_
    intro hp hq
    rcases own_refc hq with rfl | ⟨i, rfl⟩
    · simp only [Option.some.injEq, Prod.mk.injEq] at h
      obtain ⟨rfl, rfl, rfl⟩ := h
      refine W.aloadN d10_44 rfl rfl ?_
      refine W.ifnonnull d10_45 rfl (fun h => False.elim (h rfl)) (fun h45 => ?_)
      exact W.leave d10_48 rfl (by decide) (by decide) (⟨rfl, rfl⟩)
    · simp only at h
      cases hx : own_get ns i with
      | none => simp [hx] at h
      | some x =>
        obtain ⟨xa, xl, xr⟩ := x
        have hm := hok _ (own_mem hx)
        simp only [hx] at h
        by_cases c1 : xl = .null
        · simp only [if_pos c1] at h
          subst c1
          refine W.aloadN d10_44 rfl rfl ?_
          refine W.ifnonnull d10_45 rfl (fun h45 => ?_) (fun h => False.elim (by first | (simp at h; done) | (cases h; done)))
          refine W.aloadN d10_49 rfl rfl ?_
          refine W.getfield 1 d10_50 (hw _ (wd 51 rfl)) (own_at hx) rfl ?_
          refine W.ifnull d10_53 rfl (fun h53 => ?_) (fun h => False.elim (h rfl))
          exact fixW hw v e rt sz ns hok hrt p i _ _ (Or.inl rfl) hp _ _ _ h
        · simp only [if_neg c1] at h
          rcases own_refc hm.2 with q | ⟨r, q⟩
          · simp only at q
            subst q
            simp only at h
            refine W.aloadN d10_44 rfl rfl ?_
            refine W.ifnonnull d10_45 rfl (fun h45 => ?_) (fun h => False.elim (by first | (simp at h; done) | (cases h; done)))
            refine W.aloadN d10_49 rfl rfl ?_
            refine W.getfield 1 d10_50 (hw _ (wd 51 rfl)) (own_at hx) rfl ?_
            refine W.ifnull d10_53 hm.1 (fun h => False.elim (c1 h)) (fun h53 => ?_)
            refine W.aloadN d10_56 rfl rfl ?_
            refine W.getfield 2 d10_57 (hw _ (wd 53 rfl)) (own_at hx) rfl ?_
            refine W.ifnull d10_60 rfl (fun h60 => ?_) (fun h => False.elim (h rfl))
            exact fixW hw v e rt sz ns hok hrt p i _ _ (Or.inl rfl) hp _ _ _ h
          · simp only at q
            subst q
            simp only at h
            cases hsu : own_suc 10 ns i r with
            | none => simp [hsu] at h
            | some ss =>
              obtain ⟨sp, s⟩ := ss
              simp only [hsu] at h
              cases hy : own_get ns s with
              | none => simp [hy] at h
              | some y =>
                obtain ⟨ya, yl, yr⟩ := y
                simp only [hy] at h
                refine W.aloadN d10_44 rfl rfl ?_
                refine W.ifnonnull d10_45 rfl (fun h45 => ?_) (fun h => False.elim (by first | (simp at h; done) | (cases h; done)))
                refine W.aloadN d10_49 rfl rfl ?_
                refine W.getfield 1 d10_50 (hw _ (wd 51 rfl)) (own_at hx) rfl ?_
                refine W.ifnull d10_53 hm.1 (fun h => False.elim (c1 h)) (fun h53 => ?_)
                refine W.aloadN d10_56 rfl rfl ?_
                refine W.getfield 2 d10_57 (hw _ (wd 53 rfl)) (own_at hx) rfl ?_
                refine W.ifnull d10_60 rfl (fun h => False.elim (by first | (simp at h; done) | (cases h; done))) (fun h60 => ?_)
                refine W.aloadN d10_63 rfl rfl ?_
                refine W.astore d10_64 rfl rfl ?_
                refine W.aloadN d10_66 rfl rfl ?_
                refine W.getfield 2 d10_67 (hw _ (wd 53 rfl)) (own_at hx) rfl ?_
                refine W.astore d10_70 rfl rfl ?_
                refine sucW hw v e rt sz ns hok p hp i sp s _ 10 i r hsu ?_
                refine W.aloadN d10_94 rfl rfl ?_
                refine W.aload d10_95 rfl rfl ?_
                refine W.getfield 0 d10_97 (hw _ (wd 32 rfl)) (own_at hy) rfl ?_
                refine W.putfield 0 d10_100 (hw _ (wd 32 rfl)) (own_at hx) rfl (Or.inl (hw _ (wd 33 rfl))) (hw _ (wd 26 rfl)) (ty := .int) (by decide) (fun _ => rfl) (fun _ => rfl) ?_
                refine W.nop_ (own_put hx (ya, xl, .ref r)) ?_
                refine W.aload d10_103 rfl rfl ?_
                refine W.astoreN d10_105 (own_oneV hp) rfl ?_
                refine W.aload d10_106 rfl rfl ?_
                refine W.astoreN d10_108 rfl rfl ?_
                exact fixW hw v e rt sz _ (own_okset hok _ (ya, xl, .ref r) hm) hrt (.ref sp) s _ _ (Or.inr ⟨_, rfl, rfl⟩) rfl _ _ _ h
set_option maxRecDepth 65536 in
set_option maxHeartbeats 40000000 in
theorem w9_0 {l : Launch} {Z : State} {a0 : Array Value} {n : Nat} (hw : ∀ d ∈ tables_1, d.before a0 Z = true) (e0 e1 e2 e3 e4 e5 e6 : Int32) (rt : Value) (sz : Int32) (ns : List ND) : W l Z n m9 0 (entryL [.ref 0, .int 0] 4) [] (own_H [e0, e1, e2, e3, e4, e5, e6] rt sz ns) 0 0 (Is none (own_H (own_rm [e0, e1, e2, e3, e4, e5, e6] 0) rt sz ns)) := by
  show W l Z n m9 0 [.val (.ref 0), .val (.int 0), .unset, .unset] [] (own_H [e0, e1, e2, e3, e4, e5, e6] rt sz ns) 0 0 _
  refine W.iloadN d9_0 rfl ?_
  refine W.iconst 3 d9_1 rfl ?_
  refine W.icmp_lt d9_2 (fun h2 => ?_) (fun h => False.elim (by revert h; decide))
  refine W.aloadN d9_10 rfl rfl ?_
  refine W.iconst 2 d9_11 rfl ?_
  refine W.iloadN d9_12 rfl ?_
  refine W.imul d9_13 ?_
  refine W.iconst 1 d9_14 rfl ?_
  refine W.iadd d9_15 ?_
  refine W.iaload (i := 1) d9_16 rfl ⟨by decide, by decide⟩ rfl ?_
  refine W.istoreN d9_17 rfl ?_
  refine W.aloadN d9_18 rfl rfl ?_
  refine W.iconst 2 d9_19 rfl ?_
  refine W.iloadN d9_20 rfl ?_
  refine W.imul d9_21 ?_
  refine W.iconst 2 d9_22 rfl ?_
  refine W.iadd d9_23 ?_
  refine W.iaload (i := 2) d9_24 rfl ⟨by decide, by decide⟩ rfl ?_
  refine W.istoreN d9_25 rfl ?_
  refine W.iloadN d9_26 rfl ?_
  refine W.if_le d9_27 (fun h27 => ?_) (fun h => False.elim (by revert h; decide))
  refine W.iloadN d9_96 rfl ?_
  refine W.if_lt d9_97 (fun h97 => ?_) (fun h97 => ?_)
  · refine W.iloadN d9_144 rfl ?_
    refine W.if_lt d9_145 (fun h145 => ?_) (fun h => False.elim (h h97))
    refine W.iloadN d9_177 rfl ?_
    refine W.if_lt d9_178 (fun h178 => ?_) (fun h178 => ?_)
    · refine W.aloadN d9_212 rfl rfl ?_
      refine W.iconst 0 d9_213 rfl ?_
      refine W.iconst (-1) d9_214 rfl ?_
      refine W.iastore (i := 0) d9_215 rfl ⟨by decide, by decide⟩ (by simp) ?_
      exact W.leave d9_216 rfl (by decide) (by decide) (⟨rfl, by simp [own_rm, own_H, h97, h178]⟩)
    · refine W.aloadN d9_181 rfl rfl ?_
      refine W.iconst 0 d9_182 rfl ?_
      refine W.aloadN d9_183 rfl rfl ?_
      refine W.iconst 2 d9_184 rfl ?_
      refine W.iaload (i := 2) d9_185 rfl ⟨by decide, by decide⟩ rfl ?_
      refine W.iastore (i := 0) d9_186 rfl ⟨by decide, by decide⟩ (by simp) ?_
      refine W.aloadN d9_187 rfl rfl ?_
      refine W.iconst 1 d9_188 rfl ?_
      refine W.aloadN d9_189 rfl rfl ?_
      refine W.iconst 5 d9_190 rfl ?_
      refine W.iaload (i := 5) d9_191 rfl ⟨by decide, by decide⟩ rfl ?_
      refine W.iastore (i := 1) d9_192 rfl ⟨by decide, by decide⟩ (by simp) ?_
      refine W.aloadN d9_193 rfl rfl ?_
      refine W.iconst 2 d9_194 rfl ?_
      refine W.aloadN d9_195 rfl rfl ?_
      refine W.bipush 6 d9_196 rfl ?_
      refine W.iaload (i := 6) d9_198 rfl ⟨by decide, by decide⟩ rfl ?_
      refine W.iastore (i := 2) d9_199 rfl ⟨by decide, by decide⟩ (by simp) ?_
      refine W.aloadN d9_200 rfl rfl ?_
      refine W.iconst 5 d9_201 rfl ?_
      refine W.iconst (-1) d9_202 rfl ?_
      refine W.iastore (i := 5) d9_203 rfl ⟨by decide, by decide⟩ (by simp) ?_
      refine W.aloadN d9_204 rfl rfl ?_
      refine W.bipush 6 d9_205 rfl ?_
      refine W.iconst (-1) d9_207 rfl ?_
      refine W.iastore (i := 6) d9_208 rfl ⟨by decide, by decide⟩ (by simp) ?_
      refine W.goto d9_209 ?_
      exact W.leave d9_216 rfl (by decide) (by decide) (⟨rfl, by simp [own_rm, own_H, h97, h178]⟩)
  · refine W.iloadN d9_100 rfl ?_
    refine W.if_lt d9_101 (fun h101 => ?_) (fun h101 => ?_)
    · refine W.iloadN d9_144 rfl ?_
      refine W.if_lt d9_145 (fun h => False.elim (h97 h)) (fun h145 => ?_)
      refine W.aloadN d9_148 rfl rfl ?_
      refine W.iconst 0 d9_149 rfl ?_
      refine W.aloadN d9_150 rfl rfl ?_
      refine W.iconst 1 d9_151 rfl ?_
      refine W.iaload (i := 1) d9_152 rfl ⟨by decide, by decide⟩ rfl ?_
      refine W.iastore (i := 0) d9_153 rfl ⟨by decide, by decide⟩ (by simp) ?_
      refine W.aloadN d9_154 rfl rfl ?_
      refine W.iconst 1 d9_155 rfl ?_
      refine W.aloadN d9_156 rfl rfl ?_
      refine W.iconst 3 d9_157 rfl ?_
      refine W.iaload (i := 3) d9_158 rfl ⟨by decide, by decide⟩ rfl ?_
      refine W.iastore (i := 1) d9_159 rfl ⟨by decide, by decide⟩ (by simp) ?_
      refine W.aloadN d9_160 rfl rfl ?_
      refine W.iconst 2 d9_161 rfl ?_
      refine W.aloadN d9_162 rfl rfl ?_
      refine W.iconst 4 d9_163 rfl ?_
      refine W.iaload (i := 4) d9_164 rfl ⟨by decide, by decide⟩ rfl ?_
      refine W.iastore (i := 2) d9_165 rfl ⟨by decide, by decide⟩ (by simp) ?_
      refine W.aloadN d9_166 rfl rfl ?_
      refine W.iconst 3 d9_167 rfl ?_
      refine W.iconst (-1) d9_168 rfl ?_
      refine W.iastore (i := 3) d9_169 rfl ⟨by decide, by decide⟩ (by simp) ?_
      refine W.aloadN d9_170 rfl rfl ?_
      refine W.iconst 4 d9_171 rfl ?_
      refine W.iconst (-1) d9_172 rfl ?_
      refine W.iastore (i := 4) d9_173 rfl ⟨by decide, by decide⟩ (by simp) ?_
      refine W.goto d9_174 ?_
      exact W.leave d9_216 rfl (by decide) (by decide) (⟨rfl, by simp [own_rm, own_H, h97, h101]⟩)
    · refine W.aloadN d9_104 rfl rfl ?_
      refine W.iconst 5 d9_105 rfl ?_
      refine W.iaload (i := 5) d9_106 rfl ⟨by decide, by decide⟩ rfl ?_
      refine W.if_lt d9_107 (fun h107 => ?_) (fun h107 => ?_)
      · refine W.aloadN d9_123 rfl rfl ?_
        refine W.iconst 0 d9_124 rfl ?_
        refine W.aloadN d9_125 rfl rfl ?_
        refine W.iconst 2 d9_126 rfl ?_
        refine W.iaload (i := 2) d9_127 rfl ⟨by decide, by decide⟩ rfl ?_
        refine W.iastore (i := 0) d9_128 rfl ⟨by decide, by decide⟩ (by simp) ?_
        refine W.aloadN d9_129 rfl rfl ?_
        refine W.iconst 2 d9_130 rfl ?_
        refine W.aloadN d9_131 rfl rfl ?_
        refine W.bipush 6 d9_132 rfl ?_
        refine W.iaload (i := 6) d9_134 rfl ⟨by decide, by decide⟩ rfl ?_
        refine W.iastore (i := 2) d9_135 rfl ⟨by decide, by decide⟩ (by simp) ?_
        refine W.aloadN d9_136 rfl rfl ?_
        refine W.bipush 6 d9_137 rfl ?_
        refine W.iconst (-1) d9_139 rfl ?_
        refine W.iastore (i := 6) d9_140 rfl ⟨by decide, by decide⟩ (by simp) ?_
        refine W.goto d9_141 ?_
        exact W.leave d9_216 rfl (by decide) (by decide) (⟨rfl, by simp [own_rm, own_H, h97, h101, h107]⟩)
      · refine W.aloadN d9_110 rfl rfl ?_
        refine W.iconst 0 d9_111 rfl ?_
        refine W.aloadN d9_112 rfl rfl ?_
        refine W.iconst 5 d9_113 rfl ?_
        refine W.iaload (i := 5) d9_114 rfl ⟨by decide, by decide⟩ rfl ?_
        refine W.iastore (i := 0) d9_115 rfl ⟨by decide, by decide⟩ (by simp) ?_
        refine W.aloadN d9_116 rfl rfl ?_
        refine W.iconst 5 d9_117 rfl ?_
        refine W.iconst (-1) d9_118 rfl ?_
        refine W.iastore (i := 5) d9_119 rfl ⟨by decide, by decide⟩ (by simp) ?_
        refine W.goto d9_120 ?_
        exact W.leave d9_216 rfl (by decide) (by decide) (⟨rfl, by simp [own_rm, own_H, h97, h101, h107]⟩)
set_option maxRecDepth 65536 in
set_option maxHeartbeats 40000000 in
theorem w9_1 {l : Launch} {Z : State} {a0 : Array Value} {n : Nat} (hw : ∀ d ∈ tables_1, d.before a0 Z = true) (e0 e1 e2 e3 e4 e5 e6 : Int32) (rt : Value) (sz : Int32) (ns : List ND) : W l Z n m9 0 (entryL [.ref 0, .int 1] 4) [] (own_H [e0, e1, e2, e3, e4, e5, e6] rt sz ns) 0 0 (Is none (own_H (own_rm [e0, e1, e2, e3, e4, e5, e6] 1) rt sz ns)) := by
  show W l Z n m9 0 [.val (.ref 0), .val (.int 1), .unset, .unset] [] (own_H [e0, e1, e2, e3, e4, e5, e6] rt sz ns) 0 0 _
  refine W.iloadN d9_0 rfl ?_
  refine W.iconst 3 d9_1 rfl ?_
  refine W.icmp_lt d9_2 (fun h2 => ?_) (fun h => False.elim (by revert h; decide))
  refine W.aloadN d9_10 rfl rfl ?_
  refine W.iconst 2 d9_11 rfl ?_
  refine W.iloadN d9_12 rfl ?_
  refine W.imul d9_13 ?_
  refine W.iconst 1 d9_14 rfl ?_
  refine W.iadd d9_15 ?_
  refine W.iaload (i := 3) d9_16 rfl ⟨by decide, by decide⟩ rfl ?_
  refine W.istoreN d9_17 rfl ?_
  refine W.aloadN d9_18 rfl rfl ?_
  refine W.iconst 2 d9_19 rfl ?_
  refine W.iloadN d9_20 rfl ?_
  refine W.imul d9_21 ?_
  refine W.iconst 2 d9_22 rfl ?_
  refine W.iadd d9_23 ?_
  refine W.iaload (i := 4) d9_24 rfl ⟨by decide, by decide⟩ rfl ?_
  refine W.istoreN d9_25 rfl ?_
  refine W.iloadN d9_26 rfl ?_
  refine W.if_le d9_27 (fun h => False.elim (by revert h; decide)) (fun h27 => ?_)
  refine W.iloadN d9_30 rfl ?_
  refine W.if_lt d9_31 (fun h31 => ?_) (fun h31 => ?_)
  · refine W.iloadN d9_53 rfl ?_
    refine W.if_lt d9_54 (fun h54 => ?_) (fun h => False.elim (h h31))
    refine W.iloadN d9_72 rfl ?_
    refine W.if_lt d9_73 (fun h73 => ?_) (fun h73 => ?_)
    · refine W.aloadN d9_91 rfl rfl ?_
      refine W.iloadN d9_92 rfl ?_
      refine W.iconst (-1) d9_93 rfl ?_
      refine W.iastore (i := 1) d9_94 rfl ⟨by decide, by decide⟩ (by simp) ?_
      exact W.leave d9_95 rfl (by decide) (by decide) (⟨rfl, by simp [own_rm, own_H, h31, h73]⟩)
    · refine W.aloadN d9_76 rfl rfl ?_
      refine W.iloadN d9_77 rfl ?_
      refine W.iloadN d9_78 rfl ?_
      refine W.iastore (i := 1) d9_79 rfl ⟨by decide, by decide⟩ (by simp) ?_
      refine W.aloadN d9_80 rfl rfl ?_
      refine W.iconst 2 d9_81 rfl ?_
      refine W.iloadN d9_82 rfl ?_
      refine W.imul d9_83 ?_
      refine W.iconst 2 d9_84 rfl ?_
      refine W.iadd d9_85 ?_
      refine W.iconst (-1) d9_86 rfl ?_
      refine W.iastore (i := 4) d9_87 rfl ⟨by decide, by decide⟩ (by simp) ?_
      refine W.goto d9_88 ?_
      exact W.leave d9_95 rfl (by decide) (by decide) (⟨rfl, by simp [own_rm, own_H, h31, h73]⟩)
  · refine W.iloadN d9_34 rfl ?_
    refine W.if_lt d9_35 (fun h35 => ?_) (fun h35 => ?_)
    · refine W.iloadN d9_53 rfl ?_
      refine W.if_lt d9_54 (fun h => False.elim (h31 h)) (fun h54 => ?_)
      refine W.aloadN d9_57 rfl rfl ?_
      refine W.iloadN d9_58 rfl ?_
      refine W.iloadN d9_59 rfl ?_
      refine W.iastore (i := 1) d9_60 rfl ⟨by decide, by decide⟩ (by simp) ?_
      refine W.aloadN d9_61 rfl rfl ?_
      refine W.iconst 2 d9_62 rfl ?_
      refine W.iloadN d9_63 rfl ?_
      refine W.imul d9_64 ?_
      refine W.iconst 1 d9_65 rfl ?_
      refine W.iadd d9_66 ?_
      refine W.iconst (-1) d9_67 rfl ?_
      refine W.iastore (i := 3) d9_68 rfl ⟨by decide, by decide⟩ (by simp) ?_
      refine W.goto d9_69 ?_
      exact W.leave d9_95 rfl (by decide) (by decide) (⟨rfl, by simp [own_rm, own_H, h31, h35]⟩)
    · refine W.aloadN d9_38 rfl rfl ?_
      refine W.iloadN d9_39 rfl ?_
      refine W.iloadN d9_40 rfl ?_
      refine W.iastore (i := 1) d9_41 rfl ⟨by decide, by decide⟩ (by simp) ?_
      refine W.aloadN d9_42 rfl rfl ?_
      refine W.iconst 2 d9_43 rfl ?_
      refine W.iloadN d9_44 rfl ?_
      refine W.imul d9_45 ?_
      refine W.iconst 2 d9_46 rfl ?_
      refine W.iadd d9_47 ?_
      refine W.iconst (-1) d9_48 rfl ?_
      refine W.iastore (i := 4) d9_49 rfl ⟨by decide, by decide⟩ (by simp) ?_
      refine W.goto d9_50 ?_
      exact W.leave d9_95 rfl (by decide) (by decide) (⟨rfl, by simp [own_rm, own_H, h31, h35]⟩)
set_option maxRecDepth 65536 in
set_option maxHeartbeats 40000000 in
theorem w9_2 {l : Launch} {Z : State} {a0 : Array Value} {n : Nat} (hw : ∀ d ∈ tables_1, d.before a0 Z = true) (e0 e1 e2 e3 e4 e5 e6 : Int32) (rt : Value) (sz : Int32) (ns : List ND) : W l Z n m9 0 (entryL [.ref 0, .int 2] 4) [] (own_H [e0, e1, e2, e3, e4, e5, e6] rt sz ns) 0 0 (Is none (own_H (own_rm [e0, e1, e2, e3, e4, e5, e6] 2) rt sz ns)) := by
  show W l Z n m9 0 [.val (.ref 0), .val (.int 2), .unset, .unset] [] (own_H [e0, e1, e2, e3, e4, e5, e6] rt sz ns) 0 0 _
  refine W.iloadN d9_0 rfl ?_
  refine W.iconst 3 d9_1 rfl ?_
  refine W.icmp_lt d9_2 (fun h2 => ?_) (fun h => False.elim (by revert h; decide))
  refine W.aloadN d9_10 rfl rfl ?_
  refine W.iconst 2 d9_11 rfl ?_
  refine W.iloadN d9_12 rfl ?_
  refine W.imul d9_13 ?_
  refine W.iconst 1 d9_14 rfl ?_
  refine W.iadd d9_15 ?_
  refine W.iaload (i := 5) d9_16 rfl ⟨by decide, by decide⟩ rfl ?_
  refine W.istoreN d9_17 rfl ?_
  refine W.aloadN d9_18 rfl rfl ?_
  refine W.iconst 2 d9_19 rfl ?_
  refine W.iloadN d9_20 rfl ?_
  refine W.imul d9_21 ?_
  refine W.iconst 2 d9_22 rfl ?_
  refine W.iadd d9_23 ?_
  refine W.iaload (i := 6) d9_24 rfl ⟨by decide, by decide⟩ rfl ?_
  refine W.istoreN d9_25 rfl ?_
  refine W.iloadN d9_26 rfl ?_
  refine W.if_le d9_27 (fun h => False.elim (by revert h; decide)) (fun h27 => ?_)
  refine W.iloadN d9_30 rfl ?_
  refine W.if_lt d9_31 (fun h31 => ?_) (fun h31 => ?_)
  · refine W.iloadN d9_53 rfl ?_
    refine W.if_lt d9_54 (fun h54 => ?_) (fun h => False.elim (h h31))
    refine W.iloadN d9_72 rfl ?_
    refine W.if_lt d9_73 (fun h73 => ?_) (fun h73 => ?_)
    · refine W.aloadN d9_91 rfl rfl ?_
      refine W.iloadN d9_92 rfl ?_
      refine W.iconst (-1) d9_93 rfl ?_
      refine W.iastore (i := 2) d9_94 rfl ⟨by decide, by decide⟩ (by simp) ?_
      exact W.leave d9_95 rfl (by decide) (by decide) (⟨rfl, by simp [own_rm, own_H, h31, h73]⟩)
    · refine W.aloadN d9_76 rfl rfl ?_
      refine W.iloadN d9_77 rfl ?_
      refine W.iloadN d9_78 rfl ?_
      refine W.iastore (i := 2) d9_79 rfl ⟨by decide, by decide⟩ (by simp) ?_
      refine W.aloadN d9_80 rfl rfl ?_
      refine W.iconst 2 d9_81 rfl ?_
      refine W.iloadN d9_82 rfl ?_
      refine W.imul d9_83 ?_
      refine W.iconst 2 d9_84 rfl ?_
      refine W.iadd d9_85 ?_
      refine W.iconst (-1) d9_86 rfl ?_
      refine W.iastore (i := 6) d9_87 rfl ⟨by decide, by decide⟩ (by simp) ?_
      refine W.goto d9_88 ?_
      exact W.leave d9_95 rfl (by decide) (by decide) (⟨rfl, by simp [own_rm, own_H, h31, h73]⟩)
  · refine W.iloadN d9_34 rfl ?_
    refine W.if_lt d9_35 (fun h35 => ?_) (fun h35 => ?_)
    · refine W.iloadN d9_53 rfl ?_
      refine W.if_lt d9_54 (fun h => False.elim (h31 h)) (fun h54 => ?_)
      refine W.aloadN d9_57 rfl rfl ?_
      refine W.iloadN d9_58 rfl ?_
      refine W.iloadN d9_59 rfl ?_
      refine W.iastore (i := 2) d9_60 rfl ⟨by decide, by decide⟩ (by simp) ?_
      refine W.aloadN d9_61 rfl rfl ?_
      refine W.iconst 2 d9_62 rfl ?_
      refine W.iloadN d9_63 rfl ?_
      refine W.imul d9_64 ?_
      refine W.iconst 1 d9_65 rfl ?_
      refine W.iadd d9_66 ?_
      refine W.iconst (-1) d9_67 rfl ?_
      refine W.iastore (i := 5) d9_68 rfl ⟨by decide, by decide⟩ (by simp) ?_
      refine W.goto d9_69 ?_
      exact W.leave d9_95 rfl (by decide) (by decide) (⟨rfl, by simp [own_rm, own_H, h31, h35]⟩)
    · refine W.aloadN d9_38 rfl rfl ?_
      refine W.iloadN d9_39 rfl ?_
      refine W.iloadN d9_40 rfl ?_
      refine W.iastore (i := 2) d9_41 rfl ⟨by decide, by decide⟩ (by simp) ?_
      refine W.aloadN d9_42 rfl rfl ?_
      refine W.iconst 2 d9_43 rfl ?_
      refine W.iloadN d9_44 rfl ?_
      refine W.imul d9_45 ?_
      refine W.iconst 2 d9_46 rfl ?_
      refine W.iadd d9_47 ?_
      refine W.iconst (-1) d9_48 rfl ?_
      refine W.iastore (i := 6) d9_49 rfl ⟨by decide, by decide⟩ (by simp) ?_
      refine W.goto d9_50 ?_
      exact W.leave d9_95 rfl (by decide) (by decide) (⟨rfl, by simp [own_rm, own_H, h31, h35]⟩)
set_option maxRecDepth 65536 in
set_option maxHeartbeats 40000000 in
theorem w9_3 {l : Launch} {Z : State} {a0 : Array Value} {n : Nat} (hw : ∀ d ∈ tables_1, d.before a0 Z = true) (e0 e1 e2 e3 e4 e5 e6 : Int32) (rt : Value) (sz : Int32) (ns : List ND) : W l Z n m9 0 (entryL [.ref 0, .int 3] 4) [] (own_H [e0, e1, e2, e3, e4, e5, e6] rt sz ns) 0 0 (Is none (own_H (own_rm [e0, e1, e2, e3, e4, e5, e6] 3) rt sz ns)) := by
  show W l Z n m9 0 [.val (.ref 0), .val (.int 3), .unset, .unset] [] (own_H [e0, e1, e2, e3, e4, e5, e6] rt sz ns) 0 0 _
  refine W.iloadN d9_0 rfl ?_
  refine W.iconst 3 d9_1 rfl ?_
  refine W.icmp_lt d9_2 (fun h => False.elim (by revert h; decide)) (fun h2 => ?_)
  refine W.aloadN d9_5 rfl rfl ?_
  refine W.iloadN d9_6 rfl ?_
  refine W.iconst (-1) d9_7 rfl ?_
  refine W.iastore (i := 3) d9_8 rfl ⟨by decide, by decide⟩ (by simp) ?_
  exact W.leave d9_9 rfl (by decide) (by decide) (⟨rfl, by simp [own_rm, own_H]⟩)
set_option maxRecDepth 65536 in
set_option maxHeartbeats 40000000 in
theorem w9_4 {l : Launch} {Z : State} {a0 : Array Value} {n : Nat} (hw : ∀ d ∈ tables_1, d.before a0 Z = true) (e0 e1 e2 e3 e4 e5 e6 : Int32) (rt : Value) (sz : Int32) (ns : List ND) : W l Z n m9 0 (entryL [.ref 0, .int 4] 4) [] (own_H [e0, e1, e2, e3, e4, e5, e6] rt sz ns) 0 0 (Is none (own_H (own_rm [e0, e1, e2, e3, e4, e5, e6] 4) rt sz ns)) := by
  show W l Z n m9 0 [.val (.ref 0), .val (.int 4), .unset, .unset] [] (own_H [e0, e1, e2, e3, e4, e5, e6] rt sz ns) 0 0 _
  refine W.iloadN d9_0 rfl ?_
  refine W.iconst 3 d9_1 rfl ?_
  refine W.icmp_lt d9_2 (fun h => False.elim (by revert h; decide)) (fun h2 => ?_)
  refine W.aloadN d9_5 rfl rfl ?_
  refine W.iloadN d9_6 rfl ?_
  refine W.iconst (-1) d9_7 rfl ?_
  refine W.iastore (i := 4) d9_8 rfl ⟨by decide, by decide⟩ (by simp) ?_
  exact W.leave d9_9 rfl (by decide) (by decide) (⟨rfl, by simp [own_rm, own_H]⟩)
set_option maxRecDepth 65536 in
set_option maxHeartbeats 40000000 in
theorem w9_5 {l : Launch} {Z : State} {a0 : Array Value} {n : Nat} (hw : ∀ d ∈ tables_1, d.before a0 Z = true) (e0 e1 e2 e3 e4 e5 e6 : Int32) (rt : Value) (sz : Int32) (ns : List ND) : W l Z n m9 0 (entryL [.ref 0, .int 5] 4) [] (own_H [e0, e1, e2, e3, e4, e5, e6] rt sz ns) 0 0 (Is none (own_H (own_rm [e0, e1, e2, e3, e4, e5, e6] 5) rt sz ns)) := by
  show W l Z n m9 0 [.val (.ref 0), .val (.int 5), .unset, .unset] [] (own_H [e0, e1, e2, e3, e4, e5, e6] rt sz ns) 0 0 _
  refine W.iloadN d9_0 rfl ?_
  refine W.iconst 3 d9_1 rfl ?_
  refine W.icmp_lt d9_2 (fun h => False.elim (by revert h; decide)) (fun h2 => ?_)
  refine W.aloadN d9_5 rfl rfl ?_
  refine W.iloadN d9_6 rfl ?_
  refine W.iconst (-1) d9_7 rfl ?_
  refine W.iastore (i := 5) d9_8 rfl ⟨by decide, by decide⟩ (by simp) ?_
  exact W.leave d9_9 rfl (by decide) (by decide) (⟨rfl, by simp [own_rm, own_H]⟩)
set_option maxRecDepth 65536 in
set_option maxHeartbeats 40000000 in
theorem w9_6 {l : Launch} {Z : State} {a0 : Array Value} {n : Nat} (hw : ∀ d ∈ tables_1, d.before a0 Z = true) (e0 e1 e2 e3 e4 e5 e6 : Int32) (rt : Value) (sz : Int32) (ns : List ND) : W l Z n m9 0 (entryL [.ref 0, .int 6] 4) [] (own_H [e0, e1, e2, e3, e4, e5, e6] rt sz ns) 0 0 (Is none (own_H (own_rm [e0, e1, e2, e3, e4, e5, e6] 6) rt sz ns)) := by
  show W l Z n m9 0 [.val (.ref 0), .val (.int 6), .unset, .unset] [] (own_H [e0, e1, e2, e3, e4, e5, e6] rt sz ns) 0 0 _
  refine W.iloadN d9_0 rfl ?_
  refine W.iconst 3 d9_1 rfl ?_
  refine W.icmp_lt d9_2 (fun h => False.elim (by revert h; decide)) (fun h2 => ?_)
  refine W.aloadN d9_5 rfl rfl ?_
  refine W.iloadN d9_6 rfl ?_
  refine W.iconst (-1) d9_7 rfl ?_
  refine W.iastore (i := 6) d9_8 rfl ⟨by decide, by decide⟩ (by simp) ?_
  exact W.leave d9_9 rfl (by decide) (by decide) (⟨rfl, by simp [own_rm, own_H]⟩)
theorem own_eget (e : List Int32) (i : Nat) (h : i < e.length) : (e.map Value.int)[i]? = some (.int (e.getD i 0)) := by
  rw [List.getElem?_map, List.getD_eq_getElem?_getD, List.getElem?_eq_getElem h] <;> rfl
theorem own_rmlen (e : List Int32) (p : Nat) : (own_rm e p).length = e.length := by
  unfold own_rm
  repeat' split
  all_goals simp
theorem own_pos7 (t : Int32) : own_pos t = 0 ∨ own_pos t = 1 ∨ own_pos t = 2 ∨ own_pos t = 3 ∨ own_pos t = 4 ∨ own_pos t = 5 ∨ own_pos t = 6 := by
  unfold own_pos
  repeat' split
  all_goals simp
set_option maxRecDepth 65536 in
set_option maxHeartbeats 40000000 in
theorem sufB {l : Launch} {Z : State} {a0 : Array Value} {n : Nat} (hw : ∀ d ∈ tables_1, d.before a0 Z = true) (a b v q3 q4 q5 q6 q7 q8 r x nn t p : Int32) (e : List Int32) (rt : Value) (sz : Int32) (ns : List ND) (he : e.length = 7) (hok : own_ok ns) (hrt : rt.isRef = true) (hc : own_chkB e nn ns rt sz x = true) : W l Z n m0 442 [(.val (.int (a))), (.val (.int (b))), (.val (.int (v))), (.val (.int (q3))), (.val (.int (q4))), (.val (.int (q5))), (.val (.int (q6))), (.val (.int (q7))), (.val (.int (q8))), (.val (.int (r))), (.val (.int (x))), (.val (.ref 0)), (.val (.ref 1)), (.val (.int (nn))), (.val (.int (t))), (.val (.int (p))), .unset, .unset, .unset, .unset, .unset, .unset, .unset] [] (own_H e rt sz ns) 9 30 (fun v _ => v = some (.int 1)) := by
  unfold own_chkB at hc
  cases hrem : own_rem ns rt sz x with
  | none => simp [hrem] at hc
  | some res =>
    obtain ⟨ns', rt', sz'⟩ := res
    simp only [hrem, own_chkC, Bool.and_eq_true, decide_eq_true_eq] at hc
    obtain ⟨hkb, i0, i1, i2, i3, i4, i5, i6, hsz, c0, c1, c2, c3, c4, c5, c6, f0, f1, f2, f3⟩ := hc
    have hk := own_okb_ok hkb
    refine W.aload d0_442 rfl rfl ?_
    refine W.iload d0_444 rfl ?_
    refine W.callvN (M' := m10) d0_446 (hw _ (wd 46 rfl)) (hw _ (wd 47 rfl)) (hw _ (wd 48 rfl)) (hw _ (wd 49 rfl)) (w10 hw x e rt sz ns hok hrt ns' rt' sz' hrem) (ok10 hw) rfl rfl rfl rfl ?_
    refine W.aload d0_449 rfl rfl ?_
    refine W.getfield 0 d0_451 (hw _ (wd 55 rfl)) rfl rfl ?_
    refine W.astore d0_454 rfl (rfn_of (own_isref i0)) ?_
    refine W.aload d0_456 rfl (rfn_of (own_isref i0)) ?_
    refine W.callsV (M' := m11) d0_458 (hw _ (wd 56 rfl)) (hw _ (wd 57 rfl)) (w11 hw e rt' sz' ns' _ hk i0) (ok11 hw) rfl rfl rfl ?_
    refine W.astore d0_461 rfl (rfn_of (own_isref i1)) ?_
    refine W.aload d0_463 rfl (rfn_of (own_isref i0)) ?_
    refine W.callsV (M' := m12) d0_465 (hw _ (wd 59 rfl)) (hw _ (wd 60 rfl)) (w12 hw e rt' sz' ns' _ hk i0) (ok12 hw) rfl rfl rfl ?_
    refine W.astore d0_468 rfl (rfn_of (own_isref i2)) ?_
    refine W.aload d0_470 rfl (rfn_of (own_isref i1)) ?_
    refine W.callsV (M' := m11) d0_472 (hw _ (wd 56 rfl)) (hw _ (wd 57 rfl)) (w11 hw e rt' sz' ns' _ hk i1) (ok11 hw) rfl rfl rfl ?_
    refine W.astore d0_475 rfl (rfn_of (own_isref i3)) ?_
    refine W.aload d0_477 rfl (rfn_of (own_isref i1)) ?_
    refine W.callsV (M' := m12) d0_479 (hw _ (wd 59 rfl)) (hw _ (wd 60 rfl)) (w12 hw e rt' sz' ns' _ hk i1) (ok12 hw) rfl rfl rfl ?_
    refine W.astore d0_482 rfl (rfn_of (own_isref i4)) ?_
    refine W.aload d0_484 rfl (rfn_of (own_isref i2)) ?_
    refine W.callsV (M' := m11) d0_486 (hw _ (wd 56 rfl)) (hw _ (wd 57 rfl)) (w11 hw e rt' sz' ns' _ hk i2) (ok11 hw) rfl rfl rfl ?_
    refine W.astore d0_489 rfl (rfn_of (own_isref i5)) ?_
    refine W.aload d0_491 rfl (rfn_of (own_isref i2)) ?_
    refine W.callsV (M' := m12) d0_493 (hw _ (wd 59 rfl)) (hw _ (wd 60 rfl)) (w12 hw e rt' sz' ns' _ hk i2) (ok12 hw) rfl rfl rfl ?_
    refine W.astore d0_496 rfl (rfn_of (own_isref i6)) ?_
    refine W.aload d0_498 rfl rfl ?_
    refine W.getfield 1 d0_500 (hw _ (wd 62 rfl)) rfl rfl ?_
    refine W.iload d0_503 rfl ?_
    refine W.icmp_ne d0_505 (fun h => False.elim (h hsz)) (fun h505 => ?_)
    refine W.aload d0_508 rfl (rfn_of (own_isref i0)) ?_
    refine W.aload d0_510 rfl rfl ?_
    refine W.iconst 0 d0_512 rfl ?_
    refine W.iaload (i := 0) d0_513 rfl ⟨by decide, by decide⟩ (own_eget e 0 (by omega)) ?_
    refine W.callsV (M' := m13) d0_514 (hw _ (wd 63 rfl)) (hw _ (wd 64 rfl)) (w13 hw e rt' sz' ns' _ _ c0) (ok13 hw) rfl rfl rfl ?_
    refine W.if_eq d0_517 (fun h => False.elim (by revert h; decide)) (fun h517 => ?_)
    refine W.aload d0_520 rfl (rfn_of (own_isref i1)) ?_
    refine W.aload d0_522 rfl rfl ?_
    refine W.iconst 1 d0_524 rfl ?_
    refine W.iaload (i := 1) d0_525 rfl ⟨by decide, by decide⟩ (own_eget e 1 (by omega)) ?_
    refine W.callsV (M' := m13) d0_526 (hw _ (wd 63 rfl)) (hw _ (wd 64 rfl)) (w13 hw e rt' sz' ns' _ _ c1) (ok13 hw) rfl rfl rfl ?_
    refine W.if_eq d0_529 (fun h => False.elim (by revert h; decide)) (fun h529 => ?_)
    refine W.aload d0_532 rfl (rfn_of (own_isref i2)) ?_
    refine W.aload d0_534 rfl rfl ?_
    refine W.iconst 2 d0_536 rfl ?_
    refine W.iaload (i := 2) d0_537 rfl ⟨by decide, by decide⟩ (own_eget e 2 (by omega)) ?_
    refine W.callsV (M' := m13) d0_538 (hw _ (wd 63 rfl)) (hw _ (wd 64 rfl)) (w13 hw e rt' sz' ns' _ _ c2) (ok13 hw) rfl rfl rfl ?_
    refine W.if_eq d0_541 (fun h => False.elim (by revert h; decide)) (fun h541 => ?_)
    refine W.aload d0_544 rfl (rfn_of (own_isref i3)) ?_
    refine W.aload d0_546 rfl rfl ?_
    refine W.iconst 3 d0_548 rfl ?_
    refine W.iaload (i := 3) d0_549 rfl ⟨by decide, by decide⟩ (own_eget e 3 (by omega)) ?_
    refine W.callsV (M' := m13) d0_550 (hw _ (wd 63 rfl)) (hw _ (wd 64 rfl)) (w13 hw e rt' sz' ns' _ _ c3) (ok13 hw) rfl rfl rfl ?_
    refine W.if_eq d0_553 (fun h => False.elim (by revert h; decide)) (fun h553 => ?_)
    refine W.aload d0_556 rfl (rfn_of (own_isref i4)) ?_
    refine W.aload d0_558 rfl rfl ?_
    refine W.iconst 4 d0_560 rfl ?_
    refine W.iaload (i := 4) d0_561 rfl ⟨by decide, by decide⟩ (own_eget e 4 (by omega)) ?_
    refine W.callsV (M' := m13) d0_562 (hw _ (wd 63 rfl)) (hw _ (wd 64 rfl)) (w13 hw e rt' sz' ns' _ _ c4) (ok13 hw) rfl rfl rfl ?_
    refine W.if_eq d0_565 (fun h => False.elim (by revert h; decide)) (fun h565 => ?_)
    refine W.aload d0_568 rfl (rfn_of (own_isref i5)) ?_
    refine W.aload d0_570 rfl rfl ?_
    refine W.iconst 5 d0_572 rfl ?_
    refine W.iaload (i := 5) d0_573 rfl ⟨by decide, by decide⟩ (own_eget e 5 (by omega)) ?_
    refine W.callsV (M' := m13) d0_574 (hw _ (wd 63 rfl)) (hw _ (wd 64 rfl)) (w13 hw e rt' sz' ns' _ _ c5) (ok13 hw) rfl rfl rfl ?_
    refine W.if_eq d0_577 (fun h => False.elim (by revert h; decide)) (fun h577 => ?_)
    refine W.aload d0_580 rfl (rfn_of (own_isref i6)) ?_
    refine W.aload d0_582 rfl rfl ?_
    refine W.bipush 6 d0_584 rfl ?_
    refine W.iaload (i := 6) d0_586 rfl ⟨by decide, by decide⟩ (own_eget e 6 (by omega)) ?_
    refine W.callsV (M' := m13) d0_587 (hw _ (wd 63 rfl)) (hw _ (wd 64 rfl)) (w13 hw e rt' sz' ns' _ _ c6) (ok13 hw) rfl rfl rfl ?_
    refine W.if_eq d0_590 (fun h => False.elim (by revert h; decide)) (fun h590 => ?_)
    refine W.aload d0_593 rfl (rfn_of (own_isref i3)) ?_
    refine W.callsV (M' := m14) d0_595 (hw _ (wd 66 rfl)) (hw _ (wd 67 rfl)) (w14 hw e rt' sz' ns' _ hk i3 f0) (ok14 hw) rfl rfl rfl ?_
    refine W.if_eq d0_598 (fun h => False.elim (by revert h; decide)) (fun h598 => ?_)
    refine W.aload d0_601 rfl (rfn_of (own_isref i4)) ?_
    refine W.callsV (M' := m14) d0_603 (hw _ (wd 66 rfl)) (hw _ (wd 67 rfl)) (w14 hw e rt' sz' ns' _ hk i4 f1) (ok14 hw) rfl rfl rfl ?_
    refine W.if_eq d0_606 (fun h => False.elim (by revert h; decide)) (fun h606 => ?_)
    refine W.aload d0_609 rfl (rfn_of (own_isref i5)) ?_
    refine W.callsV (M' := m14) d0_611 (hw _ (wd 66 rfl)) (hw _ (wd 67 rfl)) (w14 hw e rt' sz' ns' _ hk i5 f2) (ok14 hw) rfl rfl rfl ?_
    refine W.if_eq d0_614 (fun h => False.elim (by revert h; decide)) (fun h614 => ?_)
    refine W.aload d0_617 rfl (rfn_of (own_isref i6)) ?_
    refine W.callsV (M' := m14) d0_619 (hw _ (wd 66 rfl)) (hw _ (wd 67 rfl)) (w14 hw e rt' sz' ns' _ hk i6 f3) (ok14 hw) rfl rfl rfl ?_
    refine W.if_eq d0_622 (fun h => False.elim (by revert h; decide)) (fun h622 => ?_)
    refine W.iconst 1 d0_625 rfl ?_
    refine W.goto d0_626 ?_
    exact W.nreturn .boolean d0_630 rfl (by simp) (by decide) (by decide) (rfl)
set_option maxRecDepth 65536 in
set_option maxHeartbeats 40000000 in
theorem sufA {l : Launch} {Z : State} {a0 : Array Value} {n : Nat} (hw : ∀ d ∈ tables_1, d.before a0 Z = true) (a b v q3 q4 q5 q6 q7 q8 r x nn : Int32) (e0 e1 e2 e3 e4 e5 e6 : Int32) (rt : Value) (sz : Int32) (ns : List ND) (hok : own_ok ns) (hrt : rt.isRef = true) (hc : own_chk [e0, e1, e2, e3, e4, e5, e6] nn ns rt sz x = true) : W l Z n m0 391 [(.val (.int (a))), (.val (.int (b))), (.val (.int (v))), (.val (.int (q3))), (.val (.int (q4))), (.val (.int (q5))), (.val (.int (q6))), (.val (.int (q7))), (.val (.int (q8))), (.val (.int (r))), (.val (.int (x))), (.val (.ref 0)), (.val (.ref 1)), (.val (.int (nn))), .unset, .unset, .unset, .unset, .unset, .unset, .unset, .unset, .unset] [] (own_H [e0, e1, e2, e3, e4, e5, e6] rt sz ns) 9 30 (fun v _ => v = some (.int 1)) := by
  refine W.iload d0_391 rfl ?_
  refine W.callsV (M' := m7) d0_393 (hw _ (wd 36 rfl)) (hw _ (wd 37 rfl)) (w7 hw x _) (ok7 hw) rfl rfl rfl ?_
  refine W.istore d0_396 rfl ?_
  refine W.iload d0_398 rfl ?_
  refine W.if_ge d0_400 (fun h400 => ?_) (fun h400 => ?_)
  · refine W.iload d0_407 rfl ?_
    refine W.callsV (M' := m8) d0_409 (hw _ (wd 40 rfl)) (hw _ (wd 41 rfl)) (w8 hw _ _) (ok8 hw) rfl rfl rfl ?_
    rcases own_pos7 (own_rank x) with q412 | q412 | q412 | q412 | q412 | q412 | q412
    · rw [q412]
      refine W.istore d0_412 rfl ?_
      refine W.iload d0_414 rfl ?_
      refine W.if_lt d0_416 (fun h => False.elim (by revert h; decide)) (fun h416 => ?_)
      refine W.aload d0_419 rfl rfl ?_
      refine W.iload d0_421 rfl ?_
      refine W.iaload (i := 0) d0_423 rfl ⟨by decide, by decide⟩ rfl ?_
      refine W.iload d0_424 rfl ?_
      refine W.icmp_ne d0_426 (fun h426 => ?_) (fun h426 => ?_)
      · have hc' : (if e0 = own_rank x then own_chkB (own_rm [e0, e1, e2, e3, e4, e5, e6] 0) (nn - 1) ns rt sz x else own_chkB [e0, e1, e2, e3, e4, e5, e6] nn ns rt sz x) = true := by
          rw [own_chk, if_neg h400, q412, show (0 : Int32).toNatClampNeg = 0 from by decide] at hc
          exact hc
        rw [if_neg h426] at hc'
        exact sufB hw a b v q3 q4 q5 q6 q7 q8 r x nn _ _ [e0, e1, e2, e3, e4, e5, e6] rt sz ns rfl hok hrt hc'
      · refine W.iload d0_429 rfl ?_
        refine W.iconst 1 d0_431 rfl ?_
        refine W.isub d0_432 ?_
        refine W.istore d0_433 rfl ?_
        refine W.aload d0_435 rfl rfl ?_
        refine W.iload d0_437 rfl ?_
        refine W.callsN (M' := m9) d0_439 (hw _ (wd 43 rfl)) (hw _ (wd 44 rfl)) (w9_0 hw e0 e1 e2 e3 e4 e5 e6 rt sz ns) (ok9 hw) rfl rfl rfl ?_
        have hc' : (if e0 = own_rank x then own_chkB (own_rm [e0, e1, e2, e3, e4, e5, e6] 0) (nn - 1) ns rt sz x else own_chkB [e0, e1, e2, e3, e4, e5, e6] nn ns rt sz x) = true := by
          rw [own_chk, if_neg h400, q412, show (0 : Int32).toNatClampNeg = 0 from by decide] at hc
          exact hc
        rw [if_pos h426] at hc'
        exact sufB hw a b v q3 q4 q5 q6 q7 q8 r x (nn - 1) _ _ (own_rm [e0, e1, e2, e3, e4, e5, e6] 0) rt sz ns (own_rmlen _ _) hok hrt hc'
    · rw [q412]
      refine W.istore d0_412 rfl ?_
      refine W.iload d0_414 rfl ?_
      refine W.if_lt d0_416 (fun h => False.elim (by revert h; decide)) (fun h416 => ?_)
      refine W.aload d0_419 rfl rfl ?_
      refine W.iload d0_421 rfl ?_
      refine W.iaload (i := 1) d0_423 rfl ⟨by decide, by decide⟩ rfl ?_
      refine W.iload d0_424 rfl ?_
      refine W.icmp_ne d0_426 (fun h426 => ?_) (fun h426 => ?_)
      · have hc' : (if e1 = own_rank x then own_chkB (own_rm [e0, e1, e2, e3, e4, e5, e6] 1) (nn - 1) ns rt sz x else own_chkB [e0, e1, e2, e3, e4, e5, e6] nn ns rt sz x) = true := by
          rw [own_chk, if_neg h400, q412, show (1 : Int32).toNatClampNeg = 1 from by decide] at hc
          exact hc
        rw [if_neg h426] at hc'
        exact sufB hw a b v q3 q4 q5 q6 q7 q8 r x nn _ _ [e0, e1, e2, e3, e4, e5, e6] rt sz ns rfl hok hrt hc'
      · refine W.iload d0_429 rfl ?_
        refine W.iconst 1 d0_431 rfl ?_
        refine W.isub d0_432 ?_
        refine W.istore d0_433 rfl ?_
        refine W.aload d0_435 rfl rfl ?_
        refine W.iload d0_437 rfl ?_
        refine W.callsN (M' := m9) d0_439 (hw _ (wd 43 rfl)) (hw _ (wd 44 rfl)) (w9_1 hw e0 e1 e2 e3 e4 e5 e6 rt sz ns) (ok9 hw) rfl rfl rfl ?_
        have hc' : (if e1 = own_rank x then own_chkB (own_rm [e0, e1, e2, e3, e4, e5, e6] 1) (nn - 1) ns rt sz x else own_chkB [e0, e1, e2, e3, e4, e5, e6] nn ns rt sz x) = true := by
          rw [own_chk, if_neg h400, q412, show (1 : Int32).toNatClampNeg = 1 from by decide] at hc
          exact hc
        rw [if_pos h426] at hc'
        exact sufB hw a b v q3 q4 q5 q6 q7 q8 r x (nn - 1) _ _ (own_rm [e0, e1, e2, e3, e4, e5, e6] 1) rt sz ns (own_rmlen _ _) hok hrt hc'
    · rw [q412]
      refine W.istore d0_412 rfl ?_
      refine W.iload d0_414 rfl ?_
      refine W.if_lt d0_416 (fun h => False.elim (by revert h; decide)) (fun h416 => ?_)
      refine W.aload d0_419 rfl rfl ?_
      refine W.iload d0_421 rfl ?_
      refine W.iaload (i := 2) d0_423 rfl ⟨by decide, by decide⟩ rfl ?_
      refine W.iload d0_424 rfl ?_
      refine W.icmp_ne d0_426 (fun h426 => ?_) (fun h426 => ?_)
      · have hc' : (if e2 = own_rank x then own_chkB (own_rm [e0, e1, e2, e3, e4, e5, e6] 2) (nn - 1) ns rt sz x else own_chkB [e0, e1, e2, e3, e4, e5, e6] nn ns rt sz x) = true := by
          rw [own_chk, if_neg h400, q412, show (2 : Int32).toNatClampNeg = 2 from by decide] at hc
          exact hc
        rw [if_neg h426] at hc'
        exact sufB hw a b v q3 q4 q5 q6 q7 q8 r x nn _ _ [e0, e1, e2, e3, e4, e5, e6] rt sz ns rfl hok hrt hc'
      · refine W.iload d0_429 rfl ?_
        refine W.iconst 1 d0_431 rfl ?_
        refine W.isub d0_432 ?_
        refine W.istore d0_433 rfl ?_
        refine W.aload d0_435 rfl rfl ?_
        refine W.iload d0_437 rfl ?_
        refine W.callsN (M' := m9) d0_439 (hw _ (wd 43 rfl)) (hw _ (wd 44 rfl)) (w9_2 hw e0 e1 e2 e3 e4 e5 e6 rt sz ns) (ok9 hw) rfl rfl rfl ?_
        have hc' : (if e2 = own_rank x then own_chkB (own_rm [e0, e1, e2, e3, e4, e5, e6] 2) (nn - 1) ns rt sz x else own_chkB [e0, e1, e2, e3, e4, e5, e6] nn ns rt sz x) = true := by
          rw [own_chk, if_neg h400, q412, show (2 : Int32).toNatClampNeg = 2 from by decide] at hc
          exact hc
        rw [if_pos h426] at hc'
        exact sufB hw a b v q3 q4 q5 q6 q7 q8 r x (nn - 1) _ _ (own_rm [e0, e1, e2, e3, e4, e5, e6] 2) rt sz ns (own_rmlen _ _) hok hrt hc'
    · rw [q412]
      refine W.istore d0_412 rfl ?_
      refine W.iload d0_414 rfl ?_
      refine W.if_lt d0_416 (fun h => False.elim (by revert h; decide)) (fun h416 => ?_)
      refine W.aload d0_419 rfl rfl ?_
      refine W.iload d0_421 rfl ?_
      refine W.iaload (i := 3) d0_423 rfl ⟨by decide, by decide⟩ rfl ?_
      refine W.iload d0_424 rfl ?_
      refine W.icmp_ne d0_426 (fun h426 => ?_) (fun h426 => ?_)
      · have hc' : (if e3 = own_rank x then own_chkB (own_rm [e0, e1, e2, e3, e4, e5, e6] 3) (nn - 1) ns rt sz x else own_chkB [e0, e1, e2, e3, e4, e5, e6] nn ns rt sz x) = true := by
          rw [own_chk, if_neg h400, q412, show (3 : Int32).toNatClampNeg = 3 from by decide] at hc
          exact hc
        rw [if_neg h426] at hc'
        exact sufB hw a b v q3 q4 q5 q6 q7 q8 r x nn _ _ [e0, e1, e2, e3, e4, e5, e6] rt sz ns rfl hok hrt hc'
      · refine W.iload d0_429 rfl ?_
        refine W.iconst 1 d0_431 rfl ?_
        refine W.isub d0_432 ?_
        refine W.istore d0_433 rfl ?_
        refine W.aload d0_435 rfl rfl ?_
        refine W.iload d0_437 rfl ?_
        refine W.callsN (M' := m9) d0_439 (hw _ (wd 43 rfl)) (hw _ (wd 44 rfl)) (w9_3 hw e0 e1 e2 e3 e4 e5 e6 rt sz ns) (ok9 hw) rfl rfl rfl ?_
        have hc' : (if e3 = own_rank x then own_chkB (own_rm [e0, e1, e2, e3, e4, e5, e6] 3) (nn - 1) ns rt sz x else own_chkB [e0, e1, e2, e3, e4, e5, e6] nn ns rt sz x) = true := by
          rw [own_chk, if_neg h400, q412, show (3 : Int32).toNatClampNeg = 3 from by decide] at hc
          exact hc
        rw [if_pos h426] at hc'
        exact sufB hw a b v q3 q4 q5 q6 q7 q8 r x (nn - 1) _ _ (own_rm [e0, e1, e2, e3, e4, e5, e6] 3) rt sz ns (own_rmlen _ _) hok hrt hc'
    · rw [q412]
      refine W.istore d0_412 rfl ?_
      refine W.iload d0_414 rfl ?_
      refine W.if_lt d0_416 (fun h => False.elim (by revert h; decide)) (fun h416 => ?_)
      refine W.aload d0_419 rfl rfl ?_
      refine W.iload d0_421 rfl ?_
      refine W.iaload (i := 4) d0_423 rfl ⟨by decide, by decide⟩ rfl ?_
      refine W.iload d0_424 rfl ?_
      refine W.icmp_ne d0_426 (fun h426 => ?_) (fun h426 => ?_)
      · have hc' : (if e4 = own_rank x then own_chkB (own_rm [e0, e1, e2, e3, e4, e5, e6] 4) (nn - 1) ns rt sz x else own_chkB [e0, e1, e2, e3, e4, e5, e6] nn ns rt sz x) = true := by
          rw [own_chk, if_neg h400, q412, show (4 : Int32).toNatClampNeg = 4 from by decide] at hc
          exact hc
        rw [if_neg h426] at hc'
        exact sufB hw a b v q3 q4 q5 q6 q7 q8 r x nn _ _ [e0, e1, e2, e3, e4, e5, e6] rt sz ns rfl hok hrt hc'
      · refine W.iload d0_429 rfl ?_
        refine W.iconst 1 d0_431 rfl ?_
        refine W.isub d0_432 ?_
        refine W.istore d0_433 rfl ?_
        refine W.aload d0_435 rfl rfl ?_
        refine W.iload d0_437 rfl ?_
        refine W.callsN (M' := m9) d0_439 (hw _ (wd 43 rfl)) (hw _ (wd 44 rfl)) (w9_4 hw e0 e1 e2 e3 e4 e5 e6 rt sz ns) (ok9 hw) rfl rfl rfl ?_
        have hc' : (if e4 = own_rank x then own_chkB (own_rm [e0, e1, e2, e3, e4, e5, e6] 4) (nn - 1) ns rt sz x else own_chkB [e0, e1, e2, e3, e4, e5, e6] nn ns rt sz x) = true := by
          rw [own_chk, if_neg h400, q412, show (4 : Int32).toNatClampNeg = 4 from by decide] at hc
          exact hc
        rw [if_pos h426] at hc'
        exact sufB hw a b v q3 q4 q5 q6 q7 q8 r x (nn - 1) _ _ (own_rm [e0, e1, e2, e3, e4, e5, e6] 4) rt sz ns (own_rmlen _ _) hok hrt hc'
    · rw [q412]
      refine W.istore d0_412 rfl ?_
      refine W.iload d0_414 rfl ?_
      refine W.if_lt d0_416 (fun h => False.elim (by revert h; decide)) (fun h416 => ?_)
      refine W.aload d0_419 rfl rfl ?_
      refine W.iload d0_421 rfl ?_
      refine W.iaload (i := 5) d0_423 rfl ⟨by decide, by decide⟩ rfl ?_
      refine W.iload d0_424 rfl ?_
      refine W.icmp_ne d0_426 (fun h426 => ?_) (fun h426 => ?_)
      · have hc' : (if e5 = own_rank x then own_chkB (own_rm [e0, e1, e2, e3, e4, e5, e6] 5) (nn - 1) ns rt sz x else own_chkB [e0, e1, e2, e3, e4, e5, e6] nn ns rt sz x) = true := by
          rw [own_chk, if_neg h400, q412, show (5 : Int32).toNatClampNeg = 5 from by decide] at hc
          exact hc
        rw [if_neg h426] at hc'
        exact sufB hw a b v q3 q4 q5 q6 q7 q8 r x nn _ _ [e0, e1, e2, e3, e4, e5, e6] rt sz ns rfl hok hrt hc'
      · refine W.iload d0_429 rfl ?_
        refine W.iconst 1 d0_431 rfl ?_
        refine W.isub d0_432 ?_
        refine W.istore d0_433 rfl ?_
        refine W.aload d0_435 rfl rfl ?_
        refine W.iload d0_437 rfl ?_
        refine W.callsN (M' := m9) d0_439 (hw _ (wd 43 rfl)) (hw _ (wd 44 rfl)) (w9_5 hw e0 e1 e2 e3 e4 e5 e6 rt sz ns) (ok9 hw) rfl rfl rfl ?_
        have hc' : (if e5 = own_rank x then own_chkB (own_rm [e0, e1, e2, e3, e4, e5, e6] 5) (nn - 1) ns rt sz x else own_chkB [e0, e1, e2, e3, e4, e5, e6] nn ns rt sz x) = true := by
          rw [own_chk, if_neg h400, q412, show (5 : Int32).toNatClampNeg = 5 from by decide] at hc
          exact hc
        rw [if_pos h426] at hc'
        exact sufB hw a b v q3 q4 q5 q6 q7 q8 r x (nn - 1) _ _ (own_rm [e0, e1, e2, e3, e4, e5, e6] 5) rt sz ns (own_rmlen _ _) hok hrt hc'
    · rw [q412]
      refine W.istore d0_412 rfl ?_
      refine W.iload d0_414 rfl ?_
      refine W.if_lt d0_416 (fun h => False.elim (by revert h; decide)) (fun h416 => ?_)
      refine W.aload d0_419 rfl rfl ?_
      refine W.iload d0_421 rfl ?_
      refine W.iaload (i := 6) d0_423 rfl ⟨by decide, by decide⟩ rfl ?_
      refine W.iload d0_424 rfl ?_
      refine W.icmp_ne d0_426 (fun h426 => ?_) (fun h426 => ?_)
      · have hc' : (if e6 = own_rank x then own_chkB (own_rm [e0, e1, e2, e3, e4, e5, e6] 6) (nn - 1) ns rt sz x else own_chkB [e0, e1, e2, e3, e4, e5, e6] nn ns rt sz x) = true := by
          rw [own_chk, if_neg h400, q412, show (6 : Int32).toNatClampNeg = 6 from by decide] at hc
          exact hc
        rw [if_neg h426] at hc'
        exact sufB hw a b v q3 q4 q5 q6 q7 q8 r x nn _ _ [e0, e1, e2, e3, e4, e5, e6] rt sz ns rfl hok hrt hc'
      · refine W.iload d0_429 rfl ?_
        refine W.iconst 1 d0_431 rfl ?_
        refine W.isub d0_432 ?_
        refine W.istore d0_433 rfl ?_
        refine W.aload d0_435 rfl rfl ?_
        refine W.iload d0_437 rfl ?_
        refine W.callsN (M' := m9) d0_439 (hw _ (wd 43 rfl)) (hw _ (wd 44 rfl)) (w9_6 hw e0 e1 e2 e3 e4 e5 e6 rt sz ns) (ok9 hw) rfl rfl rfl ?_
        have hc' : (if e6 = own_rank x then own_chkB (own_rm [e0, e1, e2, e3, e4, e5, e6] 6) (nn - 1) ns rt sz x else own_chkB [e0, e1, e2, e3, e4, e5, e6] nn ns rt sz x) = true := by
          rw [own_chk, if_neg h400, q412, show (6 : Int32).toNatClampNeg = 6 from by decide] at hc
          exact hc
        rw [if_pos h426] at hc'
        exact sufB hw a b v q3 q4 q5 q6 q7 q8 r x (nn - 1) _ _ (own_rm [e0, e1, e2, e3, e4, e5, e6] 6) rt sz ns (own_rmlen _ _) hok hrt hc'
  · refine W.iconst (-1) d0_403 rfl ?_
    refine W.goto d0_404 ?_
    refine W.istore d0_412 rfl ?_
    refine W.iload d0_414 rfl ?_
    refine W.if_lt d0_416 (fun h416 => ?_) (fun h => False.elim (by revert h; decide))
    rw [own_chk, if_pos h400] at hc
    exact sufB hw a b v q3 q4 q5 q6 q7 q8 r x nn _ _ [e0, e1, e2, e3, e4, e5, e6] rt sz ns rfl hok hrt hc
set_option maxRecDepth 65536 in
set_option maxHeartbeats 40000000 in
theorem c2_0 {l : Launch} {Z : State} {a0 : Array Value} {n : Nat} (hw : ∀ d ∈ tables_1, d.before a0 Z = true) : W l Z n m2 0 (entryL [(.ref 1)] 1) [] [.inr (.int, [(.int (0)), (.int (0)), (.int (0)), (.int (0)), (.int (0)), (.int (0)), (.int (0))]), .inl ("boundwright/examples/BstSet", [(("boundwright/examples/BstSet", "root", "Lboundwright/examples/BstSet$Node;"), .null), (("boundwright/examples/BstSet", "size", "I"), (.int (0)))])] 0 0 (Is none [.inr (.int, [(.int (0)), (.int (0)), (.int (0)), (.int (0)), (.int (0)), (.int (0)), (.int (0))]), .inl ("boundwright/examples/BstSet", [(("boundwright/examples/BstSet", "root", "Lboundwright/examples/BstSet$Node;"), .null), (("boundwright/examples/BstSet", "size", "I"), (.int (0)))])]) := by
  show W l Z n m2 0 [(.val (.ref 1))] [] [.inr (.int, [(.int (0)), (.int (0)), (.int (0)), (.int (0)), (.int (0)), (.int (0)), (.int (0))]), .inl ("boundwright/examples/BstSet", [(("boundwright/examples/BstSet", "root", "Lboundwright/examples/BstSet$Node;"), .null), (("boundwright/examples/BstSet", "size", "I"), (.int (0)))])] 0 0 _
  refine W.aloadN d2_0 rfl rfl ?_
  refine W.initO d2_1 (hw _ (wd 12 rfl)) (hw _ (wd 13 rfl)) (hw _ (wd 14 rfl)) rfl rfl ?_
  exact W.leave d2_4 rfl (by decide) (by decide) (⟨rfl, rfl⟩)
theorem chk0 (x : Int32) : own_chk [3, (-1), (-1), (-1), (-1), (-1), (-1)] ((((((1 + 0) + 0) + 0) + 0) + 0) + 0) [(0, .null, .null)] (.ref 2) (0 + 1) x = true := by
  by_cases k0 : x = (-2147483648)
  · subst k0; decide +kernel
  by_cases k1 : x = (-1000)
  · subst k1; decide +kernel
  by_cases k2 : x = (-1)
  · subst k2; decide +kernel
  by_cases k3 : x = 0
  · subst k3; decide +kernel
  by_cases k4 : x = 1
  · subst k4; decide +kernel
  by_cases k5 : x = 1000
  · subst k5; decide +kernel
  by_cases k6 : x = 2147483647
  · subst k6; decide +kernel
  have hr : own_rank x = -1 := by simp [own_rank, k0, k1, k2, k3, k4, k5, k6]
  rw [own_chk, hr, if_pos (by decide), own_chkB, own_none _ _ _ x ?_ (by decide +kernel)]
  · decide +kernel
  · intro y hy
    simp only [List.mem_cons, List.not_mem_nil, or_false] at hy
    rcases hy with rfl
    all_goals first | exact fun q => k0 q.symm | exact fun q => k1 q.symm | exact fun q => k2 q.symm | exact fun q => k3 q.symm | exact fun q => k4 q.symm | exact fun q => k5 q.symm | exact fun q => k6 q.symm
theorem chk1 (x : Int32) : own_chk [3, (-1), 5, (-1), (-1), (-1), (-1)] ((((((1 + 0) + 1) + 0) + 0) + 0) + 0) [(0, .null, .ref 3), (1000, .null, .null)] (.ref 2) ((0 + 1) + 1) x = true := by
  by_cases k0 : x = (-2147483648)
  · subst k0; decide +kernel
  by_cases k1 : x = (-1000)
  · subst k1; decide +kernel
  by_cases k2 : x = (-1)
  · subst k2; decide +kernel
  by_cases k3 : x = 0
  · subst k3; decide +kernel
  by_cases k4 : x = 1
  · subst k4; decide +kernel
  by_cases k5 : x = 1000
  · subst k5; decide +kernel
  by_cases k6 : x = 2147483647
  · subst k6; decide +kernel
  have hr : own_rank x = -1 := by simp [own_rank, k0, k1, k2, k3, k4, k5, k6]
  rw [own_chk, hr, if_pos (by decide), own_chkB, own_none _ _ _ x ?_ (by decide +kernel)]
  · decide +kernel
  · intro y hy
    simp only [List.mem_cons, List.not_mem_nil, or_false] at hy
    rcases hy with rfl | rfl
    all_goals first | exact fun q => k0 q.symm | exact fun q => k1 q.symm | exact fun q => k2 q.symm | exact fun q => k3 q.symm | exact fun q => k4 q.symm | exact fun q => k5 q.symm | exact fun q => k6 q.symm
theorem chk2 (x : Int32) : own_chk [3, (-1), 5, (-1), (-1), (-1), 6] ((((((1 + 0) + 1) + 0) + 0) + 0) + 1) [(0, .null, .ref 3), (1000, .null, .ref 4), (2147483647, .null, .null)] (.ref 2) (((0 + 1) + 1) + 1) x = true := by
  by_cases k0 : x = (-2147483648)
  · subst k0; decide +kernel
  by_cases k1 : x = (-1000)
  · subst k1; decide +kernel
  by_cases k2 : x = (-1)
  · subst k2; decide +kernel
  by_cases k3 : x = 0
  · subst k3; decide +kernel
  by_cases k4 : x = 1
  · subst k4; decide +kernel
  by_cases k5 : x = 1000
  · subst k5; decide +kernel
  by_cases k6 : x = 2147483647
  · subst k6; decide +kernel
  have hr : own_rank x = -1 := by simp [own_rank, k0, k1, k2, k3, k4, k5, k6]
  rw [own_chk, hr, if_pos (by decide), own_chkB, own_none _ _ _ x ?_ (by decide +kernel)]
  · decide +kernel
  · intro y hy
    simp only [List.mem_cons, List.not_mem_nil, or_false] at hy
    rcases hy with rfl | rfl | rfl
    all_goals first | exact fun q => k0 q.symm | exact fun q => k1 q.symm | exact fun q => k2 q.symm | exact fun q => k3 q.symm | exact fun q => k4 q.symm | exact fun q => k5 q.symm | exact fun q => k6 q.symm
theorem chk3 (x : Int32) : own_chk [3, (-1), 5, (-1), (-1), 4, (-1)] ((((((1 + 0) + 1) + 0) + 0) + 1) + 0) [(0, .null, .ref 3), (1000, .ref 4, .null), (1, .null, .null)] (.ref 2) (((0 + 1) + 1) + 1) x = true := by
  by_cases k0 : x = (-2147483648)
  · subst k0; decide +kernel
  by_cases k1 : x = (-1000)
  · subst k1; decide +kernel
  by_cases k2 : x = (-1)
  · subst k2; decide +kernel
  by_cases k3 : x = 0
  · subst k3; decide +kernel
  by_cases k4 : x = 1
  · subst k4; decide +kernel
  by_cases k5 : x = 1000
  · subst k5; decide +kernel
  by_cases k6 : x = 2147483647
  · subst k6; decide +kernel
  have hr : own_rank x = -1 := by simp [own_rank, k0, k1, k2, k3, k4, k5, k6]
  rw [own_chk, hr, if_pos (by decide), own_chkB, own_none _ _ _ x ?_ (by decide +kernel)]
  · decide +kernel
  · intro y hy
    simp only [List.mem_cons, List.not_mem_nil, or_false] at hy
    rcases hy with rfl | rfl | rfl
    all_goals first | exact fun q => k0 q.symm | exact fun q => k1 q.symm | exact fun q => k2 q.symm | exact fun q => k3 q.symm | exact fun q => k4 q.symm | exact fun q => k5 q.symm | exact fun q => k6 q.symm
theorem chk4 (x : Int32) : own_chk [3, (-1), 5, (-1), (-1), 4, 6] ((((((1 + 0) + 1) + 0) + 0) + 1) + 1) [(0, .null, .ref 3), (1000, .ref 4, .ref 5), (1, .null, .null), (2147483647, .null, .null)] (.ref 2) ((((0 + 1) + 1) + 1) + 1) x = true := by
  by_cases k0 : x = (-2147483648)
  · subst k0; decide +kernel
  by_cases k1 : x = (-1000)
  · subst k1; decide +kernel
  by_cases k2 : x = (-1)
  · subst k2; decide +kernel
  by_cases k3 : x = 0
  · subst k3; decide +kernel
  by_cases k4 : x = 1
  · subst k4; decide +kernel
  by_cases k5 : x = 1000
  · subst k5; decide +kernel
  by_cases k6 : x = 2147483647
  · subst k6; decide +kernel
  have hr : own_rank x = -1 := by simp [own_rank, k0, k1, k2, k3, k4, k5, k6]
  rw [own_chk, hr, if_pos (by decide), own_chkB, own_none _ _ _ x ?_ (by decide +kernel)]
  · decide +kernel
  · intro y hy
    simp only [List.mem_cons, List.not_mem_nil, or_false] at hy
    rcases hy with rfl | rfl | rfl | rfl
    all_goals first | exact fun q => k0 q.symm | exact fun q => k1 q.symm | exact fun q => k2 q.symm | exact fun q => k3 q.symm | exact fun q => k4 q.symm | exact fun q => k5 q.symm | exact fun q => k6 q.symm
theorem chk5 (x : Int32) : own_chk [3, 1, (-1), (-1), (-1), (-1), (-1)] ((((((1 + 1) + 0) + 0) + 0) + 0) + 0) [(0, .ref 3, .null), ((-1000), .null, .null)] (.ref 2) ((0 + 1) + 1) x = true := by
  by_cases k0 : x = (-2147483648)
  · subst k0; decide +kernel
  by_cases k1 : x = (-1000)
  · subst k1; decide +kernel
  by_cases k2 : x = (-1)
  · subst k2; decide +kernel
  by_cases k3 : x = 0
  · subst k3; decide +kernel
  by_cases k4 : x = 1
  · subst k4; decide +kernel
  by_cases k5 : x = 1000
  · subst k5; decide +kernel
  by_cases k6 : x = 2147483647
  · subst k6; decide +kernel
  have hr : own_rank x = -1 := by simp [own_rank, k0, k1, k2, k3, k4, k5, k6]
  rw [own_chk, hr, if_pos (by decide), own_chkB, own_none _ _ _ x ?_ (by decide +kernel)]
  · decide +kernel
  · intro y hy
    simp only [List.mem_cons, List.not_mem_nil, or_false] at hy
    rcases hy with rfl | rfl
    all_goals first | exact fun q => k0 q.symm | exact fun q => k1 q.symm | exact fun q => k2 q.symm | exact fun q => k3 q.symm | exact fun q => k4 q.symm | exact fun q => k5 q.symm | exact fun q => k6 q.symm
theorem chk6 (x : Int32) : own_chk [3, 1, 5, (-1), (-1), (-1), (-1)] ((((((1 + 1) + 1) + 0) + 0) + 0) + 0) [(0, .ref 3, .ref 4), ((-1000), .null, .null), (1000, .null, .null)] (.ref 2) (((0 + 1) + 1) + 1) x = true := by
  by_cases k0 : x = (-2147483648)
  · subst k0; decide +kernel
  by_cases k1 : x = (-1000)
  · subst k1; decide +kernel
  by_cases k2 : x = (-1)
  · subst k2; decide +kernel
  by_cases k3 : x = 0
  · subst k3; decide +kernel
  by_cases k4 : x = 1
  · subst k4; decide +kernel
  by_cases k5 : x = 1000
  · subst k5; decide +kernel
  by_cases k6 : x = 2147483647
  · subst k6; decide +kernel
  have hr : own_rank x = -1 := by simp [own_rank, k0, k1, k2, k3, k4, k5, k6]
  rw [own_chk, hr, if_pos (by decide), own_chkB, own_none _ _ _ x ?_ (by decide +kernel)]
  · decide +kernel
  · intro y hy
    simp only [List.mem_cons, List.not_mem_nil, or_false] at hy
    rcases hy with rfl | rfl | rfl
    all_goals first | exact fun q => k0 q.symm | exact fun q => k1 q.symm | exact fun q => k2 q.symm | exact fun q => k3 q.symm | exact fun q => k4 q.symm | exact fun q => k5 q.symm | exact fun q => k6 q.symm
theorem chk7 (x : Int32) : own_chk [3, 1, 5, (-1), (-1), (-1), 6] ((((((1 + 1) + 1) + 0) + 0) + 0) + 1) [(0, .ref 3, .ref 4), ((-1000), .null, .null), (1000, .null, .ref 5), (2147483647, .null, .null)] (.ref 2) ((((0 + 1) + 1) + 1) + 1) x = true := by
  by_cases k0 : x = (-2147483648)
  · subst k0; decide +kernel
  by_cases k1 : x = (-1000)
  · subst k1; decide +kernel
  by_cases k2 : x = (-1)
  · subst k2; decide +kernel
  by_cases k3 : x = 0
  · subst k3; decide +kernel
  by_cases k4 : x = 1
  · subst k4; decide +kernel
  by_cases k5 : x = 1000
  · subst k5; decide +kernel
  by_cases k6 : x = 2147483647
  · subst k6; decide +kernel
  have hr : own_rank x = -1 := by simp [own_rank, k0, k1, k2, k3, k4, k5, k6]
  rw [own_chk, hr, if_pos (by decide), own_chkB, own_none _ _ _ x ?_ (by decide +kernel)]
  · decide +kernel
  · intro y hy
    simp only [List.mem_cons, List.not_mem_nil, or_false] at hy
    rcases hy with rfl | rfl | rfl | rfl
    all_goals first | exact fun q => k0 q.symm | exact fun q => k1 q.symm | exact fun q => k2 q.symm | exact fun q => k3 q.symm | exact fun q => k4 q.symm | exact fun q => k5 q.symm | exact fun q => k6 q.symm
theorem chk8 (x : Int32) : own_chk [3, 1, 5, (-1), (-1), 4, (-1)] ((((((1 + 1) + 1) + 0) + 0) + 1) + 0) [(0, .ref 3, .ref 4), ((-1000), .null, .null), (1000, .ref 5, .null), (1, .null, .null)] (.ref 2) ((((0 + 1) + 1) + 1) + 1) x = true := by
  by_cases k0 : x = (-2147483648)
  · subst k0; decide +kernel
  by_cases k1 : x = (-1000)
  · subst k1; decide +kernel
  by_cases k2 : x = (-1)
  · subst k2; decide +kernel
  by_cases k3 : x = 0
  · subst k3; decide +kernel
  by_cases k4 : x = 1
  · subst k4; decide +kernel
  by_cases k5 : x = 1000
  · subst k5; decide +kernel
  by_cases k6 : x = 2147483647
  · subst k6; decide +kernel
  have hr : own_rank x = -1 := by simp [own_rank, k0, k1, k2, k3, k4, k5, k6]
  rw [own_chk, hr, if_pos (by decide), own_chkB, own_none _ _ _ x ?_ (by decide +kernel)]
  · decide +kernel
  · intro y hy
    simp only [List.mem_cons, List.not_mem_nil, or_false] at hy
    rcases hy with rfl | rfl | rfl | rfl
    all_goals first | exact fun q => k0 q.symm | exact fun q => k1 q.symm | exact fun q => k2 q.symm | exact fun q => k3 q.symm | exact fun q => k4 q.symm | exact fun q => k5 q.symm | exact fun q => k6 q.symm
theorem chk9 (x : Int32) : own_chk [3, 1, 5, (-1), (-1), 4, 6] ((((((1 + 1) + 1) + 0) + 0) + 1) + 1) [(0, .ref 3, .ref 4), ((-1000), .null, .null), (1000, .ref 5, .ref 6), (1, .null, .null), (2147483647, .null, .null)] (.ref 2) (((((0 + 1) + 1) + 1) + 1) + 1) x = true := by
  by_cases k0 : x = (-2147483648)
  · subst k0; decide +kernel
  by_cases k1 : x = (-1000)
  · subst k1; decide +kernel
  by_cases k2 : x = (-1)
  · subst k2; decide +kernel
  by_cases k3 : x = 0
  · subst k3; decide +kernel
  by_cases k4 : x = 1
  · subst k4; decide +kernel
  by_cases k5 : x = 1000
  · subst k5; decide +kernel
  by_cases k6 : x = 2147483647
  · subst k6; decide +kernel
  have hr : own_rank x = -1 := by simp [own_rank, k0, k1, k2, k3, k4, k5, k6]
  rw [own_chk, hr, if_pos (by decide), own_chkB, own_none _ _ _ x ?_ (by decide +kernel)]
  · decide +kernel
  · intro y hy
    simp only [List.mem_cons, List.not_mem_nil, or_false] at hy
    rcases hy with rfl | rfl | rfl | rfl | rfl
    all_goals first | exact fun q => k0 q.symm | exact fun q => k1 q.symm | exact fun q => k2 q.symm | exact fun q => k3 q.symm | exact fun q => k4 q.symm | exact fun q => k5 q.symm | exact fun q => k6 q.symm
theorem chk10 (x : Int32) : own_chk [3, 1, (-1), (-1), 2, (-1), (-1)] ((((((1 + 1) + 0) + 0) + 1) + 0) + 0) [(0, .ref 3, .null), ((-1000), .null, .ref 4), ((-1), .null, .null)] (.ref 2) (((0 + 1) + 1) + 1) x = true := by
  by_cases k0 : x = (-2147483648)
  · subst k0; decide +kernel
  by_cases k1 : x = (-1000)
  · subst k1; decide +kernel
  by_cases k2 : x = (-1)
  · subst k2; decide +kernel
  by_cases k3 : x = 0
  · subst k3; decide +kernel
  by_cases k4 : x = 1
  · subst k4; decide +kernel
  by_cases k5 : x = 1000
  · subst k5; decide +kernel
  by_cases k6 : x = 2147483647
  · subst k6; decide +kernel
  have hr : own_rank x = -1 := by simp [own_rank, k0, k1, k2, k3, k4, k5, k6]
  rw [own_chk, hr, if_pos (by decide), own_chkB, own_none _ _ _ x ?_ (by decide +kernel)]
  · decide +kernel
  · intro y hy
    simp only [List.mem_cons, List.not_mem_nil, or_false] at hy
    rcases hy with rfl | rfl | rfl
    all_goals first | exact fun q => k0 q.symm | exact fun q => k1 q.symm | exact fun q => k2 q.symm | exact fun q => k3 q.symm | exact fun q => k4 q.symm | exact fun q => k5 q.symm | exact fun q => k6 q.symm
theorem chk11 (x : Int32) : own_chk [3, 1, 5, (-1), 2, (-1), (-1)] ((((((1 + 1) + 1) + 0) + 1) + 0) + 0) [(0, .ref 3, .ref 4), ((-1000), .null, .ref 5), (1000, .null, .null), ((-1), .null, .null)] (.ref 2) ((((0 + 1) + 1) + 1) + 1) x = true := by
  by_cases k0 : x = (-2147483648)
  · subst k0; decide +kernel
  by_cases k1 : x = (-1000)
  · subst k1; decide +kernel
  by_cases k2 : x = (-1)
  · subst k2; decide +kernel
  by_cases k3 : x = 0
  · subst k3; decide +kernel
  by_cases k4 : x = 1
  · subst k4; decide +kernel
  by_cases k5 : x = 1000
  · subst k5; decide +kernel
  by_cases k6 : x = 2147483647
  · subst k6; decide +kernel
  have hr : own_rank x = -1 := by simp [own_rank, k0, k1, k2, k3, k4, k5, k6]
  rw [own_chk, hr, if_pos (by decide), own_chkB, own_none _ _ _ x ?_ (by decide +kernel)]
  · decide +kernel
  · intro y hy
    simp only [List.mem_cons, List.not_mem_nil, or_false] at hy
    rcases hy with rfl | rfl | rfl | rfl
    all_goals first | exact fun q => k0 q.symm | exact fun q => k1 q.symm | exact fun q => k2 q.symm | exact fun q => k3 q.symm | exact fun q => k4 q.symm | exact fun q => k5 q.symm | exact fun q => k6 q.symm
theorem chk12 (x : Int32) : own_chk [3, 1, 5, (-1), 2, (-1), 6] ((((((1 + 1) + 1) + 0) + 1) + 0) + 1) [(0, .ref 3, .ref 4), ((-1000), .null, .ref 5), (1000, .null, .ref 6), ((-1), .null, .null), (2147483647, .null, .null)] (.ref 2) (((((0 + 1) + 1) + 1) + 1) + 1) x = true := by
  by_cases k0 : x = (-2147483648)
  · subst k0; decide +kernel
  by_cases k1 : x = (-1000)
  · subst k1; decide +kernel
  by_cases k2 : x = (-1)
  · subst k2; decide +kernel
  by_cases k3 : x = 0
  · subst k3; decide +kernel
  by_cases k4 : x = 1
  · subst k4; decide +kernel
  by_cases k5 : x = 1000
  · subst k5; decide +kernel
  by_cases k6 : x = 2147483647
  · subst k6; decide +kernel
  have hr : own_rank x = -1 := by simp [own_rank, k0, k1, k2, k3, k4, k5, k6]
  rw [own_chk, hr, if_pos (by decide), own_chkB, own_none _ _ _ x ?_ (by decide +kernel)]
  · decide +kernel
  · intro y hy
    simp only [List.mem_cons, List.not_mem_nil, or_false] at hy
    rcases hy with rfl | rfl | rfl | rfl | rfl
    all_goals first | exact fun q => k0 q.symm | exact fun q => k1 q.symm | exact fun q => k2 q.symm | exact fun q => k3 q.symm | exact fun q => k4 q.symm | exact fun q => k5 q.symm | exact fun q => k6 q.symm
theorem chk13 (x : Int32) : own_chk [3, 1, 5, (-1), 2, 4, (-1)] ((((((1 + 1) + 1) + 0) + 1) + 1) + 0) [(0, .ref 3, .ref 4), ((-1000), .null, .ref 5), (1000, .ref 6, .null), ((-1), .null, .null), (1, .null, .null)] (.ref 2) (((((0 + 1) + 1) + 1) + 1) + 1) x = true := by
  by_cases k0 : x = (-2147483648)
  · subst k0; decide +kernel
  by_cases k1 : x = (-1000)
  · subst k1; decide +kernel
  by_cases k2 : x = (-1)
  · subst k2; decide +kernel
  by_cases k3 : x = 0
  · subst k3; decide +kernel
  by_cases k4 : x = 1
  · subst k4; decide +kernel
  by_cases k5 : x = 1000
  · subst k5; decide +kernel
  by_cases k6 : x = 2147483647
  · subst k6; decide +kernel
  have hr : own_rank x = -1 := by simp [own_rank, k0, k1, k2, k3, k4, k5, k6]
  rw [own_chk, hr, if_pos (by decide), own_chkB, own_none _ _ _ x ?_ (by decide +kernel)]
  · decide +kernel
  · intro y hy
    simp only [List.mem_cons, List.not_mem_nil, or_false] at hy
    rcases hy with rfl | rfl | rfl | rfl | rfl
    all_goals first | exact fun q => k0 q.symm | exact fun q => k1 q.symm | exact fun q => k2 q.symm | exact fun q => k3 q.symm | exact fun q => k4 q.symm | exact fun q => k5 q.symm | exact fun q => k6 q.symm
theorem chk14 (x : Int32) : own_chk [3, 1, 5, (-1), 2, 4, 6] ((((((1 + 1) + 1) + 0) + 1) + 1) + 1) [(0, .ref 3, .ref 4), ((-1000), .null, .ref 5), (1000, .ref 6, .ref 7), ((-1), .null, .null), (1, .null, .null), (2147483647, .null, .null)] (.ref 2) ((((((0 + 1) + 1) + 1) + 1) + 1) + 1) x = true := by
  by_cases k0 : x = (-2147483648)
  · subst k0; decide +kernel
  by_cases k1 : x = (-1000)
  · subst k1; decide +kernel
  by_cases k2 : x = (-1)
  · subst k2; decide +kernel
  by_cases k3 : x = 0
  · subst k3; decide +kernel
  by_cases k4 : x = 1
  · subst k4; decide +kernel
  by_cases k5 : x = 1000
  · subst k5; decide +kernel
  by_cases k6 : x = 2147483647
  · subst k6; decide +kernel
  have hr : own_rank x = -1 := by simp [own_rank, k0, k1, k2, k3, k4, k5, k6]
  rw [own_chk, hr, if_pos (by decide), own_chkB, own_none _ _ _ x ?_ (by decide +kernel)]
  · decide +kernel
  · intro y hy
    simp only [List.mem_cons, List.not_mem_nil, or_false] at hy
    rcases hy with rfl | rfl | rfl | rfl | rfl | rfl
    all_goals first | exact fun q => k0 q.symm | exact fun q => k1 q.symm | exact fun q => k2 q.symm | exact fun q => k3 q.symm | exact fun q => k4 q.symm | exact fun q => k5 q.symm | exact fun q => k6 q.symm
theorem chk15 (x : Int32) : own_chk [3, 1, (-1), 0, (-1), (-1), (-1)] ((((((1 + 1) + 0) + 1) + 0) + 0) + 0) [(0, .ref 3, .null), ((-1000), .ref 4, .null), ((-2147483648), .null, .null)] (.ref 2) (((0 + 1) + 1) + 1) x = true := by
  by_cases k0 : x = (-2147483648)
  · subst k0; decide +kernel
  by_cases k1 : x = (-1000)
  · subst k1; decide +kernel
  by_cases k2 : x = (-1)
  · subst k2; decide +kernel
  by_cases k3 : x = 0
  · subst k3; decide +kernel
  by_cases k4 : x = 1
  · subst k4; decide +kernel
  by_cases k5 : x = 1000
  · subst k5; decide +kernel
  by_cases k6 : x = 2147483647
  · subst k6; decide +kernel
  have hr : own_rank x = -1 := by simp [own_rank, k0, k1, k2, k3, k4, k5, k6]
  rw [own_chk, hr, if_pos (by decide), own_chkB, own_none _ _ _ x ?_ (by decide +kernel)]
  · decide +kernel
  · intro y hy
    simp only [List.mem_cons, List.not_mem_nil, or_false] at hy
    rcases hy with rfl | rfl | rfl
    all_goals first | exact fun q => k0 q.symm | exact fun q => k1 q.symm | exact fun q => k2 q.symm | exact fun q => k3 q.symm | exact fun q => k4 q.symm | exact fun q => k5 q.symm | exact fun q => k6 q.symm
theorem chk16 (x : Int32) : own_chk [3, 1, 5, 0, (-1), (-1), (-1)] ((((((1 + 1) + 1) + 1) + 0) + 0) + 0) [(0, .ref 3, .ref 4), ((-1000), .ref 5, .null), (1000, .null, .null), ((-2147483648), .null, .null)] (.ref 2) ((((0 + 1) + 1) + 1) + 1) x = true := by
  by_cases k0 : x = (-2147483648)
  · subst k0; decide +kernel
  by_cases k1 : x = (-1000)
  · subst k1; decide +kernel
  by_cases k2 : x = (-1)
  · subst k2; decide +kernel
  by_cases k3 : x = 0
  · subst k3; decide +kernel
  by_cases k4 : x = 1
  · subst k4; decide +kernel
  by_cases k5 : x = 1000
  · subst k5; decide +kernel
  by_cases k6 : x = 2147483647
  · subst k6; decide +kernel
  have hr : own_rank x = -1 := by simp [own_rank, k0, k1, k2, k3, k4, k5, k6]
  rw [own_chk, hr, if_pos (by decide), own_chkB, own_none _ _ _ x ?_ (by decide +kernel)]
  · decide +kernel
  · intro y hy
    simp only [List.mem_cons, List.not_mem_nil, or_false] at hy
    rcases hy with rfl | rfl | rfl | rfl
    all_goals first | exact fun q => k0 q.symm | exact fun q => k1 q.symm | exact fun q => k2 q.symm | exact fun q => k3 q.symm | exact fun q => k4 q.symm | exact fun q => k5 q.symm | exact fun q => k6 q.symm
theorem chk17 (x : Int32) : own_chk [3, 1, 5, 0, (-1), (-1), 6] ((((((1 + 1) + 1) + 1) + 0) + 0) + 1) [(0, .ref 3, .ref 4), ((-1000), .ref 5, .null), (1000, .null, .ref 6), ((-2147483648), .null, .null), (2147483647, .null, .null)] (.ref 2) (((((0 + 1) + 1) + 1) + 1) + 1) x = true := by
  by_cases k0 : x = (-2147483648)
  · subst k0; decide +kernel
  by_cases k1 : x = (-1000)
  · subst k1; decide +kernel
  by_cases k2 : x = (-1)
  · subst k2; decide +kernel
  by_cases k3 : x = 0
  · subst k3; decide +kernel
  by_cases k4 : x = 1
  · subst k4; decide +kernel
  by_cases k5 : x = 1000
  · subst k5; decide +kernel
  by_cases k6 : x = 2147483647
  · subst k6; decide +kernel
  have hr : own_rank x = -1 := by simp [own_rank, k0, k1, k2, k3, k4, k5, k6]
  rw [own_chk, hr, if_pos (by decide), own_chkB, own_none _ _ _ x ?_ (by decide +kernel)]
  · decide +kernel
  · intro y hy
    simp only [List.mem_cons, List.not_mem_nil, or_false] at hy
    rcases hy with rfl | rfl | rfl | rfl | rfl
    all_goals first | exact fun q => k0 q.symm | exact fun q => k1 q.symm | exact fun q => k2 q.symm | exact fun q => k3 q.symm | exact fun q => k4 q.symm | exact fun q => k5 q.symm | exact fun q => k6 q.symm
theorem chk18 (x : Int32) : own_chk [3, 1, 5, 0, (-1), 4, (-1)] ((((((1 + 1) + 1) + 1) + 0) + 1) + 0) [(0, .ref 3, .ref 4), ((-1000), .ref 5, .null), (1000, .ref 6, .null), ((-2147483648), .null, .null), (1, .null, .null)] (.ref 2) (((((0 + 1) + 1) + 1) + 1) + 1) x = true := by
  by_cases k0 : x = (-2147483648)
  · subst k0; decide +kernel
  by_cases k1 : x = (-1000)
  · subst k1; decide +kernel
  by_cases k2 : x = (-1)
  · subst k2; decide +kernel
  by_cases k3 : x = 0
  · subst k3; decide +kernel
  by_cases k4 : x = 1
  · subst k4; decide +kernel
  by_cases k5 : x = 1000
  · subst k5; decide +kernel
  by_cases k6 : x = 2147483647
  · subst k6; decide +kernel
  have hr : own_rank x = -1 := by simp [own_rank, k0, k1, k2, k3, k4, k5, k6]
  rw [own_chk, hr, if_pos (by decide), own_chkB, own_none _ _ _ x ?_ (by decide +kernel)]
  · decide +kernel
  · intro y hy
    simp only [List.mem_cons, List.not_mem_nil, or_false] at hy
    rcases hy with rfl | rfl | rfl | rfl | rfl
    all_goals first | exact fun q => k0 q.symm | exact fun q => k1 q.symm | exact fun q => k2 q.symm | exact fun q => k3 q.symm | exact fun q => k4 q.symm | exact fun q => k5 q.symm | exact fun q => k6 q.symm
theorem chk19 (x : Int32) : own_chk [3, 1, 5, 0, (-1), 4, 6] ((((((1 + 1) + 1) + 1) + 0) + 1) + 1) [(0, .ref 3, .ref 4), ((-1000), .ref 5, .null), (1000, .ref 6, .ref 7), ((-2147483648), .null, .null), (1, .null, .null), (2147483647, .null, .null)] (.ref 2) ((((((0 + 1) + 1) + 1) + 1) + 1) + 1) x = true := by
  by_cases k0 : x = (-2147483648)
  · subst k0; decide +kernel
  by_cases k1 : x = (-1000)
  · subst k1; decide +kernel
  by_cases k2 : x = (-1)
  · subst k2; decide +kernel
  by_cases k3 : x = 0
  · subst k3; decide +kernel
  by_cases k4 : x = 1
  · subst k4; decide +kernel
  by_cases k5 : x = 1000
  · subst k5; decide +kernel
  by_cases k6 : x = 2147483647
  · subst k6; decide +kernel
  have hr : own_rank x = -1 := by simp [own_rank, k0, k1, k2, k3, k4, k5, k6]
  rw [own_chk, hr, if_pos (by decide), own_chkB, own_none _ _ _ x ?_ (by decide +kernel)]
  · decide +kernel
  · intro y hy
    simp only [List.mem_cons, List.not_mem_nil, or_false] at hy
    rcases hy with rfl | rfl | rfl | rfl | rfl | rfl
    all_goals first | exact fun q => k0 q.symm | exact fun q => k1 q.symm | exact fun q => k2 q.symm | exact fun q => k3 q.symm | exact fun q => k4 q.symm | exact fun q => k5 q.symm | exact fun q => k6 q.symm
theorem chk20 (x : Int32) : own_chk [3, 1, (-1), 0, 2, (-1), (-1)] ((((((1 + 1) + 0) + 1) + 1) + 0) + 0) [(0, .ref 3, .null), ((-1000), .ref 4, .ref 5), ((-2147483648), .null, .null), ((-1), .null, .null)] (.ref 2) ((((0 + 1) + 1) + 1) + 1) x = true := by
  by_cases k0 : x = (-2147483648)
  · subst k0; decide +kernel
  by_cases k1 : x = (-1000)
  · subst k1; decide +kernel
  by_cases k2 : x = (-1)
  · subst k2; decide +kernel
  by_cases k3 : x = 0
  · subst k3; decide +kernel
  by_cases k4 : x = 1
  · subst k4; decide +kernel
  by_cases k5 : x = 1000
  · subst k5; decide +kernel
  by_cases k6 : x = 2147483647
  · subst k6; decide +kernel
  have hr : own_rank x = -1 := by simp [own_rank, k0, k1, k2, k3, k4, k5, k6]
  rw [own_chk, hr, if_pos (by decide), own_chkB, own_none _ _ _ x ?_ (by decide +kernel)]
  · decide +kernel
  · intro y hy
    simp only [List.mem_cons, List.not_mem_nil, or_false] at hy
    rcases hy with rfl | rfl | rfl | rfl
    all_goals first | exact fun q => k0 q.symm | exact fun q => k1 q.symm | exact fun q => k2 q.symm | exact fun q => k3 q.symm | exact fun q => k4 q.symm | exact fun q => k5 q.symm | exact fun q => k6 q.symm
theorem chk21 (x : Int32) : own_chk [3, 1, 5, 0, 2, (-1), (-1)] ((((((1 + 1) + 1) + 1) + 1) + 0) + 0) [(0, .ref 3, .ref 4), ((-1000), .ref 5, .ref 6), (1000, .null, .null), ((-2147483648), .null, .null), ((-1), .null, .null)] (.ref 2) (((((0 + 1) + 1) + 1) + 1) + 1) x = true := by
  by_cases k0 : x = (-2147483648)
  · subst k0; decide +kernel
  by_cases k1 : x = (-1000)
  · subst k1; decide +kernel
  by_cases k2 : x = (-1)
  · subst k2; decide +kernel
  by_cases k3 : x = 0
  · subst k3; decide +kernel
  by_cases k4 : x = 1
  · subst k4; decide +kernel
  by_cases k5 : x = 1000
  · subst k5; decide +kernel
  by_cases k6 : x = 2147483647
  · subst k6; decide +kernel
  have hr : own_rank x = -1 := by simp [own_rank, k0, k1, k2, k3, k4, k5, k6]
  rw [own_chk, hr, if_pos (by decide), own_chkB, own_none _ _ _ x ?_ (by decide +kernel)]
  · decide +kernel
  · intro y hy
    simp only [List.mem_cons, List.not_mem_nil, or_false] at hy
    rcases hy with rfl | rfl | rfl | rfl | rfl
    all_goals first | exact fun q => k0 q.symm | exact fun q => k1 q.symm | exact fun q => k2 q.symm | exact fun q => k3 q.symm | exact fun q => k4 q.symm | exact fun q => k5 q.symm | exact fun q => k6 q.symm
theorem chk22 (x : Int32) : own_chk [3, 1, 5, 0, 2, (-1), 6] ((((((1 + 1) + 1) + 1) + 1) + 0) + 1) [(0, .ref 3, .ref 4), ((-1000), .ref 5, .ref 6), (1000, .null, .ref 7), ((-2147483648), .null, .null), ((-1), .null, .null), (2147483647, .null, .null)] (.ref 2) ((((((0 + 1) + 1) + 1) + 1) + 1) + 1) x = true := by
  by_cases k0 : x = (-2147483648)
  · subst k0; decide +kernel
  by_cases k1 : x = (-1000)
  · subst k1; decide +kernel
  by_cases k2 : x = (-1)
  · subst k2; decide +kernel
  by_cases k3 : x = 0
  · subst k3; decide +kernel
  by_cases k4 : x = 1
  · subst k4; decide +kernel
  by_cases k5 : x = 1000
  · subst k5; decide +kernel
  by_cases k6 : x = 2147483647
  · subst k6; decide +kernel
  have hr : own_rank x = -1 := by simp [own_rank, k0, k1, k2, k3, k4, k5, k6]
  rw [own_chk, hr, if_pos (by decide), own_chkB, own_none _ _ _ x ?_ (by decide +kernel)]
  · decide +kernel
  · intro y hy
    simp only [List.mem_cons, List.not_mem_nil, or_false] at hy
    rcases hy with rfl | rfl | rfl | rfl | rfl | rfl
    all_goals first | exact fun q => k0 q.symm | exact fun q => k1 q.symm | exact fun q => k2 q.symm | exact fun q => k3 q.symm | exact fun q => k4 q.symm | exact fun q => k5 q.symm | exact fun q => k6 q.symm
theorem chk23 (x : Int32) : own_chk [3, 1, 5, 0, 2, 4, (-1)] ((((((1 + 1) + 1) + 1) + 1) + 1) + 0) [(0, .ref 3, .ref 4), ((-1000), .ref 5, .ref 6), (1000, .ref 7, .null), ((-2147483648), .null, .null), ((-1), .null, .null), (1, .null, .null)] (.ref 2) ((((((0 + 1) + 1) + 1) + 1) + 1) + 1) x = true := by
  by_cases k0 : x = (-2147483648)
  · subst k0; decide +kernel
  by_cases k1 : x = (-1000)
  · subst k1; decide +kernel
  by_cases k2 : x = (-1)
  · subst k2; decide +kernel
  by_cases k3 : x = 0
  · subst k3; decide +kernel
  by_cases k4 : x = 1
  · subst k4; decide +kernel
  by_cases k5 : x = 1000
  · subst k5; decide +kernel
  by_cases k6 : x = 2147483647
  · subst k6; decide +kernel
  have hr : own_rank x = -1 := by simp [own_rank, k0, k1, k2, k3, k4, k5, k6]
  rw [own_chk, hr, if_pos (by decide), own_chkB, own_none _ _ _ x ?_ (by decide +kernel)]
  · decide +kernel
  · intro y hy
    simp only [List.mem_cons, List.not_mem_nil, or_false] at hy
    rcases hy with rfl | rfl | rfl | rfl | rfl | rfl
    all_goals first | exact fun q => k0 q.symm | exact fun q => k1 q.symm | exact fun q => k2 q.symm | exact fun q => k3 q.symm | exact fun q => k4 q.symm | exact fun q => k5 q.symm | exact fun q => k6 q.symm
theorem chk24 (x : Int32) : own_chk [3, 1, 5, 0, 2, 4, 6] ((((((1 + 1) + 1) + 1) + 1) + 1) + 1) [(0, .ref 3, .ref 4), ((-1000), .ref 5, .ref 6), (1000, .ref 7, .ref 8), ((-2147483648), .null, .null), ((-1), .null, .null), (1, .null, .null), (2147483647, .null, .null)] (.ref 2) (((((((0 + 1) + 1) + 1) + 1) + 1) + 1) + 1) x = true := by
  by_cases k0 : x = (-2147483648)
  · subst k0; decide +kernel
  by_cases k1 : x = (-1000)
  · subst k1; decide +kernel
  by_cases k2 : x = (-1)
  · subst k2; decide +kernel
  by_cases k3 : x = 0
  · subst k3; decide +kernel
  by_cases k4 : x = 1
  · subst k4; decide +kernel
  by_cases k5 : x = 1000
  · subst k5; decide +kernel
  by_cases k6 : x = 2147483647
  · subst k6; decide +kernel
  have hr : own_rank x = -1 := by simp [own_rank, k0, k1, k2, k3, k4, k5, k6]
  rw [own_chk, hr, if_pos (by decide), own_chkB, own_none _ _ _ x ?_ (by decide +kernel)]
  · decide +kernel
  · intro y hy
    simp only [List.mem_cons, List.not_mem_nil, or_false] at hy
    rcases hy with rfl | rfl | rfl | rfl | rfl | rfl | rfl
    all_goals first | exact fun q => k0 q.symm | exact fun q => k1 q.symm | exact fun q => k2 q.symm | exact fun q => k3 q.symm | exact fun q => k4 q.symm | exact fun q => k5 q.symm | exact fun q => k6 q.symm
set_option maxRecDepth 65536 in
set_option maxHeartbeats 40000000 in
theorem pre0 {l : Launch} {Z : State} {a0 : Array Value} {n : Nat} (hw : ∀ d ∈ tables_1, d.before a0 Z = true) (a b v r x : Int32) : W l Z n m0 123 [(.val (.int (a))), (.val (.int (b))), (.val (.int (v))), (.val (.int (0))), (.val (.int (0))), (.val (.int (0))), (.val (.int (0))), (.val (.int (0))), (.val (.int (0))), (.val (.int (r))), .unset, .unset, .unset, .unset, .unset, .unset, .unset, .unset, .unset, .unset, .unset, .unset, .unset] [.int x] [] 0 0 (fun v _ => v = some (.int 1)) := by
  refine W.istore d0_123 rfl ?_
  refine W.bipush 7 d0_125 rfl ?_
  refine W.newarray (N := 0) (cnt := 7) (cap := 7) d0_127 (hw _ (wd 5 rfl)) ⟨by decide, by decide⟩ rfl (Nat.le_refl _) (by decide) (by decide) (by decide) ?_
  refine W.astore d0_129 rfl rfl ?_
  refine W.new (N := 1) d0_131 (hw _ (wd 6 rfl)) (okc0 hw) rfl (by decide) (by decide) ?_
  refine W.dup d0_134 rfl ?_
  refine W.initN (M' := m2) d0_135 rfl rfl (hw _ (wd 9 rfl)) (hw _ (wd 10 rfl)) (c2_0 hw) (ok2 hw) rfl rfl rfl ?_
  refine W.astore d0_138 rfl rfl ?_
  refine W.aload d0_140 rfl rfl ?_
  refine W.iconst 3 d0_142 rfl ?_
  refine W.callsV (M' := m1) d0_143 (hw _ (wd 1 rfl)) (hw _ (wd 2 rfl)) (w1 hw 3 _) (ok1 hw) rfl rfl rfl ?_
  refine W.callvN (M' := m4) d0_146 (hw _ (wd 15 rfl)) (hw _ (wd 16 rfl)) (hw _ (wd 17 rfl)) (hw _ (wd 18 rfl)) (w4a hw (own_key 3) [0, 0, 0, 0, 0, 0, 0] 0 []) (ok4 hw) rfl rfl rfl rfl ?_
  refine W.iloadN d0_149 rfl ?_
  refine W.if_eq d0_150 (fun h150 => ?_) (fun h => False.elim (by revert h; decide))
  refine W.iload d0_162 rfl ?_
  refine W.if_eq d0_164 (fun h164 => ?_) (fun h => False.elim (by revert h; decide))
  refine W.iload d0_176 rfl ?_
  refine W.if_eq d0_178 (fun h178 => ?_) (fun h => False.elim (by revert h; decide))
  refine W.iload d0_190 rfl ?_
  refine W.if_eq d0_192 (fun h192 => ?_) (fun h => False.elim (by revert h; decide))
  refine W.iload d0_204 rfl ?_
  refine W.if_eq d0_206 (fun h206 => ?_) (fun h => False.elim (by revert h; decide))
  refine W.iload d0_218 rfl ?_
  refine W.if_eq d0_220 (fun h220 => ?_) (fun h => False.elim (by revert h; decide))
  refine W.aload d0_233 rfl rfl ?_
  refine W.iconst 0 d0_235 rfl ?_
  refine W.iconst 3 d0_236 rfl ?_
  refine W.iastore (i := 0) d0_237 rfl ⟨by decide, by decide⟩ (by simp) ?_
  refine W.aload d0_238 rfl rfl ?_
  refine W.iconst 1 d0_240 rfl ?_
  refine W.iloadN d0_241 rfl ?_
  refine W.if_eq d0_242 (fun h242 => ?_) (fun h => False.elim (by revert h; decide))
  refine W.iconst (-1) d0_249 rfl ?_
  refine W.iastore (i := 1) d0_250 rfl ⟨by decide, by decide⟩ (by simp) ?_
  refine W.aload d0_251 rfl rfl ?_
  refine W.iconst 2 d0_253 rfl ?_
  refine W.iload d0_254 rfl ?_
  refine W.if_eq d0_256 (fun h256 => ?_) (fun h => False.elim (by revert h; decide))
  refine W.iconst (-1) d0_263 rfl ?_
  refine W.iastore (i := 2) d0_264 rfl ⟨by decide, by decide⟩ (by simp) ?_
  refine W.aload d0_265 rfl rfl ?_
  refine W.iconst 3 d0_267 rfl ?_
  refine W.iload d0_268 rfl ?_
  refine W.if_eq d0_270 (fun h270 => ?_) (fun h => False.elim (by revert h; decide))
  refine W.iconst (-1) d0_277 rfl ?_
  refine W.iastore (i := 3) d0_278 rfl ⟨by decide, by decide⟩ (by simp) ?_
  refine W.aload d0_279 rfl rfl ?_
  refine W.iconst 4 d0_281 rfl ?_
  refine W.iload d0_282 rfl ?_
  refine W.if_eq d0_284 (fun h284 => ?_) (fun h => False.elim (by revert h; decide))
  refine W.iconst (-1) d0_291 rfl ?_
  refine W.iastore (i := 4) d0_292 rfl ⟨by decide, by decide⟩ (by simp) ?_
  refine W.aload d0_293 rfl rfl ?_
  refine W.iconst 5 d0_295 rfl ?_
  refine W.iload d0_296 rfl ?_
  refine W.if_eq d0_298 (fun h298 => ?_) (fun h => False.elim (by revert h; decide))
  refine W.iconst (-1) d0_305 rfl ?_
  refine W.iastore (i := 5) d0_306 rfl ⟨by decide, by decide⟩ (by simp) ?_
  refine W.aload d0_307 rfl rfl ?_
  refine W.bipush 6 d0_309 rfl ?_
  refine W.iload d0_311 rfl ?_
  refine W.if_eq d0_313 (fun h313 => ?_) (fun h => False.elim (by revert h; decide))
  refine W.iconst (-1) d0_321 rfl ?_
  refine W.iastore (i := 6) d0_322 rfl ⟨by decide, by decide⟩ (by simp) ?_
  refine W.iconst 1 d0_323 rfl ?_
  refine W.iloadN d0_324 rfl ?_
  refine W.if_eq d0_325 (fun h325 => ?_) (fun h => False.elim (by revert h; decide))
  refine W.iconst 0 d0_332 rfl ?_
  refine W.iadd d0_333 ?_
  refine W.iload d0_334 rfl ?_
  refine W.if_eq d0_336 (fun h336 => ?_) (fun h => False.elim (by revert h; decide))
  refine W.iconst 0 d0_343 rfl ?_
  refine W.iadd d0_344 ?_
  refine W.iload d0_345 rfl ?_
  refine W.if_eq d0_347 (fun h347 => ?_) (fun h => False.elim (by revert h; decide))
  refine W.iconst 0 d0_354 rfl ?_
  refine W.iadd d0_355 ?_
  refine W.iload d0_356 rfl ?_
  refine W.if_eq d0_358 (fun h358 => ?_) (fun h => False.elim (by revert h; decide))
  refine W.iconst 0 d0_365 rfl ?_
  refine W.iadd d0_366 ?_
  refine W.iload d0_367 rfl ?_
  refine W.if_eq d0_369 (fun h369 => ?_) (fun h => False.elim (by revert h; decide))
  refine W.iconst 0 d0_376 rfl ?_
  refine W.iadd d0_377 ?_
  refine W.iload d0_378 rfl ?_
  refine W.if_eq d0_380 (fun h380 => ?_) (fun h => False.elim (by revert h; decide))
  refine W.iconst 0 d0_387 rfl ?_
  refine W.iadd d0_388 ?_
  refine W.istore d0_389 rfl ?_
  refine W.more (ce' := 9) (sl' := 30) (by decide) (by decide) ?_
  exact sufA hw a b v _ _ _ _ _ _ r x ((((((1 + 0) + 0) + 0) + 0) + 0) + 0) 3 (-1) (-1) (-1) (-1) (-1) (-1) (.ref 2) (0 + 1) [(0, .null, .null)] (by unfold own_ok; decide) rfl (chk0 x)
set_option maxRecDepth 65536 in
set_option maxHeartbeats 40000000 in
theorem pre1 {l : Launch} {Z : State} {a0 : Array Value} {n : Nat} (hw : ∀ d ∈ tables_1, d.before a0 Z = true) (a b v r x : Int32) : W l Z n m0 123 [(.val (.int (a))), (.val (.int (b))), (.val (.int (v))), (.val (.int (0))), (.val (.int (0))), (.val (.int (0))), (.val (.int (1))), (.val (.int (0))), (.val (.int (0))), (.val (.int (r))), .unset, .unset, .unset, .unset, .unset, .unset, .unset, .unset, .unset, .unset, .unset, .unset, .unset] [.int x] [] 0 0 (fun v _ => v = some (.int 1)) := by
  refine W.istore d0_123 rfl ?_
  refine W.bipush 7 d0_125 rfl ?_
  refine W.newarray (N := 0) (cnt := 7) (cap := 7) d0_127 (hw _ (wd 5 rfl)) ⟨by decide, by decide⟩ rfl (Nat.le_refl _) (by decide) (by decide) (by decide) ?_
  refine W.astore d0_129 rfl rfl ?_
  refine W.new (N := 1) d0_131 (hw _ (wd 6 rfl)) (okc0 hw) rfl (by decide) (by decide) ?_
  refine W.dup d0_134 rfl ?_
  refine W.initN (M' := m2) d0_135 rfl rfl (hw _ (wd 9 rfl)) (hw _ (wd 10 rfl)) (c2_0 hw) (ok2 hw) rfl rfl rfl ?_
  refine W.astore d0_138 rfl rfl ?_
  refine W.aload d0_140 rfl rfl ?_
  refine W.iconst 3 d0_142 rfl ?_
  refine W.callsV (M' := m1) d0_143 (hw _ (wd 1 rfl)) (hw _ (wd 2 rfl)) (w1 hw 3 _) (ok1 hw) rfl rfl rfl ?_
  refine W.callvN (M' := m4) d0_146 (hw _ (wd 15 rfl)) (hw _ (wd 16 rfl)) (hw _ (wd 17 rfl)) (hw _ (wd 18 rfl)) (w4a hw (own_key 3) [0, 0, 0, 0, 0, 0, 0] 0 []) (ok4 hw) rfl rfl rfl rfl ?_
  refine W.iloadN d0_149 rfl ?_
  refine W.if_eq d0_150 (fun h150 => ?_) (fun h => False.elim (by revert h; decide))
  refine W.iload d0_162 rfl ?_
  refine W.if_eq d0_164 (fun h => False.elim (by revert h; decide)) (fun h164 => ?_)
  refine W.aload d0_167 rfl rfl ?_
  refine W.iconst 5 d0_169 rfl ?_
  refine W.callsV (M' := m1) d0_170 (hw _ (wd 1 rfl)) (hw _ (wd 2 rfl)) (w1 hw 5 _) (ok1 hw) rfl rfl rfl ?_
  refine W.callvN (M' := m4) d0_173 (hw _ (wd 15 rfl)) (hw _ (wd 16 rfl)) (hw _ (wd 17 rfl)) (hw _ (wd 18 rfl)) (w4b hw (own_key 5) [0, 0, 0, 0, 0, 0, 0] (0 + 1) [(0, .null, .null)] [(0, .null, .ref 3), (1000, .null, .null)] 2 (by unfold own_ok; decide) (by decide +kernel)) (ok4 hw) rfl rfl rfl rfl ?_
  refine W.iload d0_176 rfl ?_
  refine W.if_eq d0_178 (fun h178 => ?_) (fun h => False.elim (by revert h; decide))
  refine W.iload d0_190 rfl ?_
  refine W.if_eq d0_192 (fun h192 => ?_) (fun h => False.elim (by revert h; decide))
  refine W.iload d0_204 rfl ?_
  refine W.if_eq d0_206 (fun h206 => ?_) (fun h => False.elim (by revert h; decide))
  refine W.iload d0_218 rfl ?_
  refine W.if_eq d0_220 (fun h220 => ?_) (fun h => False.elim (by revert h; decide))
  refine W.aload d0_233 rfl rfl ?_
  refine W.iconst 0 d0_235 rfl ?_
  refine W.iconst 3 d0_236 rfl ?_
  refine W.iastore (i := 0) d0_237 rfl ⟨by decide, by decide⟩ (by simp) ?_
  refine W.aload d0_238 rfl rfl ?_
  refine W.iconst 1 d0_240 rfl ?_
  refine W.iloadN d0_241 rfl ?_
  refine W.if_eq d0_242 (fun h242 => ?_) (fun h => False.elim (by revert h; decide))
  refine W.iconst (-1) d0_249 rfl ?_
  refine W.iastore (i := 1) d0_250 rfl ⟨by decide, by decide⟩ (by simp) ?_
  refine W.aload d0_251 rfl rfl ?_
  refine W.iconst 2 d0_253 rfl ?_
  refine W.iload d0_254 rfl ?_
  refine W.if_eq d0_256 (fun h => False.elim (by revert h; decide)) (fun h256 => ?_)
  refine W.iconst 5 d0_259 rfl ?_
  refine W.goto d0_260 ?_
  refine W.iastore (i := 2) d0_264 rfl ⟨by decide, by decide⟩ (by simp) ?_
  refine W.aload d0_265 rfl rfl ?_
  refine W.iconst 3 d0_267 rfl ?_
  refine W.iload d0_268 rfl ?_
  refine W.if_eq d0_270 (fun h270 => ?_) (fun h => False.elim (by revert h; decide))
  refine W.iconst (-1) d0_277 rfl ?_
  refine W.iastore (i := 3) d0_278 rfl ⟨by decide, by decide⟩ (by simp) ?_
  refine W.aload d0_279 rfl rfl ?_
  refine W.iconst 4 d0_281 rfl ?_
  refine W.iload d0_282 rfl ?_
  refine W.if_eq d0_284 (fun h284 => ?_) (fun h => False.elim (by revert h; decide))
  refine W.iconst (-1) d0_291 rfl ?_
  refine W.iastore (i := 4) d0_292 rfl ⟨by decide, by decide⟩ (by simp) ?_
  refine W.aload d0_293 rfl rfl ?_
  refine W.iconst 5 d0_295 rfl ?_
  refine W.iload d0_296 rfl ?_
  refine W.if_eq d0_298 (fun h298 => ?_) (fun h => False.elim (by revert h; decide))
  refine W.iconst (-1) d0_305 rfl ?_
  refine W.iastore (i := 5) d0_306 rfl ⟨by decide, by decide⟩ (by simp) ?_
  refine W.aload d0_307 rfl rfl ?_
  refine W.bipush 6 d0_309 rfl ?_
  refine W.iload d0_311 rfl ?_
  refine W.if_eq d0_313 (fun h313 => ?_) (fun h => False.elim (by revert h; decide))
  refine W.iconst (-1) d0_321 rfl ?_
  refine W.iastore (i := 6) d0_322 rfl ⟨by decide, by decide⟩ (by simp) ?_
  refine W.iconst 1 d0_323 rfl ?_
  refine W.iloadN d0_324 rfl ?_
  refine W.if_eq d0_325 (fun h325 => ?_) (fun h => False.elim (by revert h; decide))
  refine W.iconst 0 d0_332 rfl ?_
  refine W.iadd d0_333 ?_
  refine W.iload d0_334 rfl ?_
  refine W.if_eq d0_336 (fun h => False.elim (by revert h; decide)) (fun h336 => ?_)
  refine W.iconst 1 d0_339 rfl ?_
  refine W.goto d0_340 ?_
  refine W.iadd d0_344 ?_
  refine W.iload d0_345 rfl ?_
  refine W.if_eq d0_347 (fun h347 => ?_) (fun h => False.elim (by revert h; decide))
  refine W.iconst 0 d0_354 rfl ?_
  refine W.iadd d0_355 ?_
  refine W.iload d0_356 rfl ?_
  refine W.if_eq d0_358 (fun h358 => ?_) (fun h => False.elim (by revert h; decide))
  refine W.iconst 0 d0_365 rfl ?_
  refine W.iadd d0_366 ?_
  refine W.iload d0_367 rfl ?_
  refine W.if_eq d0_369 (fun h369 => ?_) (fun h => False.elim (by revert h; decide))
  refine W.iconst 0 d0_376 rfl ?_
  refine W.iadd d0_377 ?_
  refine W.iload d0_378 rfl ?_
  refine W.if_eq d0_380 (fun h380 => ?_) (fun h => False.elim (by revert h; decide))
  refine W.iconst 0 d0_387 rfl ?_
  refine W.iadd d0_388 ?_
  refine W.istore d0_389 rfl ?_
  refine W.more (ce' := 9) (sl' := 30) (by decide) (by decide) ?_
  exact sufA hw a b v _ _ _ _ _ _ r x ((((((1 + 0) + 1) + 0) + 0) + 0) + 0) 3 (-1) 5 (-1) (-1) (-1) (-1) (.ref 2) ((0 + 1) + 1) [(0, .null, .ref 3), (1000, .null, .null)] (by unfold own_ok; decide) rfl (chk1 x)
set_option maxRecDepth 65536 in
set_option maxHeartbeats 40000000 in
theorem pre2 {l : Launch} {Z : State} {a0 : Array Value} {n : Nat} (hw : ∀ d ∈ tables_1, d.before a0 Z = true) (a b v r x : Int32) : W l Z n m0 123 [(.val (.int (a))), (.val (.int (b))), (.val (.int (v))), (.val (.int (0))), (.val (.int (0))), (.val (.int (0))), (.val (.int (1))), (.val (.int (0))), (.val (.int (1))), (.val (.int (r))), .unset, .unset, .unset, .unset, .unset, .unset, .unset, .unset, .unset, .unset, .unset, .unset, .unset] [.int x] [] 0 0 (fun v _ => v = some (.int 1)) := by
  refine W.istore d0_123 rfl ?_
  refine W.bipush 7 d0_125 rfl ?_
  refine W.newarray (N := 0) (cnt := 7) (cap := 7) d0_127 (hw _ (wd 5 rfl)) ⟨by decide, by decide⟩ rfl (Nat.le_refl _) (by decide) (by decide) (by decide) ?_
  refine W.astore d0_129 rfl rfl ?_
  refine W.new (N := 1) d0_131 (hw _ (wd 6 rfl)) (okc0 hw) rfl (by decide) (by decide) ?_
  refine W.dup d0_134 rfl ?_
  refine W.initN (M' := m2) d0_135 rfl rfl (hw _ (wd 9 rfl)) (hw _ (wd 10 rfl)) (c2_0 hw) (ok2 hw) rfl rfl rfl ?_
  refine W.astore d0_138 rfl rfl ?_
  refine W.aload d0_140 rfl rfl ?_
  refine W.iconst 3 d0_142 rfl ?_
  refine W.callsV (M' := m1) d0_143 (hw _ (wd 1 rfl)) (hw _ (wd 2 rfl)) (w1 hw 3 _) (ok1 hw) rfl rfl rfl ?_
  refine W.callvN (M' := m4) d0_146 (hw _ (wd 15 rfl)) (hw _ (wd 16 rfl)) (hw _ (wd 17 rfl)) (hw _ (wd 18 rfl)) (w4a hw (own_key 3) [0, 0, 0, 0, 0, 0, 0] 0 []) (ok4 hw) rfl rfl rfl rfl ?_
  refine W.iloadN d0_149 rfl ?_
  refine W.if_eq d0_150 (fun h150 => ?_) (fun h => False.elim (by revert h; decide))
  refine W.iload d0_162 rfl ?_
  refine W.if_eq d0_164 (fun h => False.elim (by revert h; decide)) (fun h164 => ?_)
  refine W.aload d0_167 rfl rfl ?_
  refine W.iconst 5 d0_169 rfl ?_
  refine W.callsV (M' := m1) d0_170 (hw _ (wd 1 rfl)) (hw _ (wd 2 rfl)) (w1 hw 5 _) (ok1 hw) rfl rfl rfl ?_
  refine W.callvN (M' := m4) d0_173 (hw _ (wd 15 rfl)) (hw _ (wd 16 rfl)) (hw _ (wd 17 rfl)) (hw _ (wd 18 rfl)) (w4b hw (own_key 5) [0, 0, 0, 0, 0, 0, 0] (0 + 1) [(0, .null, .null)] [(0, .null, .ref 3), (1000, .null, .null)] 2 (by unfold own_ok; decide) (by decide +kernel)) (ok4 hw) rfl rfl rfl rfl ?_
  refine W.iload d0_176 rfl ?_
  refine W.if_eq d0_178 (fun h178 => ?_) (fun h => False.elim (by revert h; decide))
  refine W.iload d0_190 rfl ?_
  refine W.if_eq d0_192 (fun h192 => ?_) (fun h => False.elim (by revert h; decide))
  refine W.iload d0_204 rfl ?_
  refine W.if_eq d0_206 (fun h206 => ?_) (fun h => False.elim (by revert h; decide))
  refine W.iload d0_218 rfl ?_
  refine W.if_eq d0_220 (fun h => False.elim (by revert h; decide)) (fun h220 => ?_)
  refine W.aload d0_223 rfl rfl ?_
  refine W.bipush 6 d0_225 rfl ?_
  refine W.callsV (M' := m1) d0_227 (hw _ (wd 1 rfl)) (hw _ (wd 2 rfl)) (w1 hw 6 _) (ok1 hw) rfl rfl rfl ?_
  refine W.callvN (M' := m4) d0_230 (hw _ (wd 15 rfl)) (hw _ (wd 16 rfl)) (hw _ (wd 17 rfl)) (hw _ (wd 18 rfl)) (w4b hw (own_key 6) [0, 0, 0, 0, 0, 0, 0] ((0 + 1) + 1) [(0, .null, .ref 3), (1000, .null, .null)] [(0, .null, .ref 3), (1000, .null, .ref 4), (2147483647, .null, .null)] 2 (by unfold own_ok; decide) (by decide +kernel)) (ok4 hw) rfl rfl rfl rfl ?_
  refine W.aload d0_233 rfl rfl ?_
  refine W.iconst 0 d0_235 rfl ?_
  refine W.iconst 3 d0_236 rfl ?_
  refine W.iastore (i := 0) d0_237 rfl ⟨by decide, by decide⟩ (by simp) ?_
  refine W.aload d0_238 rfl rfl ?_
  refine W.iconst 1 d0_240 rfl ?_
  refine W.iloadN d0_241 rfl ?_
  refine W.if_eq d0_242 (fun h242 => ?_) (fun h => False.elim (by revert h; decide))
  refine W.iconst (-1) d0_249 rfl ?_
  refine W.iastore (i := 1) d0_250 rfl ⟨by decide, by decide⟩ (by simp) ?_
  refine W.aload d0_251 rfl rfl ?_
  refine W.iconst 2 d0_253 rfl ?_
  refine W.iload d0_254 rfl ?_
  refine W.if_eq d0_256 (fun h => False.elim (by revert h; decide)) (fun h256 => ?_)
  refine W.iconst 5 d0_259 rfl ?_
  refine W.goto d0_260 ?_
  refine W.iastore (i := 2) d0_264 rfl ⟨by decide, by decide⟩ (by simp) ?_
  refine W.aload d0_265 rfl rfl ?_
  refine W.iconst 3 d0_267 rfl ?_
  refine W.iload d0_268 rfl ?_
  refine W.if_eq d0_270 (fun h270 => ?_) (fun h => False.elim (by revert h; decide))
  refine W.iconst (-1) d0_277 rfl ?_
  refine W.iastore (i := 3) d0_278 rfl ⟨by decide, by decide⟩ (by simp) ?_
  refine W.aload d0_279 rfl rfl ?_
  refine W.iconst 4 d0_281 rfl ?_
  refine W.iload d0_282 rfl ?_
  refine W.if_eq d0_284 (fun h284 => ?_) (fun h => False.elim (by revert h; decide))
  refine W.iconst (-1) d0_291 rfl ?_
  refine W.iastore (i := 4) d0_292 rfl ⟨by decide, by decide⟩ (by simp) ?_
  refine W.aload d0_293 rfl rfl ?_
  refine W.iconst 5 d0_295 rfl ?_
  refine W.iload d0_296 rfl ?_
  refine W.if_eq d0_298 (fun h298 => ?_) (fun h => False.elim (by revert h; decide))
  refine W.iconst (-1) d0_305 rfl ?_
  refine W.iastore (i := 5) d0_306 rfl ⟨by decide, by decide⟩ (by simp) ?_
  refine W.aload d0_307 rfl rfl ?_
  refine W.bipush 6 d0_309 rfl ?_
  refine W.iload d0_311 rfl ?_
  refine W.if_eq d0_313 (fun h => False.elim (by revert h; decide)) (fun h313 => ?_)
  refine W.bipush 6 d0_316 rfl ?_
  refine W.goto d0_318 ?_
  refine W.iastore (i := 6) d0_322 rfl ⟨by decide, by decide⟩ (by simp) ?_
  refine W.iconst 1 d0_323 rfl ?_
  refine W.iloadN d0_324 rfl ?_
  refine W.if_eq d0_325 (fun h325 => ?_) (fun h => False.elim (by revert h; decide))
  refine W.iconst 0 d0_332 rfl ?_
  refine W.iadd d0_333 ?_
  refine W.iload d0_334 rfl ?_
  refine W.if_eq d0_336 (fun h => False.elim (by revert h; decide)) (fun h336 => ?_)
  refine W.iconst 1 d0_339 rfl ?_
  refine W.goto d0_340 ?_
  refine W.iadd d0_344 ?_
  refine W.iload d0_345 rfl ?_
  refine W.if_eq d0_347 (fun h347 => ?_) (fun h => False.elim (by revert h; decide))
  refine W.iconst 0 d0_354 rfl ?_
  refine W.iadd d0_355 ?_
  refine W.iload d0_356 rfl ?_
  refine W.if_eq d0_358 (fun h358 => ?_) (fun h => False.elim (by revert h; decide))
  refine W.iconst 0 d0_365 rfl ?_
  refine W.iadd d0_366 ?_
  refine W.iload d0_367 rfl ?_
  refine W.if_eq d0_369 (fun h369 => ?_) (fun h => False.elim (by revert h; decide))
  refine W.iconst 0 d0_376 rfl ?_
  refine W.iadd d0_377 ?_
  refine W.iload d0_378 rfl ?_
  refine W.if_eq d0_380 (fun h => False.elim (by revert h; decide)) (fun h380 => ?_)
  refine W.iconst 1 d0_383 rfl ?_
  refine W.goto d0_384 ?_
  refine W.iadd d0_388 ?_
  refine W.istore d0_389 rfl ?_
  refine W.more (ce' := 9) (sl' := 30) (by decide) (by decide) ?_
  exact sufA hw a b v _ _ _ _ _ _ r x ((((((1 + 0) + 1) + 0) + 0) + 0) + 1) 3 (-1) 5 (-1) (-1) (-1) 6 (.ref 2) (((0 + 1) + 1) + 1) [(0, .null, .ref 3), (1000, .null, .ref 4), (2147483647, .null, .null)] (by unfold own_ok; decide) rfl (chk2 x)
set_option maxRecDepth 65536 in
set_option maxHeartbeats 40000000 in
theorem pre3 {l : Launch} {Z : State} {a0 : Array Value} {n : Nat} (hw : ∀ d ∈ tables_1, d.before a0 Z = true) (a b v r x : Int32) : W l Z n m0 123 [(.val (.int (a))), (.val (.int (b))), (.val (.int (v))), (.val (.int (0))), (.val (.int (0))), (.val (.int (0))), (.val (.int (1))), (.val (.int (1))), (.val (.int (0))), (.val (.int (r))), .unset, .unset, .unset, .unset, .unset, .unset, .unset, .unset, .unset, .unset, .unset, .unset, .unset] [.int x] [] 0 0 (fun v _ => v = some (.int 1)) := by
  refine W.istore d0_123 rfl ?_
  refine W.bipush 7 d0_125 rfl ?_
  refine W.newarray (N := 0) (cnt := 7) (cap := 7) d0_127 (hw _ (wd 5 rfl)) ⟨by decide, by decide⟩ rfl (Nat.le_refl _) (by decide) (by decide) (by decide) ?_
  refine W.astore d0_129 rfl rfl ?_
  refine W.new (N := 1) d0_131 (hw _ (wd 6 rfl)) (okc0 hw) rfl (by decide) (by decide) ?_
  refine W.dup d0_134 rfl ?_
  refine W.initN (M' := m2) d0_135 rfl rfl (hw _ (wd 9 rfl)) (hw _ (wd 10 rfl)) (c2_0 hw) (ok2 hw) rfl rfl rfl ?_
  refine W.astore d0_138 rfl rfl ?_
  refine W.aload d0_140 rfl rfl ?_
  refine W.iconst 3 d0_142 rfl ?_
  refine W.callsV (M' := m1) d0_143 (hw _ (wd 1 rfl)) (hw _ (wd 2 rfl)) (w1 hw 3 _) (ok1 hw) rfl rfl rfl ?_
  refine W.callvN (M' := m4) d0_146 (hw _ (wd 15 rfl)) (hw _ (wd 16 rfl)) (hw _ (wd 17 rfl)) (hw _ (wd 18 rfl)) (w4a hw (own_key 3) [0, 0, 0, 0, 0, 0, 0] 0 []) (ok4 hw) rfl rfl rfl rfl ?_
  refine W.iloadN d0_149 rfl ?_
  refine W.if_eq d0_150 (fun h150 => ?_) (fun h => False.elim (by revert h; decide))
  refine W.iload d0_162 rfl ?_
  refine W.if_eq d0_164 (fun h => False.elim (by revert h; decide)) (fun h164 => ?_)
  refine W.aload d0_167 rfl rfl ?_
  refine W.iconst 5 d0_169 rfl ?_
  refine W.callsV (M' := m1) d0_170 (hw _ (wd 1 rfl)) (hw _ (wd 2 rfl)) (w1 hw 5 _) (ok1 hw) rfl rfl rfl ?_
  refine W.callvN (M' := m4) d0_173 (hw _ (wd 15 rfl)) (hw _ (wd 16 rfl)) (hw _ (wd 17 rfl)) (hw _ (wd 18 rfl)) (w4b hw (own_key 5) [0, 0, 0, 0, 0, 0, 0] (0 + 1) [(0, .null, .null)] [(0, .null, .ref 3), (1000, .null, .null)] 2 (by unfold own_ok; decide) (by decide +kernel)) (ok4 hw) rfl rfl rfl rfl ?_
  refine W.iload d0_176 rfl ?_
  refine W.if_eq d0_178 (fun h178 => ?_) (fun h => False.elim (by revert h; decide))
  refine W.iload d0_190 rfl ?_
  refine W.if_eq d0_192 (fun h192 => ?_) (fun h => False.elim (by revert h; decide))
  refine W.iload d0_204 rfl ?_
  refine W.if_eq d0_206 (fun h => False.elim (by revert h; decide)) (fun h206 => ?_)
  refine W.aload d0_209 rfl rfl ?_
  refine W.iconst 4 d0_211 rfl ?_
  refine W.callsV (M' := m1) d0_212 (hw _ (wd 1 rfl)) (hw _ (wd 2 rfl)) (w1 hw 4 _) (ok1 hw) rfl rfl rfl ?_
  refine W.callvN (M' := m4) d0_215 (hw _ (wd 15 rfl)) (hw _ (wd 16 rfl)) (hw _ (wd 17 rfl)) (hw _ (wd 18 rfl)) (w4b hw (own_key 4) [0, 0, 0, 0, 0, 0, 0] ((0 + 1) + 1) [(0, .null, .ref 3), (1000, .null, .null)] [(0, .null, .ref 3), (1000, .ref 4, .null), (1, .null, .null)] 2 (by unfold own_ok; decide) (by decide +kernel)) (ok4 hw) rfl rfl rfl rfl ?_
  refine W.iload d0_218 rfl ?_
  refine W.if_eq d0_220 (fun h220 => ?_) (fun h => False.elim (by revert h; decide))
  refine W.aload d0_233 rfl rfl ?_
  refine W.iconst 0 d0_235 rfl ?_
  refine W.iconst 3 d0_236 rfl ?_
  refine W.iastore (i := 0) d0_237 rfl ⟨by decide, by decide⟩ (by simp) ?_
  refine W.aload d0_238 rfl rfl ?_
  refine W.iconst 1 d0_240 rfl ?_
  refine W.iloadN d0_241 rfl ?_
  refine W.if_eq d0_242 (fun h242 => ?_) (fun h => False.elim (by revert h; decide))
  refine W.iconst (-1) d0_249 rfl ?_
  refine W.iastore (i := 1) d0_250 rfl ⟨by decide, by decide⟩ (by simp) ?_
  refine W.aload d0_251 rfl rfl ?_
  refine W.iconst 2 d0_253 rfl ?_
  refine W.iload d0_254 rfl ?_
  refine W.if_eq d0_256 (fun h => False.elim (by revert h; decide)) (fun h256 => ?_)
  refine W.iconst 5 d0_259 rfl ?_
  refine W.goto d0_260 ?_
  refine W.iastore (i := 2) d0_264 rfl ⟨by decide, by decide⟩ (by simp) ?_
  refine W.aload d0_265 rfl rfl ?_
  refine W.iconst 3 d0_267 rfl ?_
  refine W.iload d0_268 rfl ?_
  refine W.if_eq d0_270 (fun h270 => ?_) (fun h => False.elim (by revert h; decide))
  refine W.iconst (-1) d0_277 rfl ?_
  refine W.iastore (i := 3) d0_278 rfl ⟨by decide, by decide⟩ (by simp) ?_
  refine W.aload d0_279 rfl rfl ?_
  refine W.iconst 4 d0_281 rfl ?_
  refine W.iload d0_282 rfl ?_
  refine W.if_eq d0_284 (fun h284 => ?_) (fun h => False.elim (by revert h; decide))
  refine W.iconst (-1) d0_291 rfl ?_
  refine W.iastore (i := 4) d0_292 rfl ⟨by decide, by decide⟩ (by simp) ?_
  refine W.aload d0_293 rfl rfl ?_
  refine W.iconst 5 d0_295 rfl ?_
  refine W.iload d0_296 rfl ?_
  refine W.if_eq d0_298 (fun h => False.elim (by revert h; decide)) (fun h298 => ?_)
  refine W.iconst 4 d0_301 rfl ?_
  refine W.goto d0_302 ?_
  refine W.iastore (i := 5) d0_306 rfl ⟨by decide, by decide⟩ (by simp) ?_
  refine W.aload d0_307 rfl rfl ?_
  refine W.bipush 6 d0_309 rfl ?_
  refine W.iload d0_311 rfl ?_
  refine W.if_eq d0_313 (fun h313 => ?_) (fun h => False.elim (by revert h; decide))
  refine W.iconst (-1) d0_321 rfl ?_
  refine W.iastore (i := 6) d0_322 rfl ⟨by decide, by decide⟩ (by simp) ?_
  refine W.iconst 1 d0_323 rfl ?_
  refine W.iloadN d0_324 rfl ?_
  refine W.if_eq d0_325 (fun h325 => ?_) (fun h => False.elim (by revert h; decide))
  refine W.iconst 0 d0_332 rfl ?_
  refine W.iadd d0_333 ?_
  refine W.iload d0_334 rfl ?_
  refine W.if_eq d0_336 (fun h => False.elim (by revert h; decide)) (fun h336 => ?_)
  refine W.iconst 1 d0_339 rfl ?_
  refine W.goto d0_340 ?_
  refine W.iadd d0_344 ?_
  refine W.iload d0_345 rfl ?_
  refine W.if_eq d0_347 (fun h347 => ?_) (fun h => False.elim (by revert h; decide))
  refine W.iconst 0 d0_354 rfl ?_
  refine W.iadd d0_355 ?_
  refine W.iload d0_356 rfl ?_
  refine W.if_eq d0_358 (fun h358 => ?_) (fun h => False.elim (by revert h; decide))
  refine W.iconst 0 d0_365 rfl ?_
  refine W.iadd d0_366 ?_
  refine W.iload d0_367 rfl ?_
  refine W.if_eq d0_369 (fun h => False.elim (by revert h; decide)) (fun h369 => ?_)
  refine W.iconst 1 d0_372 rfl ?_
  refine W.goto d0_373 ?_
  refine W.iadd d0_377 ?_
  refine W.iload d0_378 rfl ?_
  refine W.if_eq d0_380 (fun h380 => ?_) (fun h => False.elim (by revert h; decide))
  refine W.iconst 0 d0_387 rfl ?_
  refine W.iadd d0_388 ?_
  refine W.istore d0_389 rfl ?_
  refine W.more (ce' := 9) (sl' := 30) (by decide) (by decide) ?_
  exact sufA hw a b v _ _ _ _ _ _ r x ((((((1 + 0) + 1) + 0) + 0) + 1) + 0) 3 (-1) 5 (-1) (-1) 4 (-1) (.ref 2) (((0 + 1) + 1) + 1) [(0, .null, .ref 3), (1000, .ref 4, .null), (1, .null, .null)] (by unfold own_ok; decide) rfl (chk3 x)
set_option maxRecDepth 65536 in
set_option maxHeartbeats 40000000 in
theorem pre4 {l : Launch} {Z : State} {a0 : Array Value} {n : Nat} (hw : ∀ d ∈ tables_1, d.before a0 Z = true) (a b v r x : Int32) : W l Z n m0 123 [(.val (.int (a))), (.val (.int (b))), (.val (.int (v))), (.val (.int (0))), (.val (.int (0))), (.val (.int (0))), (.val (.int (1))), (.val (.int (1))), (.val (.int (1))), (.val (.int (r))), .unset, .unset, .unset, .unset, .unset, .unset, .unset, .unset, .unset, .unset, .unset, .unset, .unset] [.int x] [] 0 0 (fun v _ => v = some (.int 1)) := by
  refine W.istore d0_123 rfl ?_
  refine W.bipush 7 d0_125 rfl ?_
  refine W.newarray (N := 0) (cnt := 7) (cap := 7) d0_127 (hw _ (wd 5 rfl)) ⟨by decide, by decide⟩ rfl (Nat.le_refl _) (by decide) (by decide) (by decide) ?_
  refine W.astore d0_129 rfl rfl ?_
  refine W.new (N := 1) d0_131 (hw _ (wd 6 rfl)) (okc0 hw) rfl (by decide) (by decide) ?_
  refine W.dup d0_134 rfl ?_
  refine W.initN (M' := m2) d0_135 rfl rfl (hw _ (wd 9 rfl)) (hw _ (wd 10 rfl)) (c2_0 hw) (ok2 hw) rfl rfl rfl ?_
  refine W.astore d0_138 rfl rfl ?_
  refine W.aload d0_140 rfl rfl ?_
  refine W.iconst 3 d0_142 rfl ?_
  refine W.callsV (M' := m1) d0_143 (hw _ (wd 1 rfl)) (hw _ (wd 2 rfl)) (w1 hw 3 _) (ok1 hw) rfl rfl rfl ?_
  refine W.callvN (M' := m4) d0_146 (hw _ (wd 15 rfl)) (hw _ (wd 16 rfl)) (hw _ (wd 17 rfl)) (hw _ (wd 18 rfl)) (w4a hw (own_key 3) [0, 0, 0, 0, 0, 0, 0] 0 []) (ok4 hw) rfl rfl rfl rfl ?_
  refine W.iloadN d0_149 rfl ?_
  refine W.if_eq d0_150 (fun h150 => ?_) (fun h => False.elim (by revert h; decide))
  refine W.iload d0_162 rfl ?_
  refine W.if_eq d0_164 (fun h => False.elim (by revert h; decide)) (fun h164 => ?_)
  refine W.aload d0_167 rfl rfl ?_
  refine W.iconst 5 d0_169 rfl ?_
  refine W.callsV (M' := m1) d0_170 (hw _ (wd 1 rfl)) (hw _ (wd 2 rfl)) (w1 hw 5 _) (ok1 hw) rfl rfl rfl ?_
  refine W.callvN (M' := m4) d0_173 (hw _ (wd 15 rfl)) (hw _ (wd 16 rfl)) (hw _ (wd 17 rfl)) (hw _ (wd 18 rfl)) (w4b hw (own_key 5) [0, 0, 0, 0, 0, 0, 0] (0 + 1) [(0, .null, .null)] [(0, .null, .ref 3), (1000, .null, .null)] 2 (by unfold own_ok; decide) (by decide +kernel)) (ok4 hw) rfl rfl rfl rfl ?_
  refine W.iload d0_176 rfl ?_
  refine W.if_eq d0_178 (fun h178 => ?_) (fun h => False.elim (by revert h; decide))
  refine W.iload d0_190 rfl ?_
  refine W.if_eq d0_192 (fun h192 => ?_) (fun h => False.elim (by revert h; decide))
  refine W.iload d0_204 rfl ?_
  refine W.if_eq d0_206 (fun h => False.elim (by revert h; decide)) (fun h206 => ?_)
  refine W.aload d0_209 rfl rfl ?_
  refine W.iconst 4 d0_211 rfl ?_
  refine W.callsV (M' := m1) d0_212 (hw _ (wd 1 rfl)) (hw _ (wd 2 rfl)) (w1 hw 4 _) (ok1 hw) rfl rfl rfl ?_
  refine W.callvN (M' := m4) d0_215 (hw _ (wd 15 rfl)) (hw _ (wd 16 rfl)) (hw _ (wd 17 rfl)) (hw _ (wd 18 rfl)) (w4b hw (own_key 4) [0, 0, 0, 0, 0, 0, 0] ((0 + 1) + 1) [(0, .null, .ref 3), (1000, .null, .null)] [(0, .null, .ref 3), (1000, .ref 4, .null), (1, .null, .null)] 2 (by unfold own_ok; decide) (by decide +kernel)) (ok4 hw) rfl rfl rfl rfl ?_
  refine W.iload d0_218 rfl ?_
  refine W.if_eq d0_220 (fun h => False.elim (by revert h; decide)) (fun h220 => ?_)
  refine W.aload d0_223 rfl rfl ?_
  refine W.bipush 6 d0_225 rfl ?_
  refine W.callsV (M' := m1) d0_227 (hw _ (wd 1 rfl)) (hw _ (wd 2 rfl)) (w1 hw 6 _) (ok1 hw) rfl rfl rfl ?_
  refine W.callvN (M' := m4) d0_230 (hw _ (wd 15 rfl)) (hw _ (wd 16 rfl)) (hw _ (wd 17 rfl)) (hw _ (wd 18 rfl)) (w4b hw (own_key 6) [0, 0, 0, 0, 0, 0, 0] (((0 + 1) + 1) + 1) [(0, .null, .ref 3), (1000, .ref 4, .null), (1, .null, .null)] [(0, .null, .ref 3), (1000, .ref 4, .ref 5), (1, .null, .null), (2147483647, .null, .null)] 2 (by unfold own_ok; decide) (by decide +kernel)) (ok4 hw) rfl rfl rfl rfl ?_
  refine W.aload d0_233 rfl rfl ?_
  refine W.iconst 0 d0_235 rfl ?_
  refine W.iconst 3 d0_236 rfl ?_
  refine W.iastore (i := 0) d0_237 rfl ⟨by decide, by decide⟩ (by simp) ?_
  refine W.aload d0_238 rfl rfl ?_
  refine W.iconst 1 d0_240 rfl ?_
  refine W.iloadN d0_241 rfl ?_
  refine W.if_eq d0_242 (fun h242 => ?_) (fun h => False.elim (by revert h; decide))
  refine W.iconst (-1) d0_249 rfl ?_
  refine W.iastore (i := 1) d0_250 rfl ⟨by decide, by decide⟩ (by simp) ?_
  refine W.aload d0_251 rfl rfl ?_
  refine W.iconst 2 d0_253 rfl ?_
  refine W.iload d0_254 rfl ?_
  refine W.if_eq d0_256 (fun h => False.elim (by revert h; decide)) (fun h256 => ?_)
  refine W.iconst 5 d0_259 rfl ?_
  refine W.goto d0_260 ?_
  refine W.iastore (i := 2) d0_264 rfl ⟨by decide, by decide⟩ (by simp) ?_
  refine W.aload d0_265 rfl rfl ?_
  refine W.iconst 3 d0_267 rfl ?_
  refine W.iload d0_268 rfl ?_
  refine W.if_eq d0_270 (fun h270 => ?_) (fun h => False.elim (by revert h; decide))
  refine W.iconst (-1) d0_277 rfl ?_
  refine W.iastore (i := 3) d0_278 rfl ⟨by decide, by decide⟩ (by simp) ?_
  refine W.aload d0_279 rfl rfl ?_
  refine W.iconst 4 d0_281 rfl ?_
  refine W.iload d0_282 rfl ?_
  refine W.if_eq d0_284 (fun h284 => ?_) (fun h => False.elim (by revert h; decide))
  refine W.iconst (-1) d0_291 rfl ?_
  refine W.iastore (i := 4) d0_292 rfl ⟨by decide, by decide⟩ (by simp) ?_
  refine W.aload d0_293 rfl rfl ?_
  refine W.iconst 5 d0_295 rfl ?_
  refine W.iload d0_296 rfl ?_
  refine W.if_eq d0_298 (fun h => False.elim (by revert h; decide)) (fun h298 => ?_)
  refine W.iconst 4 d0_301 rfl ?_
  refine W.goto d0_302 ?_
  refine W.iastore (i := 5) d0_306 rfl ⟨by decide, by decide⟩ (by simp) ?_
  refine W.aload d0_307 rfl rfl ?_
  refine W.bipush 6 d0_309 rfl ?_
  refine W.iload d0_311 rfl ?_
  refine W.if_eq d0_313 (fun h => False.elim (by revert h; decide)) (fun h313 => ?_)
  refine W.bipush 6 d0_316 rfl ?_
  refine W.goto d0_318 ?_
  refine W.iastore (i := 6) d0_322 rfl ⟨by decide, by decide⟩ (by simp) ?_
  refine W.iconst 1 d0_323 rfl ?_
  refine W.iloadN d0_324 rfl ?_
  refine W.if_eq d0_325 (fun h325 => ?_) (fun h => False.elim (by revert h; decide))
  refine W.iconst 0 d0_332 rfl ?_
  refine W.iadd d0_333 ?_
  refine W.iload d0_334 rfl ?_
  refine W.if_eq d0_336 (fun h => False.elim (by revert h; decide)) (fun h336 => ?_)
  refine W.iconst 1 d0_339 rfl ?_
  refine W.goto d0_340 ?_
  refine W.iadd d0_344 ?_
  refine W.iload d0_345 rfl ?_
  refine W.if_eq d0_347 (fun h347 => ?_) (fun h => False.elim (by revert h; decide))
  refine W.iconst 0 d0_354 rfl ?_
  refine W.iadd d0_355 ?_
  refine W.iload d0_356 rfl ?_
  refine W.if_eq d0_358 (fun h358 => ?_) (fun h => False.elim (by revert h; decide))
  refine W.iconst 0 d0_365 rfl ?_
  refine W.iadd d0_366 ?_
  refine W.iload d0_367 rfl ?_
  refine W.if_eq d0_369 (fun h => False.elim (by revert h; decide)) (fun h369 => ?_)
  refine W.iconst 1 d0_372 rfl ?_
  refine W.goto d0_373 ?_
  refine W.iadd d0_377 ?_
  refine W.iload d0_378 rfl ?_
  refine W.if_eq d0_380 (fun h => False.elim (by revert h; decide)) (fun h380 => ?_)
  refine W.iconst 1 d0_383 rfl ?_
  refine W.goto d0_384 ?_
  refine W.iadd d0_388 ?_
  refine W.istore d0_389 rfl ?_
  refine W.more (ce' := 9) (sl' := 30) (by decide) (by decide) ?_
  exact sufA hw a b v _ _ _ _ _ _ r x ((((((1 + 0) + 1) + 0) + 0) + 1) + 1) 3 (-1) 5 (-1) (-1) 4 6 (.ref 2) ((((0 + 1) + 1) + 1) + 1) [(0, .null, .ref 3), (1000, .ref 4, .ref 5), (1, .null, .null), (2147483647, .null, .null)] (by unfold own_ok; decide) rfl (chk4 x)
set_option maxRecDepth 65536 in
set_option maxHeartbeats 40000000 in
theorem pre5 {l : Launch} {Z : State} {a0 : Array Value} {n : Nat} (hw : ∀ d ∈ tables_1, d.before a0 Z = true) (a b v r x : Int32) : W l Z n m0 123 [(.val (.int (a))), (.val (.int (b))), (.val (.int (v))), (.val (.int (1))), (.val (.int (0))), (.val (.int (0))), (.val (.int (0))), (.val (.int (0))), (.val (.int (0))), (.val (.int (r))), .unset, .unset, .unset, .unset, .unset, .unset, .unset, .unset, .unset, .unset, .unset, .unset, .unset] [.int x] [] 0 0 (fun v _ => v = some (.int 1)) := by
  refine W.istore d0_123 rfl ?_
  refine W.bipush 7 d0_125 rfl ?_
  refine W.newarray (N := 0) (cnt := 7) (cap := 7) d0_127 (hw _ (wd 5 rfl)) ⟨by decide, by decide⟩ rfl (Nat.le_refl _) (by decide) (by decide) (by decide) ?_
  refine W.astore d0_129 rfl rfl ?_
  refine W.new (N := 1) d0_131 (hw _ (wd 6 rfl)) (okc0 hw) rfl (by decide) (by decide) ?_
  refine W.dup d0_134 rfl ?_
  refine W.initN (M' := m2) d0_135 rfl rfl (hw _ (wd 9 rfl)) (hw _ (wd 10 rfl)) (c2_0 hw) (ok2 hw) rfl rfl rfl ?_
  refine W.astore d0_138 rfl rfl ?_
  refine W.aload d0_140 rfl rfl ?_
  refine W.iconst 3 d0_142 rfl ?_
  refine W.callsV (M' := m1) d0_143 (hw _ (wd 1 rfl)) (hw _ (wd 2 rfl)) (w1 hw 3 _) (ok1 hw) rfl rfl rfl ?_
  refine W.callvN (M' := m4) d0_146 (hw _ (wd 15 rfl)) (hw _ (wd 16 rfl)) (hw _ (wd 17 rfl)) (hw _ (wd 18 rfl)) (w4a hw (own_key 3) [0, 0, 0, 0, 0, 0, 0] 0 []) (ok4 hw) rfl rfl rfl rfl ?_
  refine W.iloadN d0_149 rfl ?_
  refine W.if_eq d0_150 (fun h => False.elim (by revert h; decide)) (fun h150 => ?_)
  refine W.aload d0_153 rfl rfl ?_
  refine W.iconst 1 d0_155 rfl ?_
  refine W.callsV (M' := m1) d0_156 (hw _ (wd 1 rfl)) (hw _ (wd 2 rfl)) (w1 hw 1 _) (ok1 hw) rfl rfl rfl ?_
  refine W.callvN (M' := m4) d0_159 (hw _ (wd 15 rfl)) (hw _ (wd 16 rfl)) (hw _ (wd 17 rfl)) (hw _ (wd 18 rfl)) (w4b hw (own_key 1) [0, 0, 0, 0, 0, 0, 0] (0 + 1) [(0, .null, .null)] [(0, .ref 3, .null), ((-1000), .null, .null)] 2 (by unfold own_ok; decide) (by decide +kernel)) (ok4 hw) rfl rfl rfl rfl ?_
  refine W.iload d0_162 rfl ?_
  refine W.if_eq d0_164 (fun h164 => ?_) (fun h => False.elim (by revert h; decide))
  refine W.iload d0_176 rfl ?_
  refine W.if_eq d0_178 (fun h178 => ?_) (fun h => False.elim (by revert h; decide))
  refine W.iload d0_190 rfl ?_
  refine W.if_eq d0_192 (fun h192 => ?_) (fun h => False.elim (by revert h; decide))
  refine W.iload d0_204 rfl ?_
  refine W.if_eq d0_206 (fun h206 => ?_) (fun h => False.elim (by revert h; decide))
  refine W.iload d0_218 rfl ?_
  refine W.if_eq d0_220 (fun h220 => ?_) (fun h => False.elim (by revert h; decide))
  refine W.aload d0_233 rfl rfl ?_
  refine W.iconst 0 d0_235 rfl ?_
  refine W.iconst 3 d0_236 rfl ?_
  refine W.iastore (i := 0) d0_237 rfl ⟨by decide, by decide⟩ (by simp) ?_
  refine W.aload d0_238 rfl rfl ?_
  refine W.iconst 1 d0_240 rfl ?_
  refine W.iloadN d0_241 rfl ?_
  refine W.if_eq d0_242 (fun h => False.elim (by revert h; decide)) (fun h242 => ?_)
  refine W.iconst 1 d0_245 rfl ?_
  refine W.goto d0_246 ?_
  refine W.iastore (i := 1) d0_250 rfl ⟨by decide, by decide⟩ (by simp) ?_
  refine W.aload d0_251 rfl rfl ?_
  refine W.iconst 2 d0_253 rfl ?_
  refine W.iload d0_254 rfl ?_
  refine W.if_eq d0_256 (fun h256 => ?_) (fun h => False.elim (by revert h; decide))
  refine W.iconst (-1) d0_263 rfl ?_
  refine W.iastore (i := 2) d0_264 rfl ⟨by decide, by decide⟩ (by simp) ?_
  refine W.aload d0_265 rfl rfl ?_
  refine W.iconst 3 d0_267 rfl ?_
  refine W.iload d0_268 rfl ?_
  refine W.if_eq d0_270 (fun h270 => ?_) (fun h => False.elim (by revert h; decide))
  refine W.iconst (-1) d0_277 rfl ?_
  refine W.iastore (i := 3) d0_278 rfl ⟨by decide, by decide⟩ (by simp) ?_
  refine W.aload d0_279 rfl rfl ?_
  refine W.iconst 4 d0_281 rfl ?_
  refine W.iload d0_282 rfl ?_
  refine W.if_eq d0_284 (fun h284 => ?_) (fun h => False.elim (by revert h; decide))
  refine W.iconst (-1) d0_291 rfl ?_
  refine W.iastore (i := 4) d0_292 rfl ⟨by decide, by decide⟩ (by simp) ?_
  refine W.aload d0_293 rfl rfl ?_
  refine W.iconst 5 d0_295 rfl ?_
  refine W.iload d0_296 rfl ?_
  refine W.if_eq d0_298 (fun h298 => ?_) (fun h => False.elim (by revert h; decide))
  refine W.iconst (-1) d0_305 rfl ?_
  refine W.iastore (i := 5) d0_306 rfl ⟨by decide, by decide⟩ (by simp) ?_
  refine W.aload d0_307 rfl rfl ?_
  refine W.bipush 6 d0_309 rfl ?_
  refine W.iload d0_311 rfl ?_
  refine W.if_eq d0_313 (fun h313 => ?_) (fun h => False.elim (by revert h; decide))
  refine W.iconst (-1) d0_321 rfl ?_
  refine W.iastore (i := 6) d0_322 rfl ⟨by decide, by decide⟩ (by simp) ?_
  refine W.iconst 1 d0_323 rfl ?_
  refine W.iloadN d0_324 rfl ?_
  refine W.if_eq d0_325 (fun h => False.elim (by revert h; decide)) (fun h325 => ?_)
  refine W.iconst 1 d0_328 rfl ?_
  refine W.goto d0_329 ?_
  refine W.iadd d0_333 ?_
  refine W.iload d0_334 rfl ?_
  refine W.if_eq d0_336 (fun h336 => ?_) (fun h => False.elim (by revert h; decide))
  refine W.iconst 0 d0_343 rfl ?_
  refine W.iadd d0_344 ?_
  refine W.iload d0_345 rfl ?_
  refine W.if_eq d0_347 (fun h347 => ?_) (fun h => False.elim (by revert h; decide))
  refine W.iconst 0 d0_354 rfl ?_
  refine W.iadd d0_355 ?_
  refine W.iload d0_356 rfl ?_
  refine W.if_eq d0_358 (fun h358 => ?_) (fun h => False.elim (by revert h; decide))
  refine W.iconst 0 d0_365 rfl ?_
  refine W.iadd d0_366 ?_
  refine W.iload d0_367 rfl ?_
  refine W.if_eq d0_369 (fun h369 => ?_) (fun h => False.elim (by revert h; decide))
  refine W.iconst 0 d0_376 rfl ?_
  refine W.iadd d0_377 ?_
  refine W.iload d0_378 rfl ?_
  refine W.if_eq d0_380 (fun h380 => ?_) (fun h => False.elim (by revert h; decide))
  refine W.iconst 0 d0_387 rfl ?_
  refine W.iadd d0_388 ?_
  refine W.istore d0_389 rfl ?_
  refine W.more (ce' := 9) (sl' := 30) (by decide) (by decide) ?_
  exact sufA hw a b v _ _ _ _ _ _ r x ((((((1 + 1) + 0) + 0) + 0) + 0) + 0) 3 1 (-1) (-1) (-1) (-1) (-1) (.ref 2) ((0 + 1) + 1) [(0, .ref 3, .null), ((-1000), .null, .null)] (by unfold own_ok; decide) rfl (chk5 x)
set_option maxRecDepth 65536 in
set_option maxHeartbeats 40000000 in
theorem pre6 {l : Launch} {Z : State} {a0 : Array Value} {n : Nat} (hw : ∀ d ∈ tables_1, d.before a0 Z = true) (a b v r x : Int32) : W l Z n m0 123 [(.val (.int (a))), (.val (.int (b))), (.val (.int (v))), (.val (.int (1))), (.val (.int (0))), (.val (.int (0))), (.val (.int (1))), (.val (.int (0))), (.val (.int (0))), (.val (.int (r))), .unset, .unset, .unset, .unset, .unset, .unset, .unset, .unset, .unset, .unset, .unset, .unset, .unset] [.int x] [] 0 0 (fun v _ => v = some (.int 1)) := by
  refine W.istore d0_123 rfl ?_
  refine W.bipush 7 d0_125 rfl ?_
  refine W.newarray (N := 0) (cnt := 7) (cap := 7) d0_127 (hw _ (wd 5 rfl)) ⟨by decide, by decide⟩ rfl (Nat.le_refl _) (by decide) (by decide) (by decide) ?_
  refine W.astore d0_129 rfl rfl ?_
  refine W.new (N := 1) d0_131 (hw _ (wd 6 rfl)) (okc0 hw) rfl (by decide) (by decide) ?_
  refine W.dup d0_134 rfl ?_
  refine W.initN (M' := m2) d0_135 rfl rfl (hw _ (wd 9 rfl)) (hw _ (wd 10 rfl)) (c2_0 hw) (ok2 hw) rfl rfl rfl ?_
  refine W.astore d0_138 rfl rfl ?_
  refine W.aload d0_140 rfl rfl ?_
  refine W.iconst 3 d0_142 rfl ?_
  refine W.callsV (M' := m1) d0_143 (hw _ (wd 1 rfl)) (hw _ (wd 2 rfl)) (w1 hw 3 _) (ok1 hw) rfl rfl rfl ?_
  refine W.callvN (M' := m4) d0_146 (hw _ (wd 15 rfl)) (hw _ (wd 16 rfl)) (hw _ (wd 17 rfl)) (hw _ (wd 18 rfl)) (w4a hw (own_key 3) [0, 0, 0, 0, 0, 0, 0] 0 []) (ok4 hw) rfl rfl rfl rfl ?_
  refine W.iloadN d0_149 rfl ?_
  refine W.if_eq d0_150 (fun h => False.elim (by revert h; decide)) (fun h150 => ?_)
  refine W.aload d0_153 rfl rfl ?_
  refine W.iconst 1 d0_155 rfl ?_
  refine W.callsV (M' := m1) d0_156 (hw _ (wd 1 rfl)) (hw _ (wd 2 rfl)) (w1 hw 1 _) (ok1 hw) rfl rfl rfl ?_
  refine W.callvN (M' := m4) d0_159 (hw _ (wd 15 rfl)) (hw _ (wd 16 rfl)) (hw _ (wd 17 rfl)) (hw _ (wd 18 rfl)) (w4b hw (own_key 1) [0, 0, 0, 0, 0, 0, 0] (0 + 1) [(0, .null, .null)] [(0, .ref 3, .null), ((-1000), .null, .null)] 2 (by unfold own_ok; decide) (by decide +kernel)) (ok4 hw) rfl rfl rfl rfl ?_
  refine W.iload d0_162 rfl ?_
  refine W.if_eq d0_164 (fun h => False.elim (by revert h; decide)) (fun h164 => ?_)
  refine W.aload d0_167 rfl rfl ?_
  refine W.iconst 5 d0_169 rfl ?_
  refine W.callsV (M' := m1) d0_170 (hw _ (wd 1 rfl)) (hw _ (wd 2 rfl)) (w1 hw 5 _) (ok1 hw) rfl rfl rfl ?_
  refine W.callvN (M' := m4) d0_173 (hw _ (wd 15 rfl)) (hw _ (wd 16 rfl)) (hw _ (wd 17 rfl)) (hw _ (wd 18 rfl)) (w4b hw (own_key 5) [0, 0, 0, 0, 0, 0, 0] ((0 + 1) + 1) [(0, .ref 3, .null), ((-1000), .null, .null)] [(0, .ref 3, .ref 4), ((-1000), .null, .null), (1000, .null, .null)] 2 (by unfold own_ok; decide) (by decide +kernel)) (ok4 hw) rfl rfl rfl rfl ?_
  refine W.iload d0_176 rfl ?_
  refine W.if_eq d0_178 (fun h178 => ?_) (fun h => False.elim (by revert h; decide))
  refine W.iload d0_190 rfl ?_
  refine W.if_eq d0_192 (fun h192 => ?_) (fun h => False.elim (by revert h; decide))
  refine W.iload d0_204 rfl ?_
  refine W.if_eq d0_206 (fun h206 => ?_) (fun h => False.elim (by revert h; decide))
  refine W.iload d0_218 rfl ?_
  refine W.if_eq d0_220 (fun h220 => ?_) (fun h => False.elim (by revert h; decide))
  refine W.aload d0_233 rfl rfl ?_
  refine W.iconst 0 d0_235 rfl ?_
  refine W.iconst 3 d0_236 rfl ?_
  refine W.iastore (i := 0) d0_237 rfl ⟨by decide, by decide⟩ (by simp) ?_
  refine W.aload d0_238 rfl rfl ?_
  refine W.iconst 1 d0_240 rfl ?_
  refine W.iloadN d0_241 rfl ?_
  refine W.if_eq d0_242 (fun h => False.elim (by revert h; decide)) (fun h242 => ?_)
  refine W.iconst 1 d0_245 rfl ?_
  refine W.goto d0_246 ?_
  refine W.iastore (i := 1) d0_250 rfl ⟨by decide, by decide⟩ (by simp) ?_
  refine W.aload d0_251 rfl rfl ?_
  refine W.iconst 2 d0_253 rfl ?_
  refine W.iload d0_254 rfl ?_
  refine W.if_eq d0_256 (fun h => False.elim (by revert h; decide)) (fun h256 => ?_)
  refine W.iconst 5 d0_259 rfl ?_
  refine W.goto d0_260 ?_
  refine W.iastore (i := 2) d0_264 rfl ⟨by decide, by decide⟩ (by simp) ?_
  refine W.aload d0_265 rfl rfl ?_
  refine W.iconst 3 d0_267 rfl ?_
  refine W.iload d0_268 rfl ?_
  refine W.if_eq d0_270 (fun h270 => ?_) (fun h => False.elim (by revert h; decide))
  refine W.iconst (-1) d0_277 rfl ?_
  refine W.iastore (i := 3) d0_278 rfl ⟨by decide, by decide⟩ (by simp) ?_
  refine W.aload d0_279 rfl rfl ?_
  refine W.iconst 4 d0_281 rfl ?_
  refine W.iload d0_282 rfl ?_
  refine W.if_eq d0_284 (fun h284 => ?_) (fun h => False.elim (by revert h; decide))
  refine W.iconst (-1) d0_291 rfl ?_
  refine W.iastore (i := 4) d0_292 rfl ⟨by decide, by decide⟩ (by simp) ?_
  refine W.aload d0_293 rfl rfl ?_
  refine W.iconst 5 d0_295 rfl ?_
  refine W.iload d0_296 rfl ?_
  refine W.if_eq d0_298 (fun h298 => ?_) (fun h => False.elim (by revert h; decide))
  refine W.iconst (-1) d0_305 rfl ?_
  refine W.iastore (i := 5) d0_306 rfl ⟨by decide, by decide⟩ (by simp) ?_
  refine W.aload d0_307 rfl rfl ?_
  refine W.bipush 6 d0_309 rfl ?_
  refine W.iload d0_311 rfl ?_
  refine W.if_eq d0_313 (fun h313 => ?_) (fun h => False.elim (by revert h; decide))
  refine W.iconst (-1) d0_321 rfl ?_
  refine W.iastore (i := 6) d0_322 rfl ⟨by decide, by decide⟩ (by simp) ?_
  refine W.iconst 1 d0_323 rfl ?_
  refine W.iloadN d0_324 rfl ?_
  refine W.if_eq d0_325 (fun h => False.elim (by revert h; decide)) (fun h325 => ?_)
  refine W.iconst 1 d0_328 rfl ?_
  refine W.goto d0_329 ?_
  refine W.iadd d0_333 ?_
  refine W.iload d0_334 rfl ?_
  refine W.if_eq d0_336 (fun h => False.elim (by revert h; decide)) (fun h336 => ?_)
  refine W.iconst 1 d0_339 rfl ?_
  refine W.goto d0_340 ?_
  refine W.iadd d0_344 ?_
  refine W.iload d0_345 rfl ?_
  refine W.if_eq d0_347 (fun h347 => ?_) (fun h => False.elim (by revert h; decide))
  refine W.iconst 0 d0_354 rfl ?_
  refine W.iadd d0_355 ?_
  refine W.iload d0_356 rfl ?_
  refine W.if_eq d0_358 (fun h358 => ?_) (fun h => False.elim (by revert h; decide))
  refine W.iconst 0 d0_365 rfl ?_
  refine W.iadd d0_366 ?_
  refine W.iload d0_367 rfl ?_
  refine W.if_eq d0_369 (fun h369 => ?_) (fun h => False.elim (by revert h; decide))
  refine W.iconst 0 d0_376 rfl ?_
  refine W.iadd d0_377 ?_
  refine W.iload d0_378 rfl ?_
  refine W.if_eq d0_380 (fun h380 => ?_) (fun h => False.elim (by revert h; decide))
  refine W.iconst 0 d0_387 rfl ?_
  refine W.iadd d0_388 ?_
  refine W.istore d0_389 rfl ?_
  refine W.more (ce' := 9) (sl' := 30) (by decide) (by decide) ?_
  exact sufA hw a b v _ _ _ _ _ _ r x ((((((1 + 1) + 1) + 0) + 0) + 0) + 0) 3 1 5 (-1) (-1) (-1) (-1) (.ref 2) (((0 + 1) + 1) + 1) [(0, .ref 3, .ref 4), ((-1000), .null, .null), (1000, .null, .null)] (by unfold own_ok; decide) rfl (chk6 x)
set_option maxRecDepth 65536 in
set_option maxHeartbeats 40000000 in
theorem pre7 {l : Launch} {Z : State} {a0 : Array Value} {n : Nat} (hw : ∀ d ∈ tables_1, d.before a0 Z = true) (a b v r x : Int32) : W l Z n m0 123 [(.val (.int (a))), (.val (.int (b))), (.val (.int (v))), (.val (.int (1))), (.val (.int (0))), (.val (.int (0))), (.val (.int (1))), (.val (.int (0))), (.val (.int (1))), (.val (.int (r))), .unset, .unset, .unset, .unset, .unset, .unset, .unset, .unset, .unset, .unset, .unset, .unset, .unset] [.int x] [] 0 0 (fun v _ => v = some (.int 1)) := by
  refine W.istore d0_123 rfl ?_
  refine W.bipush 7 d0_125 rfl ?_
  refine W.newarray (N := 0) (cnt := 7) (cap := 7) d0_127 (hw _ (wd 5 rfl)) ⟨by decide, by decide⟩ rfl (Nat.le_refl _) (by decide) (by decide) (by decide) ?_
  refine W.astore d0_129 rfl rfl ?_
  refine W.new (N := 1) d0_131 (hw _ (wd 6 rfl)) (okc0 hw) rfl (by decide) (by decide) ?_
  refine W.dup d0_134 rfl ?_
  refine W.initN (M' := m2) d0_135 rfl rfl (hw _ (wd 9 rfl)) (hw _ (wd 10 rfl)) (c2_0 hw) (ok2 hw) rfl rfl rfl ?_
  refine W.astore d0_138 rfl rfl ?_
  refine W.aload d0_140 rfl rfl ?_
  refine W.iconst 3 d0_142 rfl ?_
  refine W.callsV (M' := m1) d0_143 (hw _ (wd 1 rfl)) (hw _ (wd 2 rfl)) (w1 hw 3 _) (ok1 hw) rfl rfl rfl ?_
  refine W.callvN (M' := m4) d0_146 (hw _ (wd 15 rfl)) (hw _ (wd 16 rfl)) (hw _ (wd 17 rfl)) (hw _ (wd 18 rfl)) (w4a hw (own_key 3) [0, 0, 0, 0, 0, 0, 0] 0 []) (ok4 hw) rfl rfl rfl rfl ?_
  refine W.iloadN d0_149 rfl ?_
  refine W.if_eq d0_150 (fun h => False.elim (by revert h; decide)) (fun h150 => ?_)
  refine W.aload d0_153 rfl rfl ?_
  refine W.iconst 1 d0_155 rfl ?_
  refine W.callsV (M' := m1) d0_156 (hw _ (wd 1 rfl)) (hw _ (wd 2 rfl)) (w1 hw 1 _) (ok1 hw) rfl rfl rfl ?_
  refine W.callvN (M' := m4) d0_159 (hw _ (wd 15 rfl)) (hw _ (wd 16 rfl)) (hw _ (wd 17 rfl)) (hw _ (wd 18 rfl)) (w4b hw (own_key 1) [0, 0, 0, 0, 0, 0, 0] (0 + 1) [(0, .null, .null)] [(0, .ref 3, .null), ((-1000), .null, .null)] 2 (by unfold own_ok; decide) (by decide +kernel)) (ok4 hw) rfl rfl rfl rfl ?_
  refine W.iload d0_162 rfl ?_
  refine W.if_eq d0_164 (fun h => False.elim (by revert h; decide)) (fun h164 => ?_)
  refine W.aload d0_167 rfl rfl ?_
  refine W.iconst 5 d0_169 rfl ?_
  refine W.callsV (M' := m1) d0_170 (hw _ (wd 1 rfl)) (hw _ (wd 2 rfl)) (w1 hw 5 _) (ok1 hw) rfl rfl rfl ?_
  refine W.callvN (M' := m4) d0_173 (hw _ (wd 15 rfl)) (hw _ (wd 16 rfl)) (hw _ (wd 17 rfl)) (hw _ (wd 18 rfl)) (w4b hw (own_key 5) [0, 0, 0, 0, 0, 0, 0] ((0 + 1) + 1) [(0, .ref 3, .null), ((-1000), .null, .null)] [(0, .ref 3, .ref 4), ((-1000), .null, .null), (1000, .null, .null)] 2 (by unfold own_ok; decide) (by decide +kernel)) (ok4 hw) rfl rfl rfl rfl ?_
  refine W.iload d0_176 rfl ?_
  refine W.if_eq d0_178 (fun h178 => ?_) (fun h => False.elim (by revert h; decide))
  refine W.iload d0_190 rfl ?_
  refine W.if_eq d0_192 (fun h192 => ?_) (fun h => False.elim (by revert h; decide))
  refine W.iload d0_204 rfl ?_
  refine W.if_eq d0_206 (fun h206 => ?_) (fun h => False.elim (by revert h; decide))
  refine W.iload d0_218 rfl ?_
  refine W.if_eq d0_220 (fun h => False.elim (by revert h; decide)) (fun h220 => ?_)
  refine W.aload d0_223 rfl rfl ?_
  refine W.bipush 6 d0_225 rfl ?_
  refine W.callsV (M' := m1) d0_227 (hw _ (wd 1 rfl)) (hw _ (wd 2 rfl)) (w1 hw 6 _) (ok1 hw) rfl rfl rfl ?_
  refine W.callvN (M' := m4) d0_230 (hw _ (wd 15 rfl)) (hw _ (wd 16 rfl)) (hw _ (wd 17 rfl)) (hw _ (wd 18 rfl)) (w4b hw (own_key 6) [0, 0, 0, 0, 0, 0, 0] (((0 + 1) + 1) + 1) [(0, .ref 3, .ref 4), ((-1000), .null, .null), (1000, .null, .null)] [(0, .ref 3, .ref 4), ((-1000), .null, .null), (1000, .null, .ref 5), (2147483647, .null, .null)] 2 (by unfold own_ok; decide) (by decide +kernel)) (ok4 hw) rfl rfl rfl rfl ?_
  refine W.aload d0_233 rfl rfl ?_
  refine W.iconst 0 d0_235 rfl ?_
  refine W.iconst 3 d0_236 rfl ?_
  refine W.iastore (i := 0) d0_237 rfl ⟨by decide, by decide⟩ (by simp) ?_
  refine W.aload d0_238 rfl rfl ?_
  refine W.iconst 1 d0_240 rfl ?_
  refine W.iloadN d0_241 rfl ?_
  refine W.if_eq d0_242 (fun h => False.elim (by revert h; decide)) (fun h242 => ?_)
  refine W.iconst 1 d0_245 rfl ?_
  refine W.goto d0_246 ?_
  refine W.iastore (i := 1) d0_250 rfl ⟨by decide, by decide⟩ (by simp) ?_
  refine W.aload d0_251 rfl rfl ?_
  refine W.iconst 2 d0_253 rfl ?_
  refine W.iload d0_254 rfl ?_
  refine W.if_eq d0_256 (fun h => False.elim (by revert h; decide)) (fun h256 => ?_)
  refine W.iconst 5 d0_259 rfl ?_
  refine W.goto d0_260 ?_
  refine W.iastore (i := 2) d0_264 rfl ⟨by decide, by decide⟩ (by simp) ?_
  refine W.aload d0_265 rfl rfl ?_
  refine W.iconst 3 d0_267 rfl ?_
  refine W.iload d0_268 rfl ?_
  refine W.if_eq d0_270 (fun h270 => ?_) (fun h => False.elim (by revert h; decide))
  refine W.iconst (-1) d0_277 rfl ?_
  refine W.iastore (i := 3) d0_278 rfl ⟨by decide, by decide⟩ (by simp) ?_
  refine W.aload d0_279 rfl rfl ?_
  refine W.iconst 4 d0_281 rfl ?_
  refine W.iload d0_282 rfl ?_
  refine W.if_eq d0_284 (fun h284 => ?_) (fun h => False.elim (by revert h; decide))
  refine W.iconst (-1) d0_291 rfl ?_
  refine W.iastore (i := 4) d0_292 rfl ⟨by decide, by decide⟩ (by simp) ?_
  refine W.aload d0_293 rfl rfl ?_
  refine W.iconst 5 d0_295 rfl ?_
  refine W.iload d0_296 rfl ?_
  refine W.if_eq d0_298 (fun h298 => ?_) (fun h => False.elim (by revert h; decide))
  refine W.iconst (-1) d0_305 rfl ?_
  refine W.iastore (i := 5) d0_306 rfl ⟨by decide, by decide⟩ (by simp) ?_
  refine W.aload d0_307 rfl rfl ?_
  refine W.bipush 6 d0_309 rfl ?_
  refine W.iload d0_311 rfl ?_
  refine W.if_eq d0_313 (fun h => False.elim (by revert h; decide)) (fun h313 => ?_)
  refine W.bipush 6 d0_316 rfl ?_
  refine W.goto d0_318 ?_
  refine W.iastore (i := 6) d0_322 rfl ⟨by decide, by decide⟩ (by simp) ?_
  refine W.iconst 1 d0_323 rfl ?_
  refine W.iloadN d0_324 rfl ?_
  refine W.if_eq d0_325 (fun h => False.elim (by revert h; decide)) (fun h325 => ?_)
  refine W.iconst 1 d0_328 rfl ?_
  refine W.goto d0_329 ?_
  refine W.iadd d0_333 ?_
  refine W.iload d0_334 rfl ?_
  refine W.if_eq d0_336 (fun h => False.elim (by revert h; decide)) (fun h336 => ?_)
  refine W.iconst 1 d0_339 rfl ?_
  refine W.goto d0_340 ?_
  refine W.iadd d0_344 ?_
  refine W.iload d0_345 rfl ?_
  refine W.if_eq d0_347 (fun h347 => ?_) (fun h => False.elim (by revert h; decide))
  refine W.iconst 0 d0_354 rfl ?_
  refine W.iadd d0_355 ?_
  refine W.iload d0_356 rfl ?_
  refine W.if_eq d0_358 (fun h358 => ?_) (fun h => False.elim (by revert h; decide))
  refine W.iconst 0 d0_365 rfl ?_
  refine W.iadd d0_366 ?_
  refine W.iload d0_367 rfl ?_
  refine W.if_eq d0_369 (fun h369 => ?_) (fun h => False.elim (by revert h; decide))
  refine W.iconst 0 d0_376 rfl ?_
  refine W.iadd d0_377 ?_
  refine W.iload d0_378 rfl ?_
  refine W.if_eq d0_380 (fun h => False.elim (by revert h; decide)) (fun h380 => ?_)
  refine W.iconst 1 d0_383 rfl ?_
  refine W.goto d0_384 ?_
  refine W.iadd d0_388 ?_
  refine W.istore d0_389 rfl ?_
  refine W.more (ce' := 9) (sl' := 30) (by decide) (by decide) ?_
  exact sufA hw a b v _ _ _ _ _ _ r x ((((((1 + 1) + 1) + 0) + 0) + 0) + 1) 3 1 5 (-1) (-1) (-1) 6 (.ref 2) ((((0 + 1) + 1) + 1) + 1) [(0, .ref 3, .ref 4), ((-1000), .null, .null), (1000, .null, .ref 5), (2147483647, .null, .null)] (by unfold own_ok; decide) rfl (chk7 x)
set_option maxRecDepth 65536 in
set_option maxHeartbeats 40000000 in
theorem pre8 {l : Launch} {Z : State} {a0 : Array Value} {n : Nat} (hw : ∀ d ∈ tables_1, d.before a0 Z = true) (a b v r x : Int32) : W l Z n m0 123 [(.val (.int (a))), (.val (.int (b))), (.val (.int (v))), (.val (.int (1))), (.val (.int (0))), (.val (.int (0))), (.val (.int (1))), (.val (.int (1))), (.val (.int (0))), (.val (.int (r))), .unset, .unset, .unset, .unset, .unset, .unset, .unset, .unset, .unset, .unset, .unset, .unset, .unset] [.int x] [] 0 0 (fun v _ => v = some (.int 1)) := by
  refine W.istore d0_123 rfl ?_
  refine W.bipush 7 d0_125 rfl ?_
  refine W.newarray (N := 0) (cnt := 7) (cap := 7) d0_127 (hw _ (wd 5 rfl)) ⟨by decide, by decide⟩ rfl (Nat.le_refl _) (by decide) (by decide) (by decide) ?_
  refine W.astore d0_129 rfl rfl ?_
  refine W.new (N := 1) d0_131 (hw _ (wd 6 rfl)) (okc0 hw) rfl (by decide) (by decide) ?_
  refine W.dup d0_134 rfl ?_
  refine W.initN (M' := m2) d0_135 rfl rfl (hw _ (wd 9 rfl)) (hw _ (wd 10 rfl)) (c2_0 hw) (ok2 hw) rfl rfl rfl ?_
  refine W.astore d0_138 rfl rfl ?_
  refine W.aload d0_140 rfl rfl ?_
  refine W.iconst 3 d0_142 rfl ?_
  refine W.callsV (M' := m1) d0_143 (hw _ (wd 1 rfl)) (hw _ (wd 2 rfl)) (w1 hw 3 _) (ok1 hw) rfl rfl rfl ?_
  refine W.callvN (M' := m4) d0_146 (hw _ (wd 15 rfl)) (hw _ (wd 16 rfl)) (hw _ (wd 17 rfl)) (hw _ (wd 18 rfl)) (w4a hw (own_key 3) [0, 0, 0, 0, 0, 0, 0] 0 []) (ok4 hw) rfl rfl rfl rfl ?_
  refine W.iloadN d0_149 rfl ?_
  refine W.if_eq d0_150 (fun h => False.elim (by revert h; decide)) (fun h150 => ?_)
  refine W.aload d0_153 rfl rfl ?_
  refine W.iconst 1 d0_155 rfl ?_
  refine W.callsV (M' := m1) d0_156 (hw _ (wd 1 rfl)) (hw _ (wd 2 rfl)) (w1 hw 1 _) (ok1 hw) rfl rfl rfl ?_
  refine W.callvN (M' := m4) d0_159 (hw _ (wd 15 rfl)) (hw _ (wd 16 rfl)) (hw _ (wd 17 rfl)) (hw _ (wd 18 rfl)) (w4b hw (own_key 1) [0, 0, 0, 0, 0, 0, 0] (0 + 1) [(0, .null, .null)] [(0, .ref 3, .null), ((-1000), .null, .null)] 2 (by unfold own_ok; decide) (by decide +kernel)) (ok4 hw) rfl rfl rfl rfl ?_
  refine W.iload d0_162 rfl ?_
  refine W.if_eq d0_164 (fun h => False.elim (by revert h; decide)) (fun h164 => ?_)
  refine W.aload d0_167 rfl rfl ?_
  refine W.iconst 5 d0_169 rfl ?_
  refine W.callsV (M' := m1) d0_170 (hw _ (wd 1 rfl)) (hw _ (wd 2 rfl)) (w1 hw 5 _) (ok1 hw) rfl rfl rfl ?_
  refine W.callvN (M' := m4) d0_173 (hw _ (wd 15 rfl)) (hw _ (wd 16 rfl)) (hw _ (wd 17 rfl)) (hw _ (wd 18 rfl)) (w4b hw (own_key 5) [0, 0, 0, 0, 0, 0, 0] ((0 + 1) + 1) [(0, .ref 3, .null), ((-1000), .null, .null)] [(0, .ref 3, .ref 4), ((-1000), .null, .null), (1000, .null, .null)] 2 (by unfold own_ok; decide) (by decide +kernel)) (ok4 hw) rfl rfl rfl rfl ?_
  refine W.iload d0_176 rfl ?_
  refine W.if_eq d0_178 (fun h178 => ?_) (fun h => False.elim (by revert h; decide))
  refine W.iload d0_190 rfl ?_
  refine W.if_eq d0_192 (fun h192 => ?_) (fun h => False.elim (by revert h; decide))
  refine W.iload d0_204 rfl ?_
  refine W.if_eq d0_206 (fun h => False.elim (by revert h; decide)) (fun h206 => ?_)
  refine W.aload d0_209 rfl rfl ?_
  refine W.iconst 4 d0_211 rfl ?_
  refine W.callsV (M' := m1) d0_212 (hw _ (wd 1 rfl)) (hw _ (wd 2 rfl)) (w1 hw 4 _) (ok1 hw) rfl rfl rfl ?_
  refine W.callvN (M' := m4) d0_215 (hw _ (wd 15 rfl)) (hw _ (wd 16 rfl)) (hw _ (wd 17 rfl)) (hw _ (wd 18 rfl)) (w4b hw (own_key 4) [0, 0, 0, 0, 0, 0, 0] (((0 + 1) + 1) + 1) [(0, .ref 3, .ref 4), ((-1000), .null, .null), (1000, .null, .null)] [(0, .ref 3, .ref 4), ((-1000), .null, .null), (1000, .ref 5, .null), (1, .null, .null)] 2 (by unfold own_ok; decide) (by decide +kernel)) (ok4 hw) rfl rfl rfl rfl ?_
  refine W.iload d0_218 rfl ?_
  refine W.if_eq d0_220 (fun h220 => ?_) (fun h => False.elim (by revert h; decide))
  refine W.aload d0_233 rfl rfl ?_
  refine W.iconst 0 d0_235 rfl ?_
  refine W.iconst 3 d0_236 rfl ?_
  refine W.iastore (i := 0) d0_237 rfl ⟨by decide, by decide⟩ (by simp) ?_
  refine W.aload d0_238 rfl rfl ?_
  refine W.iconst 1 d0_240 rfl ?_
  refine W.iloadN d0_241 rfl ?_
  refine W.if_eq d0_242 (fun h => False.elim (by revert h; decide)) (fun h242 => ?_)
  refine W.iconst 1 d0_245 rfl ?_
  refine W.goto d0_246 ?_
  refine W.iastore (i := 1) d0_250 rfl ⟨by decide, by decide⟩ (by simp) ?_
  refine W.aload d0_251 rfl rfl ?_
  refine W.iconst 2 d0_253 rfl ?_
  refine W.iload d0_254 rfl ?_
  refine W.if_eq d0_256 (fun h => False.elim (by revert h; decide)) (fun h256 => ?_)
  refine W.iconst 5 d0_259 rfl ?_
  refine W.goto d0_260 ?_
  refine W.iastore (i := 2) d0_264 rfl ⟨by decide, by decide⟩ (by simp) ?_
  refine W.aload d0_265 rfl rfl ?_
  refine W.iconst 3 d0_267 rfl ?_
  refine W.iload d0_268 rfl ?_
  refine W.if_eq d0_270 (fun h270 => ?_) (fun h => False.elim (by revert h; decide))
  refine W.iconst (-1) d0_277 rfl ?_
  refine W.iastore (i := 3) d0_278 rfl ⟨by decide, by decide⟩ (by simp) ?_
  refine W.aload d0_279 rfl rfl ?_
  refine W.iconst 4 d0_281 rfl ?_
  refine W.iload d0_282 rfl ?_
  refine W.if_eq d0_284 (fun h284 => ?_) (fun h => False.elim (by revert h; decide))
  refine W.iconst (-1) d0_291 rfl ?_
  refine W.iastore (i := 4) d0_292 rfl ⟨by decide, by decide⟩ (by simp) ?_
  refine W.aload d0_293 rfl rfl ?_
  refine W.iconst 5 d0_295 rfl ?_
  refine W.iload d0_296 rfl ?_
  refine W.if_eq d0_298 (fun h => False.elim (by revert h; decide)) (fun h298 => ?_)
  refine W.iconst 4 d0_301 rfl ?_
  refine W.goto d0_302 ?_
  refine W.iastore (i := 5) d0_306 rfl ⟨by decide, by decide⟩ (by simp) ?_
  refine W.aload d0_307 rfl rfl ?_
  refine W.bipush 6 d0_309 rfl ?_
  refine W.iload d0_311 rfl ?_
  refine W.if_eq d0_313 (fun h313 => ?_) (fun h => False.elim (by revert h; decide))
  refine W.iconst (-1) d0_321 rfl ?_
  refine W.iastore (i := 6) d0_322 rfl ⟨by decide, by decide⟩ (by simp) ?_
  refine W.iconst 1 d0_323 rfl ?_
  refine W.iloadN d0_324 rfl ?_
  refine W.if_eq d0_325 (fun h => False.elim (by revert h; decide)) (fun h325 => ?_)
  refine W.iconst 1 d0_328 rfl ?_
  refine W.goto d0_329 ?_
  refine W.iadd d0_333 ?_
  refine W.iload d0_334 rfl ?_
  refine W.if_eq d0_336 (fun h => False.elim (by revert h; decide)) (fun h336 => ?_)
  refine W.iconst 1 d0_339 rfl ?_
  refine W.goto d0_340 ?_
  refine W.iadd d0_344 ?_
  refine W.iload d0_345 rfl ?_
  refine W.if_eq d0_347 (fun h347 => ?_) (fun h => False.elim (by revert h; decide))
  refine W.iconst 0 d0_354 rfl ?_
  refine W.iadd d0_355 ?_
  refine W.iload d0_356 rfl ?_
  refine W.if_eq d0_358 (fun h358 => ?_) (fun h => False.elim (by revert h; decide))
  refine W.iconst 0 d0_365 rfl ?_
  refine W.iadd d0_366 ?_
  refine W.iload d0_367 rfl ?_
  refine W.if_eq d0_369 (fun h => False.elim (by revert h; decide)) (fun h369 => ?_)
  refine W.iconst 1 d0_372 rfl ?_
  refine W.goto d0_373 ?_
  refine W.iadd d0_377 ?_
  refine W.iload d0_378 rfl ?_
  refine W.if_eq d0_380 (fun h380 => ?_) (fun h => False.elim (by revert h; decide))
  refine W.iconst 0 d0_387 rfl ?_
  refine W.iadd d0_388 ?_
  refine W.istore d0_389 rfl ?_
  refine W.more (ce' := 9) (sl' := 30) (by decide) (by decide) ?_
  exact sufA hw a b v _ _ _ _ _ _ r x ((((((1 + 1) + 1) + 0) + 0) + 1) + 0) 3 1 5 (-1) (-1) 4 (-1) (.ref 2) ((((0 + 1) + 1) + 1) + 1) [(0, .ref 3, .ref 4), ((-1000), .null, .null), (1000, .ref 5, .null), (1, .null, .null)] (by unfold own_ok; decide) rfl (chk8 x)
set_option maxRecDepth 65536 in
set_option maxHeartbeats 40000000 in
theorem pre9 {l : Launch} {Z : State} {a0 : Array Value} {n : Nat} (hw : ∀ d ∈ tables_1, d.before a0 Z = true) (a b v r x : Int32) : W l Z n m0 123 [(.val (.int (a))), (.val (.int (b))), (.val (.int (v))), (.val (.int (1))), (.val (.int (0))), (.val (.int (0))), (.val (.int (1))), (.val (.int (1))), (.val (.int (1))), (.val (.int (r))), .unset, .unset, .unset, .unset, .unset, .unset, .unset, .unset, .unset, .unset, .unset, .unset, .unset] [.int x] [] 0 0 (fun v _ => v = some (.int 1)) := by
  refine W.istore d0_123 rfl ?_
  refine W.bipush 7 d0_125 rfl ?_
  refine W.newarray (N := 0) (cnt := 7) (cap := 7) d0_127 (hw _ (wd 5 rfl)) ⟨by decide, by decide⟩ rfl (Nat.le_refl _) (by decide) (by decide) (by decide) ?_
  refine W.astore d0_129 rfl rfl ?_
  refine W.new (N := 1) d0_131 (hw _ (wd 6 rfl)) (okc0 hw) rfl (by decide) (by decide) ?_
  refine W.dup d0_134 rfl ?_
  refine W.initN (M' := m2) d0_135 rfl rfl (hw _ (wd 9 rfl)) (hw _ (wd 10 rfl)) (c2_0 hw) (ok2 hw) rfl rfl rfl ?_
  refine W.astore d0_138 rfl rfl ?_
  refine W.aload d0_140 rfl rfl ?_
  refine W.iconst 3 d0_142 rfl ?_
  refine W.callsV (M' := m1) d0_143 (hw _ (wd 1 rfl)) (hw _ (wd 2 rfl)) (w1 hw 3 _) (ok1 hw) rfl rfl rfl ?_
  refine W.callvN (M' := m4) d0_146 (hw _ (wd 15 rfl)) (hw _ (wd 16 rfl)) (hw _ (wd 17 rfl)) (hw _ (wd 18 rfl)) (w4a hw (own_key 3) [0, 0, 0, 0, 0, 0, 0] 0 []) (ok4 hw) rfl rfl rfl rfl ?_
  refine W.iloadN d0_149 rfl ?_
  refine W.if_eq d0_150 (fun h => False.elim (by revert h; decide)) (fun h150 => ?_)
  refine W.aload d0_153 rfl rfl ?_
  refine W.iconst 1 d0_155 rfl ?_
  refine W.callsV (M' := m1) d0_156 (hw _ (wd 1 rfl)) (hw _ (wd 2 rfl)) (w1 hw 1 _) (ok1 hw) rfl rfl rfl ?_
  refine W.callvN (M' := m4) d0_159 (hw _ (wd 15 rfl)) (hw _ (wd 16 rfl)) (hw _ (wd 17 rfl)) (hw _ (wd 18 rfl)) (w4b hw (own_key 1) [0, 0, 0, 0, 0, 0, 0] (0 + 1) [(0, .null, .null)] [(0, .ref 3, .null), ((-1000), .null, .null)] 2 (by unfold own_ok; decide) (by decide +kernel)) (ok4 hw) rfl rfl rfl rfl ?_
  refine W.iload d0_162 rfl ?_
  refine W.if_eq d0_164 (fun h => False.elim (by revert h; decide)) (fun h164 => ?_)
  refine W.aload d0_167 rfl rfl ?_
  refine W.iconst 5 d0_169 rfl ?_
  refine W.callsV (M' := m1) d0_170 (hw _ (wd 1 rfl)) (hw _ (wd 2 rfl)) (w1 hw 5 _) (ok1 hw) rfl rfl rfl ?_
  refine W.callvN (M' := m4) d0_173 (hw _ (wd 15 rfl)) (hw _ (wd 16 rfl)) (hw _ (wd 17 rfl)) (hw _ (wd 18 rfl)) (w4b hw (own_key 5) [0, 0, 0, 0, 0, 0, 0] ((0 + 1) + 1) [(0, .ref 3, .null), ((-1000), .null, .null)] [(0, .ref 3, .ref 4), ((-1000), .null, .null), (1000, .null, .null)] 2 (by unfold own_ok; decide) (by decide +kernel)) (ok4 hw) rfl rfl rfl rfl ?_
  refine W.iload d0_176 rfl ?_
  refine W.if_eq d0_178 (fun h178 => ?_) (fun h => False.elim (by revert h; decide))
  refine W.iload d0_190 rfl ?_
  refine W.if_eq d0_192 (fun h192 => ?_) (fun h => False.elim (by revert h; decide))
  refine W.iload d0_204 rfl ?_
  refine W.if_eq d0_206 (fun h => False.elim (by revert h; decide)) (fun h206 => ?_)
  refine W.aload d0_209 rfl rfl ?_
  refine W.iconst 4 d0_211 rfl ?_
  refine W.callsV (M' := m1) d0_212 (hw _ (wd 1 rfl)) (hw _ (wd 2 rfl)) (w1 hw 4 _) (ok1 hw) rfl rfl rfl ?_
  refine W.callvN (M' := m4) d0_215 (hw _ (wd 15 rfl)) (hw _ (wd 16 rfl)) (hw _ (wd 17 rfl)) (hw _ (wd 18 rfl)) (w4b hw (own_key 4) [0, 0, 0, 0, 0, 0, 0] (((0 + 1) + 1) + 1) [(0, .ref 3, .ref 4), ((-1000), .null, .null), (1000, .null, .null)] [(0, .ref 3, .ref 4), ((-1000), .null, .null), (1000, .ref 5, .null), (1, .null, .null)] 2 (by unfold own_ok; decide) (by decide +kernel)) (ok4 hw) rfl rfl rfl rfl ?_
  refine W.iload d0_218 rfl ?_
  refine W.if_eq d0_220 (fun h => False.elim (by revert h; decide)) (fun h220 => ?_)
  refine W.aload d0_223 rfl rfl ?_
  refine W.bipush 6 d0_225 rfl ?_
  refine W.callsV (M' := m1) d0_227 (hw _ (wd 1 rfl)) (hw _ (wd 2 rfl)) (w1 hw 6 _) (ok1 hw) rfl rfl rfl ?_
  refine W.callvN (M' := m4) d0_230 (hw _ (wd 15 rfl)) (hw _ (wd 16 rfl)) (hw _ (wd 17 rfl)) (hw _ (wd 18 rfl)) (w4b hw (own_key 6) [0, 0, 0, 0, 0, 0, 0] ((((0 + 1) + 1) + 1) + 1) [(0, .ref 3, .ref 4), ((-1000), .null, .null), (1000, .ref 5, .null), (1, .null, .null)] [(0, .ref 3, .ref 4), ((-1000), .null, .null), (1000, .ref 5, .ref 6), (1, .null, .null), (2147483647, .null, .null)] 2 (by unfold own_ok; decide) (by decide +kernel)) (ok4 hw) rfl rfl rfl rfl ?_
  refine W.aload d0_233 rfl rfl ?_
  refine W.iconst 0 d0_235 rfl ?_
  refine W.iconst 3 d0_236 rfl ?_
  refine W.iastore (i := 0) d0_237 rfl ⟨by decide, by decide⟩ (by simp) ?_
  refine W.aload d0_238 rfl rfl ?_
  refine W.iconst 1 d0_240 rfl ?_
  refine W.iloadN d0_241 rfl ?_
  refine W.if_eq d0_242 (fun h => False.elim (by revert h; decide)) (fun h242 => ?_)
  refine W.iconst 1 d0_245 rfl ?_
  refine W.goto d0_246 ?_
  refine W.iastore (i := 1) d0_250 rfl ⟨by decide, by decide⟩ (by simp) ?_
  refine W.aload d0_251 rfl rfl ?_
  refine W.iconst 2 d0_253 rfl ?_
  refine W.iload d0_254 rfl ?_
  refine W.if_eq d0_256 (fun h => False.elim (by revert h; decide)) (fun h256 => ?_)
  refine W.iconst 5 d0_259 rfl ?_
  refine W.goto d0_260 ?_
  refine W.iastore (i := 2) d0_264 rfl ⟨by decide, by decide⟩ (by simp) ?_
  refine W.aload d0_265 rfl rfl ?_
  refine W.iconst 3 d0_267 rfl ?_
  refine W.iload d0_268 rfl ?_
  refine W.if_eq d0_270 (fun h270 => ?_) (fun h => False.elim (by revert h; decide))
  refine W.iconst (-1) d0_277 rfl ?_
  refine W.iastore (i := 3) d0_278 rfl ⟨by decide, by decide⟩ (by simp) ?_
  refine W.aload d0_279 rfl rfl ?_
  refine W.iconst 4 d0_281 rfl ?_
  refine W.iload d0_282 rfl ?_
  refine W.if_eq d0_284 (fun h284 => ?_) (fun h => False.elim (by revert h; decide))
  refine W.iconst (-1) d0_291 rfl ?_
  refine W.iastore (i := 4) d0_292 rfl ⟨by decide, by decide⟩ (by simp) ?_
  refine W.aload d0_293 rfl rfl ?_
  refine W.iconst 5 d0_295 rfl ?_
  refine W.iload d0_296 rfl ?_
  refine W.if_eq d0_298 (fun h => False.elim (by revert h; decide)) (fun h298 => ?_)
  refine W.iconst 4 d0_301 rfl ?_
  refine W.goto d0_302 ?_
  refine W.iastore (i := 5) d0_306 rfl ⟨by decide, by decide⟩ (by simp) ?_
  refine W.aload d0_307 rfl rfl ?_
  refine W.bipush 6 d0_309 rfl ?_
  refine W.iload d0_311 rfl ?_
  refine W.if_eq d0_313 (fun h => False.elim (by revert h; decide)) (fun h313 => ?_)
  refine W.bipush 6 d0_316 rfl ?_
  refine W.goto d0_318 ?_
  refine W.iastore (i := 6) d0_322 rfl ⟨by decide, by decide⟩ (by simp) ?_
  refine W.iconst 1 d0_323 rfl ?_
  refine W.iloadN d0_324 rfl ?_
  refine W.if_eq d0_325 (fun h => False.elim (by revert h; decide)) (fun h325 => ?_)
  refine W.iconst 1 d0_328 rfl ?_
  refine W.goto d0_329 ?_
  refine W.iadd d0_333 ?_
  refine W.iload d0_334 rfl ?_
  refine W.if_eq d0_336 (fun h => False.elim (by revert h; decide)) (fun h336 => ?_)
  refine W.iconst 1 d0_339 rfl ?_
  refine W.goto d0_340 ?_
  refine W.iadd d0_344 ?_
  refine W.iload d0_345 rfl ?_
  refine W.if_eq d0_347 (fun h347 => ?_) (fun h => False.elim (by revert h; decide))
  refine W.iconst 0 d0_354 rfl ?_
  refine W.iadd d0_355 ?_
  refine W.iload d0_356 rfl ?_
  refine W.if_eq d0_358 (fun h358 => ?_) (fun h => False.elim (by revert h; decide))
  refine W.iconst 0 d0_365 rfl ?_
  refine W.iadd d0_366 ?_
  refine W.iload d0_367 rfl ?_
  refine W.if_eq d0_369 (fun h => False.elim (by revert h; decide)) (fun h369 => ?_)
  refine W.iconst 1 d0_372 rfl ?_
  refine W.goto d0_373 ?_
  refine W.iadd d0_377 ?_
  refine W.iload d0_378 rfl ?_
  refine W.if_eq d0_380 (fun h => False.elim (by revert h; decide)) (fun h380 => ?_)
  refine W.iconst 1 d0_383 rfl ?_
  refine W.goto d0_384 ?_
  refine W.iadd d0_388 ?_
  refine W.istore d0_389 rfl ?_
  refine W.more (ce' := 9) (sl' := 30) (by decide) (by decide) ?_
  exact sufA hw a b v _ _ _ _ _ _ r x ((((((1 + 1) + 1) + 0) + 0) + 1) + 1) 3 1 5 (-1) (-1) 4 6 (.ref 2) (((((0 + 1) + 1) + 1) + 1) + 1) [(0, .ref 3, .ref 4), ((-1000), .null, .null), (1000, .ref 5, .ref 6), (1, .null, .null), (2147483647, .null, .null)] (by unfold own_ok; decide) rfl (chk9 x)
set_option maxRecDepth 65536 in
set_option maxHeartbeats 40000000 in
theorem pre10 {l : Launch} {Z : State} {a0 : Array Value} {n : Nat} (hw : ∀ d ∈ tables_1, d.before a0 Z = true) (a b v r x : Int32) : W l Z n m0 123 [(.val (.int (a))), (.val (.int (b))), (.val (.int (v))), (.val (.int (1))), (.val (.int (0))), (.val (.int (1))), (.val (.int (0))), (.val (.int (0))), (.val (.int (0))), (.val (.int (r))), .unset, .unset, .unset, .unset, .unset, .unset, .unset, .unset, .unset, .unset, .unset, .unset, .unset] [.int x] [] 0 0 (fun v _ => v = some (.int 1)) := by
  refine W.istore d0_123 rfl ?_
  refine W.bipush 7 d0_125 rfl ?_
  refine W.newarray (N := 0) (cnt := 7) (cap := 7) d0_127 (hw _ (wd 5 rfl)) ⟨by decide, by decide⟩ rfl (Nat.le_refl _) (by decide) (by decide) (by decide) ?_
  refine W.astore d0_129 rfl rfl ?_
  refine W.new (N := 1) d0_131 (hw _ (wd 6 rfl)) (okc0 hw) rfl (by decide) (by decide) ?_
  refine W.dup d0_134 rfl ?_
  refine W.initN (M' := m2) d0_135 rfl rfl (hw _ (wd 9 rfl)) (hw _ (wd 10 rfl)) (c2_0 hw) (ok2 hw) rfl rfl rfl ?_
  refine W.astore d0_138 rfl rfl ?_
  refine W.aload d0_140 rfl rfl ?_
  refine W.iconst 3 d0_142 rfl ?_
  refine W.callsV (M' := m1) d0_143 (hw _ (wd 1 rfl)) (hw _ (wd 2 rfl)) (w1 hw 3 _) (ok1 hw) rfl rfl rfl ?_
  refine W.callvN (M' := m4) d0_146 (hw _ (wd 15 rfl)) (hw _ (wd 16 rfl)) (hw _ (wd 17 rfl)) (hw _ (wd 18 rfl)) (w4a hw (own_key 3) [0, 0, 0, 0, 0, 0, 0] 0 []) (ok4 hw) rfl rfl rfl rfl ?_
  refine W.iloadN d0_149 rfl ?_
  refine W.if_eq d0_150 (fun h => False.elim (by revert h; decide)) (fun h150 => ?_)
  refine W.aload d0_153 rfl rfl ?_
  refine W.iconst 1 d0_155 rfl ?_
  refine W.callsV (M' := m1) d0_156 (hw _ (wd 1 rfl)) (hw _ (wd 2 rfl)) (w1 hw 1 _) (ok1 hw) rfl rfl rfl ?_
  refine W.callvN (M' := m4) d0_159 (hw _ (wd 15 rfl)) (hw _ (wd 16 rfl)) (hw _ (wd 17 rfl)) (hw _ (wd 18 rfl)) (w4b hw (own_key 1) [0, 0, 0, 0, 0, 0, 0] (0 + 1) [(0, .null, .null)] [(0, .ref 3, .null), ((-1000), .null, .null)] 2 (by unfold own_ok; decide) (by decide +kernel)) (ok4 hw) rfl rfl rfl rfl ?_
  refine W.iload d0_162 rfl ?_
  refine W.if_eq d0_164 (fun h164 => ?_) (fun h => False.elim (by revert h; decide))
  refine W.iload d0_176 rfl ?_
  refine W.if_eq d0_178 (fun h178 => ?_) (fun h => False.elim (by revert h; decide))
  refine W.iload d0_190 rfl ?_
  refine W.if_eq d0_192 (fun h => False.elim (by revert h; decide)) (fun h192 => ?_)
  refine W.aload d0_195 rfl rfl ?_
  refine W.iconst 2 d0_197 rfl ?_
  refine W.callsV (M' := m1) d0_198 (hw _ (wd 1 rfl)) (hw _ (wd 2 rfl)) (w1 hw 2 _) (ok1 hw) rfl rfl rfl ?_
  refine W.callvN (M' := m4) d0_201 (hw _ (wd 15 rfl)) (hw _ (wd 16 rfl)) (hw _ (wd 17 rfl)) (hw _ (wd 18 rfl)) (w4b hw (own_key 2) [0, 0, 0, 0, 0, 0, 0] ((0 + 1) + 1) [(0, .ref 3, .null), ((-1000), .null, .null)] [(0, .ref 3, .null), ((-1000), .null, .ref 4), ((-1), .null, .null)] 2 (by unfold own_ok; decide) (by decide +kernel)) (ok4 hw) rfl rfl rfl rfl ?_
  refine W.iload d0_204 rfl ?_
  refine W.if_eq d0_206 (fun h206 => ?_) (fun h => False.elim (by revert h; decide))
  refine W.iload d0_218 rfl ?_
  refine W.if_eq d0_220 (fun h220 => ?_) (fun h => False.elim (by revert h; decide))
  refine W.aload d0_233 rfl rfl ?_
  refine W.iconst 0 d0_235 rfl ?_
  refine W.iconst 3 d0_236 rfl ?_
  refine W.iastore (i := 0) d0_237 rfl ⟨by decide, by decide⟩ (by simp) ?_
  refine W.aload d0_238 rfl rfl ?_
  refine W.iconst 1 d0_240 rfl ?_
  refine W.iloadN d0_241 rfl ?_
  refine W.if_eq d0_242 (fun h => False.elim (by revert h; decide)) (fun h242 => ?_)
  refine W.iconst 1 d0_245 rfl ?_
  refine W.goto d0_246 ?_
  refine W.iastore (i := 1) d0_250 rfl ⟨by decide, by decide⟩ (by simp) ?_
  refine W.aload d0_251 rfl rfl ?_
  refine W.iconst 2 d0_253 rfl ?_
  refine W.iload d0_254 rfl ?_
  refine W.if_eq d0_256 (fun h256 => ?_) (fun h => False.elim (by revert h; decide))
  refine W.iconst (-1) d0_263 rfl ?_
  refine W.iastore (i := 2) d0_264 rfl ⟨by decide, by decide⟩ (by simp) ?_
  refine W.aload d0_265 rfl rfl ?_
  refine W.iconst 3 d0_267 rfl ?_
  refine W.iload d0_268 rfl ?_
  refine W.if_eq d0_270 (fun h270 => ?_) (fun h => False.elim (by revert h; decide))
  refine W.iconst (-1) d0_277 rfl ?_
  refine W.iastore (i := 3) d0_278 rfl ⟨by decide, by decide⟩ (by simp) ?_
  refine W.aload d0_279 rfl rfl ?_
  refine W.iconst 4 d0_281 rfl ?_
  refine W.iload d0_282 rfl ?_
  refine W.if_eq d0_284 (fun h => False.elim (by revert h; decide)) (fun h284 => ?_)
  refine W.iconst 2 d0_287 rfl ?_
  refine W.goto d0_288 ?_
  refine W.iastore (i := 4) d0_292 rfl ⟨by decide, by decide⟩ (by simp) ?_
  refine W.aload d0_293 rfl rfl ?_
  refine W.iconst 5 d0_295 rfl ?_
  refine W.iload d0_296 rfl ?_
  refine W.if_eq d0_298 (fun h298 => ?_) (fun h => False.elim (by revert h; decide))
  refine W.iconst (-1) d0_305 rfl ?_
  refine W.iastore (i := 5) d0_306 rfl ⟨by decide, by decide⟩ (by simp) ?_
  refine W.aload d0_307 rfl rfl ?_
  refine W.bipush 6 d0_309 rfl ?_
  refine W.iload d0_311 rfl ?_
  refine W.if_eq d0_313 (fun h313 => ?_) (fun h => False.elim (by revert h; decide))
  refine W.iconst (-1) d0_321 rfl ?_
  refine W.iastore (i := 6) d0_322 rfl ⟨by decide, by decide⟩ (by simp) ?_
  refine W.iconst 1 d0_323 rfl ?_
  refine W.iloadN d0_324 rfl ?_
  refine W.if_eq d0_325 (fun h => False.elim (by revert h; decide)) (fun h325 => ?_)
  refine W.iconst 1 d0_328 rfl ?_
  refine W.goto d0_329 ?_
  refine W.iadd d0_333 ?_
  refine W.iload d0_334 rfl ?_
  refine W.if_eq d0_336 (fun h336 => ?_) (fun h => False.elim (by revert h; decide))
  refine W.iconst 0 d0_343 rfl ?_
  refine W.iadd d0_344 ?_
  refine W.iload d0_345 rfl ?_
  refine W.if_eq d0_347 (fun h347 => ?_) (fun h => False.elim (by revert h; decide))
  refine W.iconst 0 d0_354 rfl ?_
  refine W.iadd d0_355 ?_
  refine W.iload d0_356 rfl ?_
  refine W.if_eq d0_358 (fun h => False.elim (by revert h; decide)) (fun h358 => ?_)
  refine W.iconst 1 d0_361 rfl ?_
  refine W.goto d0_362 ?_
  refine W.iadd d0_366 ?_
  refine W.iload d0_367 rfl ?_
  refine W.if_eq d0_369 (fun h369 => ?_) (fun h => False.elim (by revert h; decide))
  refine W.iconst 0 d0_376 rfl ?_
  refine W.iadd d0_377 ?_
  refine W.iload d0_378 rfl ?_
  refine W.if_eq d0_380 (fun h380 => ?_) (fun h => False.elim (by revert h; decide))
  refine W.iconst 0 d0_387 rfl ?_
  refine W.iadd d0_388 ?_
  refine W.istore d0_389 rfl ?_
  refine W.more (ce' := 9) (sl' := 30) (by decide) (by decide) ?_
  exact sufA hw a b v _ _ _ _ _ _ r x ((((((1 + 1) + 0) + 0) + 1) + 0) + 0) 3 1 (-1) (-1) 2 (-1) (-1) (.ref 2) (((0 + 1) + 1) + 1) [(0, .ref 3, .null), ((-1000), .null, .ref 4), ((-1), .null, .null)] (by unfold own_ok; decide) rfl (chk10 x)
set_option maxRecDepth 65536 in
set_option maxHeartbeats 40000000 in
theorem pre11 {l : Launch} {Z : State} {a0 : Array Value} {n : Nat} (hw : ∀ d ∈ tables_1, d.before a0 Z = true) (a b v r x : Int32) : W l Z n m0 123 [(.val (.int (a))), (.val (.int (b))), (.val (.int (v))), (.val (.int (1))), (.val (.int (0))), (.val (.int (1))), (.val (.int (1))), (.val (.int (0))), (.val (.int (0))), (.val (.int (r))), .unset, .unset, .unset, .unset, .unset, .unset, .unset, .unset, .unset, .unset, .unset, .unset, .unset] [.int x] [] 0 0 (fun v _ => v = some (.int 1)) := by
  refine W.istore d0_123 rfl ?_
  refine W.bipush 7 d0_125 rfl ?_
  refine W.newarray (N := 0) (cnt := 7) (cap := 7) d0_127 (hw _ (wd 5 rfl)) ⟨by decide, by decide⟩ rfl (Nat.le_refl _) (by decide) (by decide) (by decide) ?_
  refine W.astore d0_129 rfl rfl ?_
  refine W.new (N := 1) d0_131 (hw _ (wd 6 rfl)) (okc0 hw) rfl (by decide) (by decide) ?_
  refine W.dup d0_134 rfl ?_
  refine W.initN (M' := m2) d0_135 rfl rfl (hw _ (wd 9 rfl)) (hw _ (wd 10 rfl)) (c2_0 hw) (ok2 hw) rfl rfl rfl ?_
  refine W.astore d0_138 rfl rfl ?_
  refine W.aload d0_140 rfl rfl ?_
  refine W.iconst 3 d0_142 rfl ?_
  refine W.callsV (M' := m1) d0_143 (hw _ (wd 1 rfl)) (hw _ (wd 2 rfl)) (w1 hw 3 _) (ok1 hw) rfl rfl rfl ?_
  refine W.callvN (M' := m4) d0_146 (hw _ (wd 15 rfl)) (hw _ (wd 16 rfl)) (hw _ (wd 17 rfl)) (hw _ (wd 18 rfl)) (w4a hw (own_key 3) [0, 0, 0, 0, 0, 0, 0] 0 []) (ok4 hw) rfl rfl rfl rfl ?_
  refine W.iloadN d0_149 rfl ?_
  refine W.if_eq d0_150 (fun h => False.elim (by revert h; decide)) (fun h150 => ?_)
  refine W.aload d0_153 rfl rfl ?_
  refine W.iconst 1 d0_155 rfl ?_
  refine W.callsV (M' := m1) d0_156 (hw _ (wd 1 rfl)) (hw _ (wd 2 rfl)) (w1 hw 1 _) (ok1 hw) rfl rfl rfl ?_
  refine W.callvN (M' := m4) d0_159 (hw _ (wd 15 rfl)) (hw _ (wd 16 rfl)) (hw _ (wd 17 rfl)) (hw _ (wd 18 rfl)) (w4b hw (own_key 1) [0, 0, 0, 0, 0, 0, 0] (0 + 1) [(0, .null, .null)] [(0, .ref 3, .null), ((-1000), .null, .null)] 2 (by unfold own_ok; decide) (by decide +kernel)) (ok4 hw) rfl rfl rfl rfl ?_
  refine W.iload d0_162 rfl ?_
  refine W.if_eq d0_164 (fun h => False.elim (by revert h; decide)) (fun h164 => ?_)
  refine W.aload d0_167 rfl rfl ?_
  refine W.iconst 5 d0_169 rfl ?_
  refine W.callsV (M' := m1) d0_170 (hw _ (wd 1 rfl)) (hw _ (wd 2 rfl)) (w1 hw 5 _) (ok1 hw) rfl rfl rfl ?_
  refine W.callvN (M' := m4) d0_173 (hw _ (wd 15 rfl)) (hw _ (wd 16 rfl)) (hw _ (wd 17 rfl)) (hw _ (wd 18 rfl)) (w4b hw (own_key 5) [0, 0, 0, 0, 0, 0, 0] ((0 + 1) + 1) [(0, .ref 3, .null), ((-1000), .null, .null)] [(0, .ref 3, .ref 4), ((-1000), .null, .null), (1000, .null, .null)] 2 (by unfold own_ok; decide) (by decide +kernel)) (ok4 hw) rfl rfl rfl rfl ?_
  refine W.iload d0_176 rfl ?_
  refine W.if_eq d0_178 (fun h178 => ?_) (fun h => False.elim (by revert h; decide))
  refine W.iload d0_190 rfl ?_
  refine W.if_eq d0_192 (fun h => False.elim (by revert h; decide)) (fun h192 => ?_)
  refine W.aload d0_195 rfl rfl ?_
  refine W.iconst 2 d0_197 rfl ?_
  refine W.callsV (M' := m1) d0_198 (hw _ (wd 1 rfl)) (hw _ (wd 2 rfl)) (w1 hw 2 _) (ok1 hw) rfl rfl rfl ?_
  refine W.callvN (M' := m4) d0_201 (hw _ (wd 15 rfl)) (hw _ (wd 16 rfl)) (hw _ (wd 17 rfl)) (hw _ (wd 18 rfl)) (w4b hw (own_key 2) [0, 0, 0, 0, 0, 0, 0] (((0 + 1) + 1) + 1) [(0, .ref 3, .ref 4), ((-1000), .null, .null), (1000, .null, .null)] [(0, .ref 3, .ref 4), ((-1000), .null, .ref 5), (1000, .null, .null), ((-1), .null, .null)] 2 (by unfold own_ok; decide) (by decide +kernel)) (ok4 hw) rfl rfl rfl rfl ?_
  refine W.iload d0_204 rfl ?_
  refine W.if_eq d0_206 (fun h206 => ?_) (fun h => False.elim (by revert h; decide))
  refine W.iload d0_218 rfl ?_
  refine W.if_eq d0_220 (fun h220 => ?_) (fun h => False.elim (by revert h; decide))
  refine W.aload d0_233 rfl rfl ?_
  refine W.iconst 0 d0_235 rfl ?_
  refine W.iconst 3 d0_236 rfl ?_
  refine W.iastore (i := 0) d0_237 rfl ⟨by decide, by decide⟩ (by simp) ?_
  refine W.aload d0_238 rfl rfl ?_
  refine W.iconst 1 d0_240 rfl ?_
  refine W.iloadN d0_241 rfl ?_
  refine W.if_eq d0_242 (fun h => False.elim (by revert h; decide)) (fun h242 => ?_)
  refine W.iconst 1 d0_245 rfl ?_
  refine W.goto d0_246 ?_
  refine W.iastore (i := 1) d0_250 rfl ⟨by decide, by decide⟩ (by simp) ?_
  refine W.aload d0_251 rfl rfl ?_
  refine W.iconst 2 d0_253 rfl ?_
  refine W.iload d0_254 rfl ?_
  refine W.if_eq d0_256 (fun h => False.elim (by revert h; decide)) (fun h256 => ?_)
  refine W.iconst 5 d0_259 rfl ?_
  refine W.goto d0_260 ?_
  refine W.iastore (i := 2) d0_264 rfl ⟨by decide, by decide⟩ (by simp) ?_
  refine W.aload d0_265 rfl rfl ?_
  refine W.iconst 3 d0_267 rfl ?_
  refine W.iload d0_268 rfl ?_
  refine W.if_eq d0_270 (fun h270 => ?_) (fun h => False.elim (by revert h; decide))
  refine W.iconst (-1) d0_277 rfl ?_
  refine W.iastore (i := 3) d0_278 rfl ⟨by decide, by decide⟩ (by simp) ?_
  refine W.aload d0_279 rfl rfl ?_
  refine W.iconst 4 d0_281 rfl ?_
  refine W.iload d0_282 rfl ?_
  refine W.if_eq d0_284 (fun h => False.elim (by revert h; decide)) (fun h284 => ?_)
  refine W.iconst 2 d0_287 rfl ?_
  refine W.goto d0_288 ?_
  refine W.iastore (i := 4) d0_292 rfl ⟨by decide, by decide⟩ (by simp) ?_
  refine W.aload d0_293 rfl rfl ?_
  refine W.iconst 5 d0_295 rfl ?_
  refine W.iload d0_296 rfl ?_
  refine W.if_eq d0_298 (fun h298 => ?_) (fun h => False.elim (by revert h; decide))
  refine W.iconst (-1) d0_305 rfl ?_
  refine W.iastore (i := 5) d0_306 rfl ⟨by decide, by decide⟩ (by simp) ?_
  refine W.aload d0_307 rfl rfl ?_
  refine W.bipush 6 d0_309 rfl ?_
  refine W.iload d0_311 rfl ?_
  refine W.if_eq d0_313 (fun h313 => ?_) (fun h => False.elim (by revert h; decide))
  refine W.iconst (-1) d0_321 rfl ?_
  refine W.iastore (i := 6) d0_322 rfl ⟨by decide, by decide⟩ (by simp) ?_
  refine W.iconst 1 d0_323 rfl ?_
  refine W.iloadN d0_324 rfl ?_
  refine W.if_eq d0_325 (fun h => False.elim (by revert h; decide)) (fun h325 => ?_)
  refine W.iconst 1 d0_328 rfl ?_
  refine W.goto d0_329 ?_
  refine W.iadd d0_333 ?_
  refine W.iload d0_334 rfl ?_
  refine W.if_eq d0_336 (fun h => False.elim (by revert h; decide)) (fun h336 => ?_)
  refine W.iconst 1 d0_339 rfl ?_
  refine W.goto d0_340 ?_
  refine W.iadd d0_344 ?_
  refine W.iload d0_345 rfl ?_
  refine W.if_eq d0_347 (fun h347 => ?_) (fun h => False.elim (by revert h; decide))
  refine W.iconst 0 d0_354 rfl ?_
  refine W.iadd d0_355 ?_
  refine W.iload d0_356 rfl ?_
  refine W.if_eq d0_358 (fun h => False.elim (by revert h; decide)) (fun h358 => ?_)
  refine W.iconst 1 d0_361 rfl ?_
  refine W.goto d0_362 ?_
  refine W.iadd d0_366 ?_
  refine W.iload d0_367 rfl ?_
  refine W.if_eq d0_369 (fun h369 => ?_) (fun h => False.elim (by revert h; decide))
  refine W.iconst 0 d0_376 rfl ?_
  refine W.iadd d0_377 ?_
  refine W.iload d0_378 rfl ?_
  refine W.if_eq d0_380 (fun h380 => ?_) (fun h => False.elim (by revert h; decide))
  refine W.iconst 0 d0_387 rfl ?_
  refine W.iadd d0_388 ?_
  refine W.istore d0_389 rfl ?_
  refine W.more (ce' := 9) (sl' := 30) (by decide) (by decide) ?_
  exact sufA hw a b v _ _ _ _ _ _ r x ((((((1 + 1) + 1) + 0) + 1) + 0) + 0) 3 1 5 (-1) 2 (-1) (-1) (.ref 2) ((((0 + 1) + 1) + 1) + 1) [(0, .ref 3, .ref 4), ((-1000), .null, .ref 5), (1000, .null, .null), ((-1), .null, .null)] (by unfold own_ok; decide) rfl (chk11 x)
set_option maxRecDepth 65536 in
set_option maxHeartbeats 40000000 in
theorem pre12 {l : Launch} {Z : State} {a0 : Array Value} {n : Nat} (hw : ∀ d ∈ tables_1, d.before a0 Z = true) (a b v r x : Int32) : W l Z n m0 123 [(.val (.int (a))), (.val (.int (b))), (.val (.int (v))), (.val (.int (1))), (.val (.int (0))), (.val (.int (1))), (.val (.int (1))), (.val (.int (0))), (.val (.int (1))), (.val (.int (r))), .unset, .unset, .unset, .unset, .unset, .unset, .unset, .unset, .unset, .unset, .unset, .unset, .unset] [.int x] [] 0 0 (fun v _ => v = some (.int 1)) := by
  refine W.istore d0_123 rfl ?_
  refine W.bipush 7 d0_125 rfl ?_
  refine W.newarray (N := 0) (cnt := 7) (cap := 7) d0_127 (hw _ (wd 5 rfl)) ⟨by decide, by decide⟩ rfl (Nat.le_refl _) (by decide) (by decide) (by decide) ?_
  refine W.astore d0_129 rfl rfl ?_
  refine W.new (N := 1) d0_131 (hw _ (wd 6 rfl)) (okc0 hw) rfl (by decide) (by decide) ?_
  refine W.dup d0_134 rfl ?_
  refine W.initN (M' := m2) d0_135 rfl rfl (hw _ (wd 9 rfl)) (hw _ (wd 10 rfl)) (c2_0 hw) (ok2 hw) rfl rfl rfl ?_
  refine W.astore d0_138 rfl rfl ?_
  refine W.aload d0_140 rfl rfl ?_
  refine W.iconst 3 d0_142 rfl ?_
  refine W.callsV (M' := m1) d0_143 (hw _ (wd 1 rfl)) (hw _ (wd 2 rfl)) (w1 hw 3 _) (ok1 hw) rfl rfl rfl ?_
  refine W.callvN (M' := m4) d0_146 (hw _ (wd 15 rfl)) (hw _ (wd 16 rfl)) (hw _ (wd 17 rfl)) (hw _ (wd 18 rfl)) (w4a hw (own_key 3) [0, 0, 0, 0, 0, 0, 0] 0 []) (ok4 hw) rfl rfl rfl rfl ?_
  refine W.iloadN d0_149 rfl ?_
  refine W.if_eq d0_150 (fun h => False.elim (by revert h; decide)) (fun h150 => ?_)
  refine W.aload d0_153 rfl rfl ?_
  refine W.iconst 1 d0_155 rfl ?_
  refine W.callsV (M' := m1) d0_156 (hw _ (wd 1 rfl)) (hw _ (wd 2 rfl)) (w1 hw 1 _) (ok1 hw) rfl rfl rfl ?_
  refine W.callvN (M' := m4) d0_159 (hw _ (wd 15 rfl)) (hw _ (wd 16 rfl)) (hw _ (wd 17 rfl)) (hw _ (wd 18 rfl)) (w4b hw (own_key 1) [0, 0, 0, 0, 0, 0, 0] (0 + 1) [(0, .null, .null)] [(0, .ref 3, .null), ((-1000), .null, .null)] 2 (by unfold own_ok; decide) (by decide +kernel)) (ok4 hw) rfl rfl rfl rfl ?_
  refine W.iload d0_162 rfl ?_
  refine W.if_eq d0_164 (fun h => False.elim (by revert h; decide)) (fun h164 => ?_)
  refine W.aload d0_167 rfl rfl ?_
  refine W.iconst 5 d0_169 rfl ?_
  refine W.callsV (M' := m1) d0_170 (hw _ (wd 1 rfl)) (hw _ (wd 2 rfl)) (w1 hw 5 _) (ok1 hw) rfl rfl rfl ?_
  refine W.callvN (M' := m4) d0_173 (hw _ (wd 15 rfl)) (hw _ (wd 16 rfl)) (hw _ (wd 17 rfl)) (hw _ (wd 18 rfl)) (w4b hw (own_key 5) [0, 0, 0, 0, 0, 0, 0] ((0 + 1) + 1) [(0, .ref 3, .null), ((-1000), .null, .null)] [(0, .ref 3, .ref 4), ((-1000), .null, .null), (1000, .null, .null)] 2 (by unfold own_ok; decide) (by decide +kernel)) (ok4 hw) rfl rfl rfl rfl ?_
  refine W.iload d0_176 rfl ?_
  refine W.if_eq d0_178 (fun h178 => ?_) (fun h => False.elim (by revert h; decide))
  refine W.iload d0_190 rfl ?_
  refine W.if_eq d0_192 (fun h => False.elim (by revert h; decide)) (fun h192 => ?_)
  refine W.aload d0_195 rfl rfl ?_
  refine W.iconst 2 d0_197 rfl ?_
  refine W.callsV (M' := m1) d0_198 (hw _ (wd 1 rfl)) (hw _ (wd 2 rfl)) (w1 hw 2 _) (ok1 hw) rfl rfl rfl ?_
  refine W.callvN (M' := m4) d0_201 (hw _ (wd 15 rfl)) (hw _ (wd 16 rfl)) (hw _ (wd 17 rfl)) (hw _ (wd 18 rfl)) (w4b hw (own_key 2) [0, 0, 0, 0, 0, 0, 0] (((0 + 1) + 1) + 1) [(0, .ref 3, .ref 4), ((-1000), .null, .null), (1000, .null, .null)] [(0, .ref 3, .ref 4), ((-1000), .null, .ref 5), (1000, .null, .null), ((-1), .null, .null)] 2 (by unfold own_ok; decide) (by decide +kernel)) (ok4 hw) rfl rfl rfl rfl ?_
  refine W.iload d0_204 rfl ?_
  refine W.if_eq d0_206 (fun h206 => ?_) (fun h => False.elim (by revert h; decide))
  refine W.iload d0_218 rfl ?_
  refine W.if_eq d0_220 (fun h => False.elim (by revert h; decide)) (fun h220 => ?_)
  refine W.aload d0_223 rfl rfl ?_
  refine W.bipush 6 d0_225 rfl ?_
  refine W.callsV (M' := m1) d0_227 (hw _ (wd 1 rfl)) (hw _ (wd 2 rfl)) (w1 hw 6 _) (ok1 hw) rfl rfl rfl ?_
  refine W.callvN (M' := m4) d0_230 (hw _ (wd 15 rfl)) (hw _ (wd 16 rfl)) (hw _ (wd 17 rfl)) (hw _ (wd 18 rfl)) (w4b hw (own_key 6) [0, 0, 0, 0, 0, 0, 0] ((((0 + 1) + 1) + 1) + 1) [(0, .ref 3, .ref 4), ((-1000), .null, .ref 5), (1000, .null, .null), ((-1), .null, .null)] [(0, .ref 3, .ref 4), ((-1000), .null, .ref 5), (1000, .null, .ref 6), ((-1), .null, .null), (2147483647, .null, .null)] 2 (by unfold own_ok; decide) (by decide +kernel)) (ok4 hw) rfl rfl rfl rfl ?_
  refine W.aload d0_233 rfl rfl ?_
  refine W.iconst 0 d0_235 rfl ?_
  refine W.iconst 3 d0_236 rfl ?_
  refine W.iastore (i := 0) d0_237 rfl ⟨by decide, by decide⟩ (by simp) ?_
  refine W.aload d0_238 rfl rfl ?_
  refine W.iconst 1 d0_240 rfl ?_
  refine W.iloadN d0_241 rfl ?_
  refine W.if_eq d0_242 (fun h => False.elim (by revert h; decide)) (fun h242 => ?_)
  refine W.iconst 1 d0_245 rfl ?_
  refine W.goto d0_246 ?_
  refine W.iastore (i := 1) d0_250 rfl ⟨by decide, by decide⟩ (by simp) ?_
  refine W.aload d0_251 rfl rfl ?_
  refine W.iconst 2 d0_253 rfl ?_
  refine W.iload d0_254 rfl ?_
  refine W.if_eq d0_256 (fun h => False.elim (by revert h; decide)) (fun h256 => ?_)
  refine W.iconst 5 d0_259 rfl ?_
  refine W.goto d0_260 ?_
  refine W.iastore (i := 2) d0_264 rfl ⟨by decide, by decide⟩ (by simp) ?_
  refine W.aload d0_265 rfl rfl ?_
  refine W.iconst 3 d0_267 rfl ?_
  refine W.iload d0_268 rfl ?_
  refine W.if_eq d0_270 (fun h270 => ?_) (fun h => False.elim (by revert h; decide))
  refine W.iconst (-1) d0_277 rfl ?_
  refine W.iastore (i := 3) d0_278 rfl ⟨by decide, by decide⟩ (by simp) ?_
  refine W.aload d0_279 rfl rfl ?_
  refine W.iconst 4 d0_281 rfl ?_
  refine W.iload d0_282 rfl ?_
  refine W.if_eq d0_284 (fun h => False.elim (by revert h; decide)) (fun h284 => ?_)
  refine W.iconst 2 d0_287 rfl ?_
  refine W.goto d0_288 ?_
  refine W.iastore (i := 4) d0_292 rfl ⟨by decide, by decide⟩ (by simp) ?_
  refine W.aload d0_293 rfl rfl ?_
  refine W.iconst 5 d0_295 rfl ?_
  refine W.iload d0_296 rfl ?_
  refine W.if_eq d0_298 (fun h298 => ?_) (fun h => False.elim (by revert h; decide))
  refine W.iconst (-1) d0_305 rfl ?_
  refine W.iastore (i := 5) d0_306 rfl ⟨by decide, by decide⟩ (by simp) ?_
  refine W.aload d0_307 rfl rfl ?_
  refine W.bipush 6 d0_309 rfl ?_
  refine W.iload d0_311 rfl ?_
  refine W.if_eq d0_313 (fun h => False.elim (by revert h; decide)) (fun h313 => ?_)
  refine W.bipush 6 d0_316 rfl ?_
  refine W.goto d0_318 ?_
  refine W.iastore (i := 6) d0_322 rfl ⟨by decide, by decide⟩ (by simp) ?_
  refine W.iconst 1 d0_323 rfl ?_
  refine W.iloadN d0_324 rfl ?_
  refine W.if_eq d0_325 (fun h => False.elim (by revert h; decide)) (fun h325 => ?_)
  refine W.iconst 1 d0_328 rfl ?_
  refine W.goto d0_329 ?_
  refine W.iadd d0_333 ?_
  refine W.iload d0_334 rfl ?_
  refine W.if_eq d0_336 (fun h => False.elim (by revert h; decide)) (fun h336 => ?_)
  refine W.iconst 1 d0_339 rfl ?_
  refine W.goto d0_340 ?_
  refine W.iadd d0_344 ?_
  refine W.iload d0_345 rfl ?_
  refine W.if_eq d0_347 (fun h347 => ?_) (fun h => False.elim (by revert h; decide))
  refine W.iconst 0 d0_354 rfl ?_
  refine W.iadd d0_355 ?_
  refine W.iload d0_356 rfl ?_
  refine W.if_eq d0_358 (fun h => False.elim (by revert h; decide)) (fun h358 => ?_)
  refine W.iconst 1 d0_361 rfl ?_
  refine W.goto d0_362 ?_
  refine W.iadd d0_366 ?_
  refine W.iload d0_367 rfl ?_
  refine W.if_eq d0_369 (fun h369 => ?_) (fun h => False.elim (by revert h; decide))
  refine W.iconst 0 d0_376 rfl ?_
  refine W.iadd d0_377 ?_
  refine W.iload d0_378 rfl ?_
  refine W.if_eq d0_380 (fun h => False.elim (by revert h; decide)) (fun h380 => ?_)
  refine W.iconst 1 d0_383 rfl ?_
  refine W.goto d0_384 ?_
  refine W.iadd d0_388 ?_
  refine W.istore d0_389 rfl ?_
  refine W.more (ce' := 9) (sl' := 30) (by decide) (by decide) ?_
  exact sufA hw a b v _ _ _ _ _ _ r x ((((((1 + 1) + 1) + 0) + 1) + 0) + 1) 3 1 5 (-1) 2 (-1) 6 (.ref 2) (((((0 + 1) + 1) + 1) + 1) + 1) [(0, .ref 3, .ref 4), ((-1000), .null, .ref 5), (1000, .null, .ref 6), ((-1), .null, .null), (2147483647, .null, .null)] (by unfold own_ok; decide) rfl (chk12 x)
set_option maxRecDepth 65536 in
set_option maxHeartbeats 40000000 in
theorem pre13 {l : Launch} {Z : State} {a0 : Array Value} {n : Nat} (hw : ∀ d ∈ tables_1, d.before a0 Z = true) (a b v r x : Int32) : W l Z n m0 123 [(.val (.int (a))), (.val (.int (b))), (.val (.int (v))), (.val (.int (1))), (.val (.int (0))), (.val (.int (1))), (.val (.int (1))), (.val (.int (1))), (.val (.int (0))), (.val (.int (r))), .unset, .unset, .unset, .unset, .unset, .unset, .unset, .unset, .unset, .unset, .unset, .unset, .unset] [.int x] [] 0 0 (fun v _ => v = some (.int 1)) := by
  refine W.istore d0_123 rfl ?_
  refine W.bipush 7 d0_125 rfl ?_
  refine W.newarray (N := 0) (cnt := 7) (cap := 7) d0_127 (hw _ (wd 5 rfl)) ⟨by decide, by decide⟩ rfl (Nat.le_refl _) (by decide) (by decide) (by decide) ?_
  refine W.astore d0_129 rfl rfl ?_
  refine W.new (N := 1) d0_131 (hw _ (wd 6 rfl)) (okc0 hw) rfl (by decide) (by decide) ?_
  refine W.dup d0_134 rfl ?_
  refine W.initN (M' := m2) d0_135 rfl rfl (hw _ (wd 9 rfl)) (hw _ (wd 10 rfl)) (c2_0 hw) (ok2 hw) rfl rfl rfl ?_
  refine W.astore d0_138 rfl rfl ?_
  refine W.aload d0_140 rfl rfl ?_
  refine W.iconst 3 d0_142 rfl ?_
  refine W.callsV (M' := m1) d0_143 (hw _ (wd 1 rfl)) (hw _ (wd 2 rfl)) (w1 hw 3 _) (ok1 hw) rfl rfl rfl ?_
  refine W.callvN (M' := m4) d0_146 (hw _ (wd 15 rfl)) (hw _ (wd 16 rfl)) (hw _ (wd 17 rfl)) (hw _ (wd 18 rfl)) (w4a hw (own_key 3) [0, 0, 0, 0, 0, 0, 0] 0 []) (ok4 hw) rfl rfl rfl rfl ?_
  refine W.iloadN d0_149 rfl ?_
  refine W.if_eq d0_150 (fun h => False.elim (by revert h; decide)) (fun h150 => ?_)
  refine W.aload d0_153 rfl rfl ?_
  refine W.iconst 1 d0_155 rfl ?_
  refine W.callsV (M' := m1) d0_156 (hw _ (wd 1 rfl)) (hw _ (wd 2 rfl)) (w1 hw 1 _) (ok1 hw) rfl rfl rfl ?_
  refine W.callvN (M' := m4) d0_159 (hw _ (wd 15 rfl)) (hw _ (wd 16 rfl)) (hw _ (wd 17 rfl)) (hw _ (wd 18 rfl)) (w4b hw (own_key 1) [0, 0, 0, 0, 0, 0, 0] (0 + 1) [(0, .null, .null)] [(0, .ref 3, .null), ((-1000), .null, .null)] 2 (by unfold own_ok; decide) (by decide +kernel)) (ok4 hw) rfl rfl rfl rfl ?_
  refine W.iload d0_162 rfl ?_
  refine W.if_eq d0_164 (fun h => False.elim (by revert h; decide)) (fun h164 => ?_)
  refine W.aload d0_167 rfl rfl ?_
  refine W.iconst 5 d0_169 rfl ?_
  refine W.callsV (M' := m1) d0_170 (hw _ (wd 1 rfl)) (hw _ (wd 2 rfl)) (w1 hw 5 _) (ok1 hw) rfl rfl rfl ?_
  refine W.callvN (M' := m4) d0_173 (hw _ (wd 15 rfl)) (hw _ (wd 16 rfl)) (hw _ (wd 17 rfl)) (hw _ (wd 18 rfl)) (w4b hw (own_key 5) [0, 0, 0, 0, 0, 0, 0] ((0 + 1) + 1) [(0, .ref 3, .null), ((-1000), .null, .null)] [(0, .ref 3, .ref 4), ((-1000), .null, .null), (1000, .null, .null)] 2 (by unfold own_ok; decide) (by decide +kernel)) (ok4 hw) rfl rfl rfl rfl ?_
  refine W.iload d0_176 rfl ?_
  refine W.if_eq d0_178 (fun h178 => ?_) (fun h => False.elim (by revert h; decide))
  refine W.iload d0_190 rfl ?_
  refine W.if_eq d0_192 (fun h => False.elim (by revert h; decide)) (fun h192 => ?_)
  refine W.aload d0_195 rfl rfl ?_
  refine W.iconst 2 d0_197 rfl ?_
  refine W.callsV (M' := m1) d0_198 (hw _ (wd 1 rfl)) (hw _ (wd 2 rfl)) (w1 hw 2 _) (ok1 hw) rfl rfl rfl ?_
  refine W.callvN (M' := m4) d0_201 (hw _ (wd 15 rfl)) (hw _ (wd 16 rfl)) (hw _ (wd 17 rfl)) (hw _ (wd 18 rfl)) (w4b hw (own_key 2) [0, 0, 0, 0, 0, 0, 0] (((0 + 1) + 1) + 1) [(0, .ref 3, .ref 4), ((-1000), .null, .null), (1000, .null, .null)] [(0, .ref 3, .ref 4), ((-1000), .null, .ref 5), (1000, .null, .null), ((-1), .null, .null)] 2 (by unfold own_ok; decide) (by decide +kernel)) (ok4 hw) rfl rfl rfl rfl ?_
  refine W.iload d0_204 rfl ?_
  refine W.if_eq d0_206 (fun h => False.elim (by revert h; decide)) (fun h206 => ?_)
  refine W.aload d0_209 rfl rfl ?_
  refine W.iconst 4 d0_211 rfl ?_
  refine W.callsV (M' := m1) d0_212 (hw _ (wd 1 rfl)) (hw _ (wd 2 rfl)) (w1 hw 4 _) (ok1 hw) rfl rfl rfl ?_
  refine W.callvN (M' := m4) d0_215 (hw _ (wd 15 rfl)) (hw _ (wd 16 rfl)) (hw _ (wd 17 rfl)) (hw _ (wd 18 rfl)) (w4b hw (own_key 4) [0, 0, 0, 0, 0, 0, 0] ((((0 + 1) + 1) + 1) + 1) [(0, .ref 3, .ref 4), ((-1000), .null, .ref 5), (1000, .null, .null), ((-1), .null, .null)] [(0, .ref 3, .ref 4), ((-1000), .null, .ref 5), (1000, .ref 6, .null), ((-1), .null, .null), (1, .null, .null)] 2 (by unfold own_ok; decide) (by decide +kernel)) (ok4 hw) rfl rfl rfl rfl ?_
  refine W.iload d0_218 rfl ?_
  refine W.if_eq d0_220 (fun h220 => ?_) (fun h => False.elim (by revert h; decide))
  refine W.aload d0_233 rfl rfl ?_
  refine W.iconst 0 d0_235 rfl ?_
  refine W.iconst 3 d0_236 rfl ?_
  refine W.iastore (i := 0) d0_237 rfl ⟨by decide, by decide⟩ (by simp) ?_
  refine W.aload d0_238 rfl rfl ?_
  refine W.iconst 1 d0_240 rfl ?_
  refine W.iloadN d0_241 rfl ?_
  refine W.if_eq d0_242 (fun h => False.elim (by revert h; decide)) (fun h242 => ?_)
  refine W.iconst 1 d0_245 rfl ?_
  refine W.goto d0_246 ?_
  refine W.iastore (i := 1) d0_250 rfl ⟨by decide, by decide⟩ (by simp) ?_
  refine W.aload d0_251 rfl rfl ?_
  refine W.iconst 2 d0_253 rfl ?_
  refine W.iload d0_254 rfl ?_
  refine W.if_eq d0_256 (fun h => False.elim (by revert h; decide)) (fun h256 => ?_)
  refine W.iconst 5 d0_259 rfl ?_
  refine W.goto d0_260 ?_
  refine W.iastore (i := 2) d0_264 rfl ⟨by decide, by decide⟩ (by simp) ?_
  refine W.aload d0_265 rfl rfl ?_
  refine W.iconst 3 d0_267 rfl ?_
  refine W.iload d0_268 rfl ?_
  refine W.if_eq d0_270 (fun h270 => ?_) (fun h => False.elim (by revert h; decide))
  refine W.iconst (-1) d0_277 rfl ?_
  refine W.iastore (i := 3) d0_278 rfl ⟨by decide, by decide⟩ (by simp) ?_
  refine W.aload d0_279 rfl rfl ?_
  refine W.iconst 4 d0_281 rfl ?_
  refine W.iload d0_282 rfl ?_
  refine W.if_eq d0_284 (fun h => False.elim (by revert h; decide)) (fun h284 => ?_)
  refine W.iconst 2 d0_287 rfl ?_
  refine W.goto d0_288 ?_
  refine W.iastore (i := 4) d0_292 rfl ⟨by decide, by decide⟩ (by simp) ?_
  refine W.aload d0_293 rfl rfl ?_
  refine W.iconst 5 d0_295 rfl ?_
  refine W.iload d0_296 rfl ?_
  refine W.if_eq d0_298 (fun h => False.elim (by revert h; decide)) (fun h298 => ?_)
  refine W.iconst 4 d0_301 rfl ?_
  refine W.goto d0_302 ?_
  refine W.iastore (i := 5) d0_306 rfl ⟨by decide, by decide⟩ (by simp) ?_
  refine W.aload d0_307 rfl rfl ?_
  refine W.bipush 6 d0_309 rfl ?_
  refine W.iload d0_311 rfl ?_
  refine W.if_eq d0_313 (fun h313 => ?_) (fun h => False.elim (by revert h; decide))
  refine W.iconst (-1) d0_321 rfl ?_
  refine W.iastore (i := 6) d0_322 rfl ⟨by decide, by decide⟩ (by simp) ?_
  refine W.iconst 1 d0_323 rfl ?_
  refine W.iloadN d0_324 rfl ?_
  refine W.if_eq d0_325 (fun h => False.elim (by revert h; decide)) (fun h325 => ?_)
  refine W.iconst 1 d0_328 rfl ?_
  refine W.goto d0_329 ?_
  refine W.iadd d0_333 ?_
  refine W.iload d0_334 rfl ?_
  refine W.if_eq d0_336 (fun h => False.elim (by revert h; decide)) (fun h336 => ?_)
  refine W.iconst 1 d0_339 rfl ?_
  refine W.goto d0_340 ?_
  refine W.iadd d0_344 ?_
  refine W.iload d0_345 rfl ?_
  refine W.if_eq d0_347 (fun h347 => ?_) (fun h => False.elim (by revert h; decide))
  refine W.iconst 0 d0_354 rfl ?_
  refine W.iadd d0_355 ?_
  refine W.iload d0_356 rfl ?_
  refine W.if_eq d0_358 (fun h => False.elim (by revert h; decide)) (fun h358 => ?_)
  refine W.iconst 1 d0_361 rfl ?_
  refine W.goto d0_362 ?_
  refine W.iadd d0_366 ?_
  refine W.iload d0_367 rfl ?_
  refine W.if_eq d0_369 (fun h => False.elim (by revert h; decide)) (fun h369 => ?_)
  refine W.iconst 1 d0_372 rfl ?_
  refine W.goto d0_373 ?_
  refine W.iadd d0_377 ?_
  refine W.iload d0_378 rfl ?_
  refine W.if_eq d0_380 (fun h380 => ?_) (fun h => False.elim (by revert h; decide))
  refine W.iconst 0 d0_387 rfl ?_
  refine W.iadd d0_388 ?_
  refine W.istore d0_389 rfl ?_
  refine W.more (ce' := 9) (sl' := 30) (by decide) (by decide) ?_
  exact sufA hw a b v _ _ _ _ _ _ r x ((((((1 + 1) + 1) + 0) + 1) + 1) + 0) 3 1 5 (-1) 2 4 (-1) (.ref 2) (((((0 + 1) + 1) + 1) + 1) + 1) [(0, .ref 3, .ref 4), ((-1000), .null, .ref 5), (1000, .ref 6, .null), ((-1), .null, .null), (1, .null, .null)] (by unfold own_ok; decide) rfl (chk13 x)
set_option maxRecDepth 65536 in
set_option maxHeartbeats 40000000 in
theorem pre14 {l : Launch} {Z : State} {a0 : Array Value} {n : Nat} (hw : ∀ d ∈ tables_1, d.before a0 Z = true) (a b v r x : Int32) : W l Z n m0 123 [(.val (.int (a))), (.val (.int (b))), (.val (.int (v))), (.val (.int (1))), (.val (.int (0))), (.val (.int (1))), (.val (.int (1))), (.val (.int (1))), (.val (.int (1))), (.val (.int (r))), .unset, .unset, .unset, .unset, .unset, .unset, .unset, .unset, .unset, .unset, .unset, .unset, .unset] [.int x] [] 0 0 (fun v _ => v = some (.int 1)) := by
  refine W.istore d0_123 rfl ?_
  refine W.bipush 7 d0_125 rfl ?_
  refine W.newarray (N := 0) (cnt := 7) (cap := 7) d0_127 (hw _ (wd 5 rfl)) ⟨by decide, by decide⟩ rfl (Nat.le_refl _) (by decide) (by decide) (by decide) ?_
  refine W.astore d0_129 rfl rfl ?_
  refine W.new (N := 1) d0_131 (hw _ (wd 6 rfl)) (okc0 hw) rfl (by decide) (by decide) ?_
  refine W.dup d0_134 rfl ?_
  refine W.initN (M' := m2) d0_135 rfl rfl (hw _ (wd 9 rfl)) (hw _ (wd 10 rfl)) (c2_0 hw) (ok2 hw) rfl rfl rfl ?_
  refine W.astore d0_138 rfl rfl ?_
  refine W.aload d0_140 rfl rfl ?_
  refine W.iconst 3 d0_142 rfl ?_
  refine W.callsV (M' := m1) d0_143 (hw _ (wd 1 rfl)) (hw _ (wd 2 rfl)) (w1 hw 3 _) (ok1 hw) rfl rfl rfl ?_
  refine W.callvN (M' := m4) d0_146 (hw _ (wd 15 rfl)) (hw _ (wd 16 rfl)) (hw _ (wd 17 rfl)) (hw _ (wd 18 rfl)) (w4a hw (own_key 3) [0, 0, 0, 0, 0, 0, 0] 0 []) (ok4 hw) rfl rfl rfl rfl ?_
  refine W.iloadN d0_149 rfl ?_
  refine W.if_eq d0_150 (fun h => False.elim (by revert h; decide)) (fun h150 => ?_)
  refine W.aload d0_153 rfl rfl ?_
  refine W.iconst 1 d0_155 rfl ?_
  refine W.callsV (M' := m1) d0_156 (hw _ (wd 1 rfl)) (hw _ (wd 2 rfl)) (w1 hw 1 _) (ok1 hw) rfl rfl rfl ?_
  refine W.callvN (M' := m4) d0_159 (hw _ (wd 15 rfl)) (hw _ (wd 16 rfl)) (hw _ (wd 17 rfl)) (hw _ (wd 18 rfl)) (w4b hw (own_key 1) [0, 0, 0, 0, 0, 0, 0] (0 + 1) [(0, .null, .null)] [(0, .ref 3, .null), ((-1000), .null, .null)] 2 (by unfold own_ok; decide) (by decide +kernel)) (ok4 hw) rfl rfl rfl rfl ?_
  refine W.iload d0_162 rfl ?_
  refine W.if_eq d0_164 (fun h => False.elim (by revert h; decide)) (fun h164 => ?_)
  refine W.aload d0_167 rfl rfl ?_
  refine W.iconst 5 d0_169 rfl ?_
  refine W.callsV (M' := m1) d0_170 (hw _ (wd 1 rfl)) (hw _ (wd 2 rfl)) (w1 hw 5 _) (ok1 hw) rfl rfl rfl ?_
  refine W.callvN (M' := m4) d0_173 (hw _ (wd 15 rfl)) (hw _ (wd 16 rfl)) (hw _ (wd 17 rfl)) (hw _ (wd 18 rfl)) (w4b hw (own_key 5) [0, 0, 0, 0, 0, 0, 0] ((0 + 1) + 1) [(0, .ref 3, .null), ((-1000), .null, .null)] [(0, .ref 3, .ref 4), ((-1000), .null, .null), (1000, .null, .null)] 2 (by unfold own_ok; decide) (by decide +kernel)) (ok4 hw) rfl rfl rfl rfl ?_
  refine W.iload d0_176 rfl ?_
  refine W.if_eq d0_178 (fun h178 => ?_) (fun h => False.elim (by revert h; decide))
  refine W.iload d0_190 rfl ?_
  refine W.if_eq d0_192 (fun h => False.elim (by revert h; decide)) (fun h192 => ?_)
  refine W.aload d0_195 rfl rfl ?_
  refine W.iconst 2 d0_197 rfl ?_
  refine W.callsV (M' := m1) d0_198 (hw _ (wd 1 rfl)) (hw _ (wd 2 rfl)) (w1 hw 2 _) (ok1 hw) rfl rfl rfl ?_
  refine W.callvN (M' := m4) d0_201 (hw _ (wd 15 rfl)) (hw _ (wd 16 rfl)) (hw _ (wd 17 rfl)) (hw _ (wd 18 rfl)) (w4b hw (own_key 2) [0, 0, 0, 0, 0, 0, 0] (((0 + 1) + 1) + 1) [(0, .ref 3, .ref 4), ((-1000), .null, .null), (1000, .null, .null)] [(0, .ref 3, .ref 4), ((-1000), .null, .ref 5), (1000, .null, .null), ((-1), .null, .null)] 2 (by unfold own_ok; decide) (by decide +kernel)) (ok4 hw) rfl rfl rfl rfl ?_
  refine W.iload d0_204 rfl ?_
  refine W.if_eq d0_206 (fun h => False.elim (by revert h; decide)) (fun h206 => ?_)
  refine W.aload d0_209 rfl rfl ?_
  refine W.iconst 4 d0_211 rfl ?_
  refine W.callsV (M' := m1) d0_212 (hw _ (wd 1 rfl)) (hw _ (wd 2 rfl)) (w1 hw 4 _) (ok1 hw) rfl rfl rfl ?_
  refine W.callvN (M' := m4) d0_215 (hw _ (wd 15 rfl)) (hw _ (wd 16 rfl)) (hw _ (wd 17 rfl)) (hw _ (wd 18 rfl)) (w4b hw (own_key 4) [0, 0, 0, 0, 0, 0, 0] ((((0 + 1) + 1) + 1) + 1) [(0, .ref 3, .ref 4), ((-1000), .null, .ref 5), (1000, .null, .null), ((-1), .null, .null)] [(0, .ref 3, .ref 4), ((-1000), .null, .ref 5), (1000, .ref 6, .null), ((-1), .null, .null), (1, .null, .null)] 2 (by unfold own_ok; decide) (by decide +kernel)) (ok4 hw) rfl rfl rfl rfl ?_
  refine W.iload d0_218 rfl ?_
  refine W.if_eq d0_220 (fun h => False.elim (by revert h; decide)) (fun h220 => ?_)
  refine W.aload d0_223 rfl rfl ?_
  refine W.bipush 6 d0_225 rfl ?_
  refine W.callsV (M' := m1) d0_227 (hw _ (wd 1 rfl)) (hw _ (wd 2 rfl)) (w1 hw 6 _) (ok1 hw) rfl rfl rfl ?_
  refine W.callvN (M' := m4) d0_230 (hw _ (wd 15 rfl)) (hw _ (wd 16 rfl)) (hw _ (wd 17 rfl)) (hw _ (wd 18 rfl)) (w4b hw (own_key 6) [0, 0, 0, 0, 0, 0, 0] (((((0 + 1) + 1) + 1) + 1) + 1) [(0, .ref 3, .ref 4), ((-1000), .null, .ref 5), (1000, .ref 6, .null), ((-1), .null, .null), (1, .null, .null)] [(0, .ref 3, .ref 4), ((-1000), .null, .ref 5), (1000, .ref 6, .ref 7), ((-1), .null, .null), (1, .null, .null), (2147483647, .null, .null)] 2 (by unfold own_ok; decide) (by decide +kernel)) (ok4 hw) rfl rfl rfl rfl ?_
  refine W.aload d0_233 rfl rfl ?_
  refine W.iconst 0 d0_235 rfl ?_
  refine W.iconst 3 d0_236 rfl ?_
  refine W.iastore (i := 0) d0_237 rfl ⟨by decide, by decide⟩ (by simp) ?_
  refine W.aload d0_238 rfl rfl ?_
  refine W.iconst 1 d0_240 rfl ?_
  refine W.iloadN d0_241 rfl ?_
  refine W.if_eq d0_242 (fun h => False.elim (by revert h; decide)) (fun h242 => ?_)
  refine W.iconst 1 d0_245 rfl ?_
  refine W.goto d0_246 ?_
  refine W.iastore (i := 1) d0_250 rfl ⟨by decide, by decide⟩ (by simp) ?_
  refine W.aload d0_251 rfl rfl ?_
  refine W.iconst 2 d0_253 rfl ?_
  refine W.iload d0_254 rfl ?_
  refine W.if_eq d0_256 (fun h => False.elim (by revert h; decide)) (fun h256 => ?_)
  refine W.iconst 5 d0_259 rfl ?_
  refine W.goto d0_260 ?_
  refine W.iastore (i := 2) d0_264 rfl ⟨by decide, by decide⟩ (by simp) ?_
  refine W.aload d0_265 rfl rfl ?_
  refine W.iconst 3 d0_267 rfl ?_
  refine W.iload d0_268 rfl ?_
  refine W.if_eq d0_270 (fun h270 => ?_) (fun h => False.elim (by revert h; decide))
  refine W.iconst (-1) d0_277 rfl ?_
  refine W.iastore (i := 3) d0_278 rfl ⟨by decide, by decide⟩ (by simp) ?_
  refine W.aload d0_279 rfl rfl ?_
  refine W.iconst 4 d0_281 rfl ?_
  refine W.iload d0_282 rfl ?_
  refine W.if_eq d0_284 (fun h => False.elim (by revert h; decide)) (fun h284 => ?_)
  refine W.iconst 2 d0_287 rfl ?_
  refine W.goto d0_288 ?_
  refine W.iastore (i := 4) d0_292 rfl ⟨by decide, by decide⟩ (by simp) ?_
  refine W.aload d0_293 rfl rfl ?_
  refine W.iconst 5 d0_295 rfl ?_
  refine W.iload d0_296 rfl ?_
  refine W.if_eq d0_298 (fun h => False.elim (by revert h; decide)) (fun h298 => ?_)
  refine W.iconst 4 d0_301 rfl ?_
  refine W.goto d0_302 ?_
  refine W.iastore (i := 5) d0_306 rfl ⟨by decide, by decide⟩ (by simp) ?_
  refine W.aload d0_307 rfl rfl ?_
  refine W.bipush 6 d0_309 rfl ?_
  refine W.iload d0_311 rfl ?_
  refine W.if_eq d0_313 (fun h => False.elim (by revert h; decide)) (fun h313 => ?_)
  refine W.bipush 6 d0_316 rfl ?_
  refine W.goto d0_318 ?_
  refine W.iastore (i := 6) d0_322 rfl ⟨by decide, by decide⟩ (by simp) ?_
  refine W.iconst 1 d0_323 rfl ?_
  refine W.iloadN d0_324 rfl ?_
  refine W.if_eq d0_325 (fun h => False.elim (by revert h; decide)) (fun h325 => ?_)
  refine W.iconst 1 d0_328 rfl ?_
  refine W.goto d0_329 ?_
  refine W.iadd d0_333 ?_
  refine W.iload d0_334 rfl ?_
  refine W.if_eq d0_336 (fun h => False.elim (by revert h; decide)) (fun h336 => ?_)
  refine W.iconst 1 d0_339 rfl ?_
  refine W.goto d0_340 ?_
  refine W.iadd d0_344 ?_
  refine W.iload d0_345 rfl ?_
  refine W.if_eq d0_347 (fun h347 => ?_) (fun h => False.elim (by revert h; decide))
  refine W.iconst 0 d0_354 rfl ?_
  refine W.iadd d0_355 ?_
  refine W.iload d0_356 rfl ?_
  refine W.if_eq d0_358 (fun h => False.elim (by revert h; decide)) (fun h358 => ?_)
  refine W.iconst 1 d0_361 rfl ?_
  refine W.goto d0_362 ?_
  refine W.iadd d0_366 ?_
  refine W.iload d0_367 rfl ?_
  refine W.if_eq d0_369 (fun h => False.elim (by revert h; decide)) (fun h369 => ?_)
  refine W.iconst 1 d0_372 rfl ?_
  refine W.goto d0_373 ?_
  refine W.iadd d0_377 ?_
  refine W.iload d0_378 rfl ?_
  refine W.if_eq d0_380 (fun h => False.elim (by revert h; decide)) (fun h380 => ?_)
  refine W.iconst 1 d0_383 rfl ?_
  refine W.goto d0_384 ?_
  refine W.iadd d0_388 ?_
  refine W.istore d0_389 rfl ?_
  refine W.more (ce' := 9) (sl' := 30) (by decide) (by decide) ?_
  exact sufA hw a b v _ _ _ _ _ _ r x ((((((1 + 1) + 1) + 0) + 1) + 1) + 1) 3 1 5 (-1) 2 4 6 (.ref 2) ((((((0 + 1) + 1) + 1) + 1) + 1) + 1) [(0, .ref 3, .ref 4), ((-1000), .null, .ref 5), (1000, .ref 6, .ref 7), ((-1), .null, .null), (1, .null, .null), (2147483647, .null, .null)] (by unfold own_ok; decide) rfl (chk14 x)
set_option maxRecDepth 65536 in
set_option maxHeartbeats 40000000 in
theorem pre15 {l : Launch} {Z : State} {a0 : Array Value} {n : Nat} (hw : ∀ d ∈ tables_1, d.before a0 Z = true) (a b v r x : Int32) : W l Z n m0 123 [(.val (.int (a))), (.val (.int (b))), (.val (.int (v))), (.val (.int (1))), (.val (.int (1))), (.val (.int (0))), (.val (.int (0))), (.val (.int (0))), (.val (.int (0))), (.val (.int (r))), .unset, .unset, .unset, .unset, .unset, .unset, .unset, .unset, .unset, .unset, .unset, .unset, .unset] [.int x] [] 0 0 (fun v _ => v = some (.int 1)) := by
  refine W.istore d0_123 rfl ?_
  refine W.bipush 7 d0_125 rfl ?_
  refine W.newarray (N := 0) (cnt := 7) (cap := 7) d0_127 (hw _ (wd 5 rfl)) ⟨by decide, by decide⟩ rfl (Nat.le_refl _) (by decide) (by decide) (by decide) ?_
  refine W.astore d0_129 rfl rfl ?_
  refine W.new (N := 1) d0_131 (hw _ (wd 6 rfl)) (okc0 hw) rfl (by decide) (by decide) ?_
  refine W.dup d0_134 rfl ?_
  refine W.initN (M' := m2) d0_135 rfl rfl (hw _ (wd 9 rfl)) (hw _ (wd 10 rfl)) (c2_0 hw) (ok2 hw) rfl rfl rfl ?_
  refine W.astore d0_138 rfl rfl ?_
  refine W.aload d0_140 rfl rfl ?_
  refine W.iconst 3 d0_142 rfl ?_
  refine W.callsV (M' := m1) d0_143 (hw _ (wd 1 rfl)) (hw _ (wd 2 rfl)) (w1 hw 3 _) (ok1 hw) rfl rfl rfl ?_
  refine W.callvN (M' := m4) d0_146 (hw _ (wd 15 rfl)) (hw _ (wd 16 rfl)) (hw _ (wd 17 rfl)) (hw _ (wd 18 rfl)) (w4a hw (own_key 3) [0, 0, 0, 0, 0, 0, 0] 0 []) (ok4 hw) rfl rfl rfl rfl ?_
  refine W.iloadN d0_149 rfl ?_
  refine W.if_eq d0_150 (fun h => False.elim (by revert h; decide)) (fun h150 => ?_)
  refine W.aload d0_153 rfl rfl ?_
  refine W.iconst 1 d0_155 rfl ?_
  refine W.callsV (M' := m1) d0_156 (hw _ (wd 1 rfl)) (hw _ (wd 2 rfl)) (w1 hw 1 _) (ok1 hw) rfl rfl rfl ?_
  refine W.callvN (M' := m4) d0_159 (hw _ (wd 15 rfl)) (hw _ (wd 16 rfl)) (hw _ (wd 17 rfl)) (hw _ (wd 18 rfl)) (w4b hw (own_key 1) [0, 0, 0, 0, 0, 0, 0] (0 + 1) [(0, .null, .null)] [(0, .ref 3, .null), ((-1000), .null, .null)] 2 (by unfold own_ok; decide) (by decide +kernel)) (ok4 hw) rfl rfl rfl rfl ?_
  refine W.iload d0_162 rfl ?_
  refine W.if_eq d0_164 (fun h164 => ?_) (fun h => False.elim (by revert h; decide))
  refine W.iload d0_176 rfl ?_
  refine W.if_eq d0_178 (fun h => False.elim (by revert h; decide)) (fun h178 => ?_)
  refine W.aload d0_181 rfl rfl ?_
  refine W.iconst 0 d0_183 rfl ?_
  refine W.callsV (M' := m1) d0_184 (hw _ (wd 1 rfl)) (hw _ (wd 2 rfl)) (w1 hw 0 _) (ok1 hw) rfl rfl rfl ?_
  refine W.callvN (M' := m4) d0_187 (hw _ (wd 15 rfl)) (hw _ (wd 16 rfl)) (hw _ (wd 17 rfl)) (hw _ (wd 18 rfl)) (w4b hw (own_key 0) [0, 0, 0, 0, 0, 0, 0] ((0 + 1) + 1) [(0, .ref 3, .null), ((-1000), .null, .null)] [(0, .ref 3, .null), ((-1000), .ref 4, .null), ((-2147483648), .null, .null)] 2 (by unfold own_ok; decide) (by decide +kernel)) (ok4 hw) rfl rfl rfl rfl ?_
  refine W.iload d0_190 rfl ?_
  refine W.if_eq d0_192 (fun h192 => ?_) (fun h => False.elim (by revert h; decide))
  refine W.iload d0_204 rfl ?_
  refine W.if_eq d0_206 (fun h206 => ?_) (fun h => False.elim (by revert h; decide))
  refine W.iload d0_218 rfl ?_
  refine W.if_eq d0_220 (fun h220 => ?_) (fun h => False.elim (by revert h; decide))
  refine W.aload d0_233 rfl rfl ?_
  refine W.iconst 0 d0_235 rfl ?_
  refine W.iconst 3 d0_236 rfl ?_
  refine W.iastore (i := 0) d0_237 rfl ⟨by decide, by decide⟩ (by simp) ?_
  refine W.aload d0_238 rfl rfl ?_
  refine W.iconst 1 d0_240 rfl ?_
  refine W.iloadN d0_241 rfl ?_
  refine W.if_eq d0_242 (fun h => False.elim (by revert h; decide)) (fun h242 => ?_)
  refine W.iconst 1 d0_245 rfl ?_
  refine W.goto d0_246 ?_
  refine W.iastore (i := 1) d0_250 rfl ⟨by decide, by decide⟩ (by simp) ?_
  refine W.aload d0_251 rfl rfl ?_
  refine W.iconst 2 d0_253 rfl ?_
  refine W.iload d0_254 rfl ?_
  refine W.if_eq d0_256 (fun h256 => ?_) (fun h => False.elim (by revert h; decide))
  refine W.iconst (-1) d0_263 rfl ?_
  refine W.iastore (i := 2) d0_264 rfl ⟨by decide, by decide⟩ (by simp) ?_
  refine W.aload d0_265 rfl rfl ?_
  refine W.iconst 3 d0_267 rfl ?_
  refine W.iload d0_268 rfl ?_
  refine W.if_eq d0_270 (fun h => False.elim (by revert h; decide)) (fun h270 => ?_)
  refine W.iconst 0 d0_273 rfl ?_
  refine W.goto d0_274 ?_
  refine W.iastore (i := 3) d0_278 rfl ⟨by decide, by decide⟩ (by simp) ?_
  refine W.aload d0_279 rfl rfl ?_
  refine W.iconst 4 d0_281 rfl ?_
  refine W.iload d0_282 rfl ?_
  refine W.if_eq d0_284 (fun h284 => ?_) (fun h => False.elim (by revert h; decide))
  refine W.iconst (-1) d0_291 rfl ?_
  refine W.iastore (i := 4) d0_292 rfl ⟨by decide, by decide⟩ (by simp) ?_
  refine W.aload d0_293 rfl rfl ?_
  refine W.iconst 5 d0_295 rfl ?_
  refine W.iload d0_296 rfl ?_
  refine W.if_eq d0_298 (fun h298 => ?_) (fun h => False.elim (by revert h; decide))
  refine W.iconst (-1) d0_305 rfl ?_
  refine W.iastore (i := 5) d0_306 rfl ⟨by decide, by decide⟩ (by simp) ?_
  refine W.aload d0_307 rfl rfl ?_
  refine W.bipush 6 d0_309 rfl ?_
  refine W.iload d0_311 rfl ?_
  refine W.if_eq d0_313 (fun h313 => ?_) (fun h => False.elim (by revert h; decide))
  refine W.iconst (-1) d0_321 rfl ?_
  refine W.iastore (i := 6) d0_322 rfl ⟨by decide, by decide⟩ (by simp) ?_
  refine W.iconst 1 d0_323 rfl ?_
  refine W.iloadN d0_324 rfl ?_
  refine W.if_eq d0_325 (fun h => False.elim (by revert h; decide)) (fun h325 => ?_)
  refine W.iconst 1 d0_328 rfl ?_
  refine W.goto d0_329 ?_
  refine W.iadd d0_333 ?_
  refine W.iload d0_334 rfl ?_
  refine W.if_eq d0_336 (fun h336 => ?_) (fun h => False.elim (by revert h; decide))
  refine W.iconst 0 d0_343 rfl ?_
  refine W.iadd d0_344 ?_
  refine W.iload d0_345 rfl ?_
  refine W.if_eq d0_347 (fun h => False.elim (by revert h; decide)) (fun h347 => ?_)
  refine W.iconst 1 d0_350 rfl ?_
  refine W.goto d0_351 ?_
  refine W.iadd d0_355 ?_
  refine W.iload d0_356 rfl ?_
  refine W.if_eq d0_358 (fun h358 => ?_) (fun h => False.elim (by revert h; decide))
  refine W.iconst 0 d0_365 rfl ?_
  refine W.iadd d0_366 ?_
  refine W.iload d0_367 rfl ?_
  refine W.if_eq d0_369 (fun h369 => ?_) (fun h => False.elim (by revert h; decide))
  refine W.iconst 0 d0_376 rfl ?_
  refine W.iadd d0_377 ?_
  refine W.iload d0_378 rfl ?_
  refine W.if_eq d0_380 (fun h380 => ?_) (fun h => False.elim (by revert h; decide))
  refine W.iconst 0 d0_387 rfl ?_
  refine W.iadd d0_388 ?_
  refine W.istore d0_389 rfl ?_
  refine W.more (ce' := 9) (sl' := 30) (by decide) (by decide) ?_
  exact sufA hw a b v _ _ _ _ _ _ r x ((((((1 + 1) + 0) + 1) + 0) + 0) + 0) 3 1 (-1) 0 (-1) (-1) (-1) (.ref 2) (((0 + 1) + 1) + 1) [(0, .ref 3, .null), ((-1000), .ref 4, .null), ((-2147483648), .null, .null)] (by unfold own_ok; decide) rfl (chk15 x)
set_option maxRecDepth 65536 in
set_option maxHeartbeats 40000000 in
theorem pre16 {l : Launch} {Z : State} {a0 : Array Value} {n : Nat} (hw : ∀ d ∈ tables_1, d.before a0 Z = true) (a b v r x : Int32) : W l Z n m0 123 [(.val (.int (a))), (.val (.int (b))), (.val (.int (v))), (.val (.int (1))), (.val (.int (1))), (.val (.int (0))), (.val (.int (1))), (.val (.int (0))), (.val (.int (0))), (.val (.int (r))), .unset, .unset, .unset, .unset, .unset, .unset, .unset, .unset, .unset, .unset, .unset, .unset, .unset] [.int x] [] 0 0 (fun v _ => v = some (.int 1)) := by
  refine W.istore d0_123 rfl ?_
  refine W.bipush 7 d0_125 rfl ?_
  refine W.newarray (N := 0) (cnt := 7) (cap := 7) d0_127 (hw _ (wd 5 rfl)) ⟨by decide, by decide⟩ rfl (Nat.le_refl _) (by decide) (by decide) (by decide) ?_
  refine W.astore d0_129 rfl rfl ?_
  refine W.new (N := 1) d0_131 (hw _ (wd 6 rfl)) (okc0 hw) rfl (by decide) (by decide) ?_
  refine W.dup d0_134 rfl ?_
  refine W.initN (M' := m2) d0_135 rfl rfl (hw _ (wd 9 rfl)) (hw _ (wd 10 rfl)) (c2_0 hw) (ok2 hw) rfl rfl rfl ?_
  refine W.astore d0_138 rfl rfl ?_
  refine W.aload d0_140 rfl rfl ?_
  refine W.iconst 3 d0_142 rfl ?_
  refine W.callsV (M' := m1) d0_143 (hw _ (wd 1 rfl)) (hw _ (wd 2 rfl)) (w1 hw 3 _) (ok1 hw) rfl rfl rfl ?_
  refine W.callvN (M' := m4) d0_146 (hw _ (wd 15 rfl)) (hw _ (wd 16 rfl)) (hw _ (wd 17 rfl)) (hw _ (wd 18 rfl)) (w4a hw (own_key 3) [0, 0, 0, 0, 0, 0, 0] 0 []) (ok4 hw) rfl rfl rfl rfl ?_
  refine W.iloadN d0_149 rfl ?_
  refine W.if_eq d0_150 (fun h => False.elim (by revert h; decide)) (fun h150 => ?_)
  refine W.aload d0_153 rfl rfl ?_
  refine W.iconst 1 d0_155 rfl ?_
  refine W.callsV (M' := m1) d0_156 (hw _ (wd 1 rfl)) (hw _ (wd 2 rfl)) (w1 hw 1 _) (ok1 hw) rfl rfl rfl ?_
  refine W.callvN (M' := m4) d0_159 (hw _ (wd 15 rfl)) (hw _ (wd 16 rfl)) (hw _ (wd 17 rfl)) (hw _ (wd 18 rfl)) (w4b hw (own_key 1) [0, 0, 0, 0, 0, 0, 0] (0 + 1) [(0, .null, .null)] [(0, .ref 3, .null), ((-1000), .null, .null)] 2 (by unfold own_ok; decide) (by decide +kernel)) (ok4 hw) rfl rfl rfl rfl ?_
  refine W.iload d0_162 rfl ?_
  refine W.if_eq d0_164 (fun h => False.elim (by revert h; decide)) (fun h164 => ?_)
  refine W.aload d0_167 rfl rfl ?_
  refine W.iconst 5 d0_169 rfl ?_
  refine W.callsV (M' := m1) d0_170 (hw _ (wd 1 rfl)) (hw _ (wd 2 rfl)) (w1 hw 5 _) (ok1 hw) rfl rfl rfl ?_
  refine W.callvN (M' := m4) d0_173 (hw _ (wd 15 rfl)) (hw _ (wd 16 rfl)) (hw _ (wd 17 rfl)) (hw _ (wd 18 rfl)) (w4b hw (own_key 5) [0, 0, 0, 0, 0, 0, 0] ((0 + 1) + 1) [(0, .ref 3, .null), ((-1000), .null, .null)] [(0, .ref 3, .ref 4), ((-1000), .null, .null), (1000, .null, .null)] 2 (by unfold own_ok; decide) (by decide +kernel)) (ok4 hw) rfl rfl rfl rfl ?_
  refine W.iload d0_176 rfl ?_
  refine W.if_eq d0_178 (fun h => False.elim (by revert h; decide)) (fun h178 => ?_)
  refine W.aload d0_181 rfl rfl ?_
  refine W.iconst 0 d0_183 rfl ?_
  refine W.callsV (M' := m1) d0_184 (hw _ (wd 1 rfl)) (hw _ (wd 2 rfl)) (w1 hw 0 _) (ok1 hw) rfl rfl rfl ?_
  refine W.callvN (M' := m4) d0_187 (hw _ (wd 15 rfl)) (hw _ (wd 16 rfl)) (hw _ (wd 17 rfl)) (hw _ (wd 18 rfl)) (w4b hw (own_key 0) [0, 0, 0, 0, 0, 0, 0] (((0 + 1) + 1) + 1) [(0, .ref 3, .ref 4), ((-1000), .null, .null), (1000, .null, .null)] [(0, .ref 3, .ref 4), ((-1000), .ref 5, .null), (1000, .null, .null), ((-2147483648), .null, .null)] 2 (by unfold own_ok; decide) (by decide +kernel)) (ok4 hw) rfl rfl rfl rfl ?_
  refine W.iload d0_190 rfl ?_
  refine W.if_eq d0_192 (fun h192 => ?_) (fun h => False.elim (by revert h; decide))
  refine W.iload d0_204 rfl ?_
  refine W.if_eq d0_206 (fun h206 => ?_) (fun h => False.elim (by revert h; decide))
  refine W.iload d0_218 rfl ?_
  refine W.if_eq d0_220 (fun h220 => ?_) (fun h => False.elim (by revert h; decide))
  refine W.aload d0_233 rfl rfl ?_
  refine W.iconst 0 d0_235 rfl ?_
  refine W.iconst 3 d0_236 rfl ?_
  refine W.iastore (i := 0) d0_237 rfl ⟨by decide, by decide⟩ (by simp) ?_
  refine W.aload d0_238 rfl rfl ?_
  refine W.iconst 1 d0_240 rfl ?_
  refine W.iloadN d0_241 rfl ?_
  refine W.if_eq d0_242 (fun h => False.elim (by revert h; decide)) (fun h242 => ?_)
  refine W.iconst 1 d0_245 rfl ?_
  refine W.goto d0_246 ?_
  refine W.iastore (i := 1) d0_250 rfl ⟨by decide, by decide⟩ (by simp) ?_
  refine W.aload d0_251 rfl rfl ?_
  refine W.iconst 2 d0_253 rfl ?_
  refine W.iload d0_254 rfl ?_
  refine W.if_eq d0_256 (fun h => False.elim (by revert h; decide)) (fun h256 => ?_)
  refine W.iconst 5 d0_259 rfl ?_
  refine W.goto d0_260 ?_
  refine W.iastore (i := 2) d0_264 rfl ⟨by decide, by decide⟩ (by simp) ?_
  refine W.aload d0_265 rfl rfl ?_
  refine W.iconst 3 d0_267 rfl ?_
  refine W.iload d0_268 rfl ?_
  refine W.if_eq d0_270 (fun h => False.elim (by revert h; decide)) (fun h270 => ?_)
  refine W.iconst 0 d0_273 rfl ?_
  refine W.goto d0_274 ?_
  refine W.iastore (i := 3) d0_278 rfl ⟨by decide, by decide⟩ (by simp) ?_
  refine W.aload d0_279 rfl rfl ?_
  refine W.iconst 4 d0_281 rfl ?_
  refine W.iload d0_282 rfl ?_
  refine W.if_eq d0_284 (fun h284 => ?_) (fun h => False.elim (by revert h; decide))
  refine W.iconst (-1) d0_291 rfl ?_
  refine W.iastore (i := 4) d0_292 rfl ⟨by decide, by decide⟩ (by simp) ?_
  refine W.aload d0_293 rfl rfl ?_
  refine W.iconst 5 d0_295 rfl ?_
  refine W.iload d0_296 rfl ?_
  refine W.if_eq d0_298 (fun h298 => ?_) (fun h => False.elim (by revert h; decide))
  refine W.iconst (-1) d0_305 rfl ?_
  refine W.iastore (i := 5) d0_306 rfl ⟨by decide, by decide⟩ (by simp) ?_
  refine W.aload d0_307 rfl rfl ?_
  refine W.bipush 6 d0_309 rfl ?_
  refine W.iload d0_311 rfl ?_
  refine W.if_eq d0_313 (fun h313 => ?_) (fun h => False.elim (by revert h; decide))
  refine W.iconst (-1) d0_321 rfl ?_
  refine W.iastore (i := 6) d0_322 rfl ⟨by decide, by decide⟩ (by simp) ?_
  refine W.iconst 1 d0_323 rfl ?_
  refine W.iloadN d0_324 rfl ?_
  refine W.if_eq d0_325 (fun h => False.elim (by revert h; decide)) (fun h325 => ?_)
  refine W.iconst 1 d0_328 rfl ?_
  refine W.goto d0_329 ?_
  refine W.iadd d0_333 ?_
  refine W.iload d0_334 rfl ?_
  refine W.if_eq d0_336 (fun h => False.elim (by revert h; decide)) (fun h336 => ?_)
  refine W.iconst 1 d0_339 rfl ?_
  refine W.goto d0_340 ?_
  refine W.iadd d0_344 ?_
  refine W.iload d0_345 rfl ?_
  refine W.if_eq d0_347 (fun h => False.elim (by revert h; decide)) (fun h347 => ?_)
  refine W.iconst 1 d0_350 rfl ?_
  refine W.goto d0_351 ?_
  refine W.iadd d0_355 ?_
  refine W.iload d0_356 rfl ?_
  refine W.if_eq d0_358 (fun h358 => ?_) (fun h => False.elim (by revert h; decide))
  refine W.iconst 0 d0_365 rfl ?_
  refine W.iadd d0_366 ?_
  refine W.iload d0_367 rfl ?_
  refine W.if_eq d0_369 (fun h369 => ?_) (fun h => False.elim (by revert h; decide))
  refine W.iconst 0 d0_376 rfl ?_
  refine W.iadd d0_377 ?_
  refine W.iload d0_378 rfl ?_
  refine W.if_eq d0_380 (fun h380 => ?_) (fun h => False.elim (by revert h; decide))
  refine W.iconst 0 d0_387 rfl ?_
  refine W.iadd d0_388 ?_
  refine W.istore d0_389 rfl ?_
  refine W.more (ce' := 9) (sl' := 30) (by decide) (by decide) ?_
  exact sufA hw a b v _ _ _ _ _ _ r x ((((((1 + 1) + 1) + 1) + 0) + 0) + 0) 3 1 5 0 (-1) (-1) (-1) (.ref 2) ((((0 + 1) + 1) + 1) + 1) [(0, .ref 3, .ref 4), ((-1000), .ref 5, .null), (1000, .null, .null), ((-2147483648), .null, .null)] (by unfold own_ok; decide) rfl (chk16 x)
set_option maxRecDepth 65536 in
set_option maxHeartbeats 40000000 in
theorem pre17 {l : Launch} {Z : State} {a0 : Array Value} {n : Nat} (hw : ∀ d ∈ tables_1, d.before a0 Z = true) (a b v r x : Int32) : W l Z n m0 123 [(.val (.int (a))), (.val (.int (b))), (.val (.int (v))), (.val (.int (1))), (.val (.int (1))), (.val (.int (0))), (.val (.int (1))), (.val (.int (0))), (.val (.int (1))), (.val (.int (r))), .unset, .unset, .unset, .unset, .unset, .unset, .unset, .unset, .unset, .unset, .unset, .unset, .unset] [.int x] [] 0 0 (fun v _ => v = some (.int 1)) := by
  refine W.istore d0_123 rfl ?_
  refine W.bipush 7 d0_125 rfl ?_
  refine W.newarray (N := 0) (cnt := 7) (cap := 7) d0_127 (hw _ (wd 5 rfl)) ⟨by decide, by decide⟩ rfl (Nat.le_refl _) (by decide) (by decide) (by decide) ?_
  refine W.astore d0_129 rfl rfl ?_
  refine W.new (N := 1) d0_131 (hw _ (wd 6 rfl)) (okc0 hw) rfl (by decide) (by decide) ?_
  refine W.dup d0_134 rfl ?_
  refine W.initN (M' := m2) d0_135 rfl rfl (hw _ (wd 9 rfl)) (hw _ (wd 10 rfl)) (c2_0 hw) (ok2 hw) rfl rfl rfl ?_
  refine W.astore d0_138 rfl rfl ?_
  refine W.aload d0_140 rfl rfl ?_
  refine W.iconst 3 d0_142 rfl ?_
  refine W.callsV (M' := m1) d0_143 (hw _ (wd 1 rfl)) (hw _ (wd 2 rfl)) (w1 hw 3 _) (ok1 hw) rfl rfl rfl ?_
  refine W.callvN (M' := m4) d0_146 (hw _ (wd 15 rfl)) (hw _ (wd 16 rfl)) (hw _ (wd 17 rfl)) (hw _ (wd 18 rfl)) (w4a hw (own_key 3) [0, 0, 0, 0, 0, 0, 0] 0 []) (ok4 hw) rfl rfl rfl rfl ?_
  refine W.iloadN d0_149 rfl ?_
  refine W.if_eq d0_150 (fun h => False.elim (by revert h; decide)) (fun h150 => ?_)
  refine W.aload d0_153 rfl rfl ?_
  refine W.iconst 1 d0_155 rfl ?_
  refine W.callsV (M' := m1) d0_156 (hw _ (wd 1 rfl)) (hw _ (wd 2 rfl)) (w1 hw 1 _) (ok1 hw) rfl rfl rfl ?_
  refine W.callvN (M' := m4) d0_159 (hw _ (wd 15 rfl)) (hw _ (wd 16 rfl)) (hw _ (wd 17 rfl)) (hw _ (wd 18 rfl)) (w4b hw (own_key 1) [0, 0, 0, 0, 0, 0, 0] (0 + 1) [(0, .null, .null)] [(0, .ref 3, .null), ((-1000), .null, .null)] 2 (by unfold own_ok; decide) (by decide +kernel)) (ok4 hw) rfl rfl rfl rfl ?_
  refine W.iload d0_162 rfl ?_
  refine W.if_eq d0_164 (fun h => False.elim (by revert h; decide)) (fun h164 => ?_)
  refine W.aload d0_167 rfl rfl ?_
  refine W.iconst 5 d0_169 rfl ?_
  refine W.callsV (M' := m1) d0_170 (hw _ (wd 1 rfl)) (hw _ (wd 2 rfl)) (w1 hw 5 _) (ok1 hw) rfl rfl rfl ?_
  refine W.callvN (M' := m4) d0_173 (hw _ (wd 15 rfl)) (hw _ (wd 16 rfl)) (hw _ (wd 17 rfl)) (hw _ (wd 18 rfl)) (w4b hw (own_key 5) [0, 0, 0, 0, 0, 0, 0] ((0 + 1) + 1) [(0, .ref 3, .null), ((-1000), .null, .null)] [(0, .ref 3, .ref 4), ((-1000), .null, .null), (1000, .null, .null)] 2 (by unfold own_ok; decide) (by decide +kernel)) (ok4 hw) rfl rfl rfl rfl ?_
  refine W.iload d0_176 rfl ?_
  refine W.if_eq d0_178 (fun h => False.elim (by revert h; decide)) (fun h178 => ?_)
  refine W.aload d0_181 rfl rfl ?_
  refine W.iconst 0 d0_183 rfl ?_
  refine W.callsV (M' := m1) d0_184 (hw _ (wd 1 rfl)) (hw _ (wd 2 rfl)) (w1 hw 0 _) (ok1 hw) rfl rfl rfl ?_
  refine W.callvN (M' := m4) d0_187 (hw _ (wd 15 rfl)) (hw _ (wd 16 rfl)) (hw _ (wd 17 rfl)) (hw _ (wd 18 rfl)) (w4b hw (own_key 0) [0, 0, 0, 0, 0, 0, 0] (((0 + 1) + 1) + 1) [(0, .ref 3, .ref 4), ((-1000), .null, .null), (1000, .null, .null)] [(0, .ref 3, .ref 4), ((-1000), .ref 5, .null), (1000, .null, .null), ((-2147483648), .null, .null)] 2 (by unfold own_ok; decide) (by decide +kernel)) (ok4 hw) rfl rfl rfl rfl ?_
  refine W.iload d0_190 rfl ?_
  refine W.if_eq d0_192 (fun h192 => ?_) (fun h => False.elim (by revert h; decide))
  refine W.iload d0_204 rfl ?_
  refine W.if_eq d0_206 (fun h206 => ?_) (fun h => False.elim (by revert h; decide))
  refine W.iload d0_218 rfl ?_
  refine W.if_eq d0_220 (fun h => False.elim (by revert h; decide)) (fun h220 => ?_)
  refine W.aload d0_223 rfl rfl ?_
  refine W.bipush 6 d0_225 rfl ?_
  refine W.callsV (M' := m1) d0_227 (hw _ (wd 1 rfl)) (hw _ (wd 2 rfl)) (w1 hw 6 _) (ok1 hw) rfl rfl rfl ?_
  refine W.callvN (M' := m4) d0_230 (hw _ (wd 15 rfl)) (hw _ (wd 16 rfl)) (hw _ (wd 17 rfl)) (hw _ (wd 18 rfl)) (w4b hw (own_key 6) [0, 0, 0, 0, 0, 0, 0] ((((0 + 1) + 1) + 1) + 1) [(0, .ref 3, .ref 4), ((-1000), .ref 5, .null), (1000, .null, .null), ((-2147483648), .null, .null)] [(0, .ref 3, .ref 4), ((-1000), .ref 5, .null), (1000, .null, .ref 6), ((-2147483648), .null, .null), (2147483647, .null, .null)] 2 (by unfold own_ok; decide) (by decide +kernel)) (ok4 hw) rfl rfl rfl rfl ?_
  refine W.aload d0_233 rfl rfl ?_
  refine W.iconst 0 d0_235 rfl ?_
  refine W.iconst 3 d0_236 rfl ?_
  refine W.iastore (i := 0) d0_237 rfl ⟨by decide, by decide⟩ (by simp) ?_
  refine W.aload d0_238 rfl rfl ?_
  refine W.iconst 1 d0_240 rfl ?_
  refine W.iloadN d0_241 rfl ?_
  refine W.if_eq d0_242 (fun h => False.elim (by revert h; decide)) (fun h242 => ?_)
  refine W.iconst 1 d0_245 rfl ?_
  refine W.goto d0_246 ?_
  refine W.iastore (i := 1) d0_250 rfl ⟨by decide, by decide⟩ (by simp) ?_
  refine W.aload d0_251 rfl rfl ?_
  refine W.iconst 2 d0_253 rfl ?_
  refine W.iload d0_254 rfl ?_
  refine W.if_eq d0_256 (fun h => False.elim (by revert h; decide)) (fun h256 => ?_)
  refine W.iconst 5 d0_259 rfl ?_
  refine W.goto d0_260 ?_
  refine W.iastore (i := 2) d0_264 rfl ⟨by decide, by decide⟩ (by simp) ?_
  refine W.aload d0_265 rfl rfl ?_
  refine W.iconst 3 d0_267 rfl ?_
  refine W.iload d0_268 rfl ?_
  refine W.if_eq d0_270 (fun h => False.elim (by revert h; decide)) (fun h270 => ?_)
  refine W.iconst 0 d0_273 rfl ?_
  refine W.goto d0_274 ?_
  refine W.iastore (i := 3) d0_278 rfl ⟨by decide, by decide⟩ (by simp) ?_
  refine W.aload d0_279 rfl rfl ?_
  refine W.iconst 4 d0_281 rfl ?_
  refine W.iload d0_282 rfl ?_
  refine W.if_eq d0_284 (fun h284 => ?_) (fun h => False.elim (by revert h; decide))
  refine W.iconst (-1) d0_291 rfl ?_
  refine W.iastore (i := 4) d0_292 rfl ⟨by decide, by decide⟩ (by simp) ?_
  refine W.aload d0_293 rfl rfl ?_
  refine W.iconst 5 d0_295 rfl ?_
  refine W.iload d0_296 rfl ?_
  refine W.if_eq d0_298 (fun h298 => ?_) (fun h => False.elim (by revert h; decide))
  refine W.iconst (-1) d0_305 rfl ?_
  refine W.iastore (i := 5) d0_306 rfl ⟨by decide, by decide⟩ (by simp) ?_
  refine W.aload d0_307 rfl rfl ?_
  refine W.bipush 6 d0_309 rfl ?_
  refine W.iload d0_311 rfl ?_
  refine W.if_eq d0_313 (fun h => False.elim (by revert h; decide)) (fun h313 => ?_)
  refine W.bipush 6 d0_316 rfl ?_
  refine W.goto d0_318 ?_
  refine W.iastore (i := 6) d0_322 rfl ⟨by decide, by decide⟩ (by simp) ?_
  refine W.iconst 1 d0_323 rfl ?_
  refine W.iloadN d0_324 rfl ?_
  refine W.if_eq d0_325 (fun h => False.elim (by revert h; decide)) (fun h325 => ?_)
  refine W.iconst 1 d0_328 rfl ?_
  refine W.goto d0_329 ?_
  refine W.iadd d0_333 ?_
  refine W.iload d0_334 rfl ?_
  refine W.if_eq d0_336 (fun h => False.elim (by revert h; decide)) (fun h336 => ?_)
  refine W.iconst 1 d0_339 rfl ?_
  refine W.goto d0_340 ?_
  refine W.iadd d0_344 ?_
  refine W.iload d0_345 rfl ?_
  refine W.if_eq d0_347 (fun h => False.elim (by revert h; decide)) (fun h347 => ?_)
  refine W.iconst 1 d0_350 rfl ?_
  refine W.goto d0_351 ?_
  refine W.iadd d0_355 ?_
  refine W.iload d0_356 rfl ?_
  refine W.if_eq d0_358 (fun h358 => ?_) (fun h => False.elim (by revert h; decide))
  refine W.iconst 0 d0_365 rfl ?_
  refine W.iadd d0_366 ?_
  refine W.iload d0_367 rfl ?_
  refine W.if_eq d0_369 (fun h369 => ?_) (fun h => False.elim (by revert h; decide))
  refine W.iconst 0 d0_376 rfl ?_
  refine W.iadd d0_377 ?_
  refine W.iload d0_378 rfl ?_
  refine W.if_eq d0_380 (fun h => False.elim (by revert h; decide)) (fun h380 => ?_)
  refine W.iconst 1 d0_383 rfl ?_
  refine W.goto d0_384 ?_
  refine W.iadd d0_388 ?_
  refine W.istore d0_389 rfl ?_
  refine W.more (ce' := 9) (sl' := 30) (by decide) (by decide) ?_
  exact sufA hw a b v _ _ _ _ _ _ r x ((((((1 + 1) + 1) + 1) + 0) + 0) + 1) 3 1 5 0 (-1) (-1) 6 (.ref 2) (((((0 + 1) + 1) + 1) + 1) + 1) [(0, .ref 3, .ref 4), ((-1000), .ref 5, .null), (1000, .null, .ref 6), ((-2147483648), .null, .null), (2147483647, .null, .null)] (by unfold own_ok; decide) rfl (chk17 x)
set_option maxRecDepth 65536 in
set_option maxHeartbeats 40000000 in
theorem pre18 {l : Launch} {Z : State} {a0 : Array Value} {n : Nat} (hw : ∀ d ∈ tables_1, d.before a0 Z = true) (a b v r x : Int32) : W l Z n m0 123 [(.val (.int (a))), (.val (.int (b))), (.val (.int (v))), (.val (.int (1))), (.val (.int (1))), (.val (.int (0))), (.val (.int (1))), (.val (.int (1))), (.val (.int (0))), (.val (.int (r))), .unset, .unset, .unset, .unset, .unset, .unset, .unset, .unset, .unset, .unset, .unset, .unset, .unset] [.int x] [] 0 0 (fun v _ => v = some (.int 1)) := by
  refine W.istore d0_123 rfl ?_
  refine W.bipush 7 d0_125 rfl ?_
  refine W.newarray (N := 0) (cnt := 7) (cap := 7) d0_127 (hw _ (wd 5 rfl)) ⟨by decide, by decide⟩ rfl (Nat.le_refl _) (by decide) (by decide) (by decide) ?_
  refine W.astore d0_129 rfl rfl ?_
  refine W.new (N := 1) d0_131 (hw _ (wd 6 rfl)) (okc0 hw) rfl (by decide) (by decide) ?_
  refine W.dup d0_134 rfl ?_
  refine W.initN (M' := m2) d0_135 rfl rfl (hw _ (wd 9 rfl)) (hw _ (wd 10 rfl)) (c2_0 hw) (ok2 hw) rfl rfl rfl ?_
  refine W.astore d0_138 rfl rfl ?_
  refine W.aload d0_140 rfl rfl ?_
  refine W.iconst 3 d0_142 rfl ?_
  refine W.callsV (M' := m1) d0_143 (hw _ (wd 1 rfl)) (hw _ (wd 2 rfl)) (w1 hw 3 _) (ok1 hw) rfl rfl rfl ?_
  refine W.callvN (M' := m4) d0_146 (hw _ (wd 15 rfl)) (hw _ (wd 16 rfl)) (hw _ (wd 17 rfl)) (hw _ (wd 18 rfl)) (w4a hw (own_key 3) [0, 0, 0, 0, 0, 0, 0] 0 []) (ok4 hw) rfl rfl rfl rfl ?_
  refine W.iloadN d0_149 rfl ?_
  refine W.if_eq d0_150 (fun h => False.elim (by revert h; decide)) (fun h150 => ?_)
  refine W.aload d0_153 rfl rfl ?_
  refine W.iconst 1 d0_155 rfl ?_
  refine W.callsV (M' := m1) d0_156 (hw _ (wd 1 rfl)) (hw _ (wd 2 rfl)) (w1 hw 1 _) (ok1 hw) rfl rfl rfl ?_
  refine W.callvN (M' := m4) d0_159 (hw _ (wd 15 rfl)) (hw _ (wd 16 rfl)) (hw _ (wd 17 rfl)) (hw _ (wd 18 rfl)) (w4b hw (own_key 1) [0, 0, 0, 0, 0, 0, 0] (0 + 1) [(0, .null, .null)] [(0, .ref 3, .null), ((-1000), .null, .null)] 2 (by unfold own_ok; decide) (by decide +kernel)) (ok4 hw) rfl rfl rfl rfl ?_
  refine W.iload d0_162 rfl ?_
  refine W.if_eq d0_164 (fun h => False.elim (by revert h; decide)) (fun h164 => ?_)
  refine W.aload d0_167 rfl rfl ?_
  refine W.iconst 5 d0_169 rfl ?_
  refine W.callsV (M' := m1) d0_170 (hw _ (wd 1 rfl)) (hw _ (wd 2 rfl)) (w1 hw 5 _) (ok1 hw) rfl rfl rfl ?_
  refine W.callvN (M' := m4) d0_173 (hw _ (wd 15 rfl)) (hw _ (wd 16 rfl)) (hw _ (wd 17 rfl)) (hw _ (wd 18 rfl)) (w4b hw (own_key 5) [0, 0, 0, 0, 0, 0, 0] ((0 + 1) + 1) [(0, .ref 3, .null), ((-1000), .null, .null)] [(0, .ref 3, .ref 4), ((-1000), .null, .null), (1000, .null, .null)] 2 (by unfold own_ok; decide) (by decide +kernel)) (ok4 hw) rfl rfl rfl rfl ?_
  refine W.iload d0_176 rfl ?_
  refine W.if_eq d0_178 (fun h => False.elim (by revert h; decide)) (fun h178 => ?_)
  refine W.aload d0_181 rfl rfl ?_
  refine W.iconst 0 d0_183 rfl ?_
  refine W.callsV (M' := m1) d0_184 (hw _ (wd 1 rfl)) (hw _ (wd 2 rfl)) (w1 hw 0 _) (ok1 hw) rfl rfl rfl ?_
  refine W.callvN (M' := m4) d0_187 (hw _ (wd 15 rfl)) (hw _ (wd 16 rfl)) (hw _ (wd 17 rfl)) (hw _ (wd 18 rfl)) (w4b hw (own_key 0) [0, 0, 0, 0, 0, 0, 0] (((0 + 1) + 1) + 1) [(0, .ref 3, .ref 4), ((-1000), .null, .null), (1000, .null, .null)] [(0, .ref 3, .ref 4), ((-1000), .ref 5, .null), (1000, .null, .null), ((-2147483648), .null, .null)] 2 (by unfold own_ok; decide) (by decide +kernel)) (ok4 hw) rfl rfl rfl rfl ?_
  refine W.iload d0_190 rfl ?_
  refine W.if_eq d0_192 (fun h192 => ?_) (fun h => False.elim (by revert h; decide))
  refine W.iload d0_204 rfl ?_
  refine W.if_eq d0_206 (fun h => False.elim (by revert h; decide)) (fun h206 => ?_)
  refine W.aload d0_209 rfl rfl ?_
  refine W.iconst 4 d0_211 rfl ?_
  refine W.callsV (M' := m1) d0_212 (hw _ (wd 1 rfl)) (hw _ (wd 2 rfl)) (w1 hw 4 _) (ok1 hw) rfl rfl rfl ?_
  refine W.callvN (M' := m4) d0_215 (hw _ (wd 15 rfl)) (hw _ (wd 16 rfl)) (hw _ (wd 17 rfl)) (hw _ (wd 18 rfl)) (w4b hw (own_key 4) [0, 0, 0, 0, 0, 0, 0] ((((0 + 1) + 1) + 1) + 1) [(0, .ref 3, .ref 4), ((-1000), .ref 5, .null), (1000, .null, .null), ((-2147483648), .null, .null)] [(0, .ref 3, .ref 4), ((-1000), .ref 5, .null), (1000, .ref 6, .null), ((-2147483648), .null, .null), (1, .null, .null)] 2 (by unfold own_ok; decide) (by decide +kernel)) (ok4 hw) rfl rfl rfl rfl ?_
  refine W.iload d0_218 rfl ?_
  refine W.if_eq d0_220 (fun h220 => ?_) (fun h => False.elim (by revert h; decide))
  refine W.aload d0_233 rfl rfl ?_
  refine W.iconst 0 d0_235 rfl ?_
  refine W.iconst 3 d0_236 rfl ?_
  refine W.iastore (i := 0) d0_237 rfl ⟨by decide, by decide⟩ (by simp) ?_
  refine W.aload d0_238 rfl rfl ?_
  refine W.iconst 1 d0_240 rfl ?_
  refine W.iloadN d0_241 rfl ?_
  refine W.if_eq d0_242 (fun h => False.elim (by revert h; decide)) (fun h242 => ?_)
  refine W.iconst 1 d0_245 rfl ?_
  refine W.goto d0_246 ?_
  refine W.iastore (i := 1) d0_250 rfl ⟨by decide, by decide⟩ (by simp) ?_
  refine W.aload d0_251 rfl rfl ?_
  refine W.iconst 2 d0_253 rfl ?_
  refine W.iload d0_254 rfl ?_
  refine W.if_eq d0_256 (fun h => False.elim (by revert h; decide)) (fun h256 => ?_)
  refine W.iconst 5 d0_259 rfl ?_
  refine W.goto d0_260 ?_
  refine W.iastore (i := 2) d0_264 rfl ⟨by decide, by decide⟩ (by simp) ?_
  refine W.aload d0_265 rfl rfl ?_
  refine W.iconst 3 d0_267 rfl ?_
  refine W.iload d0_268 rfl ?_
  refine W.if_eq d0_270 (fun h => False.elim (by revert h; decide)) (fun h270 => ?_)
  refine W.iconst 0 d0_273 rfl ?_
  refine W.goto d0_274 ?_
  refine W.iastore (i := 3) d0_278 rfl ⟨by decide, by decide⟩ (by simp) ?_
  refine W.aload d0_279 rfl rfl ?_
  refine W.iconst 4 d0_281 rfl ?_
  refine W.iload d0_282 rfl ?_
  refine W.if_eq d0_284 (fun h284 => ?_) (fun h => False.elim (by revert h; decide))
  refine W.iconst (-1) d0_291 rfl ?_
  refine W.iastore (i := 4) d0_292 rfl ⟨by decide, by decide⟩ (by simp) ?_
  refine W.aload d0_293 rfl rfl ?_
  refine W.iconst 5 d0_295 rfl ?_
  refine W.iload d0_296 rfl ?_
  refine W.if_eq d0_298 (fun h => False.elim (by revert h; decide)) (fun h298 => ?_)
  refine W.iconst 4 d0_301 rfl ?_
  refine W.goto d0_302 ?_
  refine W.iastore (i := 5) d0_306 rfl ⟨by decide, by decide⟩ (by simp) ?_
  refine W.aload d0_307 rfl rfl ?_
  refine W.bipush 6 d0_309 rfl ?_
  refine W.iload d0_311 rfl ?_
  refine W.if_eq d0_313 (fun h313 => ?_) (fun h => False.elim (by revert h; decide))
  refine W.iconst (-1) d0_321 rfl ?_
  refine W.iastore (i := 6) d0_322 rfl ⟨by decide, by decide⟩ (by simp) ?_
  refine W.iconst 1 d0_323 rfl ?_
  refine W.iloadN d0_324 rfl ?_
  refine W.if_eq d0_325 (fun h => False.elim (by revert h; decide)) (fun h325 => ?_)
  refine W.iconst 1 d0_328 rfl ?_
  refine W.goto d0_329 ?_
  refine W.iadd d0_333 ?_
  refine W.iload d0_334 rfl ?_
  refine W.if_eq d0_336 (fun h => False.elim (by revert h; decide)) (fun h336 => ?_)
  refine W.iconst 1 d0_339 rfl ?_
  refine W.goto d0_340 ?_
  refine W.iadd d0_344 ?_
  refine W.iload d0_345 rfl ?_
  refine W.if_eq d0_347 (fun h => False.elim (by revert h; decide)) (fun h347 => ?_)
  refine W.iconst 1 d0_350 rfl ?_
  refine W.goto d0_351 ?_
  refine W.iadd d0_355 ?_
  refine W.iload d0_356 rfl ?_
  refine W.if_eq d0_358 (fun h358 => ?_) (fun h => False.elim (by revert h; decide))
  refine W.iconst 0 d0_365 rfl ?_
  refine W.iadd d0_366 ?_
  refine W.iload d0_367 rfl ?_
  refine W.if_eq d0_369 (fun h => False.elim (by revert h; decide)) (fun h369 => ?_)
  refine W.iconst 1 d0_372 rfl ?_
  refine W.goto d0_373 ?_
  refine W.iadd d0_377 ?_
  refine W.iload d0_378 rfl ?_
  refine W.if_eq d0_380 (fun h380 => ?_) (fun h => False.elim (by revert h; decide))
  refine W.iconst 0 d0_387 rfl ?_
  refine W.iadd d0_388 ?_
  refine W.istore d0_389 rfl ?_
  refine W.more (ce' := 9) (sl' := 30) (by decide) (by decide) ?_
  exact sufA hw a b v _ _ _ _ _ _ r x ((((((1 + 1) + 1) + 1) + 0) + 1) + 0) 3 1 5 0 (-1) 4 (-1) (.ref 2) (((((0 + 1) + 1) + 1) + 1) + 1) [(0, .ref 3, .ref 4), ((-1000), .ref 5, .null), (1000, .ref 6, .null), ((-2147483648), .null, .null), (1, .null, .null)] (by unfold own_ok; decide) rfl (chk18 x)
set_option maxRecDepth 65536 in
set_option maxHeartbeats 40000000 in
theorem pre19 {l : Launch} {Z : State} {a0 : Array Value} {n : Nat} (hw : ∀ d ∈ tables_1, d.before a0 Z = true) (a b v r x : Int32) : W l Z n m0 123 [(.val (.int (a))), (.val (.int (b))), (.val (.int (v))), (.val (.int (1))), (.val (.int (1))), (.val (.int (0))), (.val (.int (1))), (.val (.int (1))), (.val (.int (1))), (.val (.int (r))), .unset, .unset, .unset, .unset, .unset, .unset, .unset, .unset, .unset, .unset, .unset, .unset, .unset] [.int x] [] 0 0 (fun v _ => v = some (.int 1)) := by
  refine W.istore d0_123 rfl ?_
  refine W.bipush 7 d0_125 rfl ?_
  refine W.newarray (N := 0) (cnt := 7) (cap := 7) d0_127 (hw _ (wd 5 rfl)) ⟨by decide, by decide⟩ rfl (Nat.le_refl _) (by decide) (by decide) (by decide) ?_
  refine W.astore d0_129 rfl rfl ?_
  refine W.new (N := 1) d0_131 (hw _ (wd 6 rfl)) (okc0 hw) rfl (by decide) (by decide) ?_
  refine W.dup d0_134 rfl ?_
  refine W.initN (M' := m2) d0_135 rfl rfl (hw _ (wd 9 rfl)) (hw _ (wd 10 rfl)) (c2_0 hw) (ok2 hw) rfl rfl rfl ?_
  refine W.astore d0_138 rfl rfl ?_
  refine W.aload d0_140 rfl rfl ?_
  refine W.iconst 3 d0_142 rfl ?_
  refine W.callsV (M' := m1) d0_143 (hw _ (wd 1 rfl)) (hw _ (wd 2 rfl)) (w1 hw 3 _) (ok1 hw) rfl rfl rfl ?_
  refine W.callvN (M' := m4) d0_146 (hw _ (wd 15 rfl)) (hw _ (wd 16 rfl)) (hw _ (wd 17 rfl)) (hw _ (wd 18 rfl)) (w4a hw (own_key 3) [0, 0, 0, 0, 0, 0, 0] 0 []) (ok4 hw) rfl rfl rfl rfl ?_
  refine W.iloadN d0_149 rfl ?_
  refine W.if_eq d0_150 (fun h => False.elim (by revert h; decide)) (fun h150 => ?_)
  refine W.aload d0_153 rfl rfl ?_
  refine W.iconst 1 d0_155 rfl ?_
  refine W.callsV (M' := m1) d0_156 (hw _ (wd 1 rfl)) (hw _ (wd 2 rfl)) (w1 hw 1 _) (ok1 hw) rfl rfl rfl ?_
  refine W.callvN (M' := m4) d0_159 (hw _ (wd 15 rfl)) (hw _ (wd 16 rfl)) (hw _ (wd 17 rfl)) (hw _ (wd 18 rfl)) (w4b hw (own_key 1) [0, 0, 0, 0, 0, 0, 0] (0 + 1) [(0, .null, .null)] [(0, .ref 3, .null), ((-1000), .null, .null)] 2 (by unfold own_ok; decide) (by decide +kernel)) (ok4 hw) rfl rfl rfl rfl ?_
  refine W.iload d0_162 rfl ?_
  refine W.if_eq d0_164 (fun h => False.elim (by revert h; decide)) (fun h164 => ?_)
  refine W.aload d0_167 rfl rfl ?_
  refine W.iconst 5 d0_169 rfl ?_
  refine W.callsV (M' := m1) d0_170 (hw _ (wd 1 rfl)) (hw _ (wd 2 rfl)) (w1 hw 5 _) (ok1 hw) rfl rfl rfl ?_
  refine W.callvN (M' := m4) d0_173 (hw _ (wd 15 rfl)) (hw _ (wd 16 rfl)) (hw _ (wd 17 rfl)) (hw _ (wd 18 rfl)) (w4b hw (own_key 5) [0, 0, 0, 0, 0, 0, 0] ((0 + 1) + 1) [(0, .ref 3, .null), ((-1000), .null, .null)] [(0, .ref 3, .ref 4), ((-1000), .null, .null), (1000, .null, .null)] 2 (by unfold own_ok; decide) (by decide +kernel)) (ok4 hw) rfl rfl rfl rfl ?_
  refine W.iload d0_176 rfl ?_
  refine W.if_eq d0_178 (fun h => False.elim (by revert h; decide)) (fun h178 => ?_)
  refine W.aload d0_181 rfl rfl ?_
  refine W.iconst 0 d0_183 rfl ?_
  refine W.callsV (M' := m1) d0_184 (hw _ (wd 1 rfl)) (hw _ (wd 2 rfl)) (w1 hw 0 _) (ok1 hw) rfl rfl rfl ?_
  refine W.callvN (M' := m4) d0_187 (hw _ (wd 15 rfl)) (hw _ (wd 16 rfl)) (hw _ (wd 17 rfl)) (hw _ (wd 18 rfl)) (w4b hw (own_key 0) [0, 0, 0, 0, 0, 0, 0] (((0 + 1) + 1) + 1) [(0, .ref 3, .ref 4), ((-1000), .null, .null), (1000, .null, .null)] [(0, .ref 3, .ref 4), ((-1000), .ref 5, .null), (1000, .null, .null), ((-2147483648), .null, .null)] 2 (by unfold own_ok; decide) (by decide +kernel)) (ok4 hw) rfl rfl rfl rfl ?_
  refine W.iload d0_190 rfl ?_
  refine W.if_eq d0_192 (fun h192 => ?_) (fun h => False.elim (by revert h; decide))
  refine W.iload d0_204 rfl ?_
  refine W.if_eq d0_206 (fun h => False.elim (by revert h; decide)) (fun h206 => ?_)
  refine W.aload d0_209 rfl rfl ?_
  refine W.iconst 4 d0_211 rfl ?_
  refine W.callsV (M' := m1) d0_212 (hw _ (wd 1 rfl)) (hw _ (wd 2 rfl)) (w1 hw 4 _) (ok1 hw) rfl rfl rfl ?_
  refine W.callvN (M' := m4) d0_215 (hw _ (wd 15 rfl)) (hw _ (wd 16 rfl)) (hw _ (wd 17 rfl)) (hw _ (wd 18 rfl)) (w4b hw (own_key 4) [0, 0, 0, 0, 0, 0, 0] ((((0 + 1) + 1) + 1) + 1) [(0, .ref 3, .ref 4), ((-1000), .ref 5, .null), (1000, .null, .null), ((-2147483648), .null, .null)] [(0, .ref 3, .ref 4), ((-1000), .ref 5, .null), (1000, .ref 6, .null), ((-2147483648), .null, .null), (1, .null, .null)] 2 (by unfold own_ok; decide) (by decide +kernel)) (ok4 hw) rfl rfl rfl rfl ?_
  refine W.iload d0_218 rfl ?_
  refine W.if_eq d0_220 (fun h => False.elim (by revert h; decide)) (fun h220 => ?_)
  refine W.aload d0_223 rfl rfl ?_
  refine W.bipush 6 d0_225 rfl ?_
  refine W.callsV (M' := m1) d0_227 (hw _ (wd 1 rfl)) (hw _ (wd 2 rfl)) (w1 hw 6 _) (ok1 hw) rfl rfl rfl ?_
  refine W.callvN (M' := m4) d0_230 (hw _ (wd 15 rfl)) (hw _ (wd 16 rfl)) (hw _ (wd 17 rfl)) (hw _ (wd 18 rfl)) (w4b hw (own_key 6) [0, 0, 0, 0, 0, 0, 0] (((((0 + 1) + 1) + 1) + 1) + 1) [(0, .ref 3, .ref 4), ((-1000), .ref 5, .null), (1000, .ref 6, .null), ((-2147483648), .null, .null), (1, .null, .null)] [(0, .ref 3, .ref 4), ((-1000), .ref 5, .null), (1000, .ref 6, .ref 7), ((-2147483648), .null, .null), (1, .null, .null), (2147483647, .null, .null)] 2 (by unfold own_ok; decide) (by decide +kernel)) (ok4 hw) rfl rfl rfl rfl ?_
  refine W.aload d0_233 rfl rfl ?_
  refine W.iconst 0 d0_235 rfl ?_
  refine W.iconst 3 d0_236 rfl ?_
  refine W.iastore (i := 0) d0_237 rfl ⟨by decide, by decide⟩ (by simp) ?_
  refine W.aload d0_238 rfl rfl ?_
  refine W.iconst 1 d0_240 rfl ?_
  refine W.iloadN d0_241 rfl ?_
  refine W.if_eq d0_242 (fun h => False.elim (by revert h; decide)) (fun h242 => ?_)
  refine W.iconst 1 d0_245 rfl ?_
  refine W.goto d0_246 ?_
  refine W.iastore (i := 1) d0_250 rfl ⟨by decide, by decide⟩ (by simp) ?_
  refine W.aload d0_251 rfl rfl ?_
  refine W.iconst 2 d0_253 rfl ?_
  refine W.iload d0_254 rfl ?_
  refine W.if_eq d0_256 (fun h => False.elim (by revert h; decide)) (fun h256 => ?_)
  refine W.iconst 5 d0_259 rfl ?_
  refine W.goto d0_260 ?_
  refine W.iastore (i := 2) d0_264 rfl ⟨by decide, by decide⟩ (by simp) ?_
  refine W.aload d0_265 rfl rfl ?_
  refine W.iconst 3 d0_267 rfl ?_
  refine W.iload d0_268 rfl ?_
  refine W.if_eq d0_270 (fun h => False.elim (by revert h; decide)) (fun h270 => ?_)
  refine W.iconst 0 d0_273 rfl ?_
  refine W.goto d0_274 ?_
  refine W.iastore (i := 3) d0_278 rfl ⟨by decide, by decide⟩ (by simp) ?_
  refine W.aload d0_279 rfl rfl ?_
  refine W.iconst 4 d0_281 rfl ?_
  refine W.iload d0_282 rfl ?_
  refine W.if_eq d0_284 (fun h284 => ?_) (fun h => False.elim (by revert h; decide))
  refine W.iconst (-1) d0_291 rfl ?_
  refine W.iastore (i := 4) d0_292 rfl ⟨by decide, by decide⟩ (by simp) ?_
  refine W.aload d0_293 rfl rfl ?_
  refine W.iconst 5 d0_295 rfl ?_
  refine W.iload d0_296 rfl ?_
  refine W.if_eq d0_298 (fun h => False.elim (by revert h; decide)) (fun h298 => ?_)
  refine W.iconst 4 d0_301 rfl ?_
  refine W.goto d0_302 ?_
  refine W.iastore (i := 5) d0_306 rfl ⟨by decide, by decide⟩ (by simp) ?_
  refine W.aload d0_307 rfl rfl ?_
  refine W.bipush 6 d0_309 rfl ?_
  refine W.iload d0_311 rfl ?_
  refine W.if_eq d0_313 (fun h => False.elim (by revert h; decide)) (fun h313 => ?_)
  refine W.bipush 6 d0_316 rfl ?_
  refine W.goto d0_318 ?_
  refine W.iastore (i := 6) d0_322 rfl ⟨by decide, by decide⟩ (by simp) ?_
  refine W.iconst 1 d0_323 rfl ?_
  refine W.iloadN d0_324 rfl ?_
  refine W.if_eq d0_325 (fun h => False.elim (by revert h; decide)) (fun h325 => ?_)
  refine W.iconst 1 d0_328 rfl ?_
  refine W.goto d0_329 ?_
  refine W.iadd d0_333 ?_
  refine W.iload d0_334 rfl ?_
  refine W.if_eq d0_336 (fun h => False.elim (by revert h; decide)) (fun h336 => ?_)
  refine W.iconst 1 d0_339 rfl ?_
  refine W.goto d0_340 ?_
  refine W.iadd d0_344 ?_
  refine W.iload d0_345 rfl ?_
  refine W.if_eq d0_347 (fun h => False.elim (by revert h; decide)) (fun h347 => ?_)
  refine W.iconst 1 d0_350 rfl ?_
  refine W.goto d0_351 ?_
  refine W.iadd d0_355 ?_
  refine W.iload d0_356 rfl ?_
  refine W.if_eq d0_358 (fun h358 => ?_) (fun h => False.elim (by revert h; decide))
  refine W.iconst 0 d0_365 rfl ?_
  refine W.iadd d0_366 ?_
  refine W.iload d0_367 rfl ?_
  refine W.if_eq d0_369 (fun h => False.elim (by revert h; decide)) (fun h369 => ?_)
  refine W.iconst 1 d0_372 rfl ?_
  refine W.goto d0_373 ?_
  refine W.iadd d0_377 ?_
  refine W.iload d0_378 rfl ?_
  refine W.if_eq d0_380 (fun h => False.elim (by revert h; decide)) (fun h380 => ?_)
  refine W.iconst 1 d0_383 rfl ?_
  refine W.goto d0_384 ?_
  refine W.iadd d0_388 ?_
  refine W.istore d0_389 rfl ?_
  refine W.more (ce' := 9) (sl' := 30) (by decide) (by decide) ?_
  exact sufA hw a b v _ _ _ _ _ _ r x ((((((1 + 1) + 1) + 1) + 0) + 1) + 1) 3 1 5 0 (-1) 4 6 (.ref 2) ((((((0 + 1) + 1) + 1) + 1) + 1) + 1) [(0, .ref 3, .ref 4), ((-1000), .ref 5, .null), (1000, .ref 6, .ref 7), ((-2147483648), .null, .null), (1, .null, .null), (2147483647, .null, .null)] (by unfold own_ok; decide) rfl (chk19 x)
set_option maxRecDepth 65536 in
set_option maxHeartbeats 40000000 in
theorem pre20 {l : Launch} {Z : State} {a0 : Array Value} {n : Nat} (hw : ∀ d ∈ tables_1, d.before a0 Z = true) (a b v r x : Int32) : W l Z n m0 123 [(.val (.int (a))), (.val (.int (b))), (.val (.int (v))), (.val (.int (1))), (.val (.int (1))), (.val (.int (1))), (.val (.int (0))), (.val (.int (0))), (.val (.int (0))), (.val (.int (r))), .unset, .unset, .unset, .unset, .unset, .unset, .unset, .unset, .unset, .unset, .unset, .unset, .unset] [.int x] [] 0 0 (fun v _ => v = some (.int 1)) := by
  refine W.istore d0_123 rfl ?_
  refine W.bipush 7 d0_125 rfl ?_
  refine W.newarray (N := 0) (cnt := 7) (cap := 7) d0_127 (hw _ (wd 5 rfl)) ⟨by decide, by decide⟩ rfl (Nat.le_refl _) (by decide) (by decide) (by decide) ?_
  refine W.astore d0_129 rfl rfl ?_
  refine W.new (N := 1) d0_131 (hw _ (wd 6 rfl)) (okc0 hw) rfl (by decide) (by decide) ?_
  refine W.dup d0_134 rfl ?_
  refine W.initN (M' := m2) d0_135 rfl rfl (hw _ (wd 9 rfl)) (hw _ (wd 10 rfl)) (c2_0 hw) (ok2 hw) rfl rfl rfl ?_
  refine W.astore d0_138 rfl rfl ?_
  refine W.aload d0_140 rfl rfl ?_
  refine W.iconst 3 d0_142 rfl ?_
  refine W.callsV (M' := m1) d0_143 (hw _ (wd 1 rfl)) (hw _ (wd 2 rfl)) (w1 hw 3 _) (ok1 hw) rfl rfl rfl ?_
  refine W.callvN (M' := m4) d0_146 (hw _ (wd 15 rfl)) (hw _ (wd 16 rfl)) (hw _ (wd 17 rfl)) (hw _ (wd 18 rfl)) (w4a hw (own_key 3) [0, 0, 0, 0, 0, 0, 0] 0 []) (ok4 hw) rfl rfl rfl rfl ?_
  refine W.iloadN d0_149 rfl ?_
  refine W.if_eq d0_150 (fun h => False.elim (by revert h; decide)) (fun h150 => ?_)
  refine W.aload d0_153 rfl rfl ?_
  refine W.iconst 1 d0_155 rfl ?_
  refine W.callsV (M' := m1) d0_156 (hw _ (wd 1 rfl)) (hw _ (wd 2 rfl)) (w1 hw 1 _) (ok1 hw) rfl rfl rfl ?_
  refine W.callvN (M' := m4) d0_159 (hw _ (wd 15 rfl)) (hw _ (wd 16 rfl)) (hw _ (wd 17 rfl)) (hw _ (wd 18 rfl)) (w4b hw (own_key 1) [0, 0, 0, 0, 0, 0, 0] (0 + 1) [(0, .null, .null)] [(0, .ref 3, .null), ((-1000), .null, .null)] 2 (by unfold own_ok; decide) (by decide +kernel)) (ok4 hw) rfl rfl rfl rfl ?_
  refine W.iload d0_162 rfl ?_
  refine W.if_eq d0_164 (fun h164 => ?_) (fun h => False.elim (by revert h; decide))
  refine W.iload d0_176 rfl ?_
  refine W.if_eq d0_178 (fun h => False.elim (by revert h; decide)) (fun h178 => ?_)
  refine W.aload d0_181 rfl rfl ?_
  refine W.iconst 0 d0_183 rfl ?_
  refine W.callsV (M' := m1) d0_184 (hw _ (wd 1 rfl)) (hw _ (wd 2 rfl)) (w1 hw 0 _) (ok1 hw) rfl rfl rfl ?_
  refine W.callvN (M' := m4) d0_187 (hw _ (wd 15 rfl)) (hw _ (wd 16 rfl)) (hw _ (wd 17 rfl)) (hw _ (wd 18 rfl)) (w4b hw (own_key 0) [0, 0, 0, 0, 0, 0, 0] ((0 + 1) + 1) [(0, .ref 3, .null), ((-1000), .null, .null)] [(0, .ref 3, .null), ((-1000), .ref 4, .null), ((-2147483648), .null, .null)] 2 (by unfold own_ok; decide) (by decide +kernel)) (ok4 hw) rfl rfl rfl rfl ?_
  refine W.iload d0_190 rfl ?_
  refine W.if_eq d0_192 (fun h => False.elim (by revert h; decide)) (fun h192 => ?_)
  refine W.aload d0_195 rfl rfl ?_
  refine W.iconst 2 d0_197 rfl ?_
  refine W.callsV (M' := m1) d0_198 (hw _ (wd 1 rfl)) (hw _ (wd 2 rfl)) (w1 hw 2 _) (ok1 hw) rfl rfl rfl ?_
  refine W.callvN (M' := m4) d0_201 (hw _ (wd 15 rfl)) (hw _ (wd 16 rfl)) (hw _ (wd 17 rfl)) (hw _ (wd 18 rfl)) (w4b hw (own_key 2) [0, 0, 0, 0, 0, 0, 0] (((0 + 1) + 1) + 1) [(0, .ref 3, .null), ((-1000), .ref 4, .null), ((-2147483648), .null, .null)] [(0, .ref 3, .null), ((-1000), .ref 4, .ref 5), ((-2147483648), .null, .null), ((-1), .null, .null)] 2 (by unfold own_ok; decide) (by decide +kernel)) (ok4 hw) rfl rfl rfl rfl ?_
  refine W.iload d0_204 rfl ?_
  refine W.if_eq d0_206 (fun h206 => ?_) (fun h => False.elim (by revert h; decide))
  refine W.iload d0_218 rfl ?_
  refine W.if_eq d0_220 (fun h220 => ?_) (fun h => False.elim (by revert h; decide))
  refine W.aload d0_233 rfl rfl ?_
  refine W.iconst 0 d0_235 rfl ?_
  refine W.iconst 3 d0_236 rfl ?_
  refine W.iastore (i := 0) d0_237 rfl ⟨by decide, by decide⟩ (by simp) ?_
  refine W.aload d0_238 rfl rfl ?_
  refine W.iconst 1 d0_240 rfl ?_
  refine W.iloadN d0_241 rfl ?_
  refine W.if_eq d0_242 (fun h => False.elim (by revert h; decide)) (fun h242 => ?_)
  refine W.iconst 1 d0_245 rfl ?_
  refine W.goto d0_246 ?_
  refine W.iastore (i := 1) d0_250 rfl ⟨by decide, by decide⟩ (by simp) ?_
  refine W.aload d0_251 rfl rfl ?_
  refine W.iconst 2 d0_253 rfl ?_
  refine W.iload d0_254 rfl ?_
  refine W.if_eq d0_256 (fun h256 => ?_) (fun h => False.elim (by revert h; decide))
  refine W.iconst (-1) d0_263 rfl ?_
  refine W.iastore (i := 2) d0_264 rfl ⟨by decide, by decide⟩ (by simp) ?_
  refine W.aload d0_265 rfl rfl ?_
  refine W.iconst 3 d0_267 rfl ?_
  refine W.iload d0_268 rfl ?_
  refine W.if_eq d0_270 (fun h => False.elim (by revert h; decide)) (fun h270 => ?_)
  refine W.iconst 0 d0_273 rfl ?_
  refine W.goto d0_274 ?_
  refine W.iastore (i := 3) d0_278 rfl ⟨by decide, by decide⟩ (by simp) ?_
  refine W.aload d0_279 rfl rfl ?_
  refine W.iconst 4 d0_281 rfl ?_
  refine W.iload d0_282 rfl ?_
  refine W.if_eq d0_284 (fun h => False.elim (by revert h; decide)) (fun h284 => ?_)
  refine W.iconst 2 d0_287 rfl ?_
  refine W.goto d0_288 ?_
  refine W.iastore (i := 4) d0_292 rfl ⟨by decide, by decide⟩ (by simp) ?_
  refine W.aload d0_293 rfl rfl ?_
  refine W.iconst 5 d0_295 rfl ?_
  refine W.iload d0_296 rfl ?_
  refine W.if_eq d0_298 (fun h298 => ?_) (fun h => False.elim (by revert h; decide))
  refine W.iconst (-1) d0_305 rfl ?_
  refine W.iastore (i := 5) d0_306 rfl ⟨by decide, by decide⟩ (by simp) ?_
  refine W.aload d0_307 rfl rfl ?_
  refine W.bipush 6 d0_309 rfl ?_
  refine W.iload d0_311 rfl ?_
  refine W.if_eq d0_313 (fun h313 => ?_) (fun h => False.elim (by revert h; decide))
  refine W.iconst (-1) d0_321 rfl ?_
  refine W.iastore (i := 6) d0_322 rfl ⟨by decide, by decide⟩ (by simp) ?_
  refine W.iconst 1 d0_323 rfl ?_
  refine W.iloadN d0_324 rfl ?_
  refine W.if_eq d0_325 (fun h => False.elim (by revert h; decide)) (fun h325 => ?_)
  refine W.iconst 1 d0_328 rfl ?_
  refine W.goto d0_329 ?_
  refine W.iadd d0_333 ?_
  refine W.iload d0_334 rfl ?_
  refine W.if_eq d0_336 (fun h336 => ?_) (fun h => False.elim (by revert h; decide))
  refine W.iconst 0 d0_343 rfl ?_
  refine W.iadd d0_344 ?_
  refine W.iload d0_345 rfl ?_
  refine W.if_eq d0_347 (fun h => False.elim (by revert h; decide)) (fun h347 => ?_)
  refine W.iconst 1 d0_350 rfl ?_
  refine W.goto d0_351 ?_
  refine W.iadd d0_355 ?_
  refine W.iload d0_356 rfl ?_
  refine W.if_eq d0_358 (fun h => False.elim (by revert h; decide)) (fun h358 => ?_)
  refine W.iconst 1 d0_361 rfl ?_
  refine W.goto d0_362 ?_
  refine W.iadd d0_366 ?_
  refine W.iload d0_367 rfl ?_
  refine W.if_eq d0_369 (fun h369 => ?_) (fun h => False.elim (by revert h; decide))
  refine W.iconst 0 d0_376 rfl ?_
  refine W.iadd d0_377 ?_
  refine W.iload d0_378 rfl ?_
  refine W.if_eq d0_380 (fun h380 => ?_) (fun h => False.elim (by revert h; decide))
  refine W.iconst 0 d0_387 rfl ?_
  refine W.iadd d0_388 ?_
  refine W.istore d0_389 rfl ?_
  refine W.more (ce' := 9) (sl' := 30) (by decide) (by decide) ?_
  exact sufA hw a b v _ _ _ _ _ _ r x ((((((1 + 1) + 0) + 1) + 1) + 0) + 0) 3 1 (-1) 0 2 (-1) (-1) (.ref 2) ((((0 + 1) + 1) + 1) + 1) [(0, .ref 3, .null), ((-1000), .ref 4, .ref 5), ((-2147483648), .null, .null), ((-1), .null, .null)] (by unfold own_ok; decide) rfl (chk20 x)
set_option maxRecDepth 65536 in
set_option maxHeartbeats 40000000 in
theorem pre21 {l : Launch} {Z : State} {a0 : Array Value} {n : Nat} (hw : ∀ d ∈ tables_1, d.before a0 Z = true) (a b v r x : Int32) : W l Z n m0 123 [(.val (.int (a))), (.val (.int (b))), (.val (.int (v))), (.val (.int (1))), (.val (.int (1))), (.val (.int (1))), (.val (.int (1))), (.val (.int (0))), (.val (.int (0))), (.val (.int (r))), .unset, .unset, .unset, .unset, .unset, .unset, .unset, .unset, .unset, .unset, .unset, .unset, .unset] [.int x] [] 0 0 (fun v _ => v = some (.int 1)) := by
  refine W.istore d0_123 rfl ?_
  refine W.bipush 7 d0_125 rfl ?_
  refine W.newarray (N := 0) (cnt := 7) (cap := 7) d0_127 (hw _ (wd 5 rfl)) ⟨by decide, by decide⟩ rfl (Nat.le_refl _) (by decide) (by decide) (by decide) ?_
  refine W.astore d0_129 rfl rfl ?_
  refine W.new (N := 1) d0_131 (hw _ (wd 6 rfl)) (okc0 hw) rfl (by decide) (by decide) ?_
  refine W.dup d0_134 rfl ?_
  refine W.initN (M' := m2) d0_135 rfl rfl (hw _ (wd 9 rfl)) (hw _ (wd 10 rfl)) (c2_0 hw) (ok2 hw) rfl rfl rfl ?_
  refine W.astore d0_138 rfl rfl ?_
  refine W.aload d0_140 rfl rfl ?_
  refine W.iconst 3 d0_142 rfl ?_
  refine W.callsV (M' := m1) d0_143 (hw _ (wd 1 rfl)) (hw _ (wd 2 rfl)) (w1 hw 3 _) (ok1 hw) rfl rfl rfl ?_
  refine W.callvN (M' := m4) d0_146 (hw _ (wd 15 rfl)) (hw _ (wd 16 rfl)) (hw _ (wd 17 rfl)) (hw _ (wd 18 rfl)) (w4a hw (own_key 3) [0, 0, 0, 0, 0, 0, 0] 0 []) (ok4 hw) rfl rfl rfl rfl ?_
  refine W.iloadN d0_149 rfl ?_
  refine W.if_eq d0_150 (fun h => False.elim (by revert h; decide)) (fun h150 => ?_)
  refine W.aload d0_153 rfl rfl ?_
  refine W.iconst 1 d0_155 rfl ?_
  refine W.callsV (M' := m1) d0_156 (hw _ (wd 1 rfl)) (hw _ (wd 2 rfl)) (w1 hw 1 _) (ok1 hw) rfl rfl rfl ?_
  refine W.callvN (M' := m4) d0_159 (hw _ (wd 15 rfl)) (hw _ (wd 16 rfl)) (hw _ (wd 17 rfl)) (hw _ (wd 18 rfl)) (w4b hw (own_key 1) [0, 0, 0, 0, 0, 0, 0] (0 + 1) [(0, .null, .null)] [(0, .ref 3, .null), ((-1000), .null, .null)] 2 (by unfold own_ok; decide) (by decide +kernel)) (ok4 hw) rfl rfl rfl rfl ?_
  refine W.iload d0_162 rfl ?_
  refine W.if_eq d0_164 (fun h => False.elim (by revert h; decide)) (fun h164 => ?_)
  refine W.aload d0_167 rfl rfl ?_
  refine W.iconst 5 d0_169 rfl ?_
  refine W.callsV (M' := m1) d0_170 (hw _ (wd 1 rfl)) (hw _ (wd 2 rfl)) (w1 hw 5 _) (ok1 hw) rfl rfl rfl ?_
  refine W.callvN (M' := m4) d0_173 (hw _ (wd 15 rfl)) (hw _ (wd 16 rfl)) (hw _ (wd 17 rfl)) (hw _ (wd 18 rfl)) (w4b hw (own_key 5) [0, 0, 0, 0, 0, 0, 0] ((0 + 1) + 1) [(0, .ref 3, .null), ((-1000), .null, .null)] [(0, .ref 3, .ref 4), ((-1000), .null, .null), (1000, .null, .null)] 2 (by unfold own_ok; decide) (by decide +kernel)) (ok4 hw) rfl rfl rfl rfl ?_
  refine W.iload d0_176 rfl ?_
  refine W.if_eq d0_178 (fun h => False.elim (by revert h; decide)) (fun h178 => ?_)
  refine W.aload d0_181 rfl rfl ?_
  refine W.iconst 0 d0_183 rfl ?_
  refine W.callsV (M' := m1) d0_184 (hw _ (wd 1 rfl)) (hw _ (wd 2 rfl)) (w1 hw 0 _) (ok1 hw) rfl rfl rfl ?_
  refine W.callvN (M' := m4) d0_187 (hw _ (wd 15 rfl)) (hw _ (wd 16 rfl)) (hw _ (wd 17 rfl)) (hw _ (wd 18 rfl)) (w4b hw (own_key 0) [0, 0, 0, 0, 0, 0, 0] (((0 + 1) + 1) + 1) [(0, .ref 3, .ref 4), ((-1000), .null, .null), (1000, .null, .null)] [(0, .ref 3, .ref 4), ((-1000), .ref 5, .null), (1000, .null, .null), ((-2147483648), .null, .null)] 2 (by unfold own_ok; decide) (by decide +kernel)) (ok4 hw) rfl rfl rfl rfl ?_
  refine W.iload d0_190 rfl ?_
  refine W.if_eq d0_192 (fun h => False.elim (by revert h; decide)) (fun h192 => ?_)
  refine W.aload d0_195 rfl rfl ?_
  refine W.iconst 2 d0_197 rfl ?_
  refine W.callsV (M' := m1) d0_198 (hw _ (wd 1 rfl)) (hw _ (wd 2 rfl)) (w1 hw 2 _) (ok1 hw) rfl rfl rfl ?_
  refine W.callvN (M' := m4) d0_201 (hw _ (wd 15 rfl)) (hw _ (wd 16 rfl)) (hw _ (wd 17 rfl)) (hw _ (wd 18 rfl)) (w4b hw (own_key 2) [0, 0, 0, 0, 0, 0, 0] ((((0 + 1) + 1) + 1) + 1) [(0, .ref 3, .ref 4), ((-1000), .ref 5, .null), (1000, .null, .null), ((-2147483648), .null, .null)] [(0, .ref 3, .ref 4), ((-1000), .ref 5, .ref 6), (1000, .null, .null), ((-2147483648), .null, .null), ((-1), .null, .null)] 2 (by unfold own_ok; decide) (by decide +kernel)) (ok4 hw) rfl rfl rfl rfl ?_
  refine W.iload d0_204 rfl ?_
  refine W.if_eq d0_206 (fun h206 => ?_) (fun h => False.elim (by revert h; decide))
  refine W.iload d0_218 rfl ?_
  refine W.if_eq d0_220 (fun h220 => ?_) (fun h => False.elim (by revert h; decide))
  refine W.aload d0_233 rfl rfl ?_
  refine W.iconst 0 d0_235 rfl ?_
  refine W.iconst 3 d0_236 rfl ?_
  refine W.iastore (i := 0) d0_237 rfl ⟨by decide, by decide⟩ (by simp) ?_
  refine W.aload d0_238 rfl rfl ?_
  refine W.iconst 1 d0_240 rfl ?_
  refine W.iloadN d0_241 rfl ?_
  refine W.if_eq d0_242 (fun h => False.elim (by revert h; decide)) (fun h242 => ?_)
  refine W.iconst 1 d0_245 rfl ?_
  refine W.goto d0_246 ?_
  refine W.iastore (i := 1) d0_250 rfl ⟨by decide, by decide⟩ (by simp) ?_
  refine W.aload d0_251 rfl rfl ?_
  refine W.iconst 2 d0_253 rfl ?_
  refine W.iload d0_254 rfl ?_
  refine W.if_eq d0_256 (fun h => False.elim (by revert h; decide)) (fun h256 => ?_)
  refine W.iconst 5 d0_259 rfl ?_
  refine W.goto d0_260 ?_
  refine W.iastore (i := 2) d0_264 rfl ⟨by decide, by decide⟩ (by simp) ?_
  refine W.aload d0_265 rfl rfl ?_
  refine W.iconst 3 d0_267 rfl ?_
  refine W.iload d0_268 rfl ?_
  refine W.if_eq d0_270 (fun h => False.elim (by revert h; decide)) (fun h270 => ?_)
  refine W.iconst 0 d0_273 rfl ?_
  refine W.goto d0_274 ?_
  refine W.iastore (i := 3) d0_278 rfl ⟨by decide, by decide⟩ (by simp) ?_
  refine W.aload d0_279 rfl rfl ?_
  refine W.iconst 4 d0_281 rfl ?_
  refine W.iload d0_282 rfl ?_
  refine W.if_eq d0_284 (fun h => False.elim (by revert h; decide)) (fun h284 => ?_)
  refine W.iconst 2 d0_287 rfl ?_
  refine W.goto d0_288 ?_
  refine W.iastore (i := 4) d0_292 rfl ⟨by decide, by decide⟩ (by simp) ?_
  refine W.aload d0_293 rfl rfl ?_
  refine W.iconst 5 d0_295 rfl ?_
  refine W.iload d0_296 rfl ?_
  refine W.if_eq d0_298 (fun h298 => ?_) (fun h => False.elim (by revert h; decide))
  refine W.iconst (-1) d0_305 rfl ?_
  refine W.iastore (i := 5) d0_306 rfl ⟨by decide, by decide⟩ (by simp) ?_
  refine W.aload d0_307 rfl rfl ?_
  refine W.bipush 6 d0_309 rfl ?_
  refine W.iload d0_311 rfl ?_
  refine W.if_eq d0_313 (fun h313 => ?_) (fun h => False.elim (by revert h; decide))
  refine W.iconst (-1) d0_321 rfl ?_
  refine W.iastore (i := 6) d0_322 rfl ⟨by decide, by decide⟩ (by simp) ?_
  refine W.iconst 1 d0_323 rfl ?_
  refine W.iloadN d0_324 rfl ?_
  refine W.if_eq d0_325 (fun h => False.elim (by revert h; decide)) (fun h325 => ?_)
  refine W.iconst 1 d0_328 rfl ?_
  refine W.goto d0_329 ?_
  refine W.iadd d0_333 ?_
  refine W.iload d0_334 rfl ?_
  refine W.if_eq d0_336 (fun h => False.elim (by revert h; decide)) (fun h336 => ?_)
  refine W.iconst 1 d0_339 rfl ?_
  refine W.goto d0_340 ?_
  refine W.iadd d0_344 ?_
  refine W.iload d0_345 rfl ?_
  refine W.if_eq d0_347 (fun h => False.elim (by revert h; decide)) (fun h347 => ?_)
  refine W.iconst 1 d0_350 rfl ?_
  refine W.goto d0_351 ?_
  refine W.iadd d0_355 ?_
  refine W.iload d0_356 rfl ?_
  refine W.if_eq d0_358 (fun h => False.elim (by revert h; decide)) (fun h358 => ?_)
  refine W.iconst 1 d0_361 rfl ?_
  refine W.goto d0_362 ?_
  refine W.iadd d0_366 ?_
  refine W.iload d0_367 rfl ?_
  refine W.if_eq d0_369 (fun h369 => ?_) (fun h => False.elim (by revert h; decide))
  refine W.iconst 0 d0_376 rfl ?_
  refine W.iadd d0_377 ?_
  refine W.iload d0_378 rfl ?_
  refine W.if_eq d0_380 (fun h380 => ?_) (fun h => False.elim (by revert h; decide))
  refine W.iconst 0 d0_387 rfl ?_
  refine W.iadd d0_388 ?_
  refine W.istore d0_389 rfl ?_
  refine W.more (ce' := 9) (sl' := 30) (by decide) (by decide) ?_
  exact sufA hw a b v _ _ _ _ _ _ r x ((((((1 + 1) + 1) + 1) + 1) + 0) + 0) 3 1 5 0 2 (-1) (-1) (.ref 2) (((((0 + 1) + 1) + 1) + 1) + 1) [(0, .ref 3, .ref 4), ((-1000), .ref 5, .ref 6), (1000, .null, .null), ((-2147483648), .null, .null), ((-1), .null, .null)] (by unfold own_ok; decide) rfl (chk21 x)
set_option maxRecDepth 65536 in
set_option maxHeartbeats 40000000 in
theorem pre22 {l : Launch} {Z : State} {a0 : Array Value} {n : Nat} (hw : ∀ d ∈ tables_1, d.before a0 Z = true) (a b v r x : Int32) : W l Z n m0 123 [(.val (.int (a))), (.val (.int (b))), (.val (.int (v))), (.val (.int (1))), (.val (.int (1))), (.val (.int (1))), (.val (.int (1))), (.val (.int (0))), (.val (.int (1))), (.val (.int (r))), .unset, .unset, .unset, .unset, .unset, .unset, .unset, .unset, .unset, .unset, .unset, .unset, .unset] [.int x] [] 0 0 (fun v _ => v = some (.int 1)) := by
  refine W.istore d0_123 rfl ?_
  refine W.bipush 7 d0_125 rfl ?_
  refine W.newarray (N := 0) (cnt := 7) (cap := 7) d0_127 (hw _ (wd 5 rfl)) ⟨by decide, by decide⟩ rfl (Nat.le_refl _) (by decide) (by decide) (by decide) ?_
  refine W.astore d0_129 rfl rfl ?_
  refine W.new (N := 1) d0_131 (hw _ (wd 6 rfl)) (okc0 hw) rfl (by decide) (by decide) ?_
  refine W.dup d0_134 rfl ?_
  refine W.initN (M' := m2) d0_135 rfl rfl (hw _ (wd 9 rfl)) (hw _ (wd 10 rfl)) (c2_0 hw) (ok2 hw) rfl rfl rfl ?_
  refine W.astore d0_138 rfl rfl ?_
  refine W.aload d0_140 rfl rfl ?_
  refine W.iconst 3 d0_142 rfl ?_
  refine W.callsV (M' := m1) d0_143 (hw _ (wd 1 rfl)) (hw _ (wd 2 rfl)) (w1 hw 3 _) (ok1 hw) rfl rfl rfl ?_
  refine W.callvN (M' := m4) d0_146 (hw _ (wd 15 rfl)) (hw _ (wd 16 rfl)) (hw _ (wd 17 rfl)) (hw _ (wd 18 rfl)) (w4a hw (own_key 3) [0, 0, 0, 0, 0, 0, 0] 0 []) (ok4 hw) rfl rfl rfl rfl ?_
  refine W.iloadN d0_149 rfl ?_
  refine W.if_eq d0_150 (fun h => False.elim (by revert h; decide)) (fun h150 => ?_)
  refine W.aload d0_153 rfl rfl ?_
  refine W.iconst 1 d0_155 rfl ?_
  refine W.callsV (M' := m1) d0_156 (hw _ (wd 1 rfl)) (hw _ (wd 2 rfl)) (w1 hw 1 _) (ok1 hw) rfl rfl rfl ?_
  refine W.callvN (M' := m4) d0_159 (hw _ (wd 15 rfl)) (hw _ (wd 16 rfl)) (hw _ (wd 17 rfl)) (hw _ (wd 18 rfl)) (w4b hw (own_key 1) [0, 0, 0, 0, 0, 0, 0] (0 + 1) [(0, .null, .null)] [(0, .ref 3, .null), ((-1000), .null, .null)] 2 (by unfold own_ok; decide) (by decide +kernel)) (ok4 hw) rfl rfl rfl rfl ?_
  refine W.iload d0_162 rfl ?_
  refine W.if_eq d0_164 (fun h => False.elim (by revert h; decide)) (fun h164 => ?_)
  refine W.aload d0_167 rfl rfl ?_
  refine W.iconst 5 d0_169 rfl ?_
  refine W.callsV (M' := m1) d0_170 (hw _ (wd 1 rfl)) (hw _ (wd 2 rfl)) (w1 hw 5 _) (ok1 hw) rfl rfl rfl ?_
  refine W.callvN (M' := m4) d0_173 (hw _ (wd 15 rfl)) (hw _ (wd 16 rfl)) (hw _ (wd 17 rfl)) (hw _ (wd 18 rfl)) (w4b hw (own_key 5) [0, 0, 0, 0, 0, 0, 0] ((0 + 1) + 1) [(0, .ref 3, .null), ((-1000), .null, .null)] [(0, .ref 3, .ref 4), ((-1000), .null, .null), (1000, .null, .null)] 2 (by unfold own_ok; decide) (by decide +kernel)) (ok4 hw) rfl rfl rfl rfl ?_
  refine W.iload d0_176 rfl ?_
  refine W.if_eq d0_178 (fun h => False.elim (by revert h; decide)) (fun h178 => ?_)
  refine W.aload d0_181 rfl rfl ?_
  refine W.iconst 0 d0_183 rfl ?_
  refine W.callsV (M' := m1) d0_184 (hw _ (wd 1 rfl)) (hw _ (wd 2 rfl)) (w1 hw 0 _) (ok1 hw) rfl rfl rfl ?_
  refine W.callvN (M' := m4) d0_187 (hw _ (wd 15 rfl)) (hw _ (wd 16 rfl)) (hw _ (wd 17 rfl)) (hw _ (wd 18 rfl)) (w4b hw (own_key 0) [0, 0, 0, 0, 0, 0, 0] (((0 + 1) + 1) + 1) [(0, .ref 3, .ref 4), ((-1000), .null, .null), (1000, .null, .null)] [(0, .ref 3, .ref 4), ((-1000), .ref 5, .null), (1000, .null, .null), ((-2147483648), .null, .null)] 2 (by unfold own_ok; decide) (by decide +kernel)) (ok4 hw) rfl rfl rfl rfl ?_
  refine W.iload d0_190 rfl ?_
  refine W.if_eq d0_192 (fun h => False.elim (by revert h; decide)) (fun h192 => ?_)
  refine W.aload d0_195 rfl rfl ?_
  refine W.iconst 2 d0_197 rfl ?_
  refine W.callsV (M' := m1) d0_198 (hw _ (wd 1 rfl)) (hw _ (wd 2 rfl)) (w1 hw 2 _) (ok1 hw) rfl rfl rfl ?_
  refine W.callvN (M' := m4) d0_201 (hw _ (wd 15 rfl)) (hw _ (wd 16 rfl)) (hw _ (wd 17 rfl)) (hw _ (wd 18 rfl)) (w4b hw (own_key 2) [0, 0, 0, 0, 0, 0, 0] ((((0 + 1) + 1) + 1) + 1) [(0, .ref 3, .ref 4), ((-1000), .ref 5, .null), (1000, .null, .null), ((-2147483648), .null, .null)] [(0, .ref 3, .ref 4), ((-1000), .ref 5, .ref 6), (1000, .null, .null), ((-2147483648), .null, .null), ((-1), .null, .null)] 2 (by unfold own_ok; decide) (by decide +kernel)) (ok4 hw) rfl rfl rfl rfl ?_
  refine W.iload d0_204 rfl ?_
  refine W.if_eq d0_206 (fun h206 => ?_) (fun h => False.elim (by revert h; decide))
  refine W.iload d0_218 rfl ?_
  refine W.if_eq d0_220 (fun h => False.elim (by revert h; decide)) (fun h220 => ?_)
  refine W.aload d0_223 rfl rfl ?_
  refine W.bipush 6 d0_225 rfl ?_
  refine W.callsV (M' := m1) d0_227 (hw _ (wd 1 rfl)) (hw _ (wd 2 rfl)) (w1 hw 6 _) (ok1 hw) rfl rfl rfl ?_
  refine W.callvN (M' := m4) d0_230 (hw _ (wd 15 rfl)) (hw _ (wd 16 rfl)) (hw _ (wd 17 rfl)) (hw _ (wd 18 rfl)) (w4b hw (own_key 6) [0, 0, 0, 0, 0, 0, 0] (((((0 + 1) + 1) + 1) + 1) + 1) [(0, .ref 3, .ref 4), ((-1000), .ref 5, .ref 6), (1000, .null, .null), ((-2147483648), .null, .null), ((-1), .null, .null)] [(0, .ref 3, .ref 4), ((-1000), .ref 5, .ref 6), (1000, .null, .ref 7), ((-2147483648), .null, .null), ((-1), .null, .null), (2147483647, .null, .null)] 2 (by unfold own_ok; decide) (by decide +kernel)) (ok4 hw) rfl rfl rfl rfl ?_
  refine W.aload d0_233 rfl rfl ?_
  refine W.iconst 0 d0_235 rfl ?_
  refine W.iconst 3 d0_236 rfl ?_
  refine W.iastore (i := 0) d0_237 rfl ⟨by decide, by decide⟩ (by simp) ?_
  refine W.aload d0_238 rfl rfl ?_
  refine W.iconst 1 d0_240 rfl ?_
  refine W.iloadN d0_241 rfl ?_
  refine W.if_eq d0_242 (fun h => False.elim (by revert h; decide)) (fun h242 => ?_)
  refine W.iconst 1 d0_245 rfl ?_
  refine W.goto d0_246 ?_
  refine W.iastore (i := 1) d0_250 rfl ⟨by decide, by decide⟩ (by simp) ?_
  refine W.aload d0_251 rfl rfl ?_
  refine W.iconst 2 d0_253 rfl ?_
  refine W.iload d0_254 rfl ?_
  refine W.if_eq d0_256 (fun h => False.elim (by revert h; decide)) (fun h256 => ?_)
  refine W.iconst 5 d0_259 rfl ?_
  refine W.goto d0_260 ?_
  refine W.iastore (i := 2) d0_264 rfl ⟨by decide, by decide⟩ (by simp) ?_
  refine W.aload d0_265 rfl rfl ?_
  refine W.iconst 3 d0_267 rfl ?_
  refine W.iload d0_268 rfl ?_
  refine W.if_eq d0_270 (fun h => False.elim (by revert h; decide)) (fun h270 => ?_)
  refine W.iconst 0 d0_273 rfl ?_
  refine W.goto d0_274 ?_
  refine W.iastore (i := 3) d0_278 rfl ⟨by decide, by decide⟩ (by simp) ?_
  refine W.aload d0_279 rfl rfl ?_
  refine W.iconst 4 d0_281 rfl ?_
  refine W.iload d0_282 rfl ?_
  refine W.if_eq d0_284 (fun h => False.elim (by revert h; decide)) (fun h284 => ?_)
  refine W.iconst 2 d0_287 rfl ?_
  refine W.goto d0_288 ?_
  refine W.iastore (i := 4) d0_292 rfl ⟨by decide, by decide⟩ (by simp) ?_
  refine W.aload d0_293 rfl rfl ?_
  refine W.iconst 5 d0_295 rfl ?_
  refine W.iload d0_296 rfl ?_
  refine W.if_eq d0_298 (fun h298 => ?_) (fun h => False.elim (by revert h; decide))
  refine W.iconst (-1) d0_305 rfl ?_
  refine W.iastore (i := 5) d0_306 rfl ⟨by decide, by decide⟩ (by simp) ?_
  refine W.aload d0_307 rfl rfl ?_
  refine W.bipush 6 d0_309 rfl ?_
  refine W.iload d0_311 rfl ?_
  refine W.if_eq d0_313 (fun h => False.elim (by revert h; decide)) (fun h313 => ?_)
  refine W.bipush 6 d0_316 rfl ?_
  refine W.goto d0_318 ?_
  refine W.iastore (i := 6) d0_322 rfl ⟨by decide, by decide⟩ (by simp) ?_
  refine W.iconst 1 d0_323 rfl ?_
  refine W.iloadN d0_324 rfl ?_
  refine W.if_eq d0_325 (fun h => False.elim (by revert h; decide)) (fun h325 => ?_)
  refine W.iconst 1 d0_328 rfl ?_
  refine W.goto d0_329 ?_
  refine W.iadd d0_333 ?_
  refine W.iload d0_334 rfl ?_
  refine W.if_eq d0_336 (fun h => False.elim (by revert h; decide)) (fun h336 => ?_)
  refine W.iconst 1 d0_339 rfl ?_
  refine W.goto d0_340 ?_
  refine W.iadd d0_344 ?_
  refine W.iload d0_345 rfl ?_
  refine W.if_eq d0_347 (fun h => False.elim (by revert h; decide)) (fun h347 => ?_)
  refine W.iconst 1 d0_350 rfl ?_
  refine W.goto d0_351 ?_
  refine W.iadd d0_355 ?_
  refine W.iload d0_356 rfl ?_
  refine W.if_eq d0_358 (fun h => False.elim (by revert h; decide)) (fun h358 => ?_)
  refine W.iconst 1 d0_361 rfl ?_
  refine W.goto d0_362 ?_
  refine W.iadd d0_366 ?_
  refine W.iload d0_367 rfl ?_
  refine W.if_eq d0_369 (fun h369 => ?_) (fun h => False.elim (by revert h; decide))
  refine W.iconst 0 d0_376 rfl ?_
  refine W.iadd d0_377 ?_
  refine W.iload d0_378 rfl ?_
  refine W.if_eq d0_380 (fun h => False.elim (by revert h; decide)) (fun h380 => ?_)
  refine W.iconst 1 d0_383 rfl ?_
  refine W.goto d0_384 ?_
  refine W.iadd d0_388 ?_
  refine W.istore d0_389 rfl ?_
  refine W.more (ce' := 9) (sl' := 30) (by decide) (by decide) ?_
  exact sufA hw a b v _ _ _ _ _ _ r x ((((((1 + 1) + 1) + 1) + 1) + 0) + 1) 3 1 5 0 2 (-1) 6 (.ref 2) ((((((0 + 1) + 1) + 1) + 1) + 1) + 1) [(0, .ref 3, .ref 4), ((-1000), .ref 5, .ref 6), (1000, .null, .ref 7), ((-2147483648), .null, .null), ((-1), .null, .null), (2147483647, .null, .null)] (by unfold own_ok; decide) rfl (chk22 x)
set_option maxRecDepth 65536 in
set_option maxHeartbeats 40000000 in
theorem pre23 {l : Launch} {Z : State} {a0 : Array Value} {n : Nat} (hw : ∀ d ∈ tables_1, d.before a0 Z = true) (a b v r x : Int32) : W l Z n m0 123 [(.val (.int (a))), (.val (.int (b))), (.val (.int (v))), (.val (.int (1))), (.val (.int (1))), (.val (.int (1))), (.val (.int (1))), (.val (.int (1))), (.val (.int (0))), (.val (.int (r))), .unset, .unset, .unset, .unset, .unset, .unset, .unset, .unset, .unset, .unset, .unset, .unset, .unset] [.int x] [] 0 0 (fun v _ => v = some (.int 1)) := by
  refine W.istore d0_123 rfl ?_
  refine W.bipush 7 d0_125 rfl ?_
  refine W.newarray (N := 0) (cnt := 7) (cap := 7) d0_127 (hw _ (wd 5 rfl)) ⟨by decide, by decide⟩ rfl (Nat.le_refl _) (by decide) (by decide) (by decide) ?_
  refine W.astore d0_129 rfl rfl ?_
  refine W.new (N := 1) d0_131 (hw _ (wd 6 rfl)) (okc0 hw) rfl (by decide) (by decide) ?_
  refine W.dup d0_134 rfl ?_
  refine W.initN (M' := m2) d0_135 rfl rfl (hw _ (wd 9 rfl)) (hw _ (wd 10 rfl)) (c2_0 hw) (ok2 hw) rfl rfl rfl ?_
  refine W.astore d0_138 rfl rfl ?_
  refine W.aload d0_140 rfl rfl ?_
  refine W.iconst 3 d0_142 rfl ?_
  refine W.callsV (M' := m1) d0_143 (hw _ (wd 1 rfl)) (hw _ (wd 2 rfl)) (w1 hw 3 _) (ok1 hw) rfl rfl rfl ?_
  refine W.callvN (M' := m4) d0_146 (hw _ (wd 15 rfl)) (hw _ (wd 16 rfl)) (hw _ (wd 17 rfl)) (hw _ (wd 18 rfl)) (w4a hw (own_key 3) [0, 0, 0, 0, 0, 0, 0] 0 []) (ok4 hw) rfl rfl rfl rfl ?_
  refine W.iloadN d0_149 rfl ?_
  refine W.if_eq d0_150 (fun h => False.elim (by revert h; decide)) (fun h150 => ?_)
  refine W.aload d0_153 rfl rfl ?_
  refine W.iconst 1 d0_155 rfl ?_
  refine W.callsV (M' := m1) d0_156 (hw _ (wd 1 rfl)) (hw _ (wd 2 rfl)) (w1 hw 1 _) (ok1 hw) rfl rfl rfl ?_
  refine W.callvN (M' := m4) d0_159 (hw _ (wd 15 rfl)) (hw _ (wd 16 rfl)) (hw _ (wd 17 rfl)) (hw _ (wd 18 rfl)) (w4b hw (own_key 1) [0, 0, 0, 0, 0, 0, 0] (0 + 1) [(0, .null, .null)] [(0, .ref 3, .null), ((-1000), .null, .null)] 2 (by unfold own_ok; decide) (by decide +kernel)) (ok4 hw) rfl rfl rfl rfl ?_
  refine W.iload d0_162 rfl ?_
  refine W.if_eq d0_164 (fun h => False.elim (by revert h; decide)) (fun h164 => ?_)
  refine W.aload d0_167 rfl rfl ?_
  refine W.iconst 5 d0_169 rfl ?_
  refine W.callsV (M' := m1) d0_170 (hw _ (wd 1 rfl)) (hw _ (wd 2 rfl)) (w1 hw 5 _) (ok1 hw) rfl rfl rfl ?_
  refine W.callvN (M' := m4) d0_173 (hw _ (wd 15 rfl)) (hw _ (wd 16 rfl)) (hw _ (wd 17 rfl)) (hw _ (wd 18 rfl)) (w4b hw (own_key 5) [0, 0, 0, 0, 0, 0, 0] ((0 + 1) + 1) [(0, .ref 3, .null), ((-1000), .null, .null)] [(0, .ref 3, .ref 4), ((-1000), .null, .null), (1000, .null, .null)] 2 (by unfold own_ok; decide) (by decide +kernel)) (ok4 hw) rfl rfl rfl rfl ?_
  refine W.iload d0_176 rfl ?_
  refine W.if_eq d0_178 (fun h => False.elim (by revert h; decide)) (fun h178 => ?_)
  refine W.aload d0_181 rfl rfl ?_
  refine W.iconst 0 d0_183 rfl ?_
  refine W.callsV (M' := m1) d0_184 (hw _ (wd 1 rfl)) (hw _ (wd 2 rfl)) (w1 hw 0 _) (ok1 hw) rfl rfl rfl ?_
  refine W.callvN (M' := m4) d0_187 (hw _ (wd 15 rfl)) (hw _ (wd 16 rfl)) (hw _ (wd 17 rfl)) (hw _ (wd 18 rfl)) (w4b hw (own_key 0) [0, 0, 0, 0, 0, 0, 0] (((0 + 1) + 1) + 1) [(0, .ref 3, .ref 4), ((-1000), .null, .null), (1000, .null, .null)] [(0, .ref 3, .ref 4), ((-1000), .ref 5, .null), (1000, .null, .null), ((-2147483648), .null, .null)] 2 (by unfold own_ok; decide) (by decide +kernel)) (ok4 hw) rfl rfl rfl rfl ?_
  refine W.iload d0_190 rfl ?_
  refine W.if_eq d0_192 (fun h => False.elim (by revert h; decide)) (fun h192 => ?_)
  refine W.aload d0_195 rfl rfl ?_
  refine W.iconst 2 d0_197 rfl ?_
  refine W.callsV (M' := m1) d0_198 (hw _ (wd 1 rfl)) (hw _ (wd 2 rfl)) (w1 hw 2 _) (ok1 hw) rfl rfl rfl ?_
  refine W.callvN (M' := m4) d0_201 (hw _ (wd 15 rfl)) (hw _ (wd 16 rfl)) (hw _ (wd 17 rfl)) (hw _ (wd 18 rfl)) (w4b hw (own_key 2) [0, 0, 0, 0, 0, 0, 0] ((((0 + 1) + 1) + 1) + 1) [(0, .ref 3, .ref 4), ((-1000), .ref 5, .null), (1000, .null, .null), ((-2147483648), .null, .null)] [(0, .ref 3, .ref 4), ((-1000), .ref 5, .ref 6), (1000, .null, .null), ((-2147483648), .null, .null), ((-1), .null, .null)] 2 (by unfold own_ok; decide) (by decide +kernel)) (ok4 hw) rfl rfl rfl rfl ?_
  refine W.iload d0_204 rfl ?_
  refine W.if_eq d0_206 (fun h => False.elim (by revert h; decide)) (fun h206 => ?_)
  refine W.aload d0_209 rfl rfl ?_
  refine W.iconst 4 d0_211 rfl ?_
  refine W.callsV (M' := m1) d0_212 (hw _ (wd 1 rfl)) (hw _ (wd 2 rfl)) (w1 hw 4 _) (ok1 hw) rfl rfl rfl ?_
  refine W.callvN (M' := m4) d0_215 (hw _ (wd 15 rfl)) (hw _ (wd 16 rfl)) (hw _ (wd 17 rfl)) (hw _ (wd 18 rfl)) (w4b hw (own_key 4) [0, 0, 0, 0, 0, 0, 0] (((((0 + 1) + 1) + 1) + 1) + 1) [(0, .ref 3, .ref 4), ((-1000), .ref 5, .ref 6), (1000, .null, .null), ((-2147483648), .null, .null), ((-1), .null, .null)] [(0, .ref 3, .ref 4), ((-1000), .ref 5, .ref 6), (1000, .ref 7, .null), ((-2147483648), .null, .null), ((-1), .null, .null), (1, .null, .null)] 2 (by unfold own_ok; decide) (by decide +kernel)) (ok4 hw) rfl rfl rfl rfl ?_
  refine W.iload d0_218 rfl ?_
  refine W.if_eq d0_220 (fun h220 => ?_) (fun h => False.elim (by revert h; decide))
  refine W.aload d0_233 rfl rfl ?_
  refine W.iconst 0 d0_235 rfl ?_
  refine W.iconst 3 d0_236 rfl ?_
  refine W.iastore (i := 0) d0_237 rfl ⟨by decide, by decide⟩ (by simp) ?_
  refine W.aload d0_238 rfl rfl ?_
  refine W.iconst 1 d0_240 rfl ?_
  refine W.iloadN d0_241 rfl ?_
  refine W.if_eq d0_242 (fun h => False.elim (by revert h; decide)) (fun h242 => ?_)
  refine W.iconst 1 d0_245 rfl ?_
  refine W.goto d0_246 ?_
  refine W.iastore (i := 1) d0_250 rfl ⟨by decide, by decide⟩ (by simp) ?_
  refine W.aload d0_251 rfl rfl ?_
  refine W.iconst 2 d0_253 rfl ?_
  refine W.iload d0_254 rfl ?_
  refine W.if_eq d0_256 (fun h => False.elim (by revert h; decide)) (fun h256 => ?_)
  refine W.iconst 5 d0_259 rfl ?_
  refine W.goto d0_260 ?_
  refine W.iastore (i := 2) d0_264 rfl ⟨by decide, by decide⟩ (by simp) ?_
  refine W.aload d0_265 rfl rfl ?_
  refine W.iconst 3 d0_267 rfl ?_
  refine W.iload d0_268 rfl ?_
  refine W.if_eq d0_270 (fun h => False.elim (by revert h; decide)) (fun h270 => ?_)
  refine W.iconst 0 d0_273 rfl ?_
  refine W.goto d0_274 ?_
  refine W.iastore (i := 3) d0_278 rfl ⟨by decide, by decide⟩ (by simp) ?_
  refine W.aload d0_279 rfl rfl ?_
  refine W.iconst 4 d0_281 rfl ?_
  refine W.iload d0_282 rfl ?_
  refine W.if_eq d0_284 (fun h => False.elim (by revert h; decide)) (fun h284 => ?_)
  refine W.iconst 2 d0_287 rfl ?_
  refine W.goto d0_288 ?_
  refine W.iastore (i := 4) d0_292 rfl ⟨by decide, by decide⟩ (by simp) ?_
  refine W.aload d0_293 rfl rfl ?_
  refine W.iconst 5 d0_295 rfl ?_
  refine W.iload d0_296 rfl ?_
  refine W.if_eq d0_298 (fun h => False.elim (by revert h; decide)) (fun h298 => ?_)
  refine W.iconst 4 d0_301 rfl ?_
  refine W.goto d0_302 ?_
  refine W.iastore (i := 5) d0_306 rfl ⟨by decide, by decide⟩ (by simp) ?_
  refine W.aload d0_307 rfl rfl ?_
  refine W.bipush 6 d0_309 rfl ?_
  refine W.iload d0_311 rfl ?_
  refine W.if_eq d0_313 (fun h313 => ?_) (fun h => False.elim (by revert h; decide))
  refine W.iconst (-1) d0_321 rfl ?_
  refine W.iastore (i := 6) d0_322 rfl ⟨by decide, by decide⟩ (by simp) ?_
  refine W.iconst 1 d0_323 rfl ?_
  refine W.iloadN d0_324 rfl ?_
  refine W.if_eq d0_325 (fun h => False.elim (by revert h; decide)) (fun h325 => ?_)
  refine W.iconst 1 d0_328 rfl ?_
  refine W.goto d0_329 ?_
  refine W.iadd d0_333 ?_
  refine W.iload d0_334 rfl ?_
  refine W.if_eq d0_336 (fun h => False.elim (by revert h; decide)) (fun h336 => ?_)
  refine W.iconst 1 d0_339 rfl ?_
  refine W.goto d0_340 ?_
  refine W.iadd d0_344 ?_
  refine W.iload d0_345 rfl ?_
  refine W.if_eq d0_347 (fun h => False.elim (by revert h; decide)) (fun h347 => ?_)
  refine W.iconst 1 d0_350 rfl ?_
  refine W.goto d0_351 ?_
  refine W.iadd d0_355 ?_
  refine W.iload d0_356 rfl ?_
  refine W.if_eq d0_358 (fun h => False.elim (by revert h; decide)) (fun h358 => ?_)
  refine W.iconst 1 d0_361 rfl ?_
  refine W.goto d0_362 ?_
  refine W.iadd d0_366 ?_
  refine W.iload d0_367 rfl ?_
  refine W.if_eq d0_369 (fun h => False.elim (by revert h; decide)) (fun h369 => ?_)
  refine W.iconst 1 d0_372 rfl ?_
  refine W.goto d0_373 ?_
  refine W.iadd d0_377 ?_
  refine W.iload d0_378 rfl ?_
  refine W.if_eq d0_380 (fun h380 => ?_) (fun h => False.elim (by revert h; decide))
  refine W.iconst 0 d0_387 rfl ?_
  refine W.iadd d0_388 ?_
  refine W.istore d0_389 rfl ?_
  refine W.more (ce' := 9) (sl' := 30) (by decide) (by decide) ?_
  exact sufA hw a b v _ _ _ _ _ _ r x ((((((1 + 1) + 1) + 1) + 1) + 1) + 0) 3 1 5 0 2 4 (-1) (.ref 2) ((((((0 + 1) + 1) + 1) + 1) + 1) + 1) [(0, .ref 3, .ref 4), ((-1000), .ref 5, .ref 6), (1000, .ref 7, .null), ((-2147483648), .null, .null), ((-1), .null, .null), (1, .null, .null)] (by unfold own_ok; decide) rfl (chk23 x)
set_option maxRecDepth 65536 in
set_option maxHeartbeats 40000000 in
theorem pre24 {l : Launch} {Z : State} {a0 : Array Value} {n : Nat} (hw : ∀ d ∈ tables_1, d.before a0 Z = true) (a b v r x : Int32) : W l Z n m0 123 [(.val (.int (a))), (.val (.int (b))), (.val (.int (v))), (.val (.int (1))), (.val (.int (1))), (.val (.int (1))), (.val (.int (1))), (.val (.int (1))), (.val (.int (1))), (.val (.int (r))), .unset, .unset, .unset, .unset, .unset, .unset, .unset, .unset, .unset, .unset, .unset, .unset, .unset] [.int x] [] 0 0 (fun v _ => v = some (.int 1)) := by
  refine W.istore d0_123 rfl ?_
  refine W.bipush 7 d0_125 rfl ?_
  refine W.newarray (N := 0) (cnt := 7) (cap := 7) d0_127 (hw _ (wd 5 rfl)) ⟨by decide, by decide⟩ rfl (Nat.le_refl _) (by decide) (by decide) (by decide) ?_
  refine W.astore d0_129 rfl rfl ?_
  refine W.new (N := 1) d0_131 (hw _ (wd 6 rfl)) (okc0 hw) rfl (by decide) (by decide) ?_
  refine W.dup d0_134 rfl ?_
  refine W.initN (M' := m2) d0_135 rfl rfl (hw _ (wd 9 rfl)) (hw _ (wd 10 rfl)) (c2_0 hw) (ok2 hw) rfl rfl rfl ?_
  refine W.astore d0_138 rfl rfl ?_
  refine W.aload d0_140 rfl rfl ?_
  refine W.iconst 3 d0_142 rfl ?_
  refine W.callsV (M' := m1) d0_143 (hw _ (wd 1 rfl)) (hw _ (wd 2 rfl)) (w1 hw 3 _) (ok1 hw) rfl rfl rfl ?_
  refine W.callvN (M' := m4) d0_146 (hw _ (wd 15 rfl)) (hw _ (wd 16 rfl)) (hw _ (wd 17 rfl)) (hw _ (wd 18 rfl)) (w4a hw (own_key 3) [0, 0, 0, 0, 0, 0, 0] 0 []) (ok4 hw) rfl rfl rfl rfl ?_
  refine W.iloadN d0_149 rfl ?_
  refine W.if_eq d0_150 (fun h => False.elim (by revert h; decide)) (fun h150 => ?_)
  refine W.aload d0_153 rfl rfl ?_
  refine W.iconst 1 d0_155 rfl ?_
  refine W.callsV (M' := m1) d0_156 (hw _ (wd 1 rfl)) (hw _ (wd 2 rfl)) (w1 hw 1 _) (ok1 hw) rfl rfl rfl ?_
  refine W.callvN (M' := m4) d0_159 (hw _ (wd 15 rfl)) (hw _ (wd 16 rfl)) (hw _ (wd 17 rfl)) (hw _ (wd 18 rfl)) (w4b hw (own_key 1) [0, 0, 0, 0, 0, 0, 0] (0 + 1) [(0, .null, .null)] [(0, .ref 3, .null), ((-1000), .null, .null)] 2 (by unfold own_ok; decide) (by decide +kernel)) (ok4 hw) rfl rfl rfl rfl ?_
  refine W.iload d0_162 rfl ?_
  refine W.if_eq d0_164 (fun h => False.elim (by revert h; decide)) (fun h164 => ?_)
  refine W.aload d0_167 rfl rfl ?_
  refine W.iconst 5 d0_169 rfl ?_
  refine W.callsV (M' := m1) d0_170 (hw _ (wd 1 rfl)) (hw _ (wd 2 rfl)) (w1 hw 5 _) (ok1 hw) rfl rfl rfl ?_
  refine W.callvN (M' := m4) d0_173 (hw _ (wd 15 rfl)) (hw _ (wd 16 rfl)) (hw _ (wd 17 rfl)) (hw _ (wd 18 rfl)) (w4b hw (own_key 5) [0, 0, 0, 0, 0, 0, 0] ((0 + 1) + 1) [(0, .ref 3, .null), ((-1000), .null, .null)] [(0, .ref 3, .ref 4), ((-1000), .null, .null), (1000, .null, .null)] 2 (by unfold own_ok; decide) (by decide +kernel)) (ok4 hw) rfl rfl rfl rfl ?_
  refine W.iload d0_176 rfl ?_
  refine W.if_eq d0_178 (fun h => False.elim (by revert h; decide)) (fun h178 => ?_)
  refine W.aload d0_181 rfl rfl ?_
  refine W.iconst 0 d0_183 rfl ?_
  refine W.callsV (M' := m1) d0_184 (hw _ (wd 1 rfl)) (hw _ (wd 2 rfl)) (w1 hw 0 _) (ok1 hw) rfl rfl rfl ?_
  refine W.callvN (M' := m4) d0_187 (hw _ (wd 15 rfl)) (hw _ (wd 16 rfl)) (hw _ (wd 17 rfl)) (hw _ (wd 18 rfl)) (w4b hw (own_key 0) [0, 0, 0, 0, 0, 0, 0] (((0 + 1) + 1) + 1) [(0, .ref 3, .ref 4), ((-1000), .null, .null), (1000, .null, .null)] [(0, .ref 3, .ref 4), ((-1000), .ref 5, .null), (1000, .null, .null), ((-2147483648), .null, .null)] 2 (by unfold own_ok; decide) (by decide +kernel)) (ok4 hw) rfl rfl rfl rfl ?_
  refine W.iload d0_190 rfl ?_
  refine W.if_eq d0_192 (fun h => False.elim (by revert h; decide)) (fun h192 => ?_)
  refine W.aload d0_195 rfl rfl ?_
  refine W.iconst 2 d0_197 rfl ?_
  refine W.callsV (M' := m1) d0_198 (hw _ (wd 1 rfl)) (hw _ (wd 2 rfl)) (w1 hw 2 _) (ok1 hw) rfl rfl rfl ?_
  refine W.callvN (M' := m4) d0_201 (hw _ (wd 15 rfl)) (hw _ (wd 16 rfl)) (hw _ (wd 17 rfl)) (hw _ (wd 18 rfl)) (w4b hw (own_key 2) [0, 0, 0, 0, 0, 0, 0] ((((0 + 1) + 1) + 1) + 1) [(0, .ref 3, .ref 4), ((-1000), .ref 5, .null), (1000, .null, .null), ((-2147483648), .null, .null)] [(0, .ref 3, .ref 4), ((-1000), .ref 5, .ref 6), (1000, .null, .null), ((-2147483648), .null, .null), ((-1), .null, .null)] 2 (by unfold own_ok; decide) (by decide +kernel)) (ok4 hw) rfl rfl rfl rfl ?_
  refine W.iload d0_204 rfl ?_
  refine W.if_eq d0_206 (fun h => False.elim (by revert h; decide)) (fun h206 => ?_)
  refine W.aload d0_209 rfl rfl ?_
  refine W.iconst 4 d0_211 rfl ?_
  refine W.callsV (M' := m1) d0_212 (hw _ (wd 1 rfl)) (hw _ (wd 2 rfl)) (w1 hw 4 _) (ok1 hw) rfl rfl rfl ?_
  refine W.callvN (M' := m4) d0_215 (hw _ (wd 15 rfl)) (hw _ (wd 16 rfl)) (hw _ (wd 17 rfl)) (hw _ (wd 18 rfl)) (w4b hw (own_key 4) [0, 0, 0, 0, 0, 0, 0] (((((0 + 1) + 1) + 1) + 1) + 1) [(0, .ref 3, .ref 4), ((-1000), .ref 5, .ref 6), (1000, .null, .null), ((-2147483648), .null, .null), ((-1), .null, .null)] [(0, .ref 3, .ref 4), ((-1000), .ref 5, .ref 6), (1000, .ref 7, .null), ((-2147483648), .null, .null), ((-1), .null, .null), (1, .null, .null)] 2 (by unfold own_ok; decide) (by decide +kernel)) (ok4 hw) rfl rfl rfl rfl ?_
  refine W.iload d0_218 rfl ?_
  refine W.if_eq d0_220 (fun h => False.elim (by revert h; decide)) (fun h220 => ?_)
  refine W.aload d0_223 rfl rfl ?_
  refine W.bipush 6 d0_225 rfl ?_
  refine W.callsV (M' := m1) d0_227 (hw _ (wd 1 rfl)) (hw _ (wd 2 rfl)) (w1 hw 6 _) (ok1 hw) rfl rfl rfl ?_
  refine W.callvN (M' := m4) d0_230 (hw _ (wd 15 rfl)) (hw _ (wd 16 rfl)) (hw _ (wd 17 rfl)) (hw _ (wd 18 rfl)) (w4b hw (own_key 6) [0, 0, 0, 0, 0, 0, 0] ((((((0 + 1) + 1) + 1) + 1) + 1) + 1) [(0, .ref 3, .ref 4), ((-1000), .ref 5, .ref 6), (1000, .ref 7, .null), ((-2147483648), .null, .null), ((-1), .null, .null), (1, .null, .null)] [(0, .ref 3, .ref 4), ((-1000), .ref 5, .ref 6), (1000, .ref 7, .ref 8), ((-2147483648), .null, .null), ((-1), .null, .null), (1, .null, .null), (2147483647, .null, .null)] 2 (by unfold own_ok; decide) (by decide +kernel)) (ok4 hw) rfl rfl rfl rfl ?_
  refine W.aload d0_233 rfl rfl ?_
  refine W.iconst 0 d0_235 rfl ?_
  refine W.iconst 3 d0_236 rfl ?_
  refine W.iastore (i := 0) d0_237 rfl ⟨by decide, by decide⟩ (by simp) ?_
  refine W.aload d0_238 rfl rfl ?_
  refine W.iconst 1 d0_240 rfl ?_
  refine W.iloadN d0_241 rfl ?_
  refine W.if_eq d0_242 (fun h => False.elim (by revert h; decide)) (fun h242 => ?_)
  refine W.iconst 1 d0_245 rfl ?_
  refine W.goto d0_246 ?_
  refine W.iastore (i := 1) d0_250 rfl ⟨by decide, by decide⟩ (by simp) ?_
  refine W.aload d0_251 rfl rfl ?_
  refine W.iconst 2 d0_253 rfl ?_
  refine W.iload d0_254 rfl ?_
  refine W.if_eq d0_256 (fun h => False.elim (by revert h; decide)) (fun h256 => ?_)
  refine W.iconst 5 d0_259 rfl ?_
  refine W.goto d0_260 ?_
  refine W.iastore (i := 2) d0_264 rfl ⟨by decide, by decide⟩ (by simp) ?_
  refine W.aload d0_265 rfl rfl ?_
  refine W.iconst 3 d0_267 rfl ?_
  refine W.iload d0_268 rfl ?_
  refine W.if_eq d0_270 (fun h => False.elim (by revert h; decide)) (fun h270 => ?_)
  refine W.iconst 0 d0_273 rfl ?_
  refine W.goto d0_274 ?_
  refine W.iastore (i := 3) d0_278 rfl ⟨by decide, by decide⟩ (by simp) ?_
  refine W.aload d0_279 rfl rfl ?_
  refine W.iconst 4 d0_281 rfl ?_
  refine W.iload d0_282 rfl ?_
  refine W.if_eq d0_284 (fun h => False.elim (by revert h; decide)) (fun h284 => ?_)
  refine W.iconst 2 d0_287 rfl ?_
  refine W.goto d0_288 ?_
  refine W.iastore (i := 4) d0_292 rfl ⟨by decide, by decide⟩ (by simp) ?_
  refine W.aload d0_293 rfl rfl ?_
  refine W.iconst 5 d0_295 rfl ?_
  refine W.iload d0_296 rfl ?_
  refine W.if_eq d0_298 (fun h => False.elim (by revert h; decide)) (fun h298 => ?_)
  refine W.iconst 4 d0_301 rfl ?_
  refine W.goto d0_302 ?_
  refine W.iastore (i := 5) d0_306 rfl ⟨by decide, by decide⟩ (by simp) ?_
  refine W.aload d0_307 rfl rfl ?_
  refine W.bipush 6 d0_309 rfl ?_
  refine W.iload d0_311 rfl ?_
  refine W.if_eq d0_313 (fun h => False.elim (by revert h; decide)) (fun h313 => ?_)
  refine W.bipush 6 d0_316 rfl ?_
  refine W.goto d0_318 ?_
  refine W.iastore (i := 6) d0_322 rfl ⟨by decide, by decide⟩ (by simp) ?_
  refine W.iconst 1 d0_323 rfl ?_
  refine W.iloadN d0_324 rfl ?_
  refine W.if_eq d0_325 (fun h => False.elim (by revert h; decide)) (fun h325 => ?_)
  refine W.iconst 1 d0_328 rfl ?_
  refine W.goto d0_329 ?_
  refine W.iadd d0_333 ?_
  refine W.iload d0_334 rfl ?_
  refine W.if_eq d0_336 (fun h => False.elim (by revert h; decide)) (fun h336 => ?_)
  refine W.iconst 1 d0_339 rfl ?_
  refine W.goto d0_340 ?_
  refine W.iadd d0_344 ?_
  refine W.iload d0_345 rfl ?_
  refine W.if_eq d0_347 (fun h => False.elim (by revert h; decide)) (fun h347 => ?_)
  refine W.iconst 1 d0_350 rfl ?_
  refine W.goto d0_351 ?_
  refine W.iadd d0_355 ?_
  refine W.iload d0_356 rfl ?_
  refine W.if_eq d0_358 (fun h => False.elim (by revert h; decide)) (fun h358 => ?_)
  refine W.iconst 1 d0_361 rfl ?_
  refine W.goto d0_362 ?_
  refine W.iadd d0_366 ?_
  refine W.iload d0_367 rfl ?_
  refine W.if_eq d0_369 (fun h => False.elim (by revert h; decide)) (fun h369 => ?_)
  refine W.iconst 1 d0_372 rfl ?_
  refine W.goto d0_373 ?_
  refine W.iadd d0_377 ?_
  refine W.iload d0_378 rfl ?_
  refine W.if_eq d0_380 (fun h => False.elim (by revert h; decide)) (fun h380 => ?_)
  refine W.iconst 1 d0_383 rfl ?_
  refine W.goto d0_384 ?_
  refine W.iadd d0_388 ?_
  refine W.istore d0_389 rfl ?_
  refine W.more (ce' := 9) (sl' := 30) (by decide) (by decide) ?_
  exact sufA hw a b v _ _ _ _ _ _ r x ((((((1 + 1) + 1) + 1) + 1) + 1) + 1) 3 1 5 0 2 4 6 (.ref 2) (((((((0 + 1) + 1) + 1) + 1) + 1) + 1) + 1) [(0, .ref 3, .ref 4), ((-1000), .ref 5, .ref 6), (1000, .ref 7, .ref 8), ((-2147483648), .null, .null), ((-1), .null, .null), (1, .null, .null), (2147483647, .null, .null)] (by unfold own_ok; decide) rfl (chk24 x)
set_option maxRecDepth 65536 in
set_option maxHeartbeats 40000000 in
theorem w_law {l : Launch} {Z : State} {a0 : Array Value} {n : Nat} (hw : ∀ d ∈ tables_1, d.before a0 Z = true) (a b v : Int32) : W l Z n m0 0 (entryL [.int a, .int b, .int v] 23) [] [] 0 0 (fun v _ => v = some (.int 1)) := by
  show W l Z n m0 0 [(.val (.int (a))), (.val (.int (b))), (.val (.int (v))), .unset, .unset, .unset, .unset, .unset, .unset, .unset, .unset, .unset, .unset, .unset, .unset, .unset, .unset, .unset, .unset, .unset, .unset, .unset, .unset] [] [] 0 0 _
  refine W.iloadN d0_0 rfl ?_
  refine W.iconst 2 d0_1 rfl ?_
  refine W.iand d0_2 ?_
  refine W.if_eq d0_3 (fun h3 => ?_) (fun h3 => ?_)
  · refine W.iconst 0 d0_10 rfl ?_
    refine W.istoreN d0_11 rfl ?_
    refine W.iloadN d0_12 rfl ?_
    refine W.if_eq d0_13 (fun h13 => ?_) (fun h => False.elim (by revert h; decide))
    refine W.iconst 0 d0_26 rfl ?_
    refine W.istore d0_27 rfl ?_
    refine W.iloadN d0_29 rfl ?_
    refine W.if_eq d0_30 (fun h30 => ?_) (fun h => False.elim (by revert h; decide))
    refine W.iconst 0 d0_43 rfl ?_
    refine W.istore d0_44 rfl ?_
    refine W.iloadN d0_46 rfl ?_
    refine W.bipush 32 d0_47 rfl ?_
    refine W.iand d0_49 ?_
    refine W.if_eq d0_50 (fun h50 => ?_) (fun h50 => ?_)
    · refine W.iconst 0 d0_57 rfl ?_
      refine W.istore d0_58 rfl ?_
      refine W.iload d0_60 rfl ?_
      refine W.if_eq d0_62 (fun h62 => ?_) (fun h => False.elim (by revert h; decide))
      refine W.iconst 0 d0_76 rfl ?_
      refine W.istore d0_77 rfl ?_
      refine W.iload d0_79 rfl ?_
      refine W.if_eq d0_81 (fun h81 => ?_) (fun h => False.elim (by revert h; decide))
      refine W.iconst 0 d0_95 rfl ?_
      refine W.istore d0_96 rfl ?_
      refine W.iloadN d0_98 rfl ?_
      refine W.ldc d0_99 (hw _ (wd 0 rfl)) ?_
      refine W.iand d0_101 ?_
      refine W.bipush 8 d0_102 rfl ?_
      refine W.irem d0_104 (by decide) ?_
      refine W.istore d0_105 rfl ?_
      refine W.iload d0_107 rfl ?_
      refine W.bipush 7 d0_109 rfl ?_
      refine W.icmp_ge d0_111 (fun h111 => ?_) (fun h111 => ?_)
      · refine W.iloadN d0_122 rfl ?_
        exact pre0 hw a b v _ _
      · refine W.iload d0_114 rfl ?_
        refine W.callsV (M' := m1) d0_116 (hw _ (wd 1 rfl)) (hw _ (wd 2 rfl)) (w1 hw ((b &&& 2147483647) % 8) _) (ok1 hw) rfl rfl rfl ?_
        refine W.goto d0_119 ?_
        exact pre0 hw a b v _ _
    · refine W.iconst 1 d0_53 rfl ?_
      refine W.goto d0_54 ?_
      refine W.istore d0_58 rfl ?_
      refine W.iload d0_60 rfl ?_
      refine W.if_eq d0_62 (fun h => False.elim (by revert h; decide)) (fun h62 => ?_)
      refine W.iloadN d0_65 rfl ?_
      refine W.bipush 16 d0_66 rfl ?_
      refine W.iand d0_68 ?_
      refine W.if_eq d0_69 (fun h69 => ?_) (fun h69 => ?_)
      · refine W.iconst 0 d0_76 rfl ?_
        refine W.istore d0_77 rfl ?_
        refine W.iload d0_79 rfl ?_
        refine W.if_eq d0_81 (fun h => False.elim (by revert h; decide)) (fun h81 => ?_)
        refine W.iloadN d0_84 rfl ?_
        refine W.bipush 64 d0_85 rfl ?_
        refine W.iand d0_87 ?_
        refine W.if_eq d0_88 (fun h88 => ?_) (fun h88 => ?_)
        · refine W.iconst 0 d0_95 rfl ?_
          refine W.istore d0_96 rfl ?_
          refine W.iloadN d0_98 rfl ?_
          refine W.ldc d0_99 (hw _ (wd 0 rfl)) ?_
          refine W.iand d0_101 ?_
          refine W.bipush 8 d0_102 rfl ?_
          refine W.irem d0_104 (by decide) ?_
          refine W.istore d0_105 rfl ?_
          refine W.iload d0_107 rfl ?_
          refine W.bipush 7 d0_109 rfl ?_
          refine W.icmp_ge d0_111 (fun h111 => ?_) (fun h111 => ?_)
          · refine W.iloadN d0_122 rfl ?_
            exact pre1 hw a b v _ _
          · refine W.iload d0_114 rfl ?_
            refine W.callsV (M' := m1) d0_116 (hw _ (wd 1 rfl)) (hw _ (wd 2 rfl)) (w1 hw ((b &&& 2147483647) % 8) _) (ok1 hw) rfl rfl rfl ?_
            refine W.goto d0_119 ?_
            exact pre1 hw a b v _ _
        · refine W.iconst 1 d0_91 rfl ?_
          refine W.goto d0_92 ?_
          refine W.istore d0_96 rfl ?_
          refine W.iloadN d0_98 rfl ?_
          refine W.ldc d0_99 (hw _ (wd 0 rfl)) ?_
          refine W.iand d0_101 ?_
          refine W.bipush 8 d0_102 rfl ?_
          refine W.irem d0_104 (by decide) ?_
          refine W.istore d0_105 rfl ?_
          refine W.iload d0_107 rfl ?_
          refine W.bipush 7 d0_109 rfl ?_
          refine W.icmp_ge d0_111 (fun h111 => ?_) (fun h111 => ?_)
          · refine W.iloadN d0_122 rfl ?_
            exact pre2 hw a b v _ _
          · refine W.iload d0_114 rfl ?_
            refine W.callsV (M' := m1) d0_116 (hw _ (wd 1 rfl)) (hw _ (wd 2 rfl)) (w1 hw ((b &&& 2147483647) % 8) _) (ok1 hw) rfl rfl rfl ?_
            refine W.goto d0_119 ?_
            exact pre2 hw a b v _ _
      · refine W.iconst 1 d0_72 rfl ?_
        refine W.goto d0_73 ?_
        refine W.istore d0_77 rfl ?_
        refine W.iload d0_79 rfl ?_
        refine W.if_eq d0_81 (fun h => False.elim (by revert h; decide)) (fun h81 => ?_)
        refine W.iloadN d0_84 rfl ?_
        refine W.bipush 64 d0_85 rfl ?_
        refine W.iand d0_87 ?_
        refine W.if_eq d0_88 (fun h88 => ?_) (fun h88 => ?_)
        · refine W.iconst 0 d0_95 rfl ?_
          refine W.istore d0_96 rfl ?_
          refine W.iloadN d0_98 rfl ?_
          refine W.ldc d0_99 (hw _ (wd 0 rfl)) ?_
          refine W.iand d0_101 ?_
          refine W.bipush 8 d0_102 rfl ?_
          refine W.irem d0_104 (by decide) ?_
          refine W.istore d0_105 rfl ?_
          refine W.iload d0_107 rfl ?_
          refine W.bipush 7 d0_109 rfl ?_
          refine W.icmp_ge d0_111 (fun h111 => ?_) (fun h111 => ?_)
          · refine W.iloadN d0_122 rfl ?_
            exact pre3 hw a b v _ _
          · refine W.iload d0_114 rfl ?_
            refine W.callsV (M' := m1) d0_116 (hw _ (wd 1 rfl)) (hw _ (wd 2 rfl)) (w1 hw ((b &&& 2147483647) % 8) _) (ok1 hw) rfl rfl rfl ?_
            refine W.goto d0_119 ?_
            exact pre3 hw a b v _ _
        · refine W.iconst 1 d0_91 rfl ?_
          refine W.goto d0_92 ?_
          refine W.istore d0_96 rfl ?_
          refine W.iloadN d0_98 rfl ?_
          refine W.ldc d0_99 (hw _ (wd 0 rfl)) ?_
          refine W.iand d0_101 ?_
          refine W.bipush 8 d0_102 rfl ?_
          refine W.irem d0_104 (by decide) ?_
          refine W.istore d0_105 rfl ?_
          refine W.iload d0_107 rfl ?_
          refine W.bipush 7 d0_109 rfl ?_
          refine W.icmp_ge d0_111 (fun h111 => ?_) (fun h111 => ?_)
          · refine W.iloadN d0_122 rfl ?_
            exact pre4 hw a b v _ _
          · refine W.iload d0_114 rfl ?_
            refine W.callsV (M' := m1) d0_116 (hw _ (wd 1 rfl)) (hw _ (wd 2 rfl)) (w1 hw ((b &&& 2147483647) % 8) _) (ok1 hw) rfl rfl rfl ?_
            refine W.goto d0_119 ?_
            exact pre4 hw a b v _ _
  · refine W.iconst 1 d0_6 rfl ?_
    refine W.goto d0_7 ?_
    refine W.istoreN d0_11 rfl ?_
    refine W.iloadN d0_12 rfl ?_
    refine W.if_eq d0_13 (fun h => False.elim (by revert h; decide)) (fun h13 => ?_)
    refine W.iloadN d0_16 rfl ?_
    refine W.iconst 1 d0_17 rfl ?_
    refine W.iand d0_18 ?_
    refine W.if_eq d0_19 (fun h19 => ?_) (fun h19 => ?_)
    · refine W.iconst 0 d0_26 rfl ?_
      refine W.istore d0_27 rfl ?_
      refine W.iloadN d0_29 rfl ?_
      refine W.if_eq d0_30 (fun h => False.elim (by revert h; decide)) (fun h30 => ?_)
      refine W.iloadN d0_33 rfl ?_
      refine W.iconst 4 d0_34 rfl ?_
      refine W.iand d0_35 ?_
      refine W.if_eq d0_36 (fun h36 => ?_) (fun h36 => ?_)
      · refine W.iconst 0 d0_43 rfl ?_
        refine W.istore d0_44 rfl ?_
        refine W.iloadN d0_46 rfl ?_
        refine W.bipush 32 d0_47 rfl ?_
        refine W.iand d0_49 ?_
        refine W.if_eq d0_50 (fun h50 => ?_) (fun h50 => ?_)
        · refine W.iconst 0 d0_57 rfl ?_
          refine W.istore d0_58 rfl ?_
          refine W.iload d0_60 rfl ?_
          refine W.if_eq d0_62 (fun h62 => ?_) (fun h => False.elim (by revert h; decide))
          refine W.iconst 0 d0_76 rfl ?_
          refine W.istore d0_77 rfl ?_
          refine W.iload d0_79 rfl ?_
          refine W.if_eq d0_81 (fun h81 => ?_) (fun h => False.elim (by revert h; decide))
          refine W.iconst 0 d0_95 rfl ?_
          refine W.istore d0_96 rfl ?_
          refine W.iloadN d0_98 rfl ?_
          refine W.ldc d0_99 (hw _ (wd 0 rfl)) ?_
          refine W.iand d0_101 ?_
          refine W.bipush 8 d0_102 rfl ?_
          refine W.irem d0_104 (by decide) ?_
          refine W.istore d0_105 rfl ?_
          refine W.iload d0_107 rfl ?_
          refine W.bipush 7 d0_109 rfl ?_
          refine W.icmp_ge d0_111 (fun h111 => ?_) (fun h111 => ?_)
          · refine W.iloadN d0_122 rfl ?_
            exact pre5 hw a b v _ _
          · refine W.iload d0_114 rfl ?_
            refine W.callsV (M' := m1) d0_116 (hw _ (wd 1 rfl)) (hw _ (wd 2 rfl)) (w1 hw ((b &&& 2147483647) % 8) _) (ok1 hw) rfl rfl rfl ?_
            refine W.goto d0_119 ?_
            exact pre5 hw a b v _ _
        · refine W.iconst 1 d0_53 rfl ?_
          refine W.goto d0_54 ?_
          refine W.istore d0_58 rfl ?_
          refine W.iload d0_60 rfl ?_
          refine W.if_eq d0_62 (fun h => False.elim (by revert h; decide)) (fun h62 => ?_)
          refine W.iloadN d0_65 rfl ?_
          refine W.bipush 16 d0_66 rfl ?_
          refine W.iand d0_68 ?_
          refine W.if_eq d0_69 (fun h69 => ?_) (fun h69 => ?_)
          · refine W.iconst 0 d0_76 rfl ?_
            refine W.istore d0_77 rfl ?_
            refine W.iload d0_79 rfl ?_
            refine W.if_eq d0_81 (fun h => False.elim (by revert h; decide)) (fun h81 => ?_)
            refine W.iloadN d0_84 rfl ?_
            refine W.bipush 64 d0_85 rfl ?_
            refine W.iand d0_87 ?_
            refine W.if_eq d0_88 (fun h88 => ?_) (fun h88 => ?_)
            · refine W.iconst 0 d0_95 rfl ?_
              refine W.istore d0_96 rfl ?_
              refine W.iloadN d0_98 rfl ?_
              refine W.ldc d0_99 (hw _ (wd 0 rfl)) ?_
              refine W.iand d0_101 ?_
              refine W.bipush 8 d0_102 rfl ?_
              refine W.irem d0_104 (by decide) ?_
              refine W.istore d0_105 rfl ?_
              refine W.iload d0_107 rfl ?_
              refine W.bipush 7 d0_109 rfl ?_
              refine W.icmp_ge d0_111 (fun h111 => ?_) (fun h111 => ?_)
              · refine W.iloadN d0_122 rfl ?_
                exact pre6 hw a b v _ _
              · refine W.iload d0_114 rfl ?_
                refine W.callsV (M' := m1) d0_116 (hw _ (wd 1 rfl)) (hw _ (wd 2 rfl)) (w1 hw ((b &&& 2147483647) % 8) _) (ok1 hw) rfl rfl rfl ?_
                refine W.goto d0_119 ?_
                exact pre6 hw a b v _ _
            · refine W.iconst 1 d0_91 rfl ?_
              refine W.goto d0_92 ?_
              refine W.istore d0_96 rfl ?_
              refine W.iloadN d0_98 rfl ?_
              refine W.ldc d0_99 (hw _ (wd 0 rfl)) ?_
              refine W.iand d0_101 ?_
              refine W.bipush 8 d0_102 rfl ?_
              refine W.irem d0_104 (by decide) ?_
              refine W.istore d0_105 rfl ?_
              refine W.iload d0_107 rfl ?_
              refine W.bipush 7 d0_109 rfl ?_
              refine W.icmp_ge d0_111 (fun h111 => ?_) (fun h111 => ?_)
              · refine W.iloadN d0_122 rfl ?_
                exact pre7 hw a b v _ _
              · refine W.iload d0_114 rfl ?_
                refine W.callsV (M' := m1) d0_116 (hw _ (wd 1 rfl)) (hw _ (wd 2 rfl)) (w1 hw ((b &&& 2147483647) % 8) _) (ok1 hw) rfl rfl rfl ?_
                refine W.goto d0_119 ?_
                exact pre7 hw a b v _ _
          · refine W.iconst 1 d0_72 rfl ?_
            refine W.goto d0_73 ?_
            refine W.istore d0_77 rfl ?_
            refine W.iload d0_79 rfl ?_
            refine W.if_eq d0_81 (fun h => False.elim (by revert h; decide)) (fun h81 => ?_)
            refine W.iloadN d0_84 rfl ?_
            refine W.bipush 64 d0_85 rfl ?_
            refine W.iand d0_87 ?_
            refine W.if_eq d0_88 (fun h88 => ?_) (fun h88 => ?_)
            · refine W.iconst 0 d0_95 rfl ?_
              refine W.istore d0_96 rfl ?_
              refine W.iloadN d0_98 rfl ?_
              refine W.ldc d0_99 (hw _ (wd 0 rfl)) ?_
              refine W.iand d0_101 ?_
              refine W.bipush 8 d0_102 rfl ?_
              refine W.irem d0_104 (by decide) ?_
              refine W.istore d0_105 rfl ?_
              refine W.iload d0_107 rfl ?_
              refine W.bipush 7 d0_109 rfl ?_
              refine W.icmp_ge d0_111 (fun h111 => ?_) (fun h111 => ?_)
              · refine W.iloadN d0_122 rfl ?_
                exact pre8 hw a b v _ _
              · refine W.iload d0_114 rfl ?_
                refine W.callsV (M' := m1) d0_116 (hw _ (wd 1 rfl)) (hw _ (wd 2 rfl)) (w1 hw ((b &&& 2147483647) % 8) _) (ok1 hw) rfl rfl rfl ?_
                refine W.goto d0_119 ?_
                exact pre8 hw a b v _ _
            · refine W.iconst 1 d0_91 rfl ?_
              refine W.goto d0_92 ?_
              refine W.istore d0_96 rfl ?_
              refine W.iloadN d0_98 rfl ?_
              refine W.ldc d0_99 (hw _ (wd 0 rfl)) ?_
              refine W.iand d0_101 ?_
              refine W.bipush 8 d0_102 rfl ?_
              refine W.irem d0_104 (by decide) ?_
              refine W.istore d0_105 rfl ?_
              refine W.iload d0_107 rfl ?_
              refine W.bipush 7 d0_109 rfl ?_
              refine W.icmp_ge d0_111 (fun h111 => ?_) (fun h111 => ?_)
              · refine W.iloadN d0_122 rfl ?_
                exact pre9 hw a b v _ _
              · refine W.iload d0_114 rfl ?_
                refine W.callsV (M' := m1) d0_116 (hw _ (wd 1 rfl)) (hw _ (wd 2 rfl)) (w1 hw ((b &&& 2147483647) % 8) _) (ok1 hw) rfl rfl rfl ?_
                refine W.goto d0_119 ?_
                exact pre9 hw a b v _ _
      · refine W.iconst 1 d0_39 rfl ?_
        refine W.goto d0_40 ?_
        refine W.istore d0_44 rfl ?_
        refine W.iloadN d0_46 rfl ?_
        refine W.bipush 32 d0_47 rfl ?_
        refine W.iand d0_49 ?_
        refine W.if_eq d0_50 (fun h50 => ?_) (fun h50 => ?_)
        · refine W.iconst 0 d0_57 rfl ?_
          refine W.istore d0_58 rfl ?_
          refine W.iload d0_60 rfl ?_
          refine W.if_eq d0_62 (fun h62 => ?_) (fun h => False.elim (by revert h; decide))
          refine W.iconst 0 d0_76 rfl ?_
          refine W.istore d0_77 rfl ?_
          refine W.iload d0_79 rfl ?_
          refine W.if_eq d0_81 (fun h81 => ?_) (fun h => False.elim (by revert h; decide))
          refine W.iconst 0 d0_95 rfl ?_
          refine W.istore d0_96 rfl ?_
          refine W.iloadN d0_98 rfl ?_
          refine W.ldc d0_99 (hw _ (wd 0 rfl)) ?_
          refine W.iand d0_101 ?_
          refine W.bipush 8 d0_102 rfl ?_
          refine W.irem d0_104 (by decide) ?_
          refine W.istore d0_105 rfl ?_
          refine W.iload d0_107 rfl ?_
          refine W.bipush 7 d0_109 rfl ?_
          refine W.icmp_ge d0_111 (fun h111 => ?_) (fun h111 => ?_)
          · refine W.iloadN d0_122 rfl ?_
            exact pre10 hw a b v _ _
          · refine W.iload d0_114 rfl ?_
            refine W.callsV (M' := m1) d0_116 (hw _ (wd 1 rfl)) (hw _ (wd 2 rfl)) (w1 hw ((b &&& 2147483647) % 8) _) (ok1 hw) rfl rfl rfl ?_
            refine W.goto d0_119 ?_
            exact pre10 hw a b v _ _
        · refine W.iconst 1 d0_53 rfl ?_
          refine W.goto d0_54 ?_
          refine W.istore d0_58 rfl ?_
          refine W.iload d0_60 rfl ?_
          refine W.if_eq d0_62 (fun h => False.elim (by revert h; decide)) (fun h62 => ?_)
          refine W.iloadN d0_65 rfl ?_
          refine W.bipush 16 d0_66 rfl ?_
          refine W.iand d0_68 ?_
          refine W.if_eq d0_69 (fun h69 => ?_) (fun h69 => ?_)
          · refine W.iconst 0 d0_76 rfl ?_
            refine W.istore d0_77 rfl ?_
            refine W.iload d0_79 rfl ?_
            refine W.if_eq d0_81 (fun h => False.elim (by revert h; decide)) (fun h81 => ?_)
            refine W.iloadN d0_84 rfl ?_
            refine W.bipush 64 d0_85 rfl ?_
            refine W.iand d0_87 ?_
            refine W.if_eq d0_88 (fun h88 => ?_) (fun h88 => ?_)
            · refine W.iconst 0 d0_95 rfl ?_
              refine W.istore d0_96 rfl ?_
              refine W.iloadN d0_98 rfl ?_
              refine W.ldc d0_99 (hw _ (wd 0 rfl)) ?_
              refine W.iand d0_101 ?_
              refine W.bipush 8 d0_102 rfl ?_
              refine W.irem d0_104 (by decide) ?_
              refine W.istore d0_105 rfl ?_
              refine W.iload d0_107 rfl ?_
              refine W.bipush 7 d0_109 rfl ?_
              refine W.icmp_ge d0_111 (fun h111 => ?_) (fun h111 => ?_)
              · refine W.iloadN d0_122 rfl ?_
                exact pre11 hw a b v _ _
              · refine W.iload d0_114 rfl ?_
                refine W.callsV (M' := m1) d0_116 (hw _ (wd 1 rfl)) (hw _ (wd 2 rfl)) (w1 hw ((b &&& 2147483647) % 8) _) (ok1 hw) rfl rfl rfl ?_
                refine W.goto d0_119 ?_
                exact pre11 hw a b v _ _
            · refine W.iconst 1 d0_91 rfl ?_
              refine W.goto d0_92 ?_
              refine W.istore d0_96 rfl ?_
              refine W.iloadN d0_98 rfl ?_
              refine W.ldc d0_99 (hw _ (wd 0 rfl)) ?_
              refine W.iand d0_101 ?_
              refine W.bipush 8 d0_102 rfl ?_
              refine W.irem d0_104 (by decide) ?_
              refine W.istore d0_105 rfl ?_
              refine W.iload d0_107 rfl ?_
              refine W.bipush 7 d0_109 rfl ?_
              refine W.icmp_ge d0_111 (fun h111 => ?_) (fun h111 => ?_)
              · refine W.iloadN d0_122 rfl ?_
                exact pre12 hw a b v _ _
              · refine W.iload d0_114 rfl ?_
                refine W.callsV (M' := m1) d0_116 (hw _ (wd 1 rfl)) (hw _ (wd 2 rfl)) (w1 hw ((b &&& 2147483647) % 8) _) (ok1 hw) rfl rfl rfl ?_
                refine W.goto d0_119 ?_
                exact pre12 hw a b v _ _
          · refine W.iconst 1 d0_72 rfl ?_
            refine W.goto d0_73 ?_
            refine W.istore d0_77 rfl ?_
            refine W.iload d0_79 rfl ?_
            refine W.if_eq d0_81 (fun h => False.elim (by revert h; decide)) (fun h81 => ?_)
            refine W.iloadN d0_84 rfl ?_
            refine W.bipush 64 d0_85 rfl ?_
            refine W.iand d0_87 ?_
            refine W.if_eq d0_88 (fun h88 => ?_) (fun h88 => ?_)
            · refine W.iconst 0 d0_95 rfl ?_
              refine W.istore d0_96 rfl ?_
              refine W.iloadN d0_98 rfl ?_
              refine W.ldc d0_99 (hw _ (wd 0 rfl)) ?_
              refine W.iand d0_101 ?_
              refine W.bipush 8 d0_102 rfl ?_
              refine W.irem d0_104 (by decide) ?_
              refine W.istore d0_105 rfl ?_
              refine W.iload d0_107 rfl ?_
              refine W.bipush 7 d0_109 rfl ?_
              refine W.icmp_ge d0_111 (fun h111 => ?_) (fun h111 => ?_)
              · refine W.iloadN d0_122 rfl ?_
                exact pre13 hw a b v _ _
              · refine W.iload d0_114 rfl ?_
                refine W.callsV (M' := m1) d0_116 (hw _ (wd 1 rfl)) (hw _ (wd 2 rfl)) (w1 hw ((b &&& 2147483647) % 8) _) (ok1 hw) rfl rfl rfl ?_
                refine W.goto d0_119 ?_
                exact pre13 hw a b v _ _
            · refine W.iconst 1 d0_91 rfl ?_
              refine W.goto d0_92 ?_
              refine W.istore d0_96 rfl ?_
              refine W.iloadN d0_98 rfl ?_
              refine W.ldc d0_99 (hw _ (wd 0 rfl)) ?_
              refine W.iand d0_101 ?_
              refine W.bipush 8 d0_102 rfl ?_
              refine W.irem d0_104 (by decide) ?_
              refine W.istore d0_105 rfl ?_
              refine W.iload d0_107 rfl ?_
              refine W.bipush 7 d0_109 rfl ?_
              refine W.icmp_ge d0_111 (fun h111 => ?_) (fun h111 => ?_)
              · refine W.iloadN d0_122 rfl ?_
                exact pre14 hw a b v _ _
              · refine W.iload d0_114 rfl ?_
                refine W.callsV (M' := m1) d0_116 (hw _ (wd 1 rfl)) (hw _ (wd 2 rfl)) (w1 hw ((b &&& 2147483647) % 8) _) (ok1 hw) rfl rfl rfl ?_
                refine W.goto d0_119 ?_
                exact pre14 hw a b v _ _
    · refine W.iconst 1 d0_22 rfl ?_
      refine W.goto d0_23 ?_
      refine W.istore d0_27 rfl ?_
      refine W.iloadN d0_29 rfl ?_
      refine W.if_eq d0_30 (fun h => False.elim (by revert h; decide)) (fun h30 => ?_)
      refine W.iloadN d0_33 rfl ?_
      refine W.iconst 4 d0_34 rfl ?_
      refine W.iand d0_35 ?_
      refine W.if_eq d0_36 (fun h36 => ?_) (fun h36 => ?_)
      · refine W.iconst 0 d0_43 rfl ?_
        refine W.istore d0_44 rfl ?_
        refine W.iloadN d0_46 rfl ?_
        refine W.bipush 32 d0_47 rfl ?_
        refine W.iand d0_49 ?_
        refine W.if_eq d0_50 (fun h50 => ?_) (fun h50 => ?_)
        · refine W.iconst 0 d0_57 rfl ?_
          refine W.istore d0_58 rfl ?_
          refine W.iload d0_60 rfl ?_
          refine W.if_eq d0_62 (fun h62 => ?_) (fun h => False.elim (by revert h; decide))
          refine W.iconst 0 d0_76 rfl ?_
          refine W.istore d0_77 rfl ?_
          refine W.iload d0_79 rfl ?_
          refine W.if_eq d0_81 (fun h81 => ?_) (fun h => False.elim (by revert h; decide))
          refine W.iconst 0 d0_95 rfl ?_
          refine W.istore d0_96 rfl ?_
          refine W.iloadN d0_98 rfl ?_
          refine W.ldc d0_99 (hw _ (wd 0 rfl)) ?_
          refine W.iand d0_101 ?_
          refine W.bipush 8 d0_102 rfl ?_
          refine W.irem d0_104 (by decide) ?_
          refine W.istore d0_105 rfl ?_
          refine W.iload d0_107 rfl ?_
          refine W.bipush 7 d0_109 rfl ?_
          refine W.icmp_ge d0_111 (fun h111 => ?_) (fun h111 => ?_)
          · refine W.iloadN d0_122 rfl ?_
            exact pre15 hw a b v _ _
          · refine W.iload d0_114 rfl ?_
            refine W.callsV (M' := m1) d0_116 (hw _ (wd 1 rfl)) (hw _ (wd 2 rfl)) (w1 hw ((b &&& 2147483647) % 8) _) (ok1 hw) rfl rfl rfl ?_
            refine W.goto d0_119 ?_
            exact pre15 hw a b v _ _
        · refine W.iconst 1 d0_53 rfl ?_
          refine W.goto d0_54 ?_
          refine W.istore d0_58 rfl ?_
          refine W.iload d0_60 rfl ?_
          refine W.if_eq d0_62 (fun h => False.elim (by revert h; decide)) (fun h62 => ?_)
          refine W.iloadN d0_65 rfl ?_
          refine W.bipush 16 d0_66 rfl ?_
          refine W.iand d0_68 ?_
          refine W.if_eq d0_69 (fun h69 => ?_) (fun h69 => ?_)
          · refine W.iconst 0 d0_76 rfl ?_
            refine W.istore d0_77 rfl ?_
            refine W.iload d0_79 rfl ?_
            refine W.if_eq d0_81 (fun h => False.elim (by revert h; decide)) (fun h81 => ?_)
            refine W.iloadN d0_84 rfl ?_
            refine W.bipush 64 d0_85 rfl ?_
            refine W.iand d0_87 ?_
            refine W.if_eq d0_88 (fun h88 => ?_) (fun h88 => ?_)
            · refine W.iconst 0 d0_95 rfl ?_
              refine W.istore d0_96 rfl ?_
              refine W.iloadN d0_98 rfl ?_
              refine W.ldc d0_99 (hw _ (wd 0 rfl)) ?_
              refine W.iand d0_101 ?_
              refine W.bipush 8 d0_102 rfl ?_
              refine W.irem d0_104 (by decide) ?_
              refine W.istore d0_105 rfl ?_
              refine W.iload d0_107 rfl ?_
              refine W.bipush 7 d0_109 rfl ?_
              refine W.icmp_ge d0_111 (fun h111 => ?_) (fun h111 => ?_)
              · refine W.iloadN d0_122 rfl ?_
                exact pre16 hw a b v _ _
              · refine W.iload d0_114 rfl ?_
                refine W.callsV (M' := m1) d0_116 (hw _ (wd 1 rfl)) (hw _ (wd 2 rfl)) (w1 hw ((b &&& 2147483647) % 8) _) (ok1 hw) rfl rfl rfl ?_
                refine W.goto d0_119 ?_
                exact pre16 hw a b v _ _
            · refine W.iconst 1 d0_91 rfl ?_
              refine W.goto d0_92 ?_
              refine W.istore d0_96 rfl ?_
              refine W.iloadN d0_98 rfl ?_
              refine W.ldc d0_99 (hw _ (wd 0 rfl)) ?_
              refine W.iand d0_101 ?_
              refine W.bipush 8 d0_102 rfl ?_
              refine W.irem d0_104 (by decide) ?_
              refine W.istore d0_105 rfl ?_
              refine W.iload d0_107 rfl ?_
              refine W.bipush 7 d0_109 rfl ?_
              refine W.icmp_ge d0_111 (fun h111 => ?_) (fun h111 => ?_)
              · refine W.iloadN d0_122 rfl ?_
                exact pre17 hw a b v _ _
              · refine W.iload d0_114 rfl ?_
                refine W.callsV (M' := m1) d0_116 (hw _ (wd 1 rfl)) (hw _ (wd 2 rfl)) (w1 hw ((b &&& 2147483647) % 8) _) (ok1 hw) rfl rfl rfl ?_
                refine W.goto d0_119 ?_
                exact pre17 hw a b v _ _
          · refine W.iconst 1 d0_72 rfl ?_
            refine W.goto d0_73 ?_
            refine W.istore d0_77 rfl ?_
            refine W.iload d0_79 rfl ?_
            refine W.if_eq d0_81 (fun h => False.elim (by revert h; decide)) (fun h81 => ?_)
            refine W.iloadN d0_84 rfl ?_
            refine W.bipush 64 d0_85 rfl ?_
            refine W.iand d0_87 ?_
            refine W.if_eq d0_88 (fun h88 => ?_) (fun h88 => ?_)
            · refine W.iconst 0 d0_95 rfl ?_
              refine W.istore d0_96 rfl ?_
              refine W.iloadN d0_98 rfl ?_
              refine W.ldc d0_99 (hw _ (wd 0 rfl)) ?_
              refine W.iand d0_101 ?_
              refine W.bipush 8 d0_102 rfl ?_
              refine W.irem d0_104 (by decide) ?_
              refine W.istore d0_105 rfl ?_
              refine W.iload d0_107 rfl ?_
              refine W.bipush 7 d0_109 rfl ?_
              refine W.icmp_ge d0_111 (fun h111 => ?_) (fun h111 => ?_)
              · refine W.iloadN d0_122 rfl ?_
                exact pre18 hw a b v _ _
              · refine W.iload d0_114 rfl ?_
                refine W.callsV (M' := m1) d0_116 (hw _ (wd 1 rfl)) (hw _ (wd 2 rfl)) (w1 hw ((b &&& 2147483647) % 8) _) (ok1 hw) rfl rfl rfl ?_
                refine W.goto d0_119 ?_
                exact pre18 hw a b v _ _
            · refine W.iconst 1 d0_91 rfl ?_
              refine W.goto d0_92 ?_
              refine W.istore d0_96 rfl ?_
              refine W.iloadN d0_98 rfl ?_
              refine W.ldc d0_99 (hw _ (wd 0 rfl)) ?_
              refine W.iand d0_101 ?_
              refine W.bipush 8 d0_102 rfl ?_
              refine W.irem d0_104 (by decide) ?_
              refine W.istore d0_105 rfl ?_
              refine W.iload d0_107 rfl ?_
              refine W.bipush 7 d0_109 rfl ?_
              refine W.icmp_ge d0_111 (fun h111 => ?_) (fun h111 => ?_)
              · refine W.iloadN d0_122 rfl ?_
                exact pre19 hw a b v _ _
              · refine W.iload d0_114 rfl ?_
                refine W.callsV (M' := m1) d0_116 (hw _ (wd 1 rfl)) (hw _ (wd 2 rfl)) (w1 hw ((b &&& 2147483647) % 8) _) (ok1 hw) rfl rfl rfl ?_
                refine W.goto d0_119 ?_
                exact pre19 hw a b v _ _
      · refine W.iconst 1 d0_39 rfl ?_
        refine W.goto d0_40 ?_
        refine W.istore d0_44 rfl ?_
        refine W.iloadN d0_46 rfl ?_
        refine W.bipush 32 d0_47 rfl ?_
        refine W.iand d0_49 ?_
        refine W.if_eq d0_50 (fun h50 => ?_) (fun h50 => ?_)
        · refine W.iconst 0 d0_57 rfl ?_
          refine W.istore d0_58 rfl ?_
          refine W.iload d0_60 rfl ?_
          refine W.if_eq d0_62 (fun h62 => ?_) (fun h => False.elim (by revert h; decide))
          refine W.iconst 0 d0_76 rfl ?_
          refine W.istore d0_77 rfl ?_
          refine W.iload d0_79 rfl ?_
          refine W.if_eq d0_81 (fun h81 => ?_) (fun h => False.elim (by revert h; decide))
          refine W.iconst 0 d0_95 rfl ?_
          refine W.istore d0_96 rfl ?_
          refine W.iloadN d0_98 rfl ?_
          refine W.ldc d0_99 (hw _ (wd 0 rfl)) ?_
          refine W.iand d0_101 ?_
          refine W.bipush 8 d0_102 rfl ?_
          refine W.irem d0_104 (by decide) ?_
          refine W.istore d0_105 rfl ?_
          refine W.iload d0_107 rfl ?_
          refine W.bipush 7 d0_109 rfl ?_
          refine W.icmp_ge d0_111 (fun h111 => ?_) (fun h111 => ?_)
          · refine W.iloadN d0_122 rfl ?_
            exact pre20 hw a b v _ _
          · refine W.iload d0_114 rfl ?_
            refine W.callsV (M' := m1) d0_116 (hw _ (wd 1 rfl)) (hw _ (wd 2 rfl)) (w1 hw ((b &&& 2147483647) % 8) _) (ok1 hw) rfl rfl rfl ?_
            refine W.goto d0_119 ?_
            exact pre20 hw a b v _ _
        · refine W.iconst 1 d0_53 rfl ?_
          refine W.goto d0_54 ?_
          refine W.istore d0_58 rfl ?_
          refine W.iload d0_60 rfl ?_
          refine W.if_eq d0_62 (fun h => False.elim (by revert h; decide)) (fun h62 => ?_)
          refine W.iloadN d0_65 rfl ?_
          refine W.bipush 16 d0_66 rfl ?_
          refine W.iand d0_68 ?_
          refine W.if_eq d0_69 (fun h69 => ?_) (fun h69 => ?_)
          · refine W.iconst 0 d0_76 rfl ?_
            refine W.istore d0_77 rfl ?_
            refine W.iload d0_79 rfl ?_
            refine W.if_eq d0_81 (fun h => False.elim (by revert h; decide)) (fun h81 => ?_)
            refine W.iloadN d0_84 rfl ?_
            refine W.bipush 64 d0_85 rfl ?_
            refine W.iand d0_87 ?_
            refine W.if_eq d0_88 (fun h88 => ?_) (fun h88 => ?_)
            · refine W.iconst 0 d0_95 rfl ?_
              refine W.istore d0_96 rfl ?_
              refine W.iloadN d0_98 rfl ?_
              refine W.ldc d0_99 (hw _ (wd 0 rfl)) ?_
              refine W.iand d0_101 ?_
              refine W.bipush 8 d0_102 rfl ?_
              refine W.irem d0_104 (by decide) ?_
              refine W.istore d0_105 rfl ?_
              refine W.iload d0_107 rfl ?_
              refine W.bipush 7 d0_109 rfl ?_
              refine W.icmp_ge d0_111 (fun h111 => ?_) (fun h111 => ?_)
              · refine W.iloadN d0_122 rfl ?_
                exact pre21 hw a b v _ _
              · refine W.iload d0_114 rfl ?_
                refine W.callsV (M' := m1) d0_116 (hw _ (wd 1 rfl)) (hw _ (wd 2 rfl)) (w1 hw ((b &&& 2147483647) % 8) _) (ok1 hw) rfl rfl rfl ?_
                refine W.goto d0_119 ?_
                exact pre21 hw a b v _ _
            · refine W.iconst 1 d0_91 rfl ?_
              refine W.goto d0_92 ?_
              refine W.istore d0_96 rfl ?_
              refine W.iloadN d0_98 rfl ?_
              refine W.ldc d0_99 (hw _ (wd 0 rfl)) ?_
              refine W.iand d0_101 ?_
              refine W.bipush 8 d0_102 rfl ?_
              refine W.irem d0_104 (by decide) ?_
              refine W.istore d0_105 rfl ?_
              refine W.iload d0_107 rfl ?_
              refine W.bipush 7 d0_109 rfl ?_
              refine W.icmp_ge d0_111 (fun h111 => ?_) (fun h111 => ?_)
              · refine W.iloadN d0_122 rfl ?_
                exact pre22 hw a b v _ _
              · refine W.iload d0_114 rfl ?_
                refine W.callsV (M' := m1) d0_116 (hw _ (wd 1 rfl)) (hw _ (wd 2 rfl)) (w1 hw ((b &&& 2147483647) % 8) _) (ok1 hw) rfl rfl rfl ?_
                refine W.goto d0_119 ?_
                exact pre22 hw a b v _ _
          · refine W.iconst 1 d0_72 rfl ?_
            refine W.goto d0_73 ?_
            refine W.istore d0_77 rfl ?_
            refine W.iload d0_79 rfl ?_
            refine W.if_eq d0_81 (fun h => False.elim (by revert h; decide)) (fun h81 => ?_)
            refine W.iloadN d0_84 rfl ?_
            refine W.bipush 64 d0_85 rfl ?_
            refine W.iand d0_87 ?_
            refine W.if_eq d0_88 (fun h88 => ?_) (fun h88 => ?_)
            · refine W.iconst 0 d0_95 rfl ?_
              refine W.istore d0_96 rfl ?_
              refine W.iloadN d0_98 rfl ?_
              refine W.ldc d0_99 (hw _ (wd 0 rfl)) ?_
              refine W.iand d0_101 ?_
              refine W.bipush 8 d0_102 rfl ?_
              refine W.irem d0_104 (by decide) ?_
              refine W.istore d0_105 rfl ?_
              refine W.iload d0_107 rfl ?_
              refine W.bipush 7 d0_109 rfl ?_
              refine W.icmp_ge d0_111 (fun h111 => ?_) (fun h111 => ?_)
              · refine W.iloadN d0_122 rfl ?_
                exact pre23 hw a b v _ _
              · refine W.iload d0_114 rfl ?_
                refine W.callsV (M' := m1) d0_116 (hw _ (wd 1 rfl)) (hw _ (wd 2 rfl)) (w1 hw ((b &&& 2147483647) % 8) _) (ok1 hw) rfl rfl rfl ?_
                refine W.goto d0_119 ?_
                exact pre23 hw a b v _ _
            · refine W.iconst 1 d0_91 rfl ?_
              refine W.goto d0_92 ?_
              refine W.istore d0_96 rfl ?_
              refine W.iloadN d0_98 rfl ?_
              refine W.ldc d0_99 (hw _ (wd 0 rfl)) ?_
              refine W.iand d0_101 ?_
              refine W.bipush 8 d0_102 rfl ?_
              refine W.irem d0_104 (by decide) ?_
              refine W.istore d0_105 rfl ?_
              refine W.iload d0_107 rfl ?_
              refine W.bipush 7 d0_109 rfl ?_
              refine W.icmp_ge d0_111 (fun h111 => ?_) (fun h111 => ?_)
              · refine W.iloadN d0_122 rfl ?_
                exact pre24 hw a b v _ _
              · refine W.iload d0_114 rfl ?_
                refine W.callsV (M' := m1) d0_116 (hw _ (wd 1 rfl)) (hw _ (wd 2 rfl)) (w1 hw ((b &&& 2147483647) % 8) _) (ok1 hw) rfl rfl rfl ?_
                refine W.goto d0_119 ?_
                exact pre24 hw a b v _ _
set_option maxRecDepth 65536 in
set_option maxHeartbeats 40000000 in
theorem comes_1 {Post : Tables → Env → Array Value → State → Outcome → State → Prop} (hpost : ∀ tb e args s v u, (limb_1_1.after args s (.returned v) u = true ∧ limb_1_2.after args s (.returned v) u = true ∧ True) → FrameEnd s (.returned v) u (Jvm.fieldLocs frame_1_writes args s ++ Jvm.arrayLocs frame_1_arrays args s ++ Jvm.staticLocs frame_1_statics s) 32 128 → Post tb e args s (.returned v) u) :
    ArmFor flags0 classFile x code maxLocals ret World_1 tables_1 room_1 Calls_1 rest_1 Pre_1 Post := by
  intro l hfl _ _ p e ha hc hk s m args below hf hA hF happ hP
  obtain ⟨hcalls, hrest, hpre⟩ := hP
  obtain ⟨-, -, -, hnamed, -, -, -, hat⟩ := (Spec.applies_iff hf).mp happ
  obtain ⟨hg, hn⟩ := and_e (Cond.before_iff.mp (show (Jvm.Cond.and given_1 narrow_1).before args s = true from hpre))
  obtain ⟨hcnt, g0⟩ := and_e hg
  obtain ⟨q0, g1⟩ := and_e g0
  obtain ⟨q1, g2⟩ := and_e g1
  obtain ⟨w0, w1, w2, rfl⟩ : ∃ w0 w1 w2 : Value, args = #[w0, w1, w2] := by
    have hs : args.size = 3 := by simpa [Cond.value, given_1] using hcnt
    obtain ⟨L⟩ := args
    match L, hs with
    | [w0, w1, w2], _ => exact ⟨w0, w1, w2, rfl⟩
  have hw := fun d (hd : d ∈ tables_1) => atoms_spec (ws := Jvm.Cond.code x code maxLocals ret :: tables_1) hat d (List.mem_cons_of_mem _ hd)
  obtain ⟨i0, ei0⟩ := is_v q0
  obtain rfl : w0 = (.int i0) := Option.some.inj ei0
  obtain ⟨i1, ei1⟩ := is_v q1
  obtain rfl : w1 = (.int i1) := Option.some.inj ei1
  obtain ⟨i2, ei2⟩ := is_v g2
  obtain rfl : w2 = (.int i2) := Option.some.inj ei2
  obtain ⟨n, o, h1, h2, h3, _, L, rfl, ⟨v0, H', rfl, rfl, hH, N⟩, hq⟩ := W.start (M := m0) (w_law (l := l) hw i0 i1 i2) pn0 tables_1 p e ha hc hk s m _ below hf ((Spec.applies_iff_loose hf).mp happ).1 ⟨rfl, State.Warmed39.refl s, rfl⟩ trivial
  refine ⟨n, _, h1, h2, h3, hpost _ _ _ _ _ _ ⟨Cond.after_iff.mpr rfl, Cond.after_iff.mpr (eq_i res_at (Term.int_eval (1)) rfl), trivial⟩ ⟨hq.1, hq.2.1, (hq.2.2.sift fun y hy => Or.inr (N y hy)).mono (by decide) (by decide)⟩⟩
theorem main_1_1 : Claimed_1_1 := comes_1 fun _ _ _ _ _ _ h hF => ⟨h.1, hF⟩
theorem main_1_2 : Claimed_1_2 := comes_1 fun _ _ _ _ _ _ h hF => ⟨h.2.1, hF⟩
end Jvm.Pilot.@@N@@
namespace Jvm.Pilot.@@N@@
open Jvm Jvm.ClassFile Sem Op Lib Jvm.Free Jvm.Stand Jvm.Pilot.@@N@@.Jvm.D
/-! MADE BY PROGRAM (witnessworld.py) out of the Statement's table words and the real class files: 10 classes; the members and pool entries that the words name. The judged class is class 1, her method 9. -/
namespace start1
open Jvm.ClassFile
def u (s : String) : CpInfo := .utf8 (stringToUtf16 s)
/-- a pool by its gaps: so many unusable entries, then the entry; so many at the end -/
def gap : Nat → List CpInfo → List CpInfo
  | 0, r => r
  | n + 1, r => .unusable :: gap n r
def poolList (es : List (Nat × CpInfo)) (last : Nat) : List CpInfo := es.foldr (fun e r => gap e.1 (e.2 :: r)) (gap last [])
def pool (es : List (Nat × CpInfo)) (last : Nat) : Array CpInfo := ⟨poolList es last⟩
def fileOf (pool : Array CpInfo) (this : Nat) (attrs : Array Attribute := #[]) (ms : Array MethodInfo := #[]) (fl : Nat := 33) (sup : Nat := 0) (ifs : Array Nat := #[]) (fds : Array FieldInfo := #[]) : ClassFile where
  minorVersion := 0
  majorVersion := 65
  constantPool := pool
  accessFlags := fl
  thisClass := this
  superClass := sup
  interfaces := ifs
  fields := fds
  methods := ms
  attributes := attrs
def plain (name : String) (sup : Option ClassId) : Class where
  name := name
  kind := .ordinary
  loader := none
  accessFlags := 33
  super := sup
  interfaces := #[]
  cf := none
  fields := #[]
  methods := #[]
  instanceTypes := #[]
  staticTypes := #[]
  resolved := #[]
  callSites := []
  init := .initialized
  statics := none
  mirror := none

def pool0 : Array CpInfo := pool [(5, u "<init>"), (0, u "()V"), (1, .class_ 10), (1, u "java/lang/Object")] 113

def k0c0 : Code := { maxStack := 0, maxLocals := 1, code := object_method_1_code, exceptionTable := #[], attributes := #[] }
def k0m0 : Method := { name := "<init>", desc := "()V", sig := { parameters := [], returnType := none }, accessFlags := 1, code := some k0c0 }
/-- java/lang/Object -/
def k0 : Class := { plain "java/lang/Object" none with
  accessFlags := 33
  interfaces := #[]
  cf := some (fileOf pool0 8 #[] #[{ accessFlags := 1, nameIndex := 5, descriptorIndex := 6, attributes := #[] }] 33 0 #[] #[])
  fields := #[]
  methods := #[k0m0]
  instanceTypes := #[]
  staticTypes := #[]
  resolved := Array.replicate 124 none
  statics := none }

def pool1 : Array CpInfo := pool [(2, .class_ 4), (0, .nameAndType 5 6), (0, u "java/lang/Object"), (0, u "<init>"), (0, u "()V"), (2, .integer 2147483648), (0, .integer 2147483647), (0, .fieldref 12 13), (0, .class_ 14), (0, .nameAndType 15 16), (0, u "boundwright/examples/BstSet$Node"), (0, u "left"), (0, u "Lboundwright/examples/BstSet$Node;"), (0, .fieldref 12 18), (0, .nameAndType 19 16), (0, u "right"), (0, .fieldref 12 21), (0, .nameAndType 22 23), (0, u "value"), (0, u "I"), (0, .methodref 25 26), (0, .class_ 27), (0, .nameAndType 28 29), (0, u "boundwright/examples/BstSetRemovePinLaw"), (0, u "key"), (0, u "(I)I"), (0, .methodref 25 31), (0, .nameAndType 15 32), (0, u "(Lboundwright/examples/BstSet$Node;)Lboundwright/examples/BstSet$Node;"), (0, .methodref 25 34), (0, .nameAndType 19 32), (0, .class_ 36), (0, u "boundwright/examples/BstSet"), (0, .methodref 35 3), (0, .methodref 35 39), (0, .nameAndType 40 41), (0, u "add"), (0, u "(I)V"), (0, .methodref 25 43), (0, .nameAndType 44 29), (0, u "rankOf"), (0, .methodref 25 46), (0, .nameAndType 47 29), (0, u "posOf"), (0, .methodref 25 49), (0, .nameAndType 50 51), (0, u "removeAt"), (0, u "([II)V"), (0, .methodref 35 53), (0, .nameAndType 54 41), (0, u "remove"), (0, .fieldref 35 56), (0, .nameAndType 57 16), (0, u "root"), (0, .fieldref 35 59), (0, .nameAndType 60 23), (0, u "size"), (0, .methodref 25 62), (0, .nameAndType 63 64), (0, u "match"), (0, u "(Lboundwright/examples/BstSet$Node;I)Z"), (0, .methodref 25 66), (0, .nameAndType 67 68), (0, u "leafOk"), (0, u "(Lboundwright/examples/BstSet$Node;)Z"), (3, u "law"), (0, u "(III)Z")] 6

def k1m0 : Method := { name := "<init>", desc := "()V", sig := { parameters := [], returnType := none }, accessFlags := 1, code := none }
def k1c1 : Code := { maxStack := 2, maxLocals := 1, code := method_2_code, exceptionTable := #[], attributes := #[] }
def k1m1 : Method := { name := "key", desc := "(I)I", sig := { parameters := [.int], returnType := some .int }, accessFlags := 10, code := some k1c1 }
def k1c2 : Code := { maxStack := 2, maxLocals := 1, code := method_3_code, exceptionTable := #[], attributes := #[] }
def k1m2 : Method := { name := "rankOf", desc := "(I)I", sig := { parameters := [.int], returnType := some .int }, accessFlags := 10, code := some k1c2 }
def k1c3 : Code := { maxStack := 2, maxLocals := 1, code := method_4_code, exceptionTable := #[], attributes := #[] }
def k1m3 : Method := { name := "posOf", desc := "(I)I", sig := { parameters := [.int], returnType := some .int }, accessFlags := 10, code := some k1c3 }
def k1c4 : Code := { maxStack := 1, maxLocals := 1, code := method_5_code, exceptionTable := #[], attributes := #[] }
def k1m4 : Method := { name := "left", desc := "(Lboundwright/examples/BstSet$Node;)Lboundwright/examples/BstSet$Node;", sig := { parameters := [(.object "boundwright/examples/BstSet$Node")], returnType := some (.object "boundwright/examples/BstSet$Node") }, accessFlags := 10, code := some k1c4 }
def k1c5 : Code := { maxStack := 1, maxLocals := 1, code := method_6_code, exceptionTable := #[], attributes := #[] }
def k1m5 : Method := { name := "right", desc := "(Lboundwright/examples/BstSet$Node;)Lboundwright/examples/BstSet$Node;", sig := { parameters := [(.object "boundwright/examples/BstSet$Node")], returnType := some (.object "boundwright/examples/BstSet$Node") }, accessFlags := 10, code := some k1c5 }
def k1c6 : Code := { maxStack := 2, maxLocals := 2, code := method_7_code, exceptionTable := #[], attributes := #[] }
def k1m6 : Method := { name := "match", desc := "(Lboundwright/examples/BstSet$Node;I)Z", sig := { parameters := [(.object "boundwright/examples/BstSet$Node"), .int], returnType := some .boolean }, accessFlags := 10, code := some k1c6 }
def k1c7 : Code := { maxStack := 1, maxLocals := 1, code := method_8_code, exceptionTable := #[], attributes := #[] }
def k1m7 : Method := { name := "leafOk", desc := "(Lboundwright/examples/BstSet$Node;)Z", sig := { parameters := [(.object "boundwright/examples/BstSet$Node")], returnType := some .boolean }, accessFlags := 10, code := some k1c7 }
def k1c8 : Code := { maxStack := 4, maxLocals := 4, code := method_9_code, exceptionTable := #[], attributes := #[] }
def k1m8 : Method := { name := "removeAt", desc := "([II)V", sig := { parameters := [(.array .int), .int], returnType := none }, accessFlags := 10, code := some k1c8 }
def k1c9 : Code := { maxStack := 3, maxLocals := 23, code := code, exceptionTable := #[], attributes := #[] }
def k1m9 : Method := { name := "law", desc := "(III)Z", sig := { parameters := [.int, .int, .int], returnType := some .boolean }, accessFlags := 9, code := some k1c9 }
/-- boundwright/examples/BstSetRemovePinLaw -/
def k1 : Class := { plain "boundwright/examples/BstSetRemovePinLaw" (some 0) with
  accessFlags := 49
  interfaces := #[]
  cf := some (fileOf pool1 25 #[] #[{ accessFlags := 1, nameIndex := 5, descriptorIndex := 6, attributes := #[] }, { accessFlags := 10, nameIndex := 28, descriptorIndex := 29, attributes := #[] }, { accessFlags := 10, nameIndex := 44, descriptorIndex := 29, attributes := #[] }, { accessFlags := 10, nameIndex := 47, descriptorIndex := 29, attributes := #[] }, { accessFlags := 10, nameIndex := 15, descriptorIndex := 32, attributes := #[] }, { accessFlags := 10, nameIndex := 19, descriptorIndex := 32, attributes := #[] }, { accessFlags := 10, nameIndex := 63, descriptorIndex := 64, attributes := #[] }, { accessFlags := 10, nameIndex := 67, descriptorIndex := 68, attributes := #[] }, { accessFlags := 10, nameIndex := 50, descriptorIndex := 51, attributes := #[] }, { accessFlags := 9, nameIndex := 72, descriptorIndex := 73, attributes := #[] }] 49 2 #[] #[])
  fields := #[]
  methods := #[k1m0, k1m1, k1m2, k1m3, k1m4, k1m5, k1m6, k1m7, k1m8, k1m9]
  instanceTypes := #[]
  staticTypes := #[]
  resolved := Array.replicate 80 none
  statics := none }

def pool2 : Array CpInfo := pool [(1, .methodref 2 3), (0, .class_ 4), (0, .nameAndType 5 6), (0, u "java/lang/Object"), (0, u "<init>"), (0, u "()V"), (0, .fieldref 8 9), (0, .class_ 10), (0, .nameAndType 11 12), (0, u "boundwright/examples/BstSet"), (0, u "root"), (0, u "Lboundwright/examples/BstSet$Node;"), (0, .methodref 8 14), (0, .nameAndType 15 16), (0, u "leaf"), (0, u "(I)Lboundwright/examples/BstSet$Node;"), (0, .fieldref 8 18), (0, .nameAndType 19 20), (0, u "size"), (0, u "I"), (0, .fieldref 22 23), (0, .class_ 24), (0, .nameAndType 25 20), (0, u "boundwright/examples/BstSet$Node"), (0, u "value"), (0, .fieldref 22 27), (0, .nameAndType 28 12), (0, u "right"), (0, .fieldref 22 30), (0, .nameAndType 31 12), (0, u "left"), (0, .methodref 22 3), (2, u "add"), (0, u "(I)V"), (1, u "remove")] 5

def k2c0 : Code := { maxStack := 1, maxLocals := 1, code := prog_1_method_1_code, exceptionTable := #[], attributes := #[] }
def k2m0 : Method := { name := "<init>", desc := "()V", sig := { parameters := [], returnType := none }, accessFlags := 1, code := some k2c0 }
def k2c1 : Code := { maxStack := 3, maxLocals := 3, code := prog_1_method_2_code, exceptionTable := #[], attributes := #[] }
def k2m1 : Method := { name := "add", desc := "(I)V", sig := { parameters := [.int], returnType := none }, accessFlags := 1, code := some k2c1 }
def k2c2 : Code := { maxStack := 3, maxLocals := 6, code := prog_1_method_3_code, exceptionTable := #[], attributes := #[] }
def k2m2 : Method := { name := "remove", desc := "(I)V", sig := { parameters := [.int], returnType := none }, accessFlags := 1, code := some k2c2 }
def k2c3 : Code := { maxStack := 2, maxLocals := 2, code := prog_1_method_4_code, exceptionTable := #[], attributes := #[] }
def k2m3 : Method := { name := "leaf", desc := "(I)Lboundwright/examples/BstSet$Node;", sig := { parameters := [.int], returnType := some (.object "boundwright/examples/BstSet$Node") }, accessFlags := 10, code := some k2c3 }
/-- boundwright/examples/BstSet -/
def k2 : Class := { plain "boundwright/examples/BstSet" (some 0) with
  accessFlags := 33
  interfaces := #[]
  cf := some (fileOf pool2 8 #[.nestMembers #[22]] #[{ accessFlags := 1, nameIndex := 5, descriptorIndex := 6, attributes := #[] }, { accessFlags := 1, nameIndex := 35, descriptorIndex := 36, attributes := #[] }, { accessFlags := 1, nameIndex := 38, descriptorIndex := 36, attributes := #[] }, { accessFlags := 10, nameIndex := 15, descriptorIndex := 16, attributes := #[] }] 33 2 #[] #[{ accessFlags := 1, nameIndex := 11, descriptorIndex := 12, attributes := #[] }, { accessFlags := 1, nameIndex := 19, descriptorIndex := 20, attributes := #[] }])
  fields := #[{ name := "root", type := (.object "boundwright/examples/BstSet$Node"), accessFlags := 1, slot := 0, constantValue := 0 }, { name := "size", type := .int, accessFlags := 1, slot := 1, constantValue := 0 }]
  methods := #[k2m0, k2m1, k2m2, k2m3]
  instanceTypes := #[(.object "boundwright/examples/BstSet$Node"), .int]
  staticTypes := #[]
  resolved := Array.replicate 44 none
  statics := none }

def pool3 : Array CpInfo := pool [(1, .methodref 2 3), (0, .class_ 4), (0, .nameAndType 5 6), (0, u "java/lang/Object"), (0, u "<init>"), (0, u "()V"), (0, .class_ 8), (0, u "boundwright/examples/BstSet$Node"), (0, u "value"), (0, u "I"), (0, u "left"), (0, u "Lboundwright/examples/BstSet$Node;"), (0, u "right"), (5, .class_ 20), (0, u "boundwright/examples/BstSet")] 2

def k3c0 : Code := { maxStack := 1, maxLocals := 1, code := prog_2_method_1_code, exceptionTable := #[], attributes := #[] }
def k3m0 : Method := { name := "<init>", desc := "()V", sig := { parameters := [], returnType := none }, accessFlags := 1, code := some k3c0 }
/-- boundwright/examples/BstSet$Node -/
def k3 : Class := { plain "boundwright/examples/BstSet$Node" (some 0) with
  accessFlags := 33
  interfaces := #[]
  cf := some (fileOf pool3 7 #[.nestHost 19] #[{ accessFlags := 1, nameIndex := 5, descriptorIndex := 6, attributes := #[] }] 33 2 #[] #[{ accessFlags := 1, nameIndex := 9, descriptorIndex := 10, attributes := #[] }, { accessFlags := 1, nameIndex := 11, descriptorIndex := 12, attributes := #[] }, { accessFlags := 1, nameIndex := 13, descriptorIndex := 12, attributes := #[] }])
  fields := #[{ name := "value", type := .int, accessFlags := 1, slot := 0, constantValue := 0 }, { name := "left", type := (.object "boundwright/examples/BstSet$Node"), accessFlags := 1, slot := 1, constantValue := 0 }, { name := "right", type := (.object "boundwright/examples/BstSet$Node"), accessFlags := 1, slot := 2, constantValue := 0 }]
  methods := #[k3m0]
  instanceTypes := #[.int, (.object "boundwright/examples/BstSet$Node"), (.object "boundwright/examples/BstSet$Node")]
  staticTypes := #[]
  resolved := Array.replicate 23 none
  statics := none }

def pool4 : Array CpInfo := pool [(1, u "java/lang/Cloneable"), (0, .class_ 1), (0, u "java/lang/Object"), (0, .class_ 3)] 3

/-- java/lang/Cloneable -/
def k4 : Class := { plain "java/lang/Cloneable" (some 0) with
  accessFlags := 1537
  interfaces := #[]
  cf := some (fileOf pool4 2 #[] #[] 1537 4 #[] #[])
  fields := #[]
  methods := #[]
  instanceTypes := #[]
  staticTypes := #[]
  resolved := Array.replicate 8 none
  statics := none }

def pool5 : Array CpInfo := pool [(1, u "java/io/Serializable"), (0, .class_ 1), (0, u "java/lang/Object"), (0, .class_ 3)] 3

/-- java/io/Serializable -/
def k5 : Class := { plain "java/io/Serializable" (some 0) with
  accessFlags := 1537
  interfaces := #[]
  cf := some (fileOf pool5 2 #[] #[] 1537 4 #[] #[])
  fields := #[]
  methods := #[]
  instanceTypes := #[]
  staticTypes := #[]
  resolved := Array.replicate 8 none
  statics := none }

/-- the primitive byte -/
def k6 : Class := { plain "byte" none with kind := .primitive 'B', accessFlags := 0x411 }
/-- [B -/
def k7 : Class := { plain "[B" (some 0) with kind := .array 6 .byte, interfaces := #[4, 5], accessFlags := 1041 }

/-- the primitive int -/
def k8 : Class := { plain "int" none with kind := .primitive 'I', accessFlags := 0x411 }
/-- [I -/
def k9 : Class := { plain "[I" (some 0) with kind := .array 8 .int, interfaces := #[4, 5], accessFlags := 1041 }

def heap : Heap := #[]
def classes : Array Class := #[k0, k1, k2, k3, k4, k5, k6, k7, k8, k9]
def interned : List (Array UInt16 × Addr) := []
def slotsUsed : Nat := 0
def theMethod : MethodId := ⟨1, 9⟩
def args0 : Array Value := #[.int 5, .int 7, .int 9]
def aboutOver (below : List Frame) : State where
  vm := { classes := classes, interned := interned.toArray }
  heap := heap
  slotsUsed := slotsUsed
  threads := #[{ frames := .invoking theMethod args0 :: below }]
def below0 : List Frame := [.native { method := ⟨0, 0⟩, args := #[] }]
def about1 : State := aboutOver below0
def p0 : Program := .bare "" "" ""
def e0 : Env := launch0.env 0 0 0
theorem w_frames : about1.frames = Frame.invoking theMethod args0 :: below0 := rfl
set_option maxRecDepth 65536 in
theorem w_args : argsFit about1.vm theMethod args0 = true := by decide +kernel
set_option maxRecDepth 65536 in
theorem w_heap : heapFits about1 = true := by decide +kernel
set_option maxRecDepth 65536 in
theorem w_runnable : about1.curStatus? = some .runnable := by decide +kernel
set_option maxRecDepth 65536 in
theorem w_alone : about1.alone = true := by decide +kernel
set_option maxRecDepth 65536 in
theorem w_named : about1.methodNamed? x = some theMethod := by decide +kernel
set_option maxRecDepth 65536 in
theorem w_hears : about1.hears theMethod below0 = true := by decide +kernel
set_option maxRecDepth 65536 in
theorem w_ripe : about1.ripe theMethod args0 below0 = true := by decide +kernel
theorem w_running : about1.status = .running := rfl
set_option maxRecDepth 65536 in
theorem w_room : about1.hasRoom e0.platform room_1 = true :=
  launch0.hasRoom_least _ room_1 (by decide +kernel) (by decide +kernel) (by decide +kernel) (by decide +kernel) (by decide +kernel) (by decide +kernel)
theorem allAtoms_all (ts : List Jvm.Cond) (a : Array Jvm.Value) (st : Jvm.State) : (allAtoms ts).before a st = ts.all (fun c => c.before a st) := by
  induction ts with
  | nil => rfl
  | cons c t ih =>
    show (Jvm.Cond.and c (allAtoms t)).before a st = _
    rw [Jvm.Cond.before_and, ih, List.all_cons]
def words1 : List Jvm.Cond := Jvm.Cond.code x code maxLocals ret :: tables_1
/-- a 'code' word, met by the world's own term for the bytes: nothing is compared byte by byte -/
theorem code_word {y : MethodName} {bytes : ByteArray} {mx : Nat} {rt : Option FieldType} {a : Array Value} {s : State} {m : MethodId} {meth : Method} {c : Code} (h1 : s.methodNamed? y = some m) (h2 : s.vm.method? m = some meth) (h3 : meth.code = some c) (h4 : c.code = bytes)
    (h5 : (c.maxLocals == mx && c.exceptionTable.isEmpty && decide (c.maxStack ≤ mostOperands) && decide (meth.sig.returnType = rt) && !meth.locks && decide (parseMethodDescriptor y.desc = some meth.sig)) = true) : (Jvm.Cond.code y bytes mx rt).before a s = true := by
  simp only [Bool.and_eq_true, beq_iff_eq, Bool.not_eq_true', decide_eq_true_eq] at h5
  obtain ⟨⟨⟨⟨⟨g1, g2⟩, g3⟩, g4⟩, g5⟩, g6⟩ := h5
  simp [Cond.before, Cond.holds, Cond.value, h1, h2, h3, h4, g1, g2, g3, g4, g5, g6]
def isCode : Jvm.Cond → Bool
  | .code _ _ _ _ => true
  | _ => false
theorem all_split {L : List Jvm.Cond} {P : Jvm.Cond → Bool} (h1 : L.all (fun c => isCode c || P c) = true) (h2 : ∀ c ∈ L.filter isCode, P c = true) : L.all P = true := by
  refine List.all_eq_true.mpr fun c hc => ?_
  have h := List.all_eq_true.mp h1 c hc
  rcases Bool.eq_false_or_eq_true (isCode c) with hi | hi
  · exact h2 c (List.mem_filter.mpr ⟨hc, hi⟩)
  · simpa [hi] using h
set_option maxRecDepth 65536 in
theorem w_c0 : (Jvm.Cond.code x code maxLocals ret).before args0 about1 = true := code_word (m := ⟨1, 9⟩) (meth := k1m9) (c := k1c9) (by decide +kernel) rfl rfl rfl (by decide +kernel)
set_option maxRecDepth 65536 in
theorem w_c1 : (Jvm.Cond.code ({ cls := "boundwright/examples/BstSetRemovePinLaw", name := "key", desc := "(I)I" } : Jvm.MethodName) method_2_code (1 : Nat) (Option.some Jvm.ClassFile.FieldType.int)).before args0 about1 = true := code_word (m := ⟨1, 1⟩) (meth := k1m1) (c := k1c1) (by decide +kernel) rfl rfl rfl (by decide +kernel)
set_option maxRecDepth 65536 in
theorem w_c2 : (Jvm.Cond.code ({ cls := "boundwright/examples/BstSet", name := "<init>", desc := "()V" } : Jvm.MethodName) prog_1_method_1_code (1 : Nat) (Option.none : Option Jvm.ClassFile.FieldType)).before args0 about1 = true := code_word (m := ⟨2, 0⟩) (meth := k2m0) (c := k2c0) (by decide +kernel) rfl rfl rfl (by decide +kernel)
set_option maxRecDepth 65536 in
theorem w_c3 : (Jvm.Cond.code ({ cls := "java/lang/Object", name := "<init>", desc := "()V" } : Jvm.MethodName) object_method_1_code (1 : Nat) (Option.none : Option Jvm.ClassFile.FieldType)).before args0 about1 = true := code_word (m := ⟨0, 0⟩) (meth := k0m0) (c := k0c0) (by decide +kernel) rfl rfl rfl (by decide +kernel)
set_option maxRecDepth 65536 in
theorem w_c4 : (Jvm.Cond.code ({ cls := "boundwright/examples/BstSet", name := "add", desc := "(I)V" } : Jvm.MethodName) prog_1_method_2_code (3 : Nat) (Option.none : Option Jvm.ClassFile.FieldType)).before args0 about1 = true := code_word (m := ⟨2, 1⟩) (meth := k2m1) (c := k2c1) (by decide +kernel) rfl rfl rfl (by decide +kernel)
set_option maxRecDepth 65536 in
theorem w_c5 : (Jvm.Cond.code ({ cls := "boundwright/examples/BstSet", name := "leaf", desc := "(I)Lboundwright/examples/BstSet$Node;" } : Jvm.MethodName) prog_1_method_4_code (2 : Nat) (Option.some (Jvm.ClassFile.FieldType.object "boundwright/examples/BstSet$Node"))).before args0 about1 = true := code_word (m := ⟨2, 3⟩) (meth := k2m3) (c := k2c3) (by decide +kernel) rfl rfl rfl (by decide +kernel)
set_option maxRecDepth 65536 in
theorem w_c6 : (Jvm.Cond.code ({ cls := "boundwright/examples/BstSet$Node", name := "<init>", desc := "()V" } : Jvm.MethodName) prog_2_method_1_code (1 : Nat) (Option.none : Option Jvm.ClassFile.FieldType)).before args0 about1 = true := code_word (m := ⟨3, 0⟩) (meth := k3m0) (c := k3c0) (by decide +kernel) rfl rfl rfl (by decide +kernel)
set_option maxRecDepth 65536 in
theorem w_c7 : (Jvm.Cond.code ({ cls := "boundwright/examples/BstSetRemovePinLaw", name := "rankOf", desc := "(I)I" } : Jvm.MethodName) method_3_code (1 : Nat) (Option.some Jvm.ClassFile.FieldType.int)).before args0 about1 = true := code_word (m := ⟨1, 2⟩) (meth := k1m2) (c := k1c2) (by decide +kernel) rfl rfl rfl (by decide +kernel)
set_option maxRecDepth 65536 in
theorem w_c8 : (Jvm.Cond.code ({ cls := "boundwright/examples/BstSetRemovePinLaw", name := "posOf", desc := "(I)I" } : Jvm.MethodName) method_4_code (1 : Nat) (Option.some Jvm.ClassFile.FieldType.int)).before args0 about1 = true := code_word (m := ⟨1, 3⟩) (meth := k1m3) (c := k1c3) (by decide +kernel) rfl rfl rfl (by decide +kernel)
set_option maxRecDepth 65536 in
theorem w_c9 : (Jvm.Cond.code ({ cls := "boundwright/examples/BstSetRemovePinLaw", name := "removeAt", desc := "([II)V" } : Jvm.MethodName) method_9_code (4 : Nat) (Option.none : Option Jvm.ClassFile.FieldType)).before args0 about1 = true := code_word (m := ⟨1, 8⟩) (meth := k1m8) (c := k1c8) (by decide +kernel) rfl rfl rfl (by decide +kernel)
set_option maxRecDepth 65536 in
theorem w_c10 : (Jvm.Cond.code ({ cls := "boundwright/examples/BstSet", name := "remove", desc := "(I)V" } : Jvm.MethodName) prog_1_method_3_code (6 : Nat) (Option.none : Option Jvm.ClassFile.FieldType)).before args0 about1 = true := code_word (m := ⟨2, 2⟩) (meth := k2m2) (c := k2c2) (by decide +kernel) rfl rfl rfl (by decide +kernel)
set_option maxRecDepth 65536 in
theorem w_c11 : (Jvm.Cond.code ({ cls := "boundwright/examples/BstSetRemovePinLaw", name := "left", desc := "(Lboundwright/examples/BstSet$Node;)Lboundwright/examples/BstSet$Node;" } : Jvm.MethodName) method_5_code (1 : Nat) (Option.some (Jvm.ClassFile.FieldType.object "boundwright/examples/BstSet$Node"))).before args0 about1 = true := code_word (m := ⟨1, 4⟩) (meth := k1m4) (c := k1c4) (by decide +kernel) rfl rfl rfl (by decide +kernel)
set_option maxRecDepth 65536 in
theorem w_c12 : (Jvm.Cond.code ({ cls := "boundwright/examples/BstSetRemovePinLaw", name := "right", desc := "(Lboundwright/examples/BstSet$Node;)Lboundwright/examples/BstSet$Node;" } : Jvm.MethodName) method_6_code (1 : Nat) (Option.some (Jvm.ClassFile.FieldType.object "boundwright/examples/BstSet$Node"))).before args0 about1 = true := code_word (m := ⟨1, 5⟩) (meth := k1m5) (c := k1c5) (by decide +kernel) rfl rfl rfl (by decide +kernel)
set_option maxRecDepth 65536 in
theorem w_c13 : (Jvm.Cond.code ({ cls := "boundwright/examples/BstSetRemovePinLaw", name := "match", desc := "(Lboundwright/examples/BstSet$Node;I)Z" } : Jvm.MethodName) method_7_code (2 : Nat) (Option.some Jvm.ClassFile.FieldType.boolean)).before args0 about1 = true := code_word (m := ⟨1, 6⟩) (meth := k1m6) (c := k1c6) (by decide +kernel) rfl rfl rfl (by decide +kernel)
set_option maxRecDepth 65536 in
theorem w_c14 : (Jvm.Cond.code ({ cls := "boundwright/examples/BstSetRemovePinLaw", name := "leafOk", desc := "(Lboundwright/examples/BstSet$Node;)Z" } : Jvm.MethodName) method_8_code (1 : Nat) (Option.some Jvm.ClassFile.FieldType.boolean)).before args0 about1 = true := code_word (m := ⟨1, 7⟩) (meth := k1m7) (c := k1c7) (by decide +kernel) rfl rfl rfl (by decide +kernel)
def codes1 : List Jvm.Cond := [Jvm.Cond.code x code maxLocals ret, Jvm.Cond.code ({ cls := "boundwright/examples/BstSetRemovePinLaw", name := "key", desc := "(I)I" } : Jvm.MethodName) method_2_code (1 : Nat) (Option.some Jvm.ClassFile.FieldType.int), Jvm.Cond.code ({ cls := "boundwright/examples/BstSet", name := "<init>", desc := "()V" } : Jvm.MethodName) prog_1_method_1_code (1 : Nat) (Option.none : Option Jvm.ClassFile.FieldType), Jvm.Cond.code ({ cls := "java/lang/Object", name := "<init>", desc := "()V" } : Jvm.MethodName) object_method_1_code (1 : Nat) (Option.none : Option Jvm.ClassFile.FieldType), Jvm.Cond.code ({ cls := "boundwright/examples/BstSet", name := "add", desc := "(I)V" } : Jvm.MethodName) prog_1_method_2_code (3 : Nat) (Option.none : Option Jvm.ClassFile.FieldType), Jvm.Cond.code ({ cls := "boundwright/examples/BstSet", name := "leaf", desc := "(I)Lboundwright/examples/BstSet$Node;" } : Jvm.MethodName) prog_1_method_4_code (2 : Nat) (Option.some (Jvm.ClassFile.FieldType.object "boundwright/examples/BstSet$Node")), Jvm.Cond.code ({ cls := "boundwright/examples/BstSet$Node", name := "<init>", desc := "()V" } : Jvm.MethodName) prog_2_method_1_code (1 : Nat) (Option.none : Option Jvm.ClassFile.FieldType), Jvm.Cond.code ({ cls := "boundwright/examples/BstSetRemovePinLaw", name := "rankOf", desc := "(I)I" } : Jvm.MethodName) method_3_code (1 : Nat) (Option.some Jvm.ClassFile.FieldType.int), Jvm.Cond.code ({ cls := "boundwright/examples/BstSetRemovePinLaw", name := "posOf", desc := "(I)I" } : Jvm.MethodName) method_4_code (1 : Nat) (Option.some Jvm.ClassFile.FieldType.int), Jvm.Cond.code ({ cls := "boundwright/examples/BstSetRemovePinLaw", name := "removeAt", desc := "([II)V" } : Jvm.MethodName) method_9_code (4 : Nat) (Option.none : Option Jvm.ClassFile.FieldType), Jvm.Cond.code ({ cls := "boundwright/examples/BstSet", name := "remove", desc := "(I)V" } : Jvm.MethodName) prog_1_method_3_code (6 : Nat) (Option.none : Option Jvm.ClassFile.FieldType), Jvm.Cond.code ({ cls := "boundwright/examples/BstSetRemovePinLaw", name := "left", desc := "(Lboundwright/examples/BstSet$Node;)Lboundwright/examples/BstSet$Node;" } : Jvm.MethodName) method_5_code (1 : Nat) (Option.some (Jvm.ClassFile.FieldType.object "boundwright/examples/BstSet$Node")), Jvm.Cond.code ({ cls := "boundwright/examples/BstSetRemovePinLaw", name := "right", desc := "(Lboundwright/examples/BstSet$Node;)Lboundwright/examples/BstSet$Node;" } : Jvm.MethodName) method_6_code (1 : Nat) (Option.some (Jvm.ClassFile.FieldType.object "boundwright/examples/BstSet$Node")), Jvm.Cond.code ({ cls := "boundwright/examples/BstSetRemovePinLaw", name := "match", desc := "(Lboundwright/examples/BstSet$Node;I)Z" } : Jvm.MethodName) method_7_code (2 : Nat) (Option.some Jvm.ClassFile.FieldType.boolean), Jvm.Cond.code ({ cls := "boundwright/examples/BstSetRemovePinLaw", name := "leafOk", desc := "(Lboundwright/examples/BstSet$Node;)Z" } : Jvm.MethodName) method_8_code (1 : Nat) (Option.some Jvm.ClassFile.FieldType.boolean)]
set_option maxRecDepth 65536 in
theorem codes_eq : words1.filter isCode = codes1 := rfl
theorem w_codes : ∀ c ∈ words1.filter isCode, c.before args0 about1 = true := by
  rw [codes_eq]
  intro c hc
  simp only [codes1, List.mem_cons, List.not_mem_nil, or_false] at hc
  rcases hc with rfl | rfl | rfl | rfl | rfl | rfl | rfl | rfl | rfl | rfl | rfl | rfl | rfl | rfl | rfl
  · exact w_c0
  · exact w_c1
  · exact w_c2
  · exact w_c3
  · exact w_c4
  · exact w_c5
  · exact w_c6
  · exact w_c7
  · exact w_c8
  · exact w_c9
  · exact w_c10
  · exact w_c11
  · exact w_c12
  · exact w_c13
  · exact w_c14
set_option maxRecDepth 65536 in
theorem w_t1 : (words1.take 24).all (fun c => isCode c || c.before args0 about1) = true := by decide +kernel
set_option maxRecDepth 65536 in
theorem w_t2 : ((words1.drop 24).take 24).all (fun c => isCode c || c.before args0 about1) = true := by decide +kernel
set_option maxRecDepth 65536 in
theorem w_t3 : (((words1.drop 24).drop 24).take 24).all (fun c => isCode c || c.before args0 about1) = true := by decide +kernel
set_option maxRecDepth 65536 in
theorem w_t4 : (((words1.drop 24).drop 24).drop 24).all (fun c => isCode c || c.before args0 about1) = true := by decide +kernel
theorem w_tables : (allAtoms (Jvm.Cond.code x code maxLocals ret :: tables_1)).before args0 about1 = true := by
  rw [allAtoms_all]
  show words1.all (fun c => c.before args0 about1) = true
  refine all_split ?_ w_codes
  rw [← List.take_append_drop 24 words1, List.all_append, w_t1, ← List.take_append_drop 24 (words1.drop 24), List.all_append, w_t2, ← List.take_append_drop 24 ((words1.drop 24).drop 24), List.all_append, w_t3, w_t4]
  rfl
set_option maxRecDepth 65536 in
theorem w_case : (Jvm.Cond.and given_1 narrow_1).before args0 about1 = true := by decide +kernel
theorem w_applies : (headSpec (Jvm.Cond.code x code maxLocals ret :: tables_1) room_1).applies x e0.platform about1 = true :=
  (Spec.applies_iff w_frames).mpr ⟨w_running, w_runnable, w_alone, w_named, w_hears, w_ripe, w_room, w_tables⟩
theorem atStart : AtStart classFile x code maxLocals ret World_1 tables_1 room_1 Calls_1 rest_1 Pre_1 launch0 p0 e0 about1 theMethod args0 below0 :=
  ⟨lists_1, trivial, launch0.admits_env _ _ _, launch0.least_env, fairChoices_fair.cas, fairChoices_fair.clock, w_frames, w_args, w_heap, w_applies, trivial, trivial, w_case⟩
end start1
theorem witness_1 : WitnessClaimed_1 := ⟨start1.p0, start1.e0, start1.about1, start1.theMethod, start1.args0, start1.below0, start1.atStart⟩
end Jvm.Pilot.@@N@@
