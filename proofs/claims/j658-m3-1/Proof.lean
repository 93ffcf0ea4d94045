import JvmDerived
import JvmDerived.Pilot.@@N@@Statement
import JvmDerived.Pilot.@@N@@Code
set_option linter.unusedVariables false
set_option linter.unusedSimpArgs false
namespace Jvm.OwnW
open Sem ClassFile Op Lib Jvm.Stand Jvm.Free Jvm.LawKit Jvm.RoadKit
/-! A plain heap (objects made since the start, in order), values whose references count from the start's size; W: from here the method comes back, and Q holds of what it returns and leaves. -/
abbrev Key : Type := String × String × String
abbrev AObj : Type := (String × List (Key × Value)) ⊕ (FieldType × List Value)
abbrev AHeap : Type := List AObj
abbrev Meth : Type := MethodName × ByteArray × Nat × Option FieldType × Room
def up (n : Nat) : Value → Value
  | .ref k => .ref (n + k)
  | .retAddr a => .ref a
  | v => v
/-- a reference: null, an object of the plain heap, or one from elsewhere (written '.retAddr', which no method here makes) -/
def rfn : Value → Bool
  | .ref _ => true
  | .null => true
  | .retAddr _ => true
  | _ => false
def upS (n : Nat) : Slot → Slot
  | .val v => .val (up n v)
  | x => x
abbrev loc (n : Nat) (ls : List Slot) : Array Slot := (ls.map (upS n)).toArray
abbrev stk (n : Nat) (st : List Value) : List Value := st.map (up n)
def OR (Z : State) (n : Nat) (h : Heap) (a : Addr) : AObj → Prop
  | .inl x => Exa Z h a x.1 ∧ (∀ (i : Nat) (q : Key × Value), x.2[i]? = some q → Fld Z h a q.1.1 q.1.2.1 q.1.2.2 (up n q.2)) ∧ ∀ (i j : Nat) (q r : Key × Value), i ≠ j → x.2[i]? = some q → x.2[j]? = some r → RoadKit.slotOf Z q.1.1 q.1.2.1 q.1.2.2 ≠ RoadKit.slotOf Z r.1.1 r.1.2.1 r.1.2.2
  | .inr x => ∃ cl : Cell, Arr Z h a cl x.1 ∧ cl.slots = (x.2.map (up n)).toArray
/-- a cell of which nothing is said -/
def junk : AObj := .inr (.object "", [])
def isJ : AObj → Bool
  | .inl _ => false
  | .inr x => match x.1 with
    | .object c => c == ""
    | _ => false
def HR (Z : State) (n : Nat) (h : Heap) (H : AHeap) : Prop := h.size = n + H.length ∧ ∀ k o, H[k]? = some o → isJ o = false → OR Z n h (n + k) o
def Ctx (Z : State) (M : Meth) (p : Program) (s : State) (m : MethodId) (meth : Method) (c : Code) : Prop :=
  p.tables.exec = Jvm.exec ∧ Z.Warmed39 s.vm ∧ s.vm.findClass M.1.cls = some m.cls ∧ c.code = M.2.1 ∧ c.maxLocals = M.2.2.1 ∧ meth.sig.returnType = M.2.2.2.1 ∧ meth.locks = false ∧ meth.name = M.1.name
/-- the end's frame: the plain one, or (a String's constant may have been resolved) the wide one -/
def EndR (b : Bool) (s : State) (o : Outcome) (t : State) (L : List Loc) (k n : Nat) : Prop := match b with
  | false => FrameEnd s o t L k n
  | true => (∃ v : Option Value, o = Outcome.returned v) ∧ s.Warmed39 t.vm ∧ s.Booked t.vm t.heap.size ∧ s.sameButNew ({ t with vm := s.vm } : State) L k n
theorem EndR.of {b : Bool} {s : State} {o : Outcome} {t : State} {L : List Loc} {k n : Nat} (h : FrameEnd s o t L k n) : EndR b s o t L k n := by
  cases b
  · exact h
  · exact ⟨h.1, (h.2.1.since t.heap.size).1, (h.2.1.since t.heap.size).2, h.2.2⟩
def FinR (b : Bool) (Z : State) (n : Nat) (M : Meth) (Q : Option Value → AHeap → Prop) (p : Program) (e : Env) (below : List Frame) (s S : State) : Prop :=
  ∃ s₂ v L H', Steps p.tables e below S s₂ ∧ s₂.status = .running ∧ Ended s₂ below (.returned (v.map (up n))) ∧ Q v H' ∧ HR Z n s₂.heap H' ∧ Fr n L ∧ EndR b s (.returned (v.map (up n))) s₂ L M.2.2.2.2.cells M.2.2.2.2.slots
def WB (b : Bool) (l : Launch) (Z : State) (n : Nat) (M : Meth) (pc : Nat) (ls : List Slot) (st : List Value) (H : AHeap) (ce sl : Nat) (Q : Option Value → AHeap → Prop) : Prop :=
  ∀ (p : Program) (e : Env) (s : State) (m : MethodId) (args : Array Value) (below : List Frame) (meth : Method) (c : Code), Ctx Z M p s m meth c → ∀ (T : State) (locs : List Loc),
    Stand p l e M.2.2.2.2 s m args below meth c T locs ce sl → HR Z n T.heap H → Fr n locs → FinR b Z n M Q p e below s (T.setTop (mkF m pc (loc n ls) (stk n st)))
abbrev W (l : Launch) (Z : State) (n : Nat) (M : Meth) (pc : Nat) (ls : List Slot) (st : List Value) (H : AHeap) (ce sl : Nat) (Q : Option Value → AHeap → Prop) : Prop := WB false l Z n M pc ls st H ce sl Q
/-- the instruction at pc, its length, the pc behind -/
def D (M : Meth) (pc : Nat) (i : Instr) (len pc' : Nat) : Prop := decode M.2.1 pc = .ok (i, len) ∧ pc' = pc + len
/-- a branch: the pc behind, the target -/
def DB (M : Meth) (pc : Nat) (i : Instr) (o : Int) (pc' t : Nat) : Prop := decode M.2.1 pc = .ok (i, 3) ∧ pc' = pc + 3 ∧ 0 ≤ (pc : Int) + o ∧ ((pc : Int) + o).toNat = t

section Facts
variable {Z : State} {n : Nat} {h h' : Heap} {a b : Addr} {x : AObj} {H : AHeap} {sl k : Nat} {v : Value}
theorem up_cat (n : Nat) (v : Value) : (up n v).category = v.category := by cases v <;> rfl
theorem up_rfn (n : Nat) {v : Value} (h : rfn v = true) : (up n v).isRef = true := by cases v <;> first | rfl | (simp [rfn] at h)
theorem up_isRef (n : Nat) {v : Value} (h : v.isRef = true) : (up n v).isRef = true := by cases v <;> first | rfl | (simp [Value.isRef] at h)
theorem rfn_cat {v : Value} (h : rfn v = true) : v.category = 1 := by cases v <;> first | rfl | (simp [rfn] at h)
theorem up_default (n : Nat) (ty : FieldType) : up n (defaultValue ty) = defaultValue ty := by cases ty <;> rfl
theorem up_inj {n : Nat} {v w : Value} (hv : v.isRef = true) (hw : w.isRef = true) (e : up n v = up n w) : v = w := by
  cases v <;> cases w <;> simp_all [up, Value.isRef]
theorem OR.other (W : Wr h h' a sl v) (hne : b ≠ a) : ∀ {x : AObj}, OR Z n h b x → OR Z n h' b x
  | .inl x, o => ⟨o.1.wr W, fun i q hq => (o.2.1 i q hq).other W (Or.inl hne), o.2.2⟩
  | .inr x, ⟨cl, A, e⟩ => ⟨cl, A.other W hne, e⟩
theorem OR.ext (E : Ext h h') : ∀ {x : AObj}, OR Z n h b x → OR Z n h' b x
  | .inl x, o => ⟨o.1.ext E, fun i q hq => (o.2.1 i q hq).ext E, o.2.2⟩
  | .inr x, ⟨cl, A, e⟩ => ⟨cl, A.ext E, e⟩
theorem HR.put (hH : HR Z n h H) (W : Wr h h' (n + k) sl v) (hx : OR Z n h' (n + k) x) : HR Z n h' (H.set k x) := by
  refine ⟨by rw [W.size, List.length_set]; exact hH.1, fun j o hj hJ => ?_⟩
  rw [List.getElem?_set] at hj
  split at hj
  · rename_i e
    subst e
    split at hj
    · cases hj; exact hx
    · cases hj
  · rename_i e
    exact (hH.2 j o hj hJ).other W (fun q => e (Nat.add_left_cancel q).symm)
theorem HR.push (hH : HR Z n h H) (E : Ext h h') (hs : h'.size = h.size + 1) (hx : OR Z n h' h.size x) : HR Z n h' (H ++ [x]) := by
  refine ⟨by rw [hs, hH.1, List.length_append]; rfl, fun j o hj hJ => ?_⟩
  rw [List.getElem?_append] at hj
  split at hj
  · exact (hH.2 j o hj hJ).ext E
  · rename_i e
    have hj' := hj
    cases hq : j - H.length with
    | zero =>
      have hge : H.length ≤ j := Nat.le_of_not_lt e
      have hle : j ≤ H.length := Nat.sub_eq_zero_iff_le.mp hq
      have this : n + j = h.size := by rw [hH.1, Nat.le_antisymm hle hge]
      rw [hq] at hj
      cases hj
      rw [this]; exact hx
    | succ q => rw [hq] at hj; cases hj
theorem OR.field {C : String} {fs : List (Key × Value)} {j : Nat} {O nm d : String} {old w : Value} (o : OR Z n h a (.inl (C, fs))) (hj : fs[j]? = some ((O, nm, d), old)) (W : Wr h h' a (RoadKit.slotOf Z O nm d) (up n w)) : OR Z n h' a (.inl (C, fs.set j ((O, nm, d), w))) := by
  have key : ∀ i q, (fs.set j ((O, nm, d), w))[i]? = some q → ∃ q', fs[i]? = some q' ∧ q'.1 = q.1 ∧ (i = j → q = ((O, nm, d), w)) ∧ (i ≠ j → q' = q) := by
    intro i q hq
    rw [List.getElem?_set] at hq
    split at hq
    · rename_i e
      subst e
      split at hq
      · cases hq; exact ⟨_, hj, rfl, fun _ => rfl, fun q => absurd rfl q⟩
      · cases hq
    · rename_i e
      exact ⟨q, hq, rfl, fun q => absurd q.symm e, fun _ => rfl⟩
  obtain ⟨o1, o2, o3⟩ := o
  refine ⟨o1.wr W, fun i q hq => ?_, fun i i' q r hne hq hr => ?_⟩
  · obtain ⟨q', g1, g2, g3, g4⟩ := key i q hq
    by_cases e : i = j
    · rw [g3 e]
      subst e
      cases hj.symm.trans g1
      have o4 : Fld Z h a O nm d (up n old) := o2 i _ hj
      exact o4.same W
    · obtain rfl := g4 e
      have hne : RoadKit.slotOf Z q'.1.1 q'.1.2.1 q'.1.2.2 ≠ RoadKit.slotOf Z O nm d := o3 i j q' ((O, nm, d), old) e g1 hj
      exact (o2 i q' g1).other W (Or.inr hne)
  · obtain ⟨q', g1, g2, -⟩ := key i q hq
    obtain ⟨r', k1, k2, -⟩ := key i' r hr
    have := o3 i i' q' r' hne g1 k1
    rw [g2, k2] at this; exact this
theorem OR.elem {ty : FieldType} {vs : List Value} {i : Nat} {w : Value} (o : OR Z n h a (.inr (ty, vs))) (W : Wr h h' a i (up n w)) : OR Z n h' a (.inr (ty, vs.set i w)) := by
  obtain ⟨cl, A, e⟩ := o
  refine ⟨_, A.same W, ?_⟩
  show cl.slots.setIfInBounds i (up n w) = _
  rw [e, List.setIfInBounds_toArray, List.map_set]
end Facts

/-- a class as the sheet lays it: its words, its fields at their first values -/
def OkC (a0 : Array Value) (Z : State) (C : String) (k : Nat) (fs : List (Key × Value)) : Prop :=
  (Cond.instantiable C k).before a0 Z = true ∧ (Cond.initialized C).before a0 Z = true ∧ (∀ q ∈ fs, ∃ ty, Laid Z a0 C q.1.1 q.1.2.1 q.1.2.2 ∧ parseFieldDescriptor q.1.2.2 = some ty ∧ q.2 = defaultValue ty) ∧ fs.Pairwise (fun q r => q.1.2.1 ≠ r.1.2.1)
theorem OkC.slots {a0 : Array Value} {Z : State} {C : String} {k : Nat} {fs : List (Key × Value)} (K : OkC a0 Z C k fs) : ∀ (i j : Nat) (q r : Key × Value), i ≠ j → fs[i]? = some q → fs[j]? = some r → RoadKit.slotOf Z q.1.1 q.1.2.1 q.1.2.2 ≠ RoadKit.slotOf Z r.1.1 r.1.2.1 r.1.2.2 := by
  intro i j q r hne hq hr
  obtain ⟨t, L, p1, -⟩ := K.2.2.1 q (List.mem_of_getElem? hq)
  obtain ⟨t', L', p2, -⟩ := K.2.2.1 r (List.mem_of_getElem? hr)
  obtain ⟨hi, ei⟩ := List.getElem?_eq_some_iff.mp hq
  obtain ⟨hj, ej⟩ := List.getElem?_eq_some_iff.mp hr
  have P := List.pairwise_iff_getElem.mp K.2.2.2
  refine slot_ne L L' ?_ p1 p2
  rcases Nat.lt_or_gt_of_ne hne with g | g
  · have := P i j hi hj g; rw [ei, ej] at this; exact this
  · have := P j i hj hi g; rw [ei, ej] at this; exact Ne.symm this

section Locals
variable {n : Nat} {ls : List Slot} {i : Nat} {x : Slot} {v : Value}
theorem loc_get (hl : ls[i]? = some x) : (loc n ls)[i]? = some (upS n x) := by
  simp [loc, hl]
def one (ls : List Slot) (i : Nat) : Bool := match ls[i]? with
  | some .unset => true
  | some (.val w) => w.category == 1
  | _ => false
/-- a long may be stored at i: the two places are there, and no other long is cut in two -/
def two (ls : List Slot) (i : Nat) : Bool := match ls[i]?, ls[i + 1]? with
  | some .unset, some .unset => true
  | some .unset, some (.val w) => w.category == 1
  | some (.val u), some .unset => u.category == 1
  | some (.val u), some (.val w) => u.category == 1 && w.category == 1
  | some (.val u), some .second => u.category == 2
  | _, _ => false
theorem loc_set (n : Nat) (ls : List Slot) (i : Nat) (x : Slot) : (loc n ls).setIfInBounds i (upS n x) = loc n (ls.set i x) := by
  simp [loc, List.map_set]
theorem store_1 (ho : one ls i = true) (hv : v.category = 1) : storeLocals (loc n ls) i (up n v) = some (loc n (ls.set i (.val v))) := by
  have : ∃ o, ls[i]? = some o ∧ (o = .unset ∨ ∃ w, o = .val w ∧ w.category = 1) := by
    unfold one at ho
    split at ho
    · rename_i h; exact ⟨_, h, Or.inl rfl⟩
    · rename_i w h; exact ⟨_, h, Or.inr ⟨w, rfl, by simpa using ho⟩⟩
    · cases ho
  obtain ⟨o, h1, h2⟩ := this
  rw [XS.store1 (loc_get (n := n) h1) ?_ ((up_cat n v).trans hv)]
  · exact congrArg some (loc_set n ls i (.val v))
  · rcases h2 with rfl | ⟨w, rfl, hw⟩
    · exact Or.inl rfl
    · exact Or.inr ⟨up n w, rfl, (up_cat n w).trans hw⟩
theorem setAt_eq {l : Array Slot} {i : Nat} (x : Slot) (h : i < l.size) : setAt l i x = some (l.setIfInBounds i x) := by simp [setAt, h]
theorem store_2 {y : Int64} (ho : two ls i = true) : storeLocals (loc n ls) i (.long y) = some (loc n ((ls.set i (.val (.long y))).set (i + 1) .second)) := by
  have e2 : (loc n ls).setIfInBounds i (.val (.long y)) = loc n (ls.set i (.val (.long y))) := loc_set n ls i (.val (.long y))
  have e3 : (loc n (ls.set i (.val (.long y)))).setIfInBounds (i + 1) .second = loc n ((ls.set i (.val (.long y))).set (i + 1) .second) := loc_set n _ (i + 1) .second
  have key : ∀ a b, ls[i]? = some a → ls[i + 1]? = some b → i < (loc n ls).size ∧ i + 1 < (loc n ls).size ∧ (loc n ls)[i]? = some (upS n a) ∧ (loc n ls)[i + 1]? = some (upS n b) := by
    intro a b h1 h2
    have g1 := (List.getElem?_eq_some_iff.mp h1).1
    have g2 := (List.getElem?_eq_some_iff.mp h2).1
    exact ⟨by simpa [loc] using g1, by simpa [loc] using g2, loc_get h1, loc_get h2⟩
  unfold two at ho
  split at ho
  · rename_i h1 h2
    obtain ⟨s1, s2, g1, g2⟩ := key _ _ h1 h2
    have g3 : ((loc n ls).setIfInBounds i (.val (.long y)))[i + 1]? = some .unset := by rw [Array.getElem?_setIfInBounds_ne (by omega)]; exact g2
    simp only [storeLocals, storeSelf, g1, upS, setAt_eq _ s1, Option.bind_eq_bind, Option.bind_some, Value.category, if_true, g3]
    rw [setAt_eq _ (by simpa using s2), e2, e3]
  · rename_i w h1 h2
    obtain ⟨s1, s2, g1, g2⟩ := key _ _ h1 h2
    have g3 : ((loc n ls).setIfInBounds i (.val (.long y)))[i + 1]? = some (.val (up n w)) := by rw [Array.getElem?_setIfInBounds_ne (by omega)]; exact g2
    have hw : (up n w).category = 1 := (up_cat n w).trans (by simpa using ho)
    have hw2 : ¬ (up n w).category = 2 := by rw [hw]; decide
    simp only [storeLocals, storeSelf, g1, upS, setAt_eq _ s1, Option.bind_eq_bind, Option.bind_some, show (Value.long y).category = 2 from rfl, if_true, g3, if_neg hw2]
    rw [setAt_eq _ (by simpa using s2), e2, e3]
  · rename_i u h1 h2
    obtain ⟨s1, s2, g1, g2⟩ := key _ _ h1 h2
    have g3 : ((loc n ls).setIfInBounds i (.val (.long y)))[i + 1]? = some .unset := by rw [Array.getElem?_setIfInBounds_ne (by omega)]; exact g2
    have hu : (up n u).category = 1 := (up_cat n u).trans (by simpa using ho)
    simp only [storeLocals, storeSelf, g1, upS, setAt_eq _ s1, Option.bind_eq_bind, Option.bind_some, hu, show ((1 : Nat) = 2) = False from by simp, if_false, g3]
    simp only [Value.category, if_true]
    rw [setAt_eq _ (by simpa using s2), e2, e3]
  · rename_i u w h1 h2
    obtain ⟨s1, s2, g1, g2⟩ := key _ _ h1 h2
    simp only [Bool.and_eq_true, beq_iff_eq] at ho
    have g3 : ((loc n ls).setIfInBounds i (.val (.long y)))[i + 1]? = some (.val (up n w)) := by rw [Array.getElem?_setIfInBounds_ne (by omega)]; exact g2
    have hu : (up n u).category = 1 := (up_cat n u).trans ho.1
    have hw : (up n w).category = 1 := (up_cat n w).trans ho.2
    simp only [storeLocals, storeSelf, g1, upS, setAt_eq _ s1, Option.bind_eq_bind, Option.bind_some, hu, hw, show ((1 : Nat) = 2) = False from by simp, if_false, g3]
    simp only [Value.category, if_true]
    rw [setAt_eq _ (by simpa using s2), e2, e3]
  · rename_i u h1 h2
    obtain ⟨s1, s2, g1, g2⟩ := key _ _ h1 h2
    have hu : (up n u).category = 2 := (up_cat n u).trans (by simpa using ho)
    have s3 : i < ((loc n ls).setIfInBounds (i + 1) .unset).size := by simpa using s1
    have g3 : (((loc n ls).setIfInBounds (i + 1) .unset).setIfInBounds i (.val (.long y)))[i + 1]? = some .unset := by rw [Array.getElem?_setIfInBounds_ne (by omega)]; simp [show i + 1 < ls.length by simpa [loc] using s2]
    simp only [storeLocals, storeSelf, g1, upS, setAt_eq _ s2, setAt_eq _ s3, Option.bind_eq_bind, Option.bind_some, hu, if_true, g3]
    simp only [Value.category, if_true]
    rw [setAt_eq _ (by simpa using s2)]
    rw [← e3, ← e2]
    congr 1
    apply Array.ext_getElem?
    intro j
    simp only [Array.getElem?_setIfInBounds, Array.size_setIfInBounds]
    by_cases q : i + 1 = j
    · simp [q]
    · by_cases q2 : i = j <;> simp [q, q2]
  · cases ho
end Locals

section Rules
variable {b : Bool} {l : Launch} {Z : State} {n : Nat} {M : Meth} {pc pc' : Nat} {ls ls' : List Slot} {st st' : List Value} {H H' : AHeap} {ce sl ce' sl' : Nat} {Q : Option Value → AHeap → Prop} {a0 : Array Value}
theorem W.step (go : ∀ (p : Program) (e : Env) (s : State) (m : MethodId) (args : Array Value) (below : List Frame) (meth : Method) (c : Code), Ctx Z M p s m meth c → ∀ (T : State) (locs : List Loc), Stand p l e M.2.2.2.2 s m args below meth c T locs ce sl → HR Z n T.heap H → Fr n locs →
      ∃ T' locs', Stand p l e M.2.2.2.2 s m args below meth c T' locs' ce' sl' ∧ HR Z n T'.heap H' ∧ Fr n locs' ∧ ∀ target, Steps p.tables e below (T'.setTop (mkF m pc' (loc n ls') (stk n st'))) target → Steps p.tables e below (T.setTop (mkF m pc (loc n ls) (stk n st))) target)
    (k : WB b l Z n M pc' ls' st' H' ce' sl' Q) : WB b l Z n M pc ls st H ce sl Q := fun p e s m args below meth c C T locs X hH hF => by
  obtain ⟨T', locs', X', hH', hF', stp⟩ := go p e s m args below meth c C T locs X hH hF
  obtain ⟨s₂, v, L, H'', h1, r⟩ := k p e s m args below meth c C T' locs' X' hH' hF'
  exact ⟨s₂, v, L, H'', stp _ h1, r⟩
theorem W.pure (go : ∀ (p : Program) (e : Env) (s : State) (m : MethodId) (args : Array Value) (below : List Frame) (meth : Method) (c : Code), Ctx Z M p s m meth c → ∀ (T : State) (locs : List Loc), Stand p l e M.2.2.2.2 s m args below meth c T locs ce sl →
      ∀ target, Steps p.tables e below (T.setTop (mkF m pc' (loc n ls') (stk n st'))) target → Steps p.tables e below (T.setTop (mkF m pc (loc n ls) (stk n st))) target)
    (k : WB b l Z n M pc' ls' st' H ce sl Q) : WB b l Z n M pc ls st H ce sl Q :=
  W.step (fun p e s m args below meth c C T locs X hH hF => ⟨T, locs, X, hH, hF, go p e s m args below meth c C T locs X⟩) k
theorem W.more (h1 : ce ≤ ce') (h2 : sl ≤ sl') (k : WB b l Z n M pc ls st H ce' sl' Q) : WB b l Z n M pc ls st H ce sl Q :=
  W.step (fun p e s m args below meth c C T locs X hH hF => ⟨T, locs, X.more h1 h2, hH, hF, fun _ h => h⟩) k
theorem W.mono {Q' : Option Value → AHeap → Prop} (k : WB b l Z n M pc ls st H ce sl Q') (hq : ∀ v H', Q' v H' → Q v H') : WB b l Z n M pc ls st H ce sl Q := fun p e s m args below meth c C T locs X hH hF => by
  obtain ⟨s₂, v, L, H'', h1, h2, h3, h4, r⟩ := k p e s m args below meth c C T locs X hH hF
  exact ⟨s₂, v, L, H'', h1, h2, h3, hq _ _ h4, r⟩
theorem W.iadd {x y : Int32} (hd : D M pc .iadd 1 pc') (k : WB b l Z n M pc' ls (.int (x + y) :: st) H ce sl Q) : WB b l Z n M pc ls (.int y :: .int x :: st) H ce sl Q := by
  obtain ⟨hd, rfl⟩ := hd
  exact W.pure (fun p e s m args below meth c C T locs X target h => XS.iadd X.here C.1 rfl (hb C.2.2.2.1 hd) rfl h) k
theorem W.isub {x y : Int32} (hd : D M pc .isub 1 pc') (k : WB b l Z n M pc' ls (.int (x - y) :: st) H ce sl Q) : WB b l Z n M pc ls (.int y :: .int x :: st) H ce sl Q := by
  obtain ⟨hd, rfl⟩ := hd
  exact W.pure (fun p e s m args below meth c C T locs X target h => XS.isub X.here C.1 rfl (hb C.2.2.2.1 hd) rfl h) k
theorem W.imul {x y : Int32} (hd : D M pc .imul 1 pc') (k : WB b l Z n M pc' ls (.int (x * y) :: st) H ce sl Q) : WB b l Z n M pc ls (.int y :: .int x :: st) H ce sl Q := by
  obtain ⟨hd, rfl⟩ := hd
  exact W.pure (fun p e s m args below meth c C T locs X target h => XS.imul X.here C.1 rfl (hb C.2.2.2.1 hd) rfl h) k
theorem W.iand {x y : Int32} (hd : D M pc .iand 1 pc') (k : WB b l Z n M pc' ls (.int (x &&& y) :: st) H ce sl Q) : WB b l Z n M pc ls (.int y :: .int x :: st) H ce sl Q := by
  obtain ⟨hd, rfl⟩ := hd
  exact W.pure (fun p e s m args below meth c C T locs X target h => XS.iand X.here C.1 rfl (hb C.2.2.2.1 hd) rfl h) k
theorem W.ior {x y : Int32} (hd : D M pc .ior 1 pc') (k : WB b l Z n M pc' ls (.int (x ||| y) :: st) H ce sl Q) : WB b l Z n M pc ls (.int y :: .int x :: st) H ce sl Q := by
  obtain ⟨hd, rfl⟩ := hd
  exact W.pure (fun p e s m args below meth c C T locs X target h => XT.ior X.here C.1 rfl (hb C.2.2.2.1 hd) rfl h) k
theorem W.ixor {x y : Int32} (hd : D M pc .ixor 1 pc') (k : WB b l Z n M pc' ls (.int (x ^^^ y) :: st) H ce sl Q) : WB b l Z n M pc ls (.int y :: .int x :: st) H ce sl Q := by
  obtain ⟨hd, rfl⟩ := hd
  exact W.pure (fun p e s m args below meth c C T locs X target h => XT.ixor X.here C.1 rfl (hb C.2.2.2.1 hd) rfl h) k
theorem W.ishl {x y : Int32} (hd : D M pc .ishl 1 pc') (k : WB b l Z n M pc' ls (.int (x <<< (y &&& 31)) :: st) H ce sl Q) : WB b l Z n M pc ls (.int y :: .int x :: st) H ce sl Q := by
  obtain ⟨hd, rfl⟩ := hd
  exact W.pure (fun p e s m args below meth c C T locs X target h => XT.ishl X.here C.1 rfl (hb C.2.2.2.1 hd) rfl h) k
theorem W.ishr {x y : Int32} (hd : D M pc .ishr 1 pc') (k : WB b l Z n M pc' ls (.int (x >>> (y &&& 31)) :: st) H ce sl Q) : WB b l Z n M pc ls (.int y :: .int x :: st) H ce sl Q := by
  obtain ⟨hd, rfl⟩ := hd
  exact W.pure (fun p e s m args below meth c C T locs X target h => XT.ishr X.here C.1 rfl (hb C.2.2.2.1 hd) rfl h) k
theorem W.iushr {x y : Int32} (hd : D M pc .iushr 1 pc') (k : WB b l Z n M pc' ls (.int (XT.ushr x y) :: st) H ce sl Q) : WB b l Z n M pc ls (.int y :: .int x :: st) H ce sl Q := by
  obtain ⟨hd, rfl⟩ := hd
  exact W.pure (fun p e s m args below meth c C T locs X target h => XT.iushr X.here C.1 rfl (hb C.2.2.2.1 hd) rfl h) k
theorem W.ladd {x y : Int64} (hd : D M pc .ladd 1 pc') (k : WB b l Z n M pc' ls (.long (x + y) :: st) H ce sl Q) : WB b l Z n M pc ls (.long y :: .long x :: st) H ce sl Q := by
  obtain ⟨hd, rfl⟩ := hd
  exact W.pure (fun p e s m args below meth c C T locs X target h => XT.ladd X.here C.1 rfl (hb C.2.2.2.1 hd) rfl h) k
theorem W.lsub {x y : Int64} (hd : D M pc .lsub 1 pc') (k : WB b l Z n M pc' ls (.long (x - y) :: st) H ce sl Q) : WB b l Z n M pc ls (.long y :: .long x :: st) H ce sl Q := by
  obtain ⟨hd, rfl⟩ := hd
  exact W.pure (fun p e s m args below meth c C T locs X target h => XT.lsub X.here C.1 rfl (hb C.2.2.2.1 hd) rfl h) k
theorem W.lmul {x y : Int64} (hd : D M pc .lmul 1 pc') (k : WB b l Z n M pc' ls (.long (x * y) :: st) H ce sl Q) : WB b l Z n M pc ls (.long y :: .long x :: st) H ce sl Q := by
  obtain ⟨hd, rfl⟩ := hd
  exact W.pure (fun p e s m args below meth c C T locs X target h => XT.lmul X.here C.1 rfl (hb C.2.2.2.1 hd) rfl h) k
theorem W.land {x y : Int64} (hd : D M pc .land 1 pc') (k : WB b l Z n M pc' ls (.long (x &&& y) :: st) H ce sl Q) : WB b l Z n M pc ls (.long y :: .long x :: st) H ce sl Q := by
  obtain ⟨hd, rfl⟩ := hd
  exact W.pure (fun p e s m args below meth c C T locs X target h => XT.land X.here C.1 rfl (hb C.2.2.2.1 hd) rfl h) k
theorem W.lor {x y : Int64} (hd : D M pc .lor 1 pc') (k : WB b l Z n M pc' ls (.long (x ||| y) :: st) H ce sl Q) : WB b l Z n M pc ls (.long y :: .long x :: st) H ce sl Q := by
  obtain ⟨hd, rfl⟩ := hd
  exact W.pure (fun p e s m args below meth c C T locs X target h => XT.lor X.here C.1 rfl (hb C.2.2.2.1 hd) rfl h) k
theorem W.lxor {x y : Int64} (hd : D M pc .lxor 1 pc') (k : WB b l Z n M pc' ls (.long (x ^^^ y) :: st) H ce sl Q) : WB b l Z n M pc ls (.long y :: .long x :: st) H ce sl Q := by
  obtain ⟨hd, rfl⟩ := hd
  exact W.pure (fun p e s m args below meth c C T locs X target h => XT.lxor X.here C.1 rfl (hb C.2.2.2.1 hd) rfl h) k
theorem W.lshl {x : Int64} {y : Int32} (hd : D M pc .lshl 1 pc') (k : WB b l Z n M pc' ls (.long (x <<< (y &&& 0x3f).toInt64) :: st) H ce sl Q) : WB b l Z n M pc ls (.int y :: .long x :: st) H ce sl Q := by
  obtain ⟨hd, rfl⟩ := hd
  exact W.pure (fun p e s m args below meth c C T locs X target h => XS.lshl X.here C.1 rfl (hb C.2.2.2.1 hd) rfl h) k
theorem W.lshr {x : Int64} {y : Int32} (hd : D M pc .lshr 1 pc') (k : WB b l Z n M pc' ls (.long (x >>> (y &&& 0x3f).toInt64) :: st) H ce sl Q) : WB b l Z n M pc ls (.int y :: .long x :: st) H ce sl Q := by
  obtain ⟨hd, rfl⟩ := hd
  exact W.pure (fun p e s m args below meth c C T locs X target h => XS.lshr X.here C.1 rfl (hb C.2.2.2.1 hd) rfl h) k
theorem W.lushr {x : Int64} {y : Int32} (hd : D M pc .lushr 1 pc') (k : WB b l Z n M pc' ls (.long (XT.ushrL x y) :: st) H ce sl Q) : WB b l Z n M pc ls (.int y :: .long x :: st) H ce sl Q := by
  obtain ⟨hd, rfl⟩ := hd
  exact W.pure (fun p e s m args below meth c C T locs X target h => XT.lushr X.here C.1 rfl (hb C.2.2.2.1 hd) rfl h) k
theorem W.idiv {x y : Int32} (hd : D M pc .idiv 1 pc') (hy : y ≠ 0) (k : WB b l Z n M pc' ls (.int (x / y) :: st) H ce sl Q) : WB b l Z n M pc ls (.int y :: .int x :: st) H ce sl Q := by
  obtain ⟨hd, rfl⟩ := hd
  exact W.pure (fun p e s m args below meth c C T locs X target h => XS.idiv X.here C.1 rfl (hb C.2.2.2.1 hd) rfl hy h) k
theorem W.irem {x y : Int32} (hd : D M pc .irem 1 pc') (hy : y ≠ 0) (k : WB b l Z n M pc' ls (.int (x % y) :: st) H ce sl Q) : WB b l Z n M pc ls (.int y :: .int x :: st) H ce sl Q := by
  obtain ⟨hd, rfl⟩ := hd
  exact W.pure (fun p e s m args below meth c C T locs X target h => iremM X C.1 rfl (hb C.2.2.2.1 hd) rfl hy h) k
theorem W.ldiv {x y : Int64} (hd : D M pc .ldiv 1 pc') (hy : y ≠ 0) (k : WB b l Z n M pc' ls (.long (x / y) :: st) H ce sl Q) : WB b l Z n M pc ls (.long y :: .long x :: st) H ce sl Q := by
  obtain ⟨hd, rfl⟩ := hd
  exact W.pure (fun p e s m args below meth c C T locs X target h => XT.ldiv X.here C.1 rfl (hb C.2.2.2.1 hd) rfl hy h) k
theorem W.lrem {x y : Int64} (hd : D M pc .lrem 1 pc') (hy : y ≠ 0) (k : WB b l Z n M pc' ls (.long (x % y) :: st) H ce sl Q) : WB b l Z n M pc ls (.long y :: .long x :: st) H ce sl Q := by
  obtain ⟨hd, rfl⟩ := hd
  exact W.pure (fun p e s m args below meth c C T locs X target h => XT.lrem X.here C.1 rfl (hb C.2.2.2.1 hd) rfl hy (by rw [lrem_mod]; exact h)) k
theorem W.ineg {x : Int32} (hd : D M pc .ineg 1 pc') (k : WB b l Z n M pc' ls (.int (-x) :: st) H ce sl Q) : WB b l Z n M pc ls (.int x :: st) H ce sl Q := by
  obtain ⟨hd, rfl⟩ := hd
  exact W.pure (fun p e s m args below meth c C T locs X target h => XS.ineg X.here C.1 rfl (hb C.2.2.2.1 hd) rfl h) k
theorem W.lneg {x : Int64} (hd : D M pc .lneg 1 pc') (k : WB b l Z n M pc' ls (.long (-x) :: st) H ce sl Q) : WB b l Z n M pc ls (.long x :: st) H ce sl Q := by
  obtain ⟨hd, rfl⟩ := hd
  exact W.pure (fun p e s m args below meth c C T locs X target h => XT.lneg X.here C.1 rfl (hb C.2.2.2.1 hd) rfl h) k
theorem W.i2l {x : Int32} (hd : D M pc .i2l 1 pc') (k : WB b l Z n M pc' ls (.long (x.toInt64) :: st) H ce sl Q) : WB b l Z n M pc ls (.int x :: st) H ce sl Q := by
  obtain ⟨hd, rfl⟩ := hd
  exact W.pure (fun p e s m args below meth c C T locs X target h => XT.i2l X.here C.1 rfl (hb C.2.2.2.1 hd) rfl h) k
theorem W.l2i {x : Int64} (hd : D M pc .l2i 1 pc') (k : WB b l Z n M pc' ls (.int (x.toInt32) :: st) H ce sl Q) : WB b l Z n M pc ls (.long x :: st) H ce sl Q := by
  obtain ⟨hd, rfl⟩ := hd
  exact W.pure (fun p e s m args below meth c C T locs X target h => XT.l2i X.here C.1 rfl (hb C.2.2.2.1 hd) rfl h) k
theorem W.i2b {x : Int32} (hd : D M pc .i2b 1 pc') (k : WB b l Z n M pc' ls (.int (x.toInt8.toInt32) :: st) H ce sl Q) : WB b l Z n M pc ls (.int x :: st) H ce sl Q := by
  obtain ⟨hd, rfl⟩ := hd
  exact W.pure (fun p e s m args below meth c C T locs X target h => XT.i2b X.here C.1 rfl (hb C.2.2.2.1 hd) rfl h) k
theorem W.i2s {x : Int32} (hd : D M pc .i2s 1 pc') (k : WB b l Z n M pc' ls (.int (x.toInt16.toInt32) :: st) H ce sl Q) : WB b l Z n M pc ls (.int x :: st) H ce sl Q := by
  obtain ⟨hd, rfl⟩ := hd
  exact W.pure (fun p e s m args below meth c C T locs X target h => XT.i2s X.here C.1 rfl (hb C.2.2.2.1 hd) rfl h) k
theorem W.lcmp {x y : Int64} (hd : D M pc .lcmp 1 pc') (k : WB b l Z n M pc' ls (.int (XT.cmpL x y) :: st) H ce sl Q) : WB b l Z n M pc ls (.long y :: .long x :: st) H ce sl Q := by
  obtain ⟨hd, rfl⟩ := hd
  exact W.pure (fun p e s m args below meth c C T locs X target h => XT.lcmp X.here C.1 rfl (hb C.2.2.2.1 hd) rfl h) k
theorem W.iconst {i : Int} (v : Int32) (hd : D M pc (.iconst i) 1 pc') (hv : Int32.ofInt i = v) (k : WB b l Z n M pc' ls (.int v :: st) H ce sl Q) : WB b l Z n M pc ls st H ce sl Q := by
  obtain ⟨hd, rfl⟩ := hd
  exact W.pure (fun p e s m args below meth c C T locs X target h => XT.iconstV X.here C.1 rfl v (hb C.2.2.2.1 hd) hv h) k
theorem W.bipush {i : Int} (v : Int32) (hd : D M pc (.bipush i) 2 pc') (hv : (Int8.ofInt i).toInt32 = v) (k : WB b l Z n M pc' ls (.int v :: st) H ce sl Q) : WB b l Z n M pc ls st H ce sl Q := by
  obtain ⟨hd, rfl⟩ := hd
  exact W.pure (fun p e s m args below meth c C T locs X target h => XT.bipushV X.here C.1 rfl v (hb C.2.2.2.1 hd) hv h) k
theorem W.sipush {i : Int} (v : Int32) (hd : D M pc (.sipush i) 3 pc') (hv : (Int16.ofInt i).toInt32 = v) (k : WB b l Z n M pc' ls (.int v :: st) H ce sl Q) : WB b l Z n M pc ls st H ce sl Q := by
  obtain ⟨hd, rfl⟩ := hd
  exact W.pure (fun p e s m args below meth c C T locs X target h => XT.sipushV X.here C.1 rfl v (hb C.2.2.2.1 hd) hv h) k
theorem W.lconst {i : Fin 2} (v : Int64) (hd : D M pc (.lconst i) 1 pc') (hv : Int64.ofNat i = v) (k : WB b l Z n M pc' ls (.long v :: st) H ce sl Q) : WB b l Z n M pc ls st H ce sl Q := by
  obtain ⟨hd, rfl⟩ := hd
  exact W.pure (fun p e s m args below meth c C T locs X target h => XT.lconstV X.here C.1 rfl v (hb C.2.2.2.1 hd) hv h) k
theorem W.aconst  (hd : D M pc .aconst_null 1 pc') (k : WB b l Z n M pc' ls (.null :: st) H ce sl Q) : WB b l Z n M pc ls st H ce sl Q := by
  obtain ⟨hd, rfl⟩ := hd
  exact W.pure (fun p e s m args below meth c C T locs X target h => XS.aconstNull X.here C.1 rfl (hb C.2.2.2.1 hd) h) k
theorem W.ldc {i : Nat} {v : Int32} (hd : D M pc (.ldc i) 2 pc') (w : (Cond.constant M.1.cls i v).before a0 Z = true) (k : WB b l Z n M pc' ls (.int v :: st) H ce sl Q) : WB b l Z n M pc ls st H ce sl Q := by
  obtain ⟨hd, rfl⟩ := hd
  exact W.pure (fun p e s m args below meth c C T locs X target h => X.ldcI C.1 C.2.2.1 (mvT C.2.1 w) rfl (hb C.2.2.2.1 hd) h) k
theorem W.ldc2 {i : Nat} {v : Int64} (hd : D M pc (.ldc2_w i) 3 pc') (w : (Cond.constantLong M.1.cls i v).before a0 Z = true) (k : WB b l Z n M pc' ls (.long v :: st) H ce sl Q) : WB b l Z n M pc ls st H ce sl Q := by
  obtain ⟨hd, rfl⟩ := hd
  exact W.pure (fun p e s m args below meth c C T locs X target h => X.ldc2J C.1 C.2.2.1 (mvT C.2.1 w) rfl (hb C.2.2.2.1 hd) h) k
theorem W.iloadN {i : Fin 4} {v : Int32} (hd : D M pc (.iload_n i) 1 pc') (hl : ls[i.val]? = some (.val (.int v))) (k : WB b l Z n M pc' ls (.int v :: st) H ce sl Q) : WB b l Z n M pc ls st H ce sl Q := by
  obtain ⟨hd, rfl⟩ := hd
  exact W.pure (fun p e s m args below meth c C T locs X target h => XS.iloadN X.here C.1 rfl (hb C.2.2.2.1 hd) (loc_get hl) h) k
theorem W.iload {i : Nat} {v : Int32} (hd : D M pc (.iload i) 2 pc') (hl : ls[i]? = some (.val (.int v))) (k : WB b l Z n M pc' ls (.int v :: st) H ce sl Q) : WB b l Z n M pc ls st H ce sl Q := by
  obtain ⟨hd, rfl⟩ := hd
  exact W.pure (fun p e s m args below meth c C T locs X target h => XS.iload X.here C.1 rfl (hb C.2.2.2.1 hd) (loc_get hl) h) k
theorem W.lloadN {i : Fin 4} {v : Int64} (hd : D M pc (.lload_n i) 1 pc') (hl : ls[i.val]? = some (.val (.long v))) (k : WB b l Z n M pc' ls (.long v :: st) H ce sl Q) : WB b l Z n M pc ls st H ce sl Q := by
  obtain ⟨hd, rfl⟩ := hd
  exact W.pure (fun p e s m args below meth c C T locs X target h => XT.lloadN X.here C.1 rfl (hb C.2.2.2.1 hd) (loc_get hl) h) k
theorem W.lload {i : Nat} {v : Int64} (hd : D M pc (.lload i) 2 pc') (hl : ls[i]? = some (.val (.long v))) (k : WB b l Z n M pc' ls (.long v :: st) H ce sl Q) : WB b l Z n M pc ls st H ce sl Q := by
  obtain ⟨hd, rfl⟩ := hd
  exact W.pure (fun p e s m args below meth c C T locs X target h => XT.lload X.here C.1 rfl (hb C.2.2.2.1 hd) (loc_get hl) h) k
theorem W.aloadN {i : Fin 4} {v : Value} (hd : D M pc (.aload_n i) 1 pc') (hl : ls[i.val]? = some (.val v)) (hv : rfn v = true) (k : WB b l Z n M pc' ls (v :: st) H ce sl Q) : WB b l Z n M pc ls st H ce sl Q := by
  obtain ⟨hd, rfl⟩ := hd
  exact W.pure (fun p e s m args below meth c C T locs X target h => XS.aloadN X.here C.1 rfl (hb C.2.2.2.1 hd) (loc_get hl) (up_rfn n hv) h) k
theorem W.aload {i : Nat} {v : Value} (hd : D M pc (.aload i) 2 pc') (hl : ls[i]? = some (.val v)) (hv : rfn v = true) (k : WB b l Z n M pc' ls (v :: st) H ce sl Q) : WB b l Z n M pc ls st H ce sl Q := by
  obtain ⟨hd, rfl⟩ := hd
  exact W.pure (fun p e s m args below meth c C T locs X target h => XS.aload X.here C.1 rfl (hb C.2.2.2.1 hd) (loc_get hl) (up_rfn n hv) h) k
theorem W.istoreN {i : Fin 4} {v : Int32} (hd : D M pc (.istore_n i) 1 pc') (ho : one ls i.val = true) (k : WB b l Z n M pc' (ls.set i.val (.val (.int v))) st H ce sl Q) : WB b l Z n M pc ls (.int v :: st) H ce sl Q := by
  obtain ⟨hd, rfl⟩ := hd
  exact W.pure (fun p e s m args below meth c C T locs X target h => XS.istoreN X.here C.1 rfl (hb C.2.2.2.1 hd) rfl (store_1 (v := .int v) ho rfl) h) k
theorem W.istore {i : Nat} {v : Int32} (hd : D M pc (.istore i) 2 pc') (ho : one ls i = true) (k : WB b l Z n M pc' (ls.set i (.val (.int v))) st H ce sl Q) : WB b l Z n M pc ls (.int v :: st) H ce sl Q := by
  obtain ⟨hd, rfl⟩ := hd
  exact W.pure (fun p e s m args below meth c C T locs X target h => XS.istore X.here C.1 rfl (hb C.2.2.2.1 hd) rfl (store_1 (v := .int v) ho rfl) h) k
theorem W.astoreN {i : Fin 4} {v : Value} (hd : D M pc (.astore_n i) 1 pc') (ho : one ls i.val = true) (hv : rfn v = true) (k : WB b l Z n M pc' (ls.set i.val (.val v)) st H ce sl Q) : WB b l Z n M pc ls (v :: st) H ce sl Q := by
  obtain ⟨hd, rfl⟩ := hd
  exact W.pure (fun p e s m args below meth c C T locs X target h => XS.astoreN X.here C.1 rfl (hb C.2.2.2.1 hd) rfl (up_rfn n hv) (store_1 ho (rfn_cat hv)) h) k
theorem W.astore {i : Nat} {v : Value} (hd : D M pc (.astore i) 2 pc') (ho : one ls i = true) (hv : rfn v = true) (k : WB b l Z n M pc' (ls.set i (.val v)) st H ce sl Q) : WB b l Z n M pc ls (v :: st) H ce sl Q := by
  obtain ⟨hd, rfl⟩ := hd
  exact W.pure (fun p e s m args below meth c C T locs X target h => XS.astore X.here C.1 rfl (hb C.2.2.2.1 hd) rfl (up_rfn n hv) (store_1 ho (rfn_cat hv)) h) k
theorem W.lstoreN {i : Fin 4} {v : Int64} (hd : D M pc (.lstore_n i) 1 pc') (ho : two ls i.val = true) (k : WB b l Z n M pc' ((ls.set i.val (.val (.long v))).set (i.val + 1) .second) st H ce sl Q) : WB b l Z n M pc ls (.long v :: st) H ce sl Q := by
  obtain ⟨hd, rfl⟩ := hd
  exact W.pure (fun p e s m args below meth c C T locs X target h => XT.lstoreN X.here C.1 rfl (hb C.2.2.2.1 hd) rfl (store_2 ho) h) k
theorem W.lstore {i : Nat} {v : Int64} (hd : D M pc (.lstore i) 2 pc') (ho : two ls i = true) (k : WB b l Z n M pc' ((ls.set i (.val (.long v))).set (i + 1) .second) st H ce sl Q) : WB b l Z n M pc ls (.long v :: st) H ce sl Q := by
  obtain ⟨hd, rfl⟩ := hd
  exact W.pure (fun p e s m args below meth c C T locs X target h => XT.lstore X.here C.1 rfl (hb C.2.2.2.1 hd) rfl (store_2 ho) h) k
theorem W.iinc {i : Nat} {cst : Int} {x : Int32} (v : Int32) (hd : D M pc (.iinc i cst) 3 pc') (hv : Int32.ofInt cst = v) (hl : ls[i]? = some (.val (.int x))) (k : WB b l Z n M pc' (ls.set i (.val (.int (x + v)))) st H ce sl Q) : WB b l Z n M pc ls st H ce sl Q := by
  obtain ⟨hd, rfl⟩ := hd
  exact W.pure (fun p e s m args below meth c C T locs X target h => XT.iincV X.here C.1 rfl v (hb C.2.2.2.1 hd) hv (loc_get hl) (store_1 (v := .int (x + v)) (by simp [one, hl, Value.category]) rfl) h) k
theorem W.dup {v : Value} (hd : D M pc .dup 1 pc') (hv : v.category = 1) (k : WB b l Z n M pc' ls (v :: v :: st) H ce sl Q) : WB b l Z n M pc ls (v :: st) H ce sl Q := by
  obtain ⟨hd, rfl⟩ := hd
  exact W.pure (fun p e s m args below meth c C T locs X target h => XS.dup X.here C.1 rfl (hb C.2.2.2.1 hd) rfl ((up_cat n v).trans hv) h) k
theorem W.pop {v : Value} (hd : D M pc .pop 1 pc') (hv : v.category = 1) (k : WB b l Z n M pc' ls st H ce sl Q) : WB b l Z n M pc ls (v :: st) H ce sl Q := by
  obtain ⟨hd, rfl⟩ := hd
  exact W.pure (fun p e s m args below meth c C T locs X target h => XT.pop X.here C.1 rfl (hb C.2.2.2.1 hd) rfl ((up_cat n v).trans hv) h) k
theorem W.dupX1 {v w : Value} (hd : D M pc .dup_x1 1 pc') (hv : v.category = 1) (hw : w.category = 1) (k : WB b l Z n M pc' ls (v :: w :: v :: st) H ce sl Q) : WB b l Z n M pc ls (v :: w :: st) H ce sl Q := by
  obtain ⟨hd, rfl⟩ := hd
  exact W.pure (fun p e s m args below meth c C T locs X target h => XT.dupX1 X.here C.1 rfl (hb C.2.2.2.1 hd) rfl ((up_cat n v).trans hv) ((up_cat n w).trans hw) h) k
theorem W.dup2 {v w : Value} (hd : D M pc .dup2 1 pc') (hv : v.category = 1) (hw : w.category = 1) (k : WB b l Z n M pc' ls (v :: w :: v :: w :: st) H ce sl Q) : WB b l Z n M pc ls (v :: w :: st) H ce sl Q := by
  obtain ⟨hd, rfl⟩ := hd
  exact W.pure (fun p e s m args below meth c C T locs X target h => XT.dup2 X.here C.1 rfl (hb C.2.2.2.1 hd) rfl ((up_cat n v).trans hv) ((up_cat n w).trans hw) h) k
theorem W.dup2L {x : Int64} (hd : D M pc .dup2 1 pc') (k : WB b l Z n M pc' ls (.long x :: .long x :: st) H ce sl Q) : WB b l Z n M pc ls (.long x :: st) H ce sl Q := by
  obtain ⟨hd, rfl⟩ := hd
  exact W.pure (fun p e s m args below meth c C T locs X target h => XT.dup2L X.here C.1 rfl (hb C.2.2.2.1 hd) rfl h) k
theorem W.goto {o : Int} {t : Nat} (hd : DB M pc (.goto o) o pc' t) (k : WB b l Z n M t ls st H ce sl Q) : WB b l Z n M pc ls st H ce sl Q :=
  W.pure (fun p e s m args below meth c C T locs X target h => XS.goto X.here C.1 rfl rfl (hb C.2.2.2.1 hd.1) hd.2.2.1 hd.2.2.2 h) k
theorem W.if_eq {x : Int32} {o : Int} {t : Nat} (hd : DB M pc (.ifCond .eq o) o pc' t) (ky : (x = 0) → WB b l Z n M t ls st H ce sl Q) (kn : (¬ x = 0) → WB b l Z n M pc' ls st H ce sl Q) : WB b l Z n M pc ls (.int x :: st) H ce sl Q := by
  obtain ⟨h1, rfl, h3, h4⟩ := hd
  by_cases q : (x = 0)
  · exact W.pure (fun p e s m args below meth c C T locs X target h => XS.ifYes X.here C.1 rfl rfl (hb C.2.2.2.1 h1) rfl (XT.i0_eq_t q) h3 h4 h) (ky q)
  · exact W.pure (fun p e s m args below meth c C T locs X target h => XS.ifNo X.here C.1 rfl (hb C.2.2.2.1 h1) rfl (XT.i0_eq_f q) h) (kn q)
theorem W.ifl_eq {x y : Int64} {o : Int} {t : Nat} (hd : DB M pc (.ifCond .eq o) o pc' t) (ky : (x = y) → WB b l Z n M t ls st H ce sl Q) (kn : (¬ x = y) → WB b l Z n M pc' ls st H ce sl Q) : WB b l Z n M pc ls (.int (XT.cmpL x y) :: st) H ce sl Q := by
  obtain ⟨h1, rfl, h3, h4⟩ := hd
  by_cases q : (x = y)
  · exact W.pure (fun p e s m args below meth c C T locs X target h => XS.ifYes X.here C.1 rfl rfl (hb C.2.2.2.1 h1) rfl (XT.ll_eq_t q) h3 h4 h) (ky q)
  · exact W.pure (fun p e s m args below meth c C T locs X target h => XS.ifNo X.here C.1 rfl (hb C.2.2.2.1 h1) rfl (XT.ll_eq_f q) h) (kn q)
theorem W.icmp_eq {x y : Int32} {o : Int} {t : Nat} (hd : DB M pc (.if_icmp .eq o) o pc' t) (ky : (x = y) → WB b l Z n M t ls st H ce sl Q) (kn : (¬ x = y) → WB b l Z n M pc' ls st H ce sl Q) : WB b l Z n M pc ls (.int y :: .int x :: st) H ce sl Q := by
  obtain ⟨h1, rfl, h3, h4⟩ := hd
  by_cases q : (x = y)
  · exact W.pure (fun p e s m args below meth c C T locs X target h => XS.icmpYes X.here C.1 rfl rfl (hb C.2.2.2.1 h1) rfl (XT.ii_eq_t q) h3 h4 h) (ky q)
  · exact W.pure (fun p e s m args below meth c C T locs X target h => XS.icmpNo X.here C.1 rfl (hb C.2.2.2.1 h1) rfl (XT.ii_eq_f q) h) (kn q)
theorem W.if_ne {x : Int32} {o : Int} {t : Nat} (hd : DB M pc (.ifCond .ne o) o pc' t) (ky : (¬ x = 0) → WB b l Z n M t ls st H ce sl Q) (kn : (x = 0) → WB b l Z n M pc' ls st H ce sl Q) : WB b l Z n M pc ls (.int x :: st) H ce sl Q := by
  obtain ⟨h1, rfl, h3, h4⟩ := hd
  by_cases q : (x = 0)
  · exact W.pure (fun p e s m args below meth c C T locs X target h => XS.ifNo X.here C.1 rfl (hb C.2.2.2.1 h1) rfl (XT.i0_ne_f q) h) (kn q)
  · exact W.pure (fun p e s m args below meth c C T locs X target h => XS.ifYes X.here C.1 rfl rfl (hb C.2.2.2.1 h1) rfl (XT.i0_ne_t q) h3 h4 h) (ky q)
theorem W.ifl_ne {x y : Int64} {o : Int} {t : Nat} (hd : DB M pc (.ifCond .ne o) o pc' t) (ky : (¬ x = y) → WB b l Z n M t ls st H ce sl Q) (kn : (x = y) → WB b l Z n M pc' ls st H ce sl Q) : WB b l Z n M pc ls (.int (XT.cmpL x y) :: st) H ce sl Q := by
  obtain ⟨h1, rfl, h3, h4⟩ := hd
  by_cases q : (x = y)
  · exact W.pure (fun p e s m args below meth c C T locs X target h => XS.ifNo X.here C.1 rfl (hb C.2.2.2.1 h1) rfl (XT.ll_ne_f q) h) (kn q)
  · exact W.pure (fun p e s m args below meth c C T locs X target h => XS.ifYes X.here C.1 rfl rfl (hb C.2.2.2.1 h1) rfl (XT.ll_ne_t q) h3 h4 h) (ky q)
theorem W.icmp_ne {x y : Int32} {o : Int} {t : Nat} (hd : DB M pc (.if_icmp .ne o) o pc' t) (ky : (¬ x = y) → WB b l Z n M t ls st H ce sl Q) (kn : (x = y) → WB b l Z n M pc' ls st H ce sl Q) : WB b l Z n M pc ls (.int y :: .int x :: st) H ce sl Q := by
  obtain ⟨h1, rfl, h3, h4⟩ := hd
  by_cases q : (x = y)
  · exact W.pure (fun p e s m args below meth c C T locs X target h => XS.icmpNo X.here C.1 rfl (hb C.2.2.2.1 h1) rfl (XT.ii_ne_f q) h) (kn q)
  · exact W.pure (fun p e s m args below meth c C T locs X target h => XS.icmpYes X.here C.1 rfl rfl (hb C.2.2.2.1 h1) rfl (XT.ii_ne_t q) h3 h4 h) (ky q)
theorem W.if_lt {x : Int32} {o : Int} {t : Nat} (hd : DB M pc (.ifCond .lt o) o pc' t) (ky : (x < 0) → WB b l Z n M t ls st H ce sl Q) (kn : (¬ x < 0) → WB b l Z n M pc' ls st H ce sl Q) : WB b l Z n M pc ls (.int x :: st) H ce sl Q := by
  obtain ⟨h1, rfl, h3, h4⟩ := hd
  by_cases q : (x < 0)
  · exact W.pure (fun p e s m args below meth c C T locs X target h => XS.ifYes X.here C.1 rfl rfl (hb C.2.2.2.1 h1) rfl (XT.i0_lt_t q) h3 h4 h) (ky q)
  · exact W.pure (fun p e s m args below meth c C T locs X target h => XS.ifNo X.here C.1 rfl (hb C.2.2.2.1 h1) rfl (XT.i0_lt_f q) h) (kn q)
theorem W.ifl_lt {x y : Int64} {o : Int} {t : Nat} (hd : DB M pc (.ifCond .lt o) o pc' t) (ky : (x < y) → WB b l Z n M t ls st H ce sl Q) (kn : (¬ x < y) → WB b l Z n M pc' ls st H ce sl Q) : WB b l Z n M pc ls (.int (XT.cmpL x y) :: st) H ce sl Q := by
  obtain ⟨h1, rfl, h3, h4⟩ := hd
  by_cases q : (x < y)
  · exact W.pure (fun p e s m args below meth c C T locs X target h => XS.ifYes X.here C.1 rfl rfl (hb C.2.2.2.1 h1) rfl (XT.ll_lt_t q) h3 h4 h) (ky q)
  · exact W.pure (fun p e s m args below meth c C T locs X target h => XS.ifNo X.here C.1 rfl (hb C.2.2.2.1 h1) rfl (XT.ll_lt_f q) h) (kn q)
theorem W.icmp_lt {x y : Int32} {o : Int} {t : Nat} (hd : DB M pc (.if_icmp .lt o) o pc' t) (ky : (x < y) → WB b l Z n M t ls st H ce sl Q) (kn : (¬ x < y) → WB b l Z n M pc' ls st H ce sl Q) : WB b l Z n M pc ls (.int y :: .int x :: st) H ce sl Q := by
  obtain ⟨h1, rfl, h3, h4⟩ := hd
  by_cases q : (x < y)
  · exact W.pure (fun p e s m args below meth c C T locs X target h => XS.icmpYes X.here C.1 rfl rfl (hb C.2.2.2.1 h1) rfl (XT.ii_lt_t q) h3 h4 h) (ky q)
  · exact W.pure (fun p e s m args below meth c C T locs X target h => XS.icmpNo X.here C.1 rfl (hb C.2.2.2.1 h1) rfl (XT.ii_lt_f q) h) (kn q)
theorem W.if_ge {x : Int32} {o : Int} {t : Nat} (hd : DB M pc (.ifCond .ge o) o pc' t) (ky : (¬ x < 0) → WB b l Z n M t ls st H ce sl Q) (kn : (x < 0) → WB b l Z n M pc' ls st H ce sl Q) : WB b l Z n M pc ls (.int x :: st) H ce sl Q := by
  obtain ⟨h1, rfl, h3, h4⟩ := hd
  by_cases q : (x < 0)
  · exact W.pure (fun p e s m args below meth c C T locs X target h => XS.ifNo X.here C.1 rfl (hb C.2.2.2.1 h1) rfl (XT.i0_ge_f q) h) (kn q)
  · exact W.pure (fun p e s m args below meth c C T locs X target h => XS.ifYes X.here C.1 rfl rfl (hb C.2.2.2.1 h1) rfl (XT.i0_ge_t q) h3 h4 h) (ky q)
theorem W.ifl_ge {x y : Int64} {o : Int} {t : Nat} (hd : DB M pc (.ifCond .ge o) o pc' t) (ky : (¬ x < y) → WB b l Z n M t ls st H ce sl Q) (kn : (x < y) → WB b l Z n M pc' ls st H ce sl Q) : WB b l Z n M pc ls (.int (XT.cmpL x y) :: st) H ce sl Q := by
  obtain ⟨h1, rfl, h3, h4⟩ := hd
  by_cases q : (x < y)
  · exact W.pure (fun p e s m args below meth c C T locs X target h => XS.ifNo X.here C.1 rfl (hb C.2.2.2.1 h1) rfl (XT.ll_ge_f q) h) (kn q)
  · exact W.pure (fun p e s m args below meth c C T locs X target h => XS.ifYes X.here C.1 rfl rfl (hb C.2.2.2.1 h1) rfl (XT.ll_ge_t q) h3 h4 h) (ky q)
theorem W.icmp_ge {x y : Int32} {o : Int} {t : Nat} (hd : DB M pc (.if_icmp .ge o) o pc' t) (ky : (¬ x < y) → WB b l Z n M t ls st H ce sl Q) (kn : (x < y) → WB b l Z n M pc' ls st H ce sl Q) : WB b l Z n M pc ls (.int y :: .int x :: st) H ce sl Q := by
  obtain ⟨h1, rfl, h3, h4⟩ := hd
  by_cases q : (x < y)
  · exact W.pure (fun p e s m args below meth c C T locs X target h => XS.icmpNo X.here C.1 rfl (hb C.2.2.2.1 h1) rfl (XT.ii_ge_f q) h) (kn q)
  · exact W.pure (fun p e s m args below meth c C T locs X target h => XS.icmpYes X.here C.1 rfl rfl (hb C.2.2.2.1 h1) rfl (XT.ii_ge_t q) h3 h4 h) (ky q)
theorem W.if_gt {x : Int32} {o : Int} {t : Nat} (hd : DB M pc (.ifCond .gt o) o pc' t) (ky : (0 < x) → WB b l Z n M t ls st H ce sl Q) (kn : (¬ 0 < x) → WB b l Z n M pc' ls st H ce sl Q) : WB b l Z n M pc ls (.int x :: st) H ce sl Q := by
  obtain ⟨h1, rfl, h3, h4⟩ := hd
  by_cases q : (0 < x)
  · exact W.pure (fun p e s m args below meth c C T locs X target h => XS.ifYes X.here C.1 rfl rfl (hb C.2.2.2.1 h1) rfl (XT.i0_gt_t q) h3 h4 h) (ky q)
  · exact W.pure (fun p e s m args below meth c C T locs X target h => XS.ifNo X.here C.1 rfl (hb C.2.2.2.1 h1) rfl (XT.i0_gt_f q) h) (kn q)
theorem W.ifl_gt {x y : Int64} {o : Int} {t : Nat} (hd : DB M pc (.ifCond .gt o) o pc' t) (ky : (y < x) → WB b l Z n M t ls st H ce sl Q) (kn : (¬ y < x) → WB b l Z n M pc' ls st H ce sl Q) : WB b l Z n M pc ls (.int (XT.cmpL x y) :: st) H ce sl Q := by
  obtain ⟨h1, rfl, h3, h4⟩ := hd
  by_cases q : (y < x)
  · exact W.pure (fun p e s m args below meth c C T locs X target h => XS.ifYes X.here C.1 rfl rfl (hb C.2.2.2.1 h1) rfl (XT.ll_gt_t q) h3 h4 h) (ky q)
  · exact W.pure (fun p e s m args below meth c C T locs X target h => XS.ifNo X.here C.1 rfl (hb C.2.2.2.1 h1) rfl (XT.ll_gt_f q) h) (kn q)
theorem W.icmp_gt {x y : Int32} {o : Int} {t : Nat} (hd : DB M pc (.if_icmp .gt o) o pc' t) (ky : (y < x) → WB b l Z n M t ls st H ce sl Q) (kn : (¬ y < x) → WB b l Z n M pc' ls st H ce sl Q) : WB b l Z n M pc ls (.int y :: .int x :: st) H ce sl Q := by
  obtain ⟨h1, rfl, h3, h4⟩ := hd
  by_cases q : (y < x)
  · exact W.pure (fun p e s m args below meth c C T locs X target h => XS.icmpYes X.here C.1 rfl rfl (hb C.2.2.2.1 h1) rfl (XT.ii_gt_t q) h3 h4 h) (ky q)
  · exact W.pure (fun p e s m args below meth c C T locs X target h => XS.icmpNo X.here C.1 rfl (hb C.2.2.2.1 h1) rfl (XT.ii_gt_f q) h) (kn q)
theorem W.if_le {x : Int32} {o : Int} {t : Nat} (hd : DB M pc (.ifCond .le o) o pc' t) (ky : (¬ 0 < x) → WB b l Z n M t ls st H ce sl Q) (kn : (0 < x) → WB b l Z n M pc' ls st H ce sl Q) : WB b l Z n M pc ls (.int x :: st) H ce sl Q := by
  obtain ⟨h1, rfl, h3, h4⟩ := hd
  by_cases q : (0 < x)
  · exact W.pure (fun p e s m args below meth c C T locs X target h => XS.ifNo X.here C.1 rfl (hb C.2.2.2.1 h1) rfl (XT.i0_le_f q) h) (kn q)
  · exact W.pure (fun p e s m args below meth c C T locs X target h => XS.ifYes X.here C.1 rfl rfl (hb C.2.2.2.1 h1) rfl (XT.i0_le_t q) h3 h4 h) (ky q)
theorem W.ifl_le {x y : Int64} {o : Int} {t : Nat} (hd : DB M pc (.ifCond .le o) o pc' t) (ky : (¬ y < x) → WB b l Z n M t ls st H ce sl Q) (kn : (y < x) → WB b l Z n M pc' ls st H ce sl Q) : WB b l Z n M pc ls (.int (XT.cmpL x y) :: st) H ce sl Q := by
  obtain ⟨h1, rfl, h3, h4⟩ := hd
  by_cases q : (y < x)
  · exact W.pure (fun p e s m args below meth c C T locs X target h => XS.ifNo X.here C.1 rfl (hb C.2.2.2.1 h1) rfl (XT.ll_le_f q) h) (kn q)
  · exact W.pure (fun p e s m args below meth c C T locs X target h => XS.ifYes X.here C.1 rfl rfl (hb C.2.2.2.1 h1) rfl (XT.ll_le_t q) h3 h4 h) (ky q)
theorem W.icmp_le {x y : Int32} {o : Int} {t : Nat} (hd : DB M pc (.if_icmp .le o) o pc' t) (ky : (¬ y < x) → WB b l Z n M t ls st H ce sl Q) (kn : (y < x) → WB b l Z n M pc' ls st H ce sl Q) : WB b l Z n M pc ls (.int y :: .int x :: st) H ce sl Q := by
  obtain ⟨h1, rfl, h3, h4⟩ := hd
  by_cases q : (y < x)
  · exact W.pure (fun p e s m args below meth c C T locs X target h => XS.icmpNo X.here C.1 rfl (hb C.2.2.2.1 h1) rfl (XT.ii_le_f q) h) (kn q)
  · exact W.pure (fun p e s m args below meth c C T locs X target h => XS.icmpYes X.here C.1 rfl rfl (hb C.2.2.2.1 h1) rfl (XT.ii_le_t q) h3 h4 h) (ky q)
theorem W.acmp_eq {v w : Value} {o : Int} {t : Nat} (hd : DB M pc (.if_acmp .eq o) o pc' t) (hv : v.isRef = true) (hw : w.isRef = true) (ky : (v = w) → WB b l Z n M t ls st H ce sl Q) (kn : (¬ v = w) → WB b l Z n M pc' ls st H ce sl Q) : WB b l Z n M pc ls (w :: v :: st) H ce sl Q := by
  obtain ⟨h1, rfl, h3, h4⟩ := hd
  by_cases q : (v = w)
  · exact W.pure (fun p e s m args below meth c C T locs X target h => XT.acmpYes X.here C.1 rfl rfl (hb C.2.2.2.1 h1) rfl (up_isRef n hv) (up_isRef n hw) (XT.aa_eq_t (congrArg (up n) q)) h3 h4 h) (ky q)
  · exact W.pure (fun p e s m args below meth c C T locs X target h => XT.acmpNo X.here C.1 rfl (hb C.2.2.2.1 h1) rfl (up_isRef n hv) (up_isRef n hw) (XT.aa_eq_f (fun z => q (up_inj hv hw z))) h) (kn q)
theorem W.acmp_ne {v w : Value} {o : Int} {t : Nat} (hd : DB M pc (.if_acmp .ne o) o pc' t) (hv : v.isRef = true) (hw : w.isRef = true) (ky : (¬ v = w) → WB b l Z n M t ls st H ce sl Q) (kn : (v = w) → WB b l Z n M pc' ls st H ce sl Q) : WB b l Z n M pc ls (w :: v :: st) H ce sl Q := by
  obtain ⟨h1, rfl, h3, h4⟩ := hd
  by_cases q : (v = w)
  · exact W.pure (fun p e s m args below meth c C T locs X target h => XT.acmpNo X.here C.1 rfl (hb C.2.2.2.1 h1) rfl (up_isRef n hv) (up_isRef n hw) (XT.aa_ne_f (congrArg (up n) q)) h) (kn q)
  · exact W.pure (fun p e s m args below meth c C T locs X target h => XT.acmpYes X.here C.1 rfl rfl (hb C.2.2.2.1 h1) rfl (up_isRef n hv) (up_isRef n hw) (XT.aa_ne_t (fun z => q (up_inj hv hw z))) h3 h4 h) (ky q)
theorem up_null {n : Nat} {v : Value} (hv : v.isRef = true) (h : ¬ v = .null) : ¬ up n v = .null := by cases v <;> simp_all [up, Value.isRef]
theorem W.ifnull {v : Value} {o : Int} {t : Nat} (hd : DB M pc (.ifnull o) o pc' t) (hv : v.isRef = true) (ky : (v = .null) → WB b l Z n M t ls st H ce sl Q) (kn : (¬ v = .null) → WB b l Z n M pc' ls st H ce sl Q) : WB b l Z n M pc ls (v :: st) H ce sl Q := by
  obtain ⟨h1, rfl, h3, h4⟩ := hd
  by_cases q : (v = .null)
  · exact W.pure (fun p e s m args below meth c C T locs X target h => XT.nullYes X.here C.1 rfl rfl (hb C.2.2.2.1 h1) rfl (congrArg (up n) q) h3 h4 h) (ky q)
  · exact W.pure (fun p e s m args below meth c C T locs X target h => XT.nullNo X.here C.1 rfl (hb C.2.2.2.1 h1) rfl (up_isRef n hv) (up_null hv q) h) (kn q)
theorem W.ifnonnull {v : Value} {o : Int} {t : Nat} (hd : DB M pc (.ifnonnull o) o pc' t) (hv : v.isRef = true) (ky : (¬ v = .null) → WB b l Z n M t ls st H ce sl Q) (kn : (v = .null) → WB b l Z n M pc' ls st H ce sl Q) : WB b l Z n M pc ls (v :: st) H ce sl Q := by
  obtain ⟨h1, rfl, h3, h4⟩ := hd
  by_cases q : (v = .null)
  · exact W.pure (fun p e s m args below meth c C T locs X target h => XT.nonnullNo X.here C.1 rfl (hb C.2.2.2.1 h1) rfl (congrArg (up n) q) h) (kn q)
  · exact W.pure (fun p e s m args below meth c C T locs X target h => XT.nonnullYes X.here C.1 rfl rfl (hb C.2.2.2.1 h1) rfl (up_isRef n hv) (up_null hv q) h3 h4 h) (ky q)
theorem W.nop_ {H2 : AHeap} (e : H2 = H) (k : WB b l Z n M pc ls st H2 ce sl Q) : WB b l Z n M pc ls st H ce sl Q := e ▸ k
/-! heap: reads -/
theorem W.getfield {i : Nat} {C O nm d : String} {fs : List (Key × Value)} {v : Value} {k : Nat} (j : Nat) (hd : D M pc (.getfield i) 3 pc') (w : (Cond.fieldLink M.1.cls i O nm d).before a0 Z = true) (hk : H[k]? = some (.inl (C, fs))) (hj : fs[j]? = some ((O, nm, d), v))
    (kk : WB b l Z n M pc' ls (v :: st) H ce sl Q) : WB b l Z n M pc ls (.ref k :: st) H ce sl Q := by
  obtain ⟨hd, rfl⟩ := hd
  refine W.step (fun p e s m args below meth c C T locs X hH hF => ?_) kk
  obtain ⟨T', X', e', stp⟩ := getF X C.1 C.2.1 C.2.2.1 (host := "") (Or.inl w) Via.refl rfl ((hH.2 k _ hk rfl).2.1 j _ hj) (g := mkF m pc (loc n ls) (stk n (.ref k :: st))) rfl rfl (hb C.2.2.2.1 hd)
  exact ⟨T', locs, X', e' ▸ hH, hF, stp⟩
theorem W.putfield {i : Nat} {C O nm d : String} {fs : List (Key × Value)} {v old : Value} {k kk : Nat} {ty : FieldType} (j : Nat) (hd : D M pc (.putfield i) 3 pc') (w : (Cond.fieldLink M.1.cls i O nm d).before a0 Z = true) (hk : H[k]? = some (.inl (C, fs))) (hj : fs[j]? = some ((O, nm, d), old))
    (L : (Cond.lays C O nm d).before a0 Z = true ∨ ((Cond.laysFinal C O nm d).before a0 Z = true ∧ M.1.cls = O ∧ M.1.name = "<init>")) (wi : (Cond.instantiable C kk).before a0 Z = true) (hty : parseFieldDescriptor d = some ty) (hn : ∀ n, narrow ty (up n v) = up n v) (hf : ∀ n, fits ty (up n v) = true)
    (k' : WB b l Z n M pc' ls st (H.set k (.inl (C, fs.set j ((O, nm, d), v)))) ce sl Q) : WB b l Z n M pc ls (v :: .ref k :: st) H ce sl Q := by
  obtain ⟨hd, rfl⟩ := hd
  refine W.step (fun p e s m args below meth c C T locs X hH hF => ?_) k'
  have O1 := hH.2 k _ hk rfl
  obtain ⟨T', h', X', e', Wq, stp⟩ := putF X C.1 C.2.1 C.2.2.1 (host := "") (Or.inl w) Via.refl rfl (O1.2.1 j _ hj) O1.1 (L.imp id (fun q => ⟨q.1, q.2.1, C.2.2.2.2.2.2.2.trans q.2.2⟩)) wi hty (hn n) (hf n) (g := mkF m pc (loc n ls) (stk n (v :: .ref k :: st))) rfl rfl (hb C.2.2.2.1 hd)
  subst e'
  exact ⟨T', _, X', hH.put Wq (OR.field (hH.2 k _ hk rfl) hj Wq), Fr.snoc X' hF (Nat.le_add_right n k), stp⟩
theorem arr_at {ty : FieldType} {vs : List Value} {cl : Cell} {i : Nat} {v : Value} {j : Int32} (e : cl.slots = (vs.map (up n)).toArray) (hj : ¬ j < 0 ∧ j.toNatClampNeg = i) (hv : vs[i]? = some v) : ¬ (j < 0 ∨ cl.slots.size ≤ j.toNatClampNeg) ∧ cl.slots[j.toNatClampNeg]? = some (up n v) := by
  have hlt := (List.getElem?_eq_some_iff.mp hv).1
  refine ⟨fun q => q.elim hj.1 fun q => ?_, ?_⟩
  · rw [e, hj.2, List.size_toArray, List.length_map] at q; omega
  · rw [e, hj.2]; simp [hv]
theorem W.arraylength {k : Nat} {ty : FieldType} {vs : List Value} (z : Int32) (hd : D M pc .arraylength 1 pc') (hk : H[k]? = some (.inr (ty, vs))) (hJ : isJ (.inr (ty, vs)) = false) (hN : Int32.ofNat vs.length = z) (kk : WB b l Z n M pc' ls (.int z :: st) H ce sl Q) : WB b l Z n M pc ls (.ref k :: st) H ce sl Q := by
  obtain ⟨hd, rfl⟩ := hd
  refine W.step (fun p e s m args below meth c C T locs X hH hF => ?_) kk
  obtain ⟨cl, A, e'⟩ := hH.2 k _ hk hJ
  refine ⟨T, locs, X, hH, hF, fun target h => X.arraylength C.1 A.1 (State.isArrayOf_alike C.2.1.alike A.2.1) (g := mkF m pc (loc n ls) (stk n (.ref k :: st))) rfl rfl (hb C.2.2.2.1 hd) _ ?_⟩
  have : cl.slots.size.toInt32 = z := by rw [e', List.size_toArray, List.length_map, ← hN]
  rw [this]; exact h
theorem W.iaload {k i : Nat} {vs : List Value} {v : Value} {j : Int32} (hd : D M pc .iaload 1 pc') (hk : H[k]? = some (.inr (.int, vs))) (hj : ¬ j < 0 ∧ j.toNatClampNeg = i) (hv : vs[i]? = some v) (kk : WB b l Z n M pc' ls (v :: st) H ce sl Q) : WB b l Z n M pc ls (.int j :: .ref k :: st) H ce sl Q := by
  obtain ⟨hd, rfl⟩ := hd
  refine W.step (fun p e s m args below meth c C T locs X hH hF => ?_) kk
  obtain ⟨cl, A, e'⟩ := hH.2 k _ hk rfl
  obtain ⟨q1, q2⟩ := arr_at (ty := .int) e' hj hv
  exact ⟨T, locs, X, hH, hF, fun target h => X.iaload C.1 A.1 (State.isArrayOf_alike C.2.1.alike A.2.1) A.2.2 q1 q2 (g := mkF m pc (loc n ls) (stk n (.int j :: .ref k :: st))) rfl rfl (hb C.2.2.2.1 hd) _ h⟩
theorem W.laload {k i : Nat} {vs : List Value} {v : Value} {j : Int32} (hd : D M pc .laload 1 pc') (hk : H[k]? = some (.inr (.long, vs))) (hj : ¬ j < 0 ∧ j.toNatClampNeg = i) (hv : vs[i]? = some v) (kk : WB b l Z n M pc' ls (v :: st) H ce sl Q) : WB b l Z n M pc ls (.int j :: .ref k :: st) H ce sl Q := by
  obtain ⟨hd, rfl⟩ := hd
  refine W.step (fun p e s m args below meth c C T locs X hH hF => ?_) kk
  obtain ⟨cl, A, e'⟩ := hH.2 k _ hk rfl
  obtain ⟨q1, q2⟩ := arr_at (ty := .int) e' hj hv
  exact ⟨T, locs, X, hH, hF, fun target h => X.laload C.1 A.1 (State.isArrayOf_alike C.2.1.alike A.2.1) A.2.2 q1 q2 (g := mkF m pc (loc n ls) (stk n (.int j :: .ref k :: st))) rfl rfl (hb C.2.2.2.1 hd) _ h⟩
theorem W.baload {k i : Nat} {vs : List Value} {v : Value} {j : Int32} (hd : D M pc .baload 1 pc') (hk : H[k]? = some (.inr (.byte, vs))) (hj : ¬ j < 0 ∧ j.toNatClampNeg = i) (hv : vs[i]? = some v) (kk : WB b l Z n M pc' ls (v :: st) H ce sl Q) : WB b l Z n M pc ls (.int j :: .ref k :: st) H ce sl Q := by
  obtain ⟨hd, rfl⟩ := hd
  refine W.step (fun p e s m args below meth c C T locs X hH hF => ?_) kk
  obtain ⟨cl, A, e'⟩ := hH.2 k _ hk rfl
  obtain ⟨q1, q2⟩ := arr_at (ty := .int) e' hj hv
  exact ⟨T, locs, X, hH, hF, fun target h => X.baloadBytes C.1 A.1 (State.isArrayOf_alike C.2.1.alike A.2.1) A.2.2 q1 q2 (g := mkF m pc (loc n ls) (stk n (.int j :: .ref k :: st))) rfl rfl (hb C.2.2.2.1 hd) _ h⟩
theorem W.zaload {k i : Nat} {vs : List Value} {v : Value} {j : Int32} (hd : D M pc .baload 1 pc') (hk : H[k]? = some (.inr (.boolean, vs))) (hj : ¬ j < 0 ∧ j.toNatClampNeg = i) (hv : vs[i]? = some v) (kk : WB b l Z n M pc' ls (v :: st) H ce sl Q) : WB b l Z n M pc ls (.int j :: .ref k :: st) H ce sl Q := by
  obtain ⟨hd, rfl⟩ := hd
  refine W.step (fun p e s m args below meth c C T locs X hH hF => ?_) kk
  obtain ⟨cl, A, e'⟩ := hH.2 k _ hk rfl
  obtain ⟨q1, q2⟩ := arr_at (ty := .int) e' hj hv
  exact ⟨T, locs, X, hH, hF, fun target h => X.baloadBooleans C.1 A.1 (State.isArrayOf_alike C.2.1.alike A.2.1) A.2.2 q1 q2 (g := mkF m pc (loc n ls) (stk n (.int j :: .ref k :: st))) rfl rfl (hb C.2.2.2.1 hd) _ h⟩
/-! heap: stores into arrays -/
theorem arr_in' {vs : List Value} {cl : Cell} {i : Nat} {j : Int32} (e : cl.slots = (vs.map (up n)).toArray) (hj : ¬ j < 0 ∧ j.toNatClampNeg = i) (hv : i < vs.length) : ¬ (j < 0 ∨ cl.slots.size ≤ j.toNatClampNeg) := by
  refine fun q => q.elim hj.1 fun q => ?_
  rw [e, hj.2] at q; simp at q; omega
theorem W.iastore {k i : Nat} {vs : List Value} {x : Int32} {j : Int32} (hd : D M pc .iastore 1 pc') (hk : H[k]? = some (.inr (.int, vs))) (hj : ¬ j < 0 ∧ j.toNatClampNeg = i) (hv : i < vs.length) (kk : WB b l Z n M pc' ls st (H.set k (.inr (.int, vs.set i (.int x)))) ce sl Q) : WB b l Z n M pc ls (.int x :: .int j :: .ref k :: st) H ce sl Q := by
  obtain ⟨hd, rfl⟩ := hd
  refine W.step (fun p e s m args below meth c C T locs X hH hF => ?_) kk
  have O1 := hH.2 k _ hk rfl
  obtain ⟨cl, A, e'⟩ := O1
  obtain ⟨T', h', X', eh, Wq, stp⟩ := stI X C.1 C.2.1 rfl A (arr_in' e' hj hv) (g := mkF m pc (loc n ls) (stk n (.int x :: .int j :: .ref k :: st))) rfl rfl (hb C.2.2.2.1 hd)
  subst eh
  rw [hj.2] at Wq
  exact ⟨T', _, X', hH.put Wq (OR.elem (w := .int x) ⟨cl, A, e'⟩ Wq), Fr.snoc X' hF (Nat.le_add_right n k), stp⟩
theorem W.lastore {k i : Nat} {vs : List Value} {x : Int64} {j : Int32} (hd : D M pc .lastore 1 pc') (hk : H[k]? = some (.inr (.long, vs))) (hj : ¬ j < 0 ∧ j.toNatClampNeg = i) (hv : i < vs.length) (kk : WB b l Z n M pc' ls st (H.set k (.inr (.long, vs.set i (.long x)))) ce sl Q) : WB b l Z n M pc ls (.long x :: .int j :: .ref k :: st) H ce sl Q := by
  obtain ⟨hd, rfl⟩ := hd
  refine W.step (fun p e s m args below meth c C T locs X hH hF => ?_) kk
  have O1 := hH.2 k _ hk rfl
  obtain ⟨cl, A, e'⟩ := O1
  obtain ⟨T', h', X', eh, Wq, stp⟩ := stJ X C.1 C.2.1 rfl A (arr_in' e' hj hv) (g := mkF m pc (loc n ls) (stk n (.long x :: .int j :: .ref k :: st))) rfl rfl (hb C.2.2.2.1 hd)
  subst eh
  rw [hj.2] at Wq
  exact ⟨T', _, X', hH.put Wq (OR.elem (w := .long x) ⟨cl, A, e'⟩ Wq), Fr.snoc X' hF (Nat.le_add_right n k), stp⟩
theorem W.bastore {k i : Nat} {vs : List Value} {x : Int32} {j : Int32} (hd : D M pc .bastore 1 pc') (hk : H[k]? = some (.inr (.byte, vs))) (hj : ¬ j < 0 ∧ j.toNatClampNeg = i) (hv : i < vs.length) (kk : WB b l Z n M pc' ls st (H.set k (.inr (.byte, vs.set i (.int x.toInt8.toInt32)))) ce sl Q) : WB b l Z n M pc ls (.int x :: .int j :: .ref k :: st) H ce sl Q := by
  obtain ⟨hd, rfl⟩ := hd
  refine W.step (fun p e s m args below meth c C T locs X hH hF => ?_) kk
  have O1 := hH.2 k _ hk rfl
  obtain ⟨cl, A, e'⟩ := O1
  obtain ⟨T', h', X', eh, Wq, stp⟩ := stB X C.1 C.2.1 rfl A (arr_in' e' hj hv) (g := mkF m pc (loc n ls) (stk n (.int x :: .int j :: .ref k :: st))) rfl rfl (hb C.2.2.2.1 hd)
  subst eh
  rw [hj.2] at Wq
  exact ⟨T', _, X', hH.put Wq (OR.elem (w := .int x.toInt8.toInt32) ⟨cl, A, e'⟩ Wq), Fr.snoc X' hF (Nat.le_add_right n k), stp⟩
theorem W.zastore {k i : Nat} {vs : List Value} {x : Int32} {j : Int32} (hd : D M pc .bastore 1 pc') (hk : H[k]? = some (.inr (.boolean, vs))) (hj : ¬ j < 0 ∧ j.toNatClampNeg = i) (hv : i < vs.length) (kk : WB b l Z n M pc' ls st (H.set k (.inr (.boolean, vs.set i (.int (x &&& 1))))) ce sl Q) : WB b l Z n M pc ls (.int x :: .int j :: .ref k :: st) H ce sl Q := by
  obtain ⟨hd, rfl⟩ := hd
  refine W.step (fun p e s m args below meth c C T locs X hH hF => ?_) kk
  have O1 := hH.2 k _ hk rfl
  obtain ⟨cl, A, e'⟩ := O1
  obtain ⟨T', h', X', eh, Wq, stp⟩ := stZ X C.1 C.2.1 rfl A (arr_in' e' hj hv) (g := mkF m pc (loc n ls) (stk n (.int x :: .int j :: .ref k :: st))) rfl rfl (hb C.2.2.2.1 hd)
  subst eh
  rw [hj.2] at Wq
  exact ⟨T', _, X', hH.put Wq (OR.elem (w := .int (x &&& 1)) ⟨cl, A, e'⟩ Wq), Fr.snoc X' hF (Nat.le_add_right n k), stp⟩
/-! heap: makers -/
theorem ext_push (h : Heap) (x : Cell) : Ext h (h.push x) ∧ (h.push x).size = h.size + 1 ∧ (h.push x)[h.size]? = some x :=
  ⟨⟨by simp, fun a c q => by rw [Array.getElem?_push_lt (Array.getElem?_eq_some_iff.mp q).1]; exact (Array.getElem?_eq_getElem _).symm.trans q⟩, by simp, by simp⟩
theorem W.new {i nk N : Nat} {C : String} {fs : List (Key × Value)} (hd : D M pc (.new i) 3 pc') (w : (Cond.classLink M.1.cls i C).before a0 Z = true) (K : OkC a0 Z C nk fs) (hN : H.length = N) (hc : ce + 1 ≤ M.2.2.2.2.cells) (hl : sl + nk ≤ M.2.2.2.2.slots)
    (kk : WB b l Z n M pc' ls (.ref N :: st) (H ++ [.inl (C, fs)]) (ce + 1) (sl + nk) Q) : WB b l Z n M pc ls st H ce sl Q := by
  obtain ⟨hd, rfl⟩ := hd
  refine W.step (fun p e s m args below meth c Cx T locs X hH hF => ?_) kk
  obtain ⟨vm', cC, kC, h1, h2, h3, h4, X', stp⟩ := X.newCold Cx.1 Cx.2.2.1 (mv Cx.2.1 w) (mv Cx.2.1 K.1) (mv Cx.2.1 K.2.1) (g := mkF m pc (loc n ls) (stk n st)) rfl (hb Cx.2.2.2.1 hd) hc hl
  obtain ⟨E, S, G⟩ := ext_push T.heap { cls := cC, slots := kC.instanceTypes.map defaultValue, vm := .none }
  have hfc : Z.vm.findClass C = some cC := by rw [← Cx.2.1.alike.findClass]; exact h1
  obtain ⟨kZ, z1, -⟩ := Vm.findClass_spec hfc
  obtain ⟨k', z2, z3⟩ := Cx.2.1.alike.2.2 _ _ z1
  cases h2.symm.trans z2
  have ei : kC.instanceTypes = kZ.instanceTypes := by rw [z3]
  refine ⟨_, locs, X', hH.push E S ⟨⟨_, kZ, G, hfc, z1, rfl, fun _ => by simp [ei]⟩, fun j q hq => ?_, K.slots⟩, hF, fun target h => stp target ?_⟩
  · obtain ⟨ty, L, ht, hv⟩ := K.2.2.1 q (List.mem_of_getElem? hq)
    obtain ⟨c1, k1, cf, kf, i1, f, a1, a2, a3, a4, a5, a6, -⟩ := L.spec
    cases hfc.symm.trans a1
    cases z1.symm.trans a2
    exact ⟨_, cf, kf, i1, f, G, a3, a4, by simp, rfl, a5, by rw [hv, up_default]; simp [ei, a6, (State.fieldFound?_type a3 ht).2]⟩
  · have : T.heap.size = n + N := by rw [hH.1, hN]
    rw [this]; exact h
theorem W.newarray {aty : ArrayType} {N cnt cap : Nat} {z : Int32} (hd : D M pc (.newarray aty) 2 pc') (w : (Cond.arrayClass (newarray.typeOf aty)).before a0 Z = true) (hz : ¬ z < 0 ∧ z.toNatClampNeg = cnt) (hN : H.length = N) (hcap : cnt ≤ cap) (hb8 : cap * 8 ≤ 536870912) (hc : ce + 1 ≤ M.2.2.2.2.cells) (hl : sl + cap ≤ M.2.2.2.2.slots)
    (kk : WB b l Z n M pc' ls (.ref N :: st) (H ++ [.inr (newarray.typeOf aty, List.replicate cnt (defaultValue (newarray.typeOf aty)))]) (ce + 1) (sl + cap) Q) : WB b l Z n M pc ls (.int z :: st) H ce sl Q := by
  obtain ⟨hd, rfl⟩ := hd
  obtain ⟨hz0, rfl⟩ := hz
  refine W.step (fun p e s m args below meth c Cx T locs X hH hF => ?_) kk
  have hcb : componentBytes (newarray.typeOf aty) ≤ 8 := by cases aty <;> decide
  obtain ⟨cA, kA, comp, h1, h2, h3, X', stp⟩ := X.newarrayPrim Cx.1 (mvA Cx.2.1 w) (g := mkF m pc (loc n ls) (stk n (.int z :: st))) rfl (hb Cx.2.2.2.1 hd) rfl hz0 (Nat.le_trans (Nat.mul_le_mul hcap hcb) hb8) hc (Nat.le_trans (Nat.add_le_add_left hcap _) hl)
  obtain ⟨E, S, G⟩ := ext_push T.heap { cls := cA, slots := Array.replicate z.toNatClampNeg (defaultValue (newarray.typeOf aty)), vm := .none }
  have hfc := h1
  rw [Cx.2.1.alike.findClass] at hfc
  obtain ⟨kZ, z1, -⟩ := Vm.findClass_spec hfc
  obtain ⟨k', z2, z3⟩ := Cx.2.1.alike.2.2 _ _ z1
  cases h2.symm.trans z2
  refine ⟨_, locs, X'.more (Nat.le_refl _) (Nat.add_le_add_left hcap _), hH.push E S ⟨_, ⟨G, ⟨by simp, kZ, z1, comp, by rw [← h3, z3]⟩, by simp⟩, ?_⟩, hF, fun target h => stp target ?_⟩
  · simp [up_default]
  · have : T.heap.size = n + N := by rw [hH.1, hN]
    rw [this]; exact h
/-! returns -/
theorem W.fin {v : Option Value} (hv : M.2.2.2.1 = none → v = none) (hc : ce ≤ M.2.2.2.2.cells) (hl : sl ≤ M.2.2.2.2.slots)
    (go : ∀ (p : Program) (e : Env) (s : State) (m : MethodId) (args : Array Value) (below : List Frame) (meth : Method) (c : Code), Ctx Z M p s m meth c → ∀ (T : State) (locs : List Loc), Stand p l e M.2.2.2.2 s m args below meth c T locs ce sl →
      ∀ fs : List Frame, (∀ (f : JFrame) (acts : List Action), f.method = m → f.locked = none → f.entered = [] → (doReturn e (T.setTop f) acts (v.map (up n))).1 = T.setFrames fs) → Steps p.tables e below (T.setTop (mkF m pc (loc n ls) (stk n st))) (T.setFrames fs))
    (q : Q v H) : WB b l Z n M pc ls st H ce sl Q := fun p e s m args below meth c C T locs X hH hF => by
  obtain ⟨fs, hr, hrun, hended, hW, hsame⟩ := X.leave (v := v.map (up n)) (fun h => by rw [hv (C.2.2.2.2.2.1.symm.trans h)]; rfl) C.2.2.2.2.2.2.1
  exact ⟨_, v, locs, H, go p e s m args below meth c C T locs X fs hr, hrun, hended, q, hH, hF, EndR.of ⟨⟨_, rfl⟩, hW, hsame.mono hc hl⟩⟩
theorem W.leave (hd : D M pc .return_ 1 pc') (hr : M.2.2.2.1 = none) (hc : ce ≤ M.2.2.2.2.cells) (hl : sl ≤ M.2.2.2.2.slots) (q : Q none H) : WB b l Z n M pc ls [] H ce sl Q :=
  W.fin (v := none) (fun _ => rfl) hc hl (fun p e s m args below meth c C T locs X fs h => X.returnOut C.1 (C.2.2.2.2.2.1.trans hr) (hb C.2.2.2.1 hd.1) h) q
theorem W.ireturn {x : Int32} (hd : D M pc .ireturn 1 pc') (hr : M.2.2.2.1 = some .int) (hc : ce ≤ M.2.2.2.2.cells) (hl : sl ≤ M.2.2.2.2.slots) (q : Q (some (.int x)) H) : WB b l Z n M pc ls (.int x :: st) H ce sl Q :=
  W.fin (v := some (.int x)) (fun h => by rw [hr] at h; cases h) hc hl (fun p e s m args below meth c C T locs X fs h => retOut X C.1 (t := .int) (w := .int x) (i := .ireturn) (C.2.2.2.2.2.1.trans hr) rfl (Or.inl ⟨rfl, Or.inl rfl, _, rfl⟩) (hb C.2.2.2.1 hd.1) h) q
theorem W.lreturn {x : Int64} (hd : D M pc .lreturn 1 pc') (hr : M.2.2.2.1 = some .long) (hc : ce ≤ M.2.2.2.2.cells) (hl : sl ≤ M.2.2.2.2.slots) (q : Q (some (.long x)) H) : WB b l Z n M pc ls (.long x :: st) H ce sl Q :=
  W.fin (v := some (.long x)) (fun h => by rw [hr] at h; cases h) hc hl (fun p e s m args below meth c C T locs X fs h => retOut X C.1 (t := .long) (w := .long x) (i := .lreturn) (C.2.2.2.2.2.1.trans hr) rfl (Or.inr (Or.inl ⟨rfl, rfl, _, rfl⟩)) (hb C.2.2.2.1 hd.1) h) q
/-- a boolean, byte, char or short: what is left of the int -/
theorem W.nreturn {x : Int32} (t : FieldType) (hd : D M pc .ireturn 1 pc') (hr : M.2.2.2.1 = some t) (ht : t = .boolean ∨ t = .byte ∨ t = .char ∨ t = .short) (hc : ce ≤ M.2.2.2.2.cells) (hl : sl ≤ M.2.2.2.2.slots) (q : Q (some (.int (nar t x))) H) : WB b l Z n M pc ls (.int x :: st) H ce sl Q :=
  W.fin (v := some (.int (nar t x))) (fun h => by rw [hr] at h; cases h) hc hl (fun p e s m args below meth c C T locs X fs h => retN X C.1 (C.2.2.2.2.2.1.trans hr) ht (hb C.2.2.2.1 hd.1) h) q
theorem W.areturn {v : Value} {t : FieldType} (hd : D M pc .areturn 1 pc') (hr : M.2.2.2.1 = some t) (ht : t.isReference = true) (hv : rfn v = true) (hc : ce ≤ M.2.2.2.2.cells) (hl : sl ≤ M.2.2.2.2.slots) (q : Q (some v) H) : WB b l Z n M pc ls (v :: st) H ce sl Q :=
  W.fin (v := some v) (fun h => by rw [hr] at h; cases h) hc hl (fun p e s m args below meth c C T locs X fs h => retOut X C.1 (t := t) (w := up n v) (i := .areturn) (C.2.2.2.2.2.1.trans hr) (by cases v <;> simp [rfn] at hv <;> cases t <;> simp_all [FieldType.isReference, narrow, up]) (Or.inr (Or.inr (Or.inr (Or.inr ⟨rfl, ht, up_rfn n hv⟩)))) (hb C.2.2.2.1 hd.1) h) q
/-! calls -/
def entryL (as : List Value) (k : Nat) : List Slot := Jvm.Sym.laidSlots as ++ List.replicate (k - (Jvm.Sym.laidSlots as).length) .unset
theorem laid_up (n : Nat) : ∀ as : List Value, Jvm.Sym.laidSlots (as.map (up n)) = (Jvm.Sym.laidSlots as).map (upS n)
  | [] => rfl
  | v :: as => by
    have ih := laid_up n as
    simp only [List.map_cons, Jvm.Sym.laidSlots, up_cat]
    split <;> simp [ih, upS]
theorem entry_up (n : Nat) (as : List Value) (k : Nat) (m : MethodId) : entryFrame m (as.map (up n)).toArray k = mkF m 0 (loc n (entryL as k)) [] := by
  have : argsToLocals (as.map (up n)).toArray k = loc n (entryL as k) := Array.toList_inj.mp (by
    rw [Jvm.Sym.argsToLocals_toList]
    simp [entryL, laid_up, loc, upS])
  unfold entryFrame
  rw [this]
theorem W.met {as : List Value} (hW : WB b l Z n M 0 (entryL as M.2.2.1) [] H 0 0 Q) (pn : plainFor M.1 = true) {h : Heap} (hH : HR Z n h H) (ws : List Jvm.Cond) :
    MetFree l M.1 (head1 (Cond.code M.1 M.2.1 M.2.2.1 M.2.2.2.1 :: ws) M.2.2.2.2) (fun a U => a = (as.map (up n)).toArray ∧ Z.Warmed39 U.vm ∧ U.heap = h) (fun _ _ _ _ _ => True)
      (fun _ U o U' => ∃ v L, o = .returned v ∧ (∃ v0 H', v = v0.map (up n) ∧ Q v0 H' ∧ HR Z n U'.heap H' ∧ Fr n L) ∧ EndR b U o U' L M.2.2.2.2.cells M.2.2.2.2.slots) := by
  refine MetFree.of_bodySF pn hisR ?_
  intro p e s m args below meth c s₁ Bd hml hP hK
  obtain ⟨rfl, hZ, hh⟩ := hP
  have X0 : Stand p l e M.2.2.2.2 s m _ below meth c s₁ [] 0 0 := Stand.of_body Bd
  have e0 : s₁.heap = h := by rw [← hh, Bd.state]; rfl
  obtain ⟨s₂, v, L, H', h1, h2, h3, h4, h5, h6, h7⟩ := hW p e s m _ below meth c ⟨Bd.exec, hZ, findClass_of_methodNamed Bd.named, Bd.bytes, hml, Bd.returns, Bd.notSynchronized, (name_of_methodNamed Bd.named Bd.method).1⟩ s₁ [] X0 (e0 ▸ hH) (Fr.nil n)
  exact ⟨s₂, _, castTop (entry_up n as _ m) h1, h2, h3, _, L, rfl, ⟨v, H', rfl, h4, h5, h6⟩, h7⟩
def RetQ (Z : State) (n : Nat) (Q : Option Value → AHeap → Prop) (v : Option Value) (h2 : Heap) (L : List Loc) : Prop := ∃ v0 H', v = v0.map (up n) ∧ Q v0 H' ∧ HR Z n h2 H' ∧ Fr n L
theorem W.metF {as : List Value} (hW : W l Z n M 0 (entryL as M.2.2.1) [] H 0 0 Q) (pn : plainFor M.1 = true) {h : Heap} (hH : HR Z n h H) (ws : List Jvm.Cond) :
    MetFree l M.1 (head1 (Cond.code M.1 M.2.1 M.2.2.1 M.2.2.2.1 :: ws) M.2.2.2.2) (fun a U => a = (as.map (up n)).toArray ∧ Z.Warmed39 U.vm ∧ U.heap = h) (fun _ _ _ _ _ => True)
      (fun _ U o U' => ∃ v L, o = .returned v ∧ RetQ Z n Q v U'.heap L ∧ FrameEnd U o U' L M.2.2.2.2.cells M.2.2.2.2.slots) := W.met hW pn hH ws
/-- what every call asks of the callee's own words -/
def OkM (a0 : Array Value) (Z : State) (M : Meth) (k : Nat) : Prop :=
  (Cond.code M.1 M.2.1 M.2.2.1 M.2.2.2.1).before a0 Z = true ∧ (Cond.initialized M.1.cls).before a0 Z = true ∧ plainFor M.1 = true ∧ (M.1.cls ≠ "java/lang/invoke/MethodHandle" ∧ M.1.cls ≠ "java/lang/invoke/VarHandle") ∧ ∀ sig, parseMethodDescriptor M.1.desc = some sig → k = sig.parameters.length
theorem arity {d : String} {ps : List FieldType} {r : Option FieldType} {k : Nat} (hd : parseMethodDescriptor d = some ⟨ps, r⟩) (hl : k = ps.length) : ∀ sig, parseMethodDescriptor d = some sig → k = sig.parameters.length := fun sig h => by
  cases hd.symm.trans h; exact hl
def wt (st : List Value) : Nat := (st.map fun v => v.category).sum
theorem wt_up (n : Nat) : ∀ st : List Value, ((stk n st).map fun v => v.category).sum = wt st
  | [] => rfl
  | v :: st => by
    have ih := wt_up n st
    simp only [stk, wt, List.map_cons, List.sum_cons, up_cat] at ih ⊢
    rw [ih]
/-- the callee's frames, words, cells and slots fit -/
def fitsRoom (M M' : Meth) (rest : List Value) (ce sl : Nat) : Bool :=
  decide (M'.2.2.2.2.frames + 1 ≤ M.2.2.2.2.frames) && decide (wt rest + (M'.2.2.1 + 11) + M'.2.2.2.2.locals ≤ M.2.2.2.2.locals) && decide (ce + M'.2.2.2.2.cells ≤ M.2.2.2.2.cells) && decide (sl + M'.2.2.2.2.slots ≤ M.2.2.2.2.slots)
theorem fits_ {M M' : Meth} {rest : List Value} {ce sl : Nat} (h : fitsRoom M M' rest ce sl = true) : M'.2.2.2.2.frames + 1 ≤ M.2.2.2.2.frames ∧ wt rest + (M'.2.2.1 + 11) + M'.2.2.2.2.locals ≤ M.2.2.2.2.locals ∧ ce + M'.2.2.2.2.cells ≤ M.2.2.2.2.cells ∧ sl + M'.2.2.2.2.slots ≤ M.2.2.2.2.slots := by
  simp only [fitsRoom, Bool.and_eq_true, decide_eq_true_eq] at h
  exact ⟨h.1.1.1, h.1.1.2, h.1.2, h.2⟩
theorem size_loc (n : Nat) (ls : List Slot) : (loc n ls).size = ls.length := by simp [loc]
theorem W.calls {M' : Meth} {i : Nat} {as rest : List Value} {Qc : Option Value → AHeap → Prop} (hd : D M pc (.invokestatic i) 3 pc') (w : (Cond.methodLink M.1.cls i M'.1).before a0 Z = true) (ws : (Cond.static M'.1).before a0 Z = true) (K : OkM a0 Z M' as.length) (hs : st = as.reverse ++ rest) (hz : ls.length = M.2.2.1) (hf : fitsRoom M M' rest ce sl = true)
    (hM : W l Z n M' 0 (entryL as M'.2.2.1) [] H 0 0 Qc) (kk : ∀ v H', Qc v H' → WB b l Z n M pc' ls (v.toList ++ rest) H' (ce + M'.2.2.2.2.cells) (sl + M'.2.2.2.2.slots) Q) : WB b l Z n M pc ls st H ce sl Q := by
  obtain ⟨hd, rfl⟩ := hd
  subst hs
  intro p e s m args below meth c C T locs X hH hF
  obtain ⟨f1, f2, f3, f4⟩ := fits_ hf
  obtain ⟨_, _, ⟨T', L', c', s'⟩, -, X', ⟨Lc, ⟨v0, H', hv, q1, q2, q3⟩, l1, l2, l3⟩, stp⟩ := Jvm.LawKit.callS X C.1 (y := M'.1) C.2.2.1 (mvT C.2.1 w) (mvT C.2.1 ws) (mvT C.2.1 K.2.1) (mvT C.2.1 K.1) K.2.2.2.1 (backOf (Q := RetQ Z n Qc) (W := wt rest) (W.metF hM K.2.2.1 hH []) C.2.1 K.1 K.2.1 f1 f2) (g := mkF m pc (loc n ls) (stk n (as.reverse ++ rest))) rfl
    ((size_loc n ls).trans (hz.trans C.2.2.2.2.1.symm)) (argsL := as.map (up n)) (rest := stk n rest) (fun sig h => by rw [List.length_map]; exact K.2.2.2.2 sig h) (by simp [stk, List.map_append, List.map_reverse]) (by rw [wt_up]; exact Nat.le_of_eq (Nat.zero_add _)) (hb C.2.2.2.1 hd) (fun _ _ => ⟨rfl, rfl, f3, f4⟩)
  dsimp only [Pt.U, Pt.locs, Pt.cells, Pt.slots] at X' l1 l2 l3 stp q2
  subst l1 l2 l3 hv
  obtain ⟨s₂, v, L, H'', g1, g2⟩ := kk v0 H' q1 p e s m args below meth c C T' _ X' q2 (Fr.app hF q3)
  refine ⟨s₂, v, L, H'', stp _ ?_, g2⟩
  have : stk n (v0.toList ++ rest) = (v0.map (up n)).toList ++ stk n rest := by cases v0 <;> simp [stk]
  rw [this] at g1; exact g1
theorem W.callv {M' : Meth} {i k : Nat} {C : String} {fs : List (Key × Value)} {as rest : List Value} {Qc : Option Value → AHeap → Prop} (hd : D M pc (.invokevirtual i) 3 pc') (w : (Cond.methodLink M.1.cls i M'.1).before a0 Z = true) (wd : (Cond.declares M'.1).before a0 Z = true) (wi : (Cond.instanceMethod M'.1).before a0 Z = true) (wsel : (Cond.selects C M'.1 M'.1).before a0 Z = true) (K : OkM a0 Z M' as.length) (hk : H[k]? = some (.inl (C, fs))) (hs : st = as.reverse ++ .ref k :: rest) (hz : ls.length = M.2.2.1) (hf : fitsRoom M M' rest ce sl = true)
    (hM : W l Z n M' 0 (entryL (.ref k :: as) M'.2.2.1) [] H 0 0 Qc) (kk : ∀ v H', Qc v H' → WB b l Z n M pc' ls (v.toList ++ rest) H' (ce + M'.2.2.2.2.cells) (sl + M'.2.2.2.2.slots) Q) : WB b l Z n M pc ls st H ce sl Q := by
  obtain ⟨hd, rfl⟩ := hd
  subst hs
  intro p e s m args below meth c Cx T locs X hH hF
  obtain ⟨f1, f2, f3, f4⟩ := fits_ hf
  obtain ⟨cq, kq, qa, qb, qc⟩ := isOf (T := T) Cx.2.1 rfl (hH.2 k _ hk rfl).1
  obtain ⟨_, _, ⟨T', L', c', s'⟩, -, X', ⟨Lc, ⟨v0, H', hv, q1, q2, q3⟩, l1, l2, l3⟩, stp⟩ := X.virtualBack Cx.1 (y := M'.1) (z := M'.1) Cx.2.2.1 (mvT Cx.2.1 w) (mvT Cx.2.1 wd) (notFace_of_selects (args := #[]) (mvT Cx.2.1 wsel)) (mvT Cx.2.1 wsel) (mvT Cx.2.1 wi) K.2.2.2.1 (backOf (Q := RetQ Z n Qc) (W := wt rest) (W.metF hM K.2.2.1 hH []) Cx.2.1 K.1 K.2.1 f1 f2) qa qc (g := mkF m pc (loc n ls) (stk n (as.reverse ++ .ref k :: rest))) rfl
    ((size_loc n ls).trans (hz.trans Cx.2.2.2.2.1.symm)) (Steps.refl _) (argsL := as.map (up n)) (rest := stk n rest) (fun sig h => by rw [List.length_map]; exact K.2.2.2.2 sig h) (by simp [stk, List.map_append, List.map_reverse, up]) (by rw [wt_up]; exact Nat.le_of_eq (Nat.zero_add _)) (hb Cx.2.2.2.1 hd) (fun _ _ => ⟨rfl, rfl, f3, f4⟩)
  dsimp only [Pt.U, Pt.locs, Pt.cells, Pt.slots] at X' l1 l2 l3 stp q2
  subst l1 l2 l3 hv
  obtain ⟨s₂, v, L, H'', g1, g2⟩ := kk v0 H' q1 p e s m args below meth c Cx T' _ X' q2 (Fr.app hF q3)
  refine ⟨s₂, v, L, H'', stp.trans ?_, g2⟩
  have : stk n (v0.toList ++ rest) = (v0.map (up n)).toList ++ stk n rest := by cases v0 <;> simp [stk]
  rw [this] at g1; exact g1
theorem W.callp {M' : Meth} {i k kk0 : Nat} {fs : List (Key × Value)} {as rest : List Value} {Qc : Option Value → AHeap → Prop} (hd : D M pc (.invokevirtual i) 3 pc') (w : (Cond.methodLink M.1.cls i M'.1).before a0 Z = true) (wi : (Cond.instanceMethod M'.1).before a0 Z = true) (wp : (Cond.privateMethod M'.1).before a0 Z = true) (wk : (Cond.instantiable M'.1.cls kk0).before a0 Z = true) (K : OkM a0 Z M' as.length) (hk : H[k]? = some (.inl (M'.1.cls, fs))) (hs : st = as.reverse ++ .ref k :: rest) (hz : ls.length = M.2.2.1) (hf : fitsRoom M M' rest ce sl = true)
    (hM : W l Z n M' 0 (entryL (.ref k :: as) M'.2.2.1) [] H 0 0 Qc) (kk : ∀ v H', Qc v H' → WB b l Z n M pc' ls (v.toList ++ rest) H' (ce + M'.2.2.2.2.cells) (sl + M'.2.2.2.2.slots) Q) : WB b l Z n M pc ls st H ce sl Q := by
  obtain ⟨hd, rfl⟩ := hd
  subst hs
  intro p e s m args below meth c Cx T locs X hH hF
  obtain ⟨f1, f2, f3, f4⟩ := fits_ hf
  obtain ⟨cell, hc1, hc2⟩ := (hH.2 k _ hk rfl).1.cell
  have hpriv : s.PrivateAt M'.1 := Cond.privateMethod_at (mvP Cx.2.1 wp (args := #[]))
  obtain ⟨c2, k2, i1, i2, i3, i4, -⟩ := Cond.instantiable_spec (mvT (args := args) Cx.2.1 wk)
  have hni : k2.isInterface = false := by simp only [Bool.or_eq_false_iff] at i4; exact i4.1
  have hsel : (Cond.selects M'.1.cls M'.1 M'.1).before args s = true := selects_self_of_private i1 i2 hni hpriv (mvT Cx.2.1 wi) K.2.2.2.1
  obtain ⟨_, _, ⟨T', L', c', s'⟩, -, X', ⟨Lc, ⟨v0, H', hv, q1, q2, q3⟩, l1, l2, l3⟩, stp⟩ := X.privateBack Cx.1 (y := M'.1) Cx.2.2.1 (mvT Cx.2.1 w) (mvT Cx.2.1 wi) hsel hpriv (mvT Cx.2.1 K.1) K.2.2.2.1 (backOf (Q := RetQ Z n Qc) (W := wt rest) (W.metF hM K.2.2.1 hH []) Cx.2.1 K.1 K.2.1 f1 f2) (g := mkF m pc (loc n ls) (stk n (as.reverse ++ .ref k :: rest))) rfl
    ((size_loc n ls).trans (hz.trans Cx.2.2.2.2.1.symm)) (Steps.refl _) (a := n + k) hc1 hc2 (argsL := as.map (up n)) (rest := stk n rest) (fun sig h => by rw [List.length_map]; exact K.2.2.2.2 sig h) (by simp [stk, List.map_append, List.map_reverse, up]) (by rw [wt_up]; exact Nat.le_of_eq (Nat.zero_add _)) (hb Cx.2.2.2.1 hd) (fun _ _ => ⟨rfl, rfl, f3, f4⟩)
  dsimp only [Pt.U, Pt.locs, Pt.cells, Pt.slots] at X' l1 l2 l3 stp q2
  subst l1 l2 l3 hv
  obtain ⟨s₂, v, L, H'', g1, g2⟩ := kk v0 H' q1 p e s m args below meth c Cx T' _ X' q2 (Fr.app hF q3)
  refine ⟨s₂, v, L, H'', stp.trans ?_, g2⟩
  have : stk n (v0.toList ++ rest) = (v0.map (up n)).toList ++ stk n rest := by cases v0 <;> simp [stk]
  rw [this] at g1; exact g1
theorem W.init {M' : Meth} {i k : Nat} {as rest : List Value} {Qc : Option Value → AHeap → Prop} (hd : D M pc (.invokespecial i) 3 pc') (hnm : M'.1.name = "<init>") (hrt : M'.2.2.2.1 = none) (w : (Cond.methodLink M.1.cls i M'.1).before a0 Z = true) (wi : (Cond.instanceMethod M'.1).before a0 Z = true) (K : OkM a0 Z M' as.length) (hs : st = as.reverse ++ .ref k :: rest) (hz : ls.length = M.2.2.1) (hf : fitsRoom M M' rest ce sl = true)
    (hM : W l Z n M' 0 (entryL (.ref k :: as) M'.2.2.1) [] H 0 0 Qc) (kk : ∀ v H', Qc v H' → WB b l Z n M pc' ls (v.toList ++ rest) H' (ce + M'.2.2.2.2.cells) (sl + M'.2.2.2.2.slots) Q) : WB b l Z n M pc ls st H ce sl Q := by
  obtain ⟨hd, rfl⟩ := hd
  subst hs
  intro p e s m args below meth c Cx T locs X hH hF
  obtain ⟨f1, f2, f3, f4⟩ := fits_ hf
  have wc := K.1
  rw [hrt] at wc
  obtain ⟨_, _, ⟨T', L', c', s'⟩, -, X', ⟨Lc, ⟨v0, H', hv, q1, q2, q3⟩, l1, l2, l3⟩, stp⟩ := X.specialBack Cx.1 (y := M'.1) hnm Cx.2.2.1 (mvT Cx.2.1 w) (mvT Cx.2.1 wi) (mvT Cx.2.1 wc) K.2.2.2.1 (backOf (Q := RetQ Z n Qc) (W := wt rest) (W.metF hM K.2.2.1 hH []) Cx.2.1 K.1 K.2.1 f1 f2) (g := mkF m pc (loc n ls) (stk n (as.reverse ++ .ref k :: rest))) rfl
    ((size_loc n ls).trans (hz.trans Cx.2.2.2.2.1.symm)) (Steps.refl _) (a := n + k) (argsL := as.map (up n)) (rest := stk n rest) (fun sig h => by rw [List.length_map]; exact K.2.2.2.2 sig h) (by simp [stk, List.map_append, List.map_reverse, up]) (by rw [wt_up]; exact Nat.le_of_eq (Nat.zero_add _)) (hb Cx.2.2.2.1 hd) (fun _ _ => ⟨rfl, rfl, f3, f4⟩)
  dsimp only [Pt.U, Pt.locs, Pt.cells, Pt.slots] at X' l1 l2 l3 stp q2
  subst l1 l2 l3 hv
  obtain ⟨s₂, v, L, H'', g1, g2⟩ := kk v0 H' q1 p e s m args below meth c Cx T' _ X' q2 (Fr.app hF q3)
  refine ⟨s₂, v, L, H'', stp.trans ?_, g2⟩
  have : stk n (v0.toList ++ rest) = (v0.map (up n)).toList ++ stk n rest := by cases v0 <;> simp [stk]
  rw [this] at g1; exact g1
theorem W.initO {i k : Nat} {rest : List Value} (hd : D M pc (.invokespecial i) 3 pc') (w1 : (Cond.methodLink M.1.cls i Lib.objectInit).before a0 Z = true) (w2 : (Cond.instanceMethod Lib.objectInit).before a0 Z = true) (w3 : (Cond.code Lib.objectInit ⟨#[0xb1]⟩ 1 none).before a0 Z = true) (hz : ls.length = M.2.2.1) (hf : decide (1 ≤ M.2.2.2.2.frames) && decide (wt rest + 12 ≤ M.2.2.2.2.locals) = true)
    (kk : WB b l Z n M pc' ls rest H ce sl Q) : WB b l Z n M pc ls (.ref k :: rest) H ce sl Q := by
  obtain ⟨hd, rfl⟩ := hd
  simp only [Bool.and_eq_true, decide_eq_true_eq] at hf
  refine W.step (fun p e s m args below meth c Cx T locs X hH hF => ?_) kk
  obtain ⟨T', X', e', stp⟩ := RoadKit.initO X Cx.1 Cx.2.1 Cx.2.2.1 w1 w2 w3 rfl (g := mkF m pc (loc n ls) (stk n (.ref k :: rest))) rfl ((size_loc n ls).trans (hz.trans Cx.2.2.2.2.1.symm)) rfl (hb Cx.2.2.2.1 hd) hf.1 (W := wt rest) (by rw [wt_up]; exact Nat.le_of_eq (Nat.zero_add _)) hf.2
  exact ⟨T', locs, X', e' ▸ hH, hF, stp⟩
/-- from W of the whole method to the run's end, over the heap at the start -/
theorem W.start {as : List Value} (hW : WB b l Z Z.heap.size M 0 (entryL as M.2.2.1) [] [] 0 0 Q) (pn : plainName M.1.cls = true) (ws : List Jvm.Cond) :
    MetFree l M.1 (head1 (Cond.code M.1 M.2.1 M.2.2.1 M.2.2.2.1 :: ws) M.2.2.2.2) (fun a U => a = (as.map (up Z.heap.size)).toArray ∧ Z.Warmed39 U.vm ∧ U.heap = Z.heap) (fun _ _ _ _ _ => True)
      (fun _ U o U' => ∃ v L, o = .returned v ∧ (∃ v0 H', v = v0.map (up Z.heap.size) ∧ Q v0 H' ∧ HR Z Z.heap.size U'.heap H' ∧ Fr Z.heap.size L) ∧ EndR b U o U' L M.2.2.2.2.cells M.2.2.2.2.slots) :=
  W.met hW (plainFor_of_name pn) ⟨rfl, fun k o h _ => by cases h⟩ ws

/-- what it returns, and the heap it leaves -/
def Is (v : Option Value) (H1 : AHeap) : Option Value → AHeap → Prop := fun v' H' => v' = v ∧ H' = H1
theorem W.callsV {M' : Meth} {i : Nat} {as rest : List Value} {u : Value} {H1 : AHeap} (hd : D M pc (.invokestatic i) 3 pc') (w : (Cond.methodLink M.1.cls i M'.1).before a0 Z = true) (ws : (Cond.static M'.1).before a0 Z = true) (hM : W l Z n M' 0 (entryL as M'.2.2.1) [] H 0 0 (Is (some u) H1)) (K : OkM a0 Z M' as.length) (hs : st = as.reverse ++ rest) (hz : ls.length = M.2.2.1) (hf : fitsRoom M M' rest ce sl = true)
    (kk : WB b l Z n M pc' ls (u :: rest) H1 (ce + M'.2.2.2.2.cells) (sl + M'.2.2.2.2.slots) Q) : WB b l Z n M pc ls st H ce sl Q := W.calls hd w ws K hs hz hf hM fun v H' q => by obtain ⟨rfl, rfl⟩ := q; exact kk
theorem W.callsN {M' : Meth} {i : Nat} {as rest : List Value} {H1 : AHeap} (hd : D M pc (.invokestatic i) 3 pc') (w : (Cond.methodLink M.1.cls i M'.1).before a0 Z = true) (ws : (Cond.static M'.1).before a0 Z = true) (hM : W l Z n M' 0 (entryL as M'.2.2.1) [] H 0 0 (Is none H1)) (K : OkM a0 Z M' as.length) (hs : st = as.reverse ++ rest) (hz : ls.length = M.2.2.1) (hf : fitsRoom M M' rest ce sl = true)
    (kk : WB b l Z n M pc' ls rest H1 (ce + M'.2.2.2.2.cells) (sl + M'.2.2.2.2.slots) Q) : WB b l Z n M pc ls st H ce sl Q := W.calls hd w ws K hs hz hf hM fun v H' q => by obtain ⟨rfl, rfl⟩ := q; exact kk
theorem W.callvV {M' : Meth} {i k : Nat} {C : String} {fs : List (Key × Value)} {as rest : List Value} {u : Value} {H1 : AHeap} (hd : D M pc (.invokevirtual i) 3 pc') (w : (Cond.methodLink M.1.cls i M'.1).before a0 Z = true) (wd : (Cond.declares M'.1).before a0 Z = true) (wi : (Cond.instanceMethod M'.1).before a0 Z = true) (wsel : (Cond.selects C M'.1 M'.1).before a0 Z = true) (hM : W l Z n M' 0 (entryL (.ref k :: as) M'.2.2.1) [] H 0 0 (Is (some u) H1)) (K : OkM a0 Z M' as.length) (hk : H[k]? = some (.inl (C, fs))) (hs : st = as.reverse ++ .ref k :: rest) (hz : ls.length = M.2.2.1) (hf : fitsRoom M M' rest ce sl = true)
    (kk : WB b l Z n M pc' ls (u :: rest) H1 (ce + M'.2.2.2.2.cells) (sl + M'.2.2.2.2.slots) Q) : WB b l Z n M pc ls st H ce sl Q := W.callv hd w wd wi wsel K hk hs hz hf hM fun v H' q => by obtain ⟨rfl, rfl⟩ := q; exact kk
theorem W.callvN {M' : Meth} {i k : Nat} {C : String} {fs : List (Key × Value)} {as rest : List Value} {H1 : AHeap} (hd : D M pc (.invokevirtual i) 3 pc') (w : (Cond.methodLink M.1.cls i M'.1).before a0 Z = true) (wd : (Cond.declares M'.1).before a0 Z = true) (wi : (Cond.instanceMethod M'.1).before a0 Z = true) (wsel : (Cond.selects C M'.1 M'.1).before a0 Z = true) (hM : W l Z n M' 0 (entryL (.ref k :: as) M'.2.2.1) [] H 0 0 (Is none H1)) (K : OkM a0 Z M' as.length) (hk : H[k]? = some (.inl (C, fs))) (hs : st = as.reverse ++ .ref k :: rest) (hz : ls.length = M.2.2.1) (hf : fitsRoom M M' rest ce sl = true)
    (kk : WB b l Z n M pc' ls rest H1 (ce + M'.2.2.2.2.cells) (sl + M'.2.2.2.2.slots) Q) : WB b l Z n M pc ls st H ce sl Q := W.callv hd w wd wi wsel K hk hs hz hf hM fun v H' q => by obtain ⟨rfl, rfl⟩ := q; exact kk
theorem W.callpV {M' : Meth} {i k kk0 : Nat} {fs : List (Key × Value)} {as rest : List Value} {u : Value} {H1 : AHeap} (hd : D M pc (.invokevirtual i) 3 pc') (w : (Cond.methodLink M.1.cls i M'.1).before a0 Z = true) (wi : (Cond.instanceMethod M'.1).before a0 Z = true) (wp : (Cond.privateMethod M'.1).before a0 Z = true) (wk : (Cond.instantiable M'.1.cls kk0).before a0 Z = true) (hM : W l Z n M' 0 (entryL (.ref k :: as) M'.2.2.1) [] H 0 0 (Is (some u) H1)) (K : OkM a0 Z M' as.length) (hk : H[k]? = some (.inl (M'.1.cls, fs))) (hs : st = as.reverse ++ .ref k :: rest) (hz : ls.length = M.2.2.1) (hf : fitsRoom M M' rest ce sl = true)
    (kk : WB b l Z n M pc' ls (u :: rest) H1 (ce + M'.2.2.2.2.cells) (sl + M'.2.2.2.2.slots) Q) : WB b l Z n M pc ls st H ce sl Q := W.callp hd w wi wp wk K hk hs hz hf hM fun v H' q => by obtain ⟨rfl, rfl⟩ := q; exact kk
theorem W.callpN {M' : Meth} {i k kk0 : Nat} {fs : List (Key × Value)} {as rest : List Value} {H1 : AHeap} (hd : D M pc (.invokevirtual i) 3 pc') (w : (Cond.methodLink M.1.cls i M'.1).before a0 Z = true) (wi : (Cond.instanceMethod M'.1).before a0 Z = true) (wp : (Cond.privateMethod M'.1).before a0 Z = true) (wk : (Cond.instantiable M'.1.cls kk0).before a0 Z = true) (hM : W l Z n M' 0 (entryL (.ref k :: as) M'.2.2.1) [] H 0 0 (Is none H1)) (K : OkM a0 Z M' as.length) (hk : H[k]? = some (.inl (M'.1.cls, fs))) (hs : st = as.reverse ++ .ref k :: rest) (hz : ls.length = M.2.2.1) (hf : fitsRoom M M' rest ce sl = true)
    (kk : WB b l Z n M pc' ls rest H1 (ce + M'.2.2.2.2.cells) (sl + M'.2.2.2.2.slots) Q) : WB b l Z n M pc ls st H ce sl Q := W.callp hd w wi wp wk K hk hs hz hf hM fun v H' q => by obtain ⟨rfl, rfl⟩ := q; exact kk
theorem W.initN {M' : Meth} {i k : Nat} {as rest : List Value} {H1 : AHeap} (hd : D M pc (.invokespecial i) 3 pc') (hnm : M'.1.name = "<init>") (hrt : M'.2.2.2.1 = none) (w : (Cond.methodLink M.1.cls i M'.1).before a0 Z = true) (wi : (Cond.instanceMethod M'.1).before a0 Z = true) (hM : W l Z n M' 0 (entryL (.ref k :: as) M'.2.2.1) [] H 0 0 (Is none H1)) (K : OkM a0 Z M' as.length) (hs : st = as.reverse ++ .ref k :: rest) (hz : ls.length = M.2.2.1) (hf : fitsRoom M M' rest ce sl = true)
    (kk : WB b l Z n M pc' ls rest H1 (ce + M'.2.2.2.2.cells) (sl + M'.2.2.2.2.slots) Q) : WB b l Z n M pc ls st H ce sl Q := W.init hd hnm hrt w wi K hs hz hf hM fun v H' q => by obtain ⟨rfl, rfl⟩ := q; exact kk
theorem W.callpX {M' : Meth} {i k kk0 : Nat} {fs : List (Key × Value)} {as rest : List Value} {P : Value → AHeap → Prop} (hd : D M pc (.invokevirtual i) 3 pc') (w : (Cond.methodLink M.1.cls i M'.1).before a0 Z = true) (wi : (Cond.instanceMethod M'.1).before a0 Z = true) (wp : (Cond.privateMethod M'.1).before a0 Z = true) (wk : (Cond.instantiable M'.1.cls kk0).before a0 Z = true) (hM : W l Z n M' 0 (entryL (.ref k :: as) M'.2.2.1) [] H 0 0 (fun v H' => ∃ u, v = some u ∧ P u H')) (K : OkM a0 Z M' as.length) (hk : H[k]? = some (.inl (M'.1.cls, fs))) (hs : st = as.reverse ++ .ref k :: rest) (hz : ls.length = M.2.2.1) (hf : fitsRoom M M' rest ce sl = true)
    (kk : ∀ u H', P u H' → WB b l Z n M pc' ls (u :: rest) H' (ce + M'.2.2.2.2.cells) (sl + M'.2.2.2.2.slots) Q) : WB b l Z n M pc ls st H ce sl Q := W.callp hd w wi wp wk K hk hs hz hf hM fun v H' q => by obtain ⟨u, rfl, q⟩ := q; exact kk u H' q
theorem W.callsX {M' : Meth} {i : Nat} {as rest : List Value} {P : Value → AHeap → Prop} (hd : D M pc (.invokestatic i) 3 pc') (w : (Cond.methodLink M.1.cls i M'.1).before a0 Z = true) (ws : (Cond.static M'.1).before a0 Z = true) (hM : W l Z n M' 0 (entryL as M'.2.2.1) [] H 0 0 (fun v H' => ∃ u, v = some u ∧ P u H')) (K : OkM a0 Z M' as.length) (hs : st = as.reverse ++ rest) (hz : ls.length = M.2.2.1) (hf : fitsRoom M M' rest ce sl = true)
    (kk : ∀ u H', P u H' → WB b l Z n M pc' ls (u :: rest) H' (ce + M'.2.2.2.2.cells) (sl + M'.2.2.2.2.slots) Q) : WB b l Z n M pc ls st H ce sl Q := W.calls hd w ws K hs hz hf hM fun v H' q => by obtain ⟨u, rfl, q⟩ := q; exact kk u H' q
theorem W.callsY {M' : Meth} {i : Nat} {as rest : List Value} {P : AHeap → Prop} (hd : D M pc (.invokestatic i) 3 pc') (w : (Cond.methodLink M.1.cls i M'.1).before a0 Z = true) (ws : (Cond.static M'.1).before a0 Z = true) (hM : W l Z n M' 0 (entryL as M'.2.2.1) [] H 0 0 (fun v H' => v = none ∧ P H')) (K : OkM a0 Z M' as.length) (hs : st = as.reverse ++ rest) (hz : ls.length = M.2.2.1) (hf : fitsRoom M M' rest ce sl = true)
    (kk : ∀ H', P H' → WB b l Z n M pc' ls rest H' (ce + M'.2.2.2.2.cells) (sl + M'.2.2.2.2.slots) Q) : WB b l Z n M pc ls st H ce sl Q := W.calls hd w ws K hs hz hf hM fun v H' q => by obtain ⟨rfl, q⟩ := q; exact kk H' q
theorem W.callvX {M' : Meth} {i k : Nat} {C : String} {fs : List (Key × Value)} {as rest : List Value} {P : Value → AHeap → Prop} (hd : D M pc (.invokevirtual i) 3 pc') (w : (Cond.methodLink M.1.cls i M'.1).before a0 Z = true) (wd : (Cond.declares M'.1).before a0 Z = true) (wi : (Cond.instanceMethod M'.1).before a0 Z = true) (wsel : (Cond.selects C M'.1 M'.1).before a0 Z = true) (hM : W l Z n M' 0 (entryL (.ref k :: as) M'.2.2.1) [] H 0 0 (fun v H' => ∃ u, v = some u ∧ P u H')) (K : OkM a0 Z M' as.length) (hk : H[k]? = some (.inl (C, fs))) (hs : st = as.reverse ++ .ref k :: rest) (hz : ls.length = M.2.2.1) (hf : fitsRoom M M' rest ce sl = true)
    (kk : ∀ u H', P u H' → WB b l Z n M pc' ls (u :: rest) H' (ce + M'.2.2.2.2.cells) (sl + M'.2.2.2.2.slots) Q) : WB b l Z n M pc ls st H ce sl Q := W.callv hd w wd wi wsel K hk hs hz hf hM fun v H' q => by obtain ⟨u, rfl, q⟩ := q; exact kk u H' q
theorem W.callvY {M' : Meth} {i k : Nat} {C : String} {fs : List (Key × Value)} {as rest : List Value} {P : AHeap → Prop} (hd : D M pc (.invokevirtual i) 3 pc') (w : (Cond.methodLink M.1.cls i M'.1).before a0 Z = true) (wd : (Cond.declares M'.1).before a0 Z = true) (wi : (Cond.instanceMethod M'.1).before a0 Z = true) (wsel : (Cond.selects C M'.1 M'.1).before a0 Z = true) (hM : W l Z n M' 0 (entryL (.ref k :: as) M'.2.2.1) [] H 0 0 (fun v H' => v = none ∧ P H')) (K : OkM a0 Z M' as.length) (hk : H[k]? = some (.inl (C, fs))) (hs : st = as.reverse ++ .ref k :: rest) (hz : ls.length = M.2.2.1) (hf : fitsRoom M M' rest ce sl = true)
    (kk : ∀ H', P H' → WB b l Z n M pc' ls rest H' (ce + M'.2.2.2.2.cells) (sl + M'.2.2.2.2.slots) Q) : WB b l Z n M pc ls st H ce sl Q := W.callv hd w wd wi wsel K hk hs hz hf hM fun v H' q => by obtain ⟨rfl, q⟩ := q; exact kk H' q
/-- ldc of a String: behind it the walk goes on over the tables that the constant left -/
theorem W.ldcStr {i nn : Nat} {text : String} (hd : D M pc (.ldc i) 2 pc') (w : (Cond.stringLink M.1.cls i text).before a0 Z = true) (wS : ∀ a ∈ Bundle.stringAtoms, a.before a0 Z = true) (hn : 4 * text.toList.length ≤ nn) (hbig : nn ≤ 536870912) (hc : ce + 2 ≤ M.2.2.2.2.cells) (hl : sl + (nn + 4) ≤ M.2.2.2.2.slots)
    (kk : ∀ (a : Addr) (d : Nat), WB false l Z n M pc' ls (.retAddr a :: st) (H ++ List.replicate d junk) (ce + 2) (sl + (nn + 4)) (fun v H' => Q v H' ∧ H.length + d ≤ H'.length)) : WB true l Z n M pc ls st H ce sl Q := by
  obtain ⟨hd, rfl⟩ := hd
  intro p e s m args below meth c C T locs X hH hF
  have X0 : Stand p l e M.2.2.2.2 (s.setVm s.vm) m args below meth c T locs ce sl := X
  obtain ⟨a, T', h', k1, X', e', E, hS', hk1, hZ', hown', stp⟩ := ldcS (Z := Z) (a0 := a0) X0 C.1 C.2.1 (own := M.1.cls) (text := text) (index := i) C.2.2.1 w wS rfl (k0 := 0) ((State.WarmedH.refl s).since 0) (Nat.zero_le _) (g := mkF m pc (loc n ls) (stk n st)) rfl (hb C.2.2.2.1 hd) hn hbig hc hl
  subst e'
  have hH' : HR Z n T'.heap (H ++ List.replicate (T'.heap.size - T.heap.size) junk) := by
    have h1 := E.1
    refine ⟨by rw [List.length_append, List.length_replicate]; have := hH.1; omega, fun k o hk hJ => ?_⟩
    rw [List.getElem?_append] at hk
    split at hk
    · exact (hH.2 k o hk hJ).ext E
    · have := List.eq_of_mem_replicate (List.mem_of_getElem? hk)
      rw [this] at hJ; cases hJ
  obtain ⟨s₂, v, L, H'', g1, g2, g3, ⟨g4, g4'⟩, g5, g6, g7⟩ := kk a (T'.heap.size - T.heap.size) p e (s.setVm T'.vm) m args below meth c ⟨C.1, hZ', hown', C.2.2.2⟩ T' locs X' hH' hF
  have hsz : k1 ≤ s₂.heap.size := by have h1 := E.1; have h2 := hH.1; have h3 := g5.1; omega
  obtain ⟨q1, q2, q3⟩ := hS'.ended (U := s₂) g7.2.1 hsz g7.2.2
  exact ⟨s₂, v, L, H'', stp _ g1, g2, g3, g4, g5, g6, g7.1, q1, q2, q3⟩
theorem nar_ref (n : Nat) {v : Value} {c : String} (h : v.isRef = true) : narrow (.object c) (up n v) = up n v := by
  cases v <;> first | rfl | (simp [Value.isRef] at h)
theorem fits_ref' (n : Nat) {v : Value} {c : String} (h : v.isRef = true) : fits (.object c) (up n v) = true := by
  cases v <;> first | rfl | (simp [Value.isRef] at h)
theorem rfn_of {v : Value} (h : v.isRef = true) : rfn v = true := by cases v <;> first | rfl | (simp [Value.isRef] at h)
end Rules
/-! bits of ints and longs -/
theorem bx32 {a b : Int32} (h : ∀ i, i < 32 → a.toBitVec.getLsbD i = b.toBitVec.getLsbD i) : a = b := Int32.toBitVec_inj.mp (BitVec.eq_of_getLsbD_eq h)
theorem bx64 {a b : Int64} (h : ∀ i, i < 64 → a.toBitVec.getLsbD i = b.toBitVec.getLsbD i) : a = b := Int64.toBitVec_inj.mp (BitVec.eq_of_getLsbD_eq h)
theorem sm32 : ∀ m : Fin 32, ((BitVec.ofNat 32 m.1).smod 32).toNat = m.1 := by decide
theorem sm64 : ∀ m : Fin 64, ((BitVec.ofNat 64 m.1).smod 64).toNat = m.1 := by decide
theorem amt32 {k : Int32} {m : Nat} (hk : k.toBitVec.toNat = m) (hm : m < 32) : (k.toBitVec.smod 32).toNat = m := by
  have : k.toBitVec = BitVec.ofNat 32 m := BitVec.eq_of_toNat_eq (by rw [hk, BitVec.toNat_ofNat]; omega)
  rw [this]; exact sm32 ⟨m, hm⟩
theorem amt64 {k : Int64} {m : Nat} (hk : k.toBitVec.toNat = m) (hm : m < 64) : (k.toBitVec.smod 64).toNat = m := by
  have : k.toBitVec = BitVec.ofNat 64 m := BitVec.eq_of_toNat_eq (by rw [hk, BitVec.toNat_ofNat]; omega)
  rw [this]; exact sm64 ⟨m, hm⟩
theorem shl_bit {x k : Int32} {m : Nat} (hk : k.toBitVec.toNat = m) (hm : m < 32) (i : Nat) : (x <<< k).toBitVec.getLsbD i = (decide (i < 32) && !decide (i < m) && x.toBitVec.getLsbD (i - m)) := by
  show (x.toBitVec <<< (k.toBitVec.smod 32)).getLsbD i = _
  rw [BitVec.shiftLeft_eq', amt32 hk hm, BitVec.getLsbD_shiftLeft]
theorem shlL_bit {x k : Int64} {m : Nat} (hk : k.toBitVec.toNat = m) (hm : m < 64) (i : Nat) : (x <<< k).toBitVec.getLsbD i = (decide (i < 64) && !decide (i < m) && x.toBitVec.getLsbD (i - m)) := by
  show (x.toBitVec <<< (k.toBitVec.smod 64)).getLsbD i = _
  rw [BitVec.shiftLeft_eq', amt64 hk hm, BitVec.getLsbD_shiftLeft]
theorem ushr_bit {v k : Int32} {m : Nat} (hk : (k &&& 31).toBitVec.toNat = m) (i : Nat) : (XT.ushr v k).toBitVec.getLsbD i = v.toBitVec.getLsbD (m + i) := by
  have hm : m < 32 := by
    subst hk
    have : (k &&& 31).toBitVec = k.toBitVec &&& 31#32 := rfl
    rw [this, BitVec.toNat_and]
    exact Nat.lt_of_le_of_lt Nat.and_le_right (by decide)
  show (v.toBitVec >>> ((k &&& 31).toBitVec % 32)).getLsbD i = _
  have h2 : ((k &&& 31).toBitVec % 32).toNat = m := by rw [BitVec.toNat_umod, hk]; exact Nat.mod_eq_of_lt hm
  rw [BitVec.ushiftRight_eq', h2, BitVec.getLsbD_ushiftRight]
theorem ushrL_bit {v : Int64} {k : Int32} {m : Nat} (hk : (k.toInt64 &&& 63).toBitVec.toNat = m) (i : Nat) : (XT.ushrL v k).toBitVec.getLsbD i = v.toBitVec.getLsbD (m + i) := by
  have hm : m < 64 := by
    subst hk
    have : (k.toInt64 &&& 63).toBitVec = k.toInt64.toBitVec &&& 63#64 := rfl
    rw [this, BitVec.toNat_and]
    exact Nat.lt_of_le_of_lt Nat.and_le_right (by decide)
  show (v.toBitVec >>> ((k.toInt64 &&& 63).toBitVec % 64)).getLsbD i = _
  have h2 : ((k.toInt64 &&& 63).toBitVec % 64).toNat = m := by rw [BitVec.toNat_umod, hk]; exact Nat.mod_eq_of_lt hm
  rw [BitVec.ushiftRight_eq', h2, BitVec.getLsbD_ushiftRight]
theorem byte_bit (x : Int32) (i : Nat) : (x.toInt8.toInt32).toBitVec.getLsbD i = (decide (i < 32) && x.toBitVec.getLsbD (if i < 8 then i else 7)) := by
  show ((x.toBitVec.signExtend 8).signExtend 32).getLsbD i = _
  rw [BitVec.getLsbD_signExtend, BitVec.msb_eq_getLsbD_last, BitVec.getLsbD_signExtend, BitVec.getLsbD_signExtend]
  by_cases h : i < 8
  · simp [h, show i < 32 by omega]
  · simp [h]
theorem and_bit (x y : Int32) (i : Nat) : (x &&& y).toBitVec.getLsbD i = (x.toBitVec.getLsbD i && y.toBitVec.getLsbD i) := BitVec.getLsbD_and
theorem or_bit (x y : Int32) (i : Nat) : (x ||| y).toBitVec.getLsbD i = (x.toBitVec.getLsbD i || y.toBitVec.getLsbD i) := BitVec.getLsbD_or
theorem andL_bit (x y : Int64) (i : Nat) : (x &&& y).toBitVec.getLsbD i = (x.toBitVec.getLsbD i && y.toBitVec.getLsbD i) := BitVec.getLsbD_and
theorem orL_bit (x y : Int64) (i : Nat) : (x ||| y).toBitVec.getLsbD i = (x.toBitVec.getLsbD i || y.toBitVec.getLsbD i) := BitVec.getLsbD_or
theorem i2l_bit (x : Int32) (i : Nat) : x.toInt64.toBitVec.getLsbD i = (decide (i < 64) && x.toBitVec.getLsbD (if i < 32 then i else 31)) := by
  show (x.toBitVec.signExtend 64).getLsbD i = _
  rw [BitVec.getLsbD_signExtend, BitVec.msb_eq_getLsbD_last]
  by_cases h : i < 32 <;> simp [h]
theorem l2i_bit (x : Int64) (i : Nat) : x.toInt32.toBitVec.getLsbD i = (decide (i < 32) && x.toBitVec.getLsbD i) := by
  show (x.toBitVec.signExtend 32).getLsbD i = _
  rw [BitVec.getLsbD_signExtend]
  by_cases h : i < 32
  · simp [h, show i < 64 by omega]
  · simp [h]
theorem lit_bit (m i : Nat) : (Int32.ofNat m).toBitVec.getLsbD i = (decide (i < 32) && m.testBit i) := by
  show (BitVec.ofNat 32 m).getLsbD i = _
  rw [BitVec.getLsbD_ofNat]
theorem litL_bit (m i : Nat) : (Int64.ofNat m).toBitVec.getLsbD i = (decide (i < 64) && m.testBit i) := by
  show (BitVec.ofNat 64 m).getLsbD i = _
  rw [BitVec.getLsbD_ofNat]
theorem m255 (i : Nat) : (255 : Int32).toBitVec.getLsbD i = decide (i < 8) := by
  have : (255 : Int32) = Int32.ofNat (2 ^ 8 - 1) := rfl
  rw [this, lit_bit, Nat.testBit_two_pow_sub_one]
  by_cases h : i < 8 <;> simp [h]; omega
theorem and_nat (x y : Int32) (m : Nat) (hy : y.toBitVec.toNat = m) : (x &&& y).toBitVec.toNat ≤ m := by
  show (x.toBitVec &&& y.toBitVec).toNat ≤ m
  rw [BitVec.toNat_and, hy]; exact Nat.and_le_right
theorem of_nat32 {x : Int32} {m : Nat} (h : x.toBitVec.toNat = m) : x = Int32.ofNat m := by
  apply Int32.toBitVec_inj.mp
  apply BitVec.eq_of_toNat_eq
  show _ = (BitVec.ofNat 32 m).toNat
  rw [BitVec.toNat_ofNat, h]
  have := x.toBitVec.isLt
  omega
theorem and_three (x : Int32) : x &&& 3 = 0 ∨ x &&& 3 = 1 ∨ x &&& 3 = 2 ∨ x &&& 3 = 3 := by
  have h := and_nat x 3 3 rfl
  have hc : (x &&& 3).toBitVec.toNat = 0 ∨ (x &&& 3).toBitVec.toNat = 1 ∨ (x &&& 3).toBitVec.toNat = 2 ∨ (x &&& 3).toBitVec.toNat = 3 := by omega
  rcases hc with q | q | q | q
  · exact Or.inl (of_nat32 q)
  · exact Or.inr (Or.inl (of_nat32 q))
  · exact Or.inr (Or.inr (Or.inl (of_nat32 q)))
  · exact Or.inr (Or.inr (Or.inr (of_nat32 q)))
theorem nar_byte (y : Int32) : nar .byte (y.toInt8.toInt32) = y.toInt8.toInt32 := by
  show y.toInt8.toInt32.toInt8.toInt32 = y.toInt8.toInt32
  simp
theorem ushr_zero (x : Int32) (k : Int32) (hk : (k &&& 31).toBitVec.toNat = 0) : XT.ushr x k = x := bx32 fun i _ => by rw [ushr_bit hk, Nat.zero_add]
theorem rem_nat (x d : Int32) (m : Nat) (hx : 0 ≤ x.toInt) (hd : d.toInt = m) (hm : 0 < m) (hb : m < 2 ^ 31) : ∃ k, k < m ∧ x % d = Int32.ofNat k := by
  have h1 : (x % d).toInt = x.toInt % m := by rw [Int32.toInt_mod, hd, Int.tmod_eq_emod_of_nonneg hx]
  have h2 := Int.emod_nonneg x.toInt (show (m : Int) ≠ 0 by omega)
  have h3 := Int.emod_lt_of_pos x.toInt (show (0 : Int) < m by omega)
  refine ⟨(x.toInt % m).toNat, by omega, ?_⟩
  apply Int32.toInt_inj.mp
  rw [h1, Int32.toInt_ofNat_of_lt (by omega)]
  omega
end Jvm.OwnW
namespace Jvm.Pilot.@@N@@
open Jvm Jvm.ClassFile Sem Op Lib Jvm.Free Jvm.Stand Jvm.LawKit Jvm.RoadKit Bundle Jvm.Pilot.@@N@@.Jvm.D Jvm.OwnW

theorem wd {c : Jvm.Cond} (k : Nat) (h : tables_1[k]? = some c) : c ∈ tables_1 := List.mem_of_getElem? h
def m0 : Meth := (x, code, maxLocals, ret, room_1)
def m1 : Meth := (⟨"com/example/quiverstore/quiverstore/ByteReaderGetLengthPinLaw", "dataByte", "(JII)I"⟩, method_2_code, 5, some .int, { frames := 0, cells := 0, slots := 0, locals := 0 })
def m2 : Meth := (⟨"com/example/quiverstore/quiverstore/ByteReader", "<init>", "([BI)V"⟩, prog_1_method_2_code, 3, none, { frames := 1, cells := 0, slots := 0, locals := 20 })
def m4 : Meth := (⟨"com/example/quiverstore/quiverstore/ByteReader", "getLength", "()I"⟩, prog_1_method_7_code, 4, some .int, { frames := 0, cells := 0, slots := 0, locals := 0 })
def m5 : Meth := (⟨"com/example/quiverstore/quiverstore/ByteReader", "get", "()B"⟩, prog_1_method_4_code, 1, some .byte, { frames := 0, cells := 0, slots := 0, locals := 0 })
theorem d0_0 : D m0 0 (.iload_n 2) 1 1 := ⟨by decide +kernel, rfl⟩
theorem d0_1 : D m0 1 (.ldc 7) 2 3 := ⟨by decide +kernel, rfl⟩
theorem d0_3 : D m0 3 (.iand) 1 4 := ⟨by decide +kernel, rfl⟩
theorem d0_4 : D m0 4 (.iconst 3) 1 5 := ⟨by decide +kernel, rfl⟩
theorem d0_5 : D m0 5 (.irem) 1 6 := ⟨by decide +kernel, rfl⟩
theorem d0_6 : D m0 6 (.istore 4) 2 8 := ⟨by decide +kernel, rfl⟩
theorem d0_8 : D m0 8 (.iconst 1) 1 9 := ⟨by decide +kernel, rfl⟩
theorem d0_9 : D m0 9 (.iload_n 2) 1 10 := ⟨by decide +kernel, rfl⟩
theorem d0_10 : D m0 10 (.bipush 8) 2 12 := ⟨by decide +kernel, rfl⟩
theorem d0_12 : D m0 12 (.iushr) 1 13 := ⟨by decide +kernel, rfl⟩
theorem d0_13 : D m0 13 (.iconst 5) 1 14 := ⟨by decide +kernel, rfl⟩
theorem d0_14 : D m0 14 (.irem) 1 15 := ⟨by decide +kernel, rfl⟩
theorem d0_15 : D m0 15 (.iadd) 1 16 := ⟨by decide +kernel, rfl⟩
theorem d0_16 : D m0 16 (.istore 5) 2 18 := ⟨by decide +kernel, rfl⟩
theorem d0_18 : D m0 18 (.lload_n 0) 1 19 := ⟨by decide +kernel, rfl⟩
theorem d0_19 : D m0 19 (.iconst 0) 1 20 := ⟨by decide +kernel, rfl⟩
theorem d0_20 : D m0 20 (.iload 5) 2 22 := ⟨by decide +kernel, rfl⟩
theorem d0_22 : D m0 22 (.invokestatic 8) 3 25 := ⟨by decide +kernel, rfl⟩
theorem d0_25 : D m0 25 (.istore 6) 2 27 := ⟨by decide +kernel, rfl⟩
theorem d0_27 : D m0 27 (.lload_n 0) 1 28 := ⟨by decide +kernel, rfl⟩
theorem d0_28 : D m0 28 (.iconst 1) 1 29 := ⟨by decide +kernel, rfl⟩
theorem d0_29 : D m0 29 (.iload 5) 2 31 := ⟨by decide +kernel, rfl⟩
theorem d0_31 : D m0 31 (.invokestatic 8) 3 34 := ⟨by decide +kernel, rfl⟩
theorem d0_34 : D m0 34 (.istore 7) 2 36 := ⟨by decide +kernel, rfl⟩
theorem d0_36 : D m0 36 (.lload_n 0) 1 37 := ⟨by decide +kernel, rfl⟩
theorem d0_37 : D m0 37 (.iconst 2) 1 38 := ⟨by decide +kernel, rfl⟩
theorem d0_38 : D m0 38 (.iload 5) 2 40 := ⟨by decide +kernel, rfl⟩
theorem d0_40 : D m0 40 (.invokestatic 8) 3 43 := ⟨by decide +kernel, rfl⟩
theorem d0_43 : D m0 43 (.istore 8) 2 45 := ⟨by decide +kernel, rfl⟩
theorem d0_45 : D m0 45 (.lload_n 0) 1 46 := ⟨by decide +kernel, rfl⟩
theorem d0_46 : D m0 46 (.iconst 3) 1 47 := ⟨by decide +kernel, rfl⟩
theorem d0_47 : D m0 47 (.iload 5) 2 49 := ⟨by decide +kernel, rfl⟩
theorem d0_49 : D m0 49 (.invokestatic 8) 3 52 := ⟨by decide +kernel, rfl⟩
theorem d0_52 : D m0 52 (.istore 9) 2 54 := ⟨by decide +kernel, rfl⟩
theorem d0_54 : D m0 54 (.lload_n 0) 1 55 := ⟨by decide +kernel, rfl⟩
theorem d0_55 : D m0 55 (.iconst 4) 1 56 := ⟨by decide +kernel, rfl⟩
theorem d0_56 : D m0 56 (.iload 5) 2 58 := ⟨by decide +kernel, rfl⟩
theorem d0_58 : D m0 58 (.invokestatic 8) 3 61 := ⟨by decide +kernel, rfl⟩
theorem d0_61 : D m0 61 (.istore 10) 2 63 := ⟨by decide +kernel, rfl⟩
theorem d0_63 : D m0 63 (.bipush 8) 2 65 := ⟨by decide +kernel, rfl⟩
theorem d0_65 : D m0 65 (.newarray .byte) 2 67 := ⟨by decide +kernel, rfl⟩
theorem d0_67 : D m0 67 (.astore 11) 2 69 := ⟨by decide +kernel, rfl⟩
theorem d0_69 : D m0 69 (.aload 11) 2 71 := ⟨by decide +kernel, rfl⟩
theorem d0_71 : D m0 71 (.iconst 0) 1 72 := ⟨by decide +kernel, rfl⟩
theorem d0_72 : D m0 72 (.iload_n 3) 1 73 := ⟨by decide +kernel, rfl⟩
theorem d0_73 : D m0 73 (.i2b) 1 74 := ⟨by decide +kernel, rfl⟩
theorem d0_74 : D m0 74 (.bastore) 1 75 := ⟨by decide +kernel, rfl⟩
theorem d0_75 : D m0 75 (.aload 11) 2 77 := ⟨by decide +kernel, rfl⟩
theorem d0_77 : D m0 77 (.iconst 1) 1 78 := ⟨by decide +kernel, rfl⟩
theorem d0_78 : D m0 78 (.iload_n 3) 1 79 := ⟨by decide +kernel, rfl⟩
theorem d0_79 : D m0 79 (.bipush 8) 2 81 := ⟨by decide +kernel, rfl⟩
theorem d0_81 : D m0 81 (.iushr) 1 82 := ⟨by decide +kernel, rfl⟩
theorem d0_82 : D m0 82 (.i2b) 1 83 := ⟨by decide +kernel, rfl⟩
theorem d0_83 : D m0 83 (.bastore) 1 84 := ⟨by decide +kernel, rfl⟩
theorem d0_84 : D m0 84 (.aload 11) 2 86 := ⟨by decide +kernel, rfl⟩
theorem d0_86 : D m0 86 (.iconst 2) 1 87 := ⟨by decide +kernel, rfl⟩
theorem d0_87 : D m0 87 (.iload_n 3) 1 88 := ⟨by decide +kernel, rfl⟩
theorem d0_88 : D m0 88 (.bipush 16) 2 90 := ⟨by decide +kernel, rfl⟩
theorem d0_90 : D m0 90 (.iushr) 1 91 := ⟨by decide +kernel, rfl⟩
theorem d0_91 : D m0 91 (.i2b) 1 92 := ⟨by decide +kernel, rfl⟩
theorem d0_92 : D m0 92 (.bastore) 1 93 := ⟨by decide +kernel, rfl⟩
theorem d0_93 : D m0 93 (.aload 11) 2 95 := ⟨by decide +kernel, rfl⟩
theorem d0_95 : D m0 95 (.iconst 3) 1 96 := ⟨by decide +kernel, rfl⟩
theorem d0_96 : D m0 96 (.iload_n 3) 1 97 := ⟨by decide +kernel, rfl⟩
theorem d0_97 : D m0 97 (.bipush 24) 2 99 := ⟨by decide +kernel, rfl⟩
theorem d0_99 : D m0 99 (.iushr) 1 100 := ⟨by decide +kernel, rfl⟩
theorem d0_100 : D m0 100 (.i2b) 1 101 := ⟨by decide +kernel, rfl⟩
theorem d0_101 : D m0 101 (.bastore) 1 102 := ⟨by decide +kernel, rfl⟩
theorem d0_102 : D m0 102 (.aload 11) 2 104 := ⟨by decide +kernel, rfl⟩
theorem d0_104 : D m0 104 (.iconst 4) 1 105 := ⟨by decide +kernel, rfl⟩
theorem d0_105 : D m0 105 (.iload_n 3) 1 106 := ⟨by decide +kernel, rfl⟩
theorem d0_106 : D m0 106 (.i2b) 1 107 := ⟨by decide +kernel, rfl⟩
theorem d0_107 : D m0 107 (.bastore) 1 108 := ⟨by decide +kernel, rfl⟩
theorem d0_108 : D m0 108 (.aload 11) 2 110 := ⟨by decide +kernel, rfl⟩
theorem d0_110 : D m0 110 (.iconst 5) 1 111 := ⟨by decide +kernel, rfl⟩
theorem d0_111 : D m0 111 (.iload_n 3) 1 112 := ⟨by decide +kernel, rfl⟩
theorem d0_112 : D m0 112 (.bipush 8) 2 114 := ⟨by decide +kernel, rfl⟩
theorem d0_114 : D m0 114 (.iushr) 1 115 := ⟨by decide +kernel, rfl⟩
theorem d0_115 : D m0 115 (.i2b) 1 116 := ⟨by decide +kernel, rfl⟩
theorem d0_116 : D m0 116 (.bastore) 1 117 := ⟨by decide +kernel, rfl⟩
theorem d0_117 : D m0 117 (.aload 11) 2 119 := ⟨by decide +kernel, rfl⟩
theorem d0_119 : D m0 119 (.bipush 6) 2 121 := ⟨by decide +kernel, rfl⟩
theorem d0_121 : D m0 121 (.iload_n 3) 1 122 := ⟨by decide +kernel, rfl⟩
theorem d0_122 : D m0 122 (.bipush 16) 2 124 := ⟨by decide +kernel, rfl⟩
theorem d0_124 : D m0 124 (.iushr) 1 125 := ⟨by decide +kernel, rfl⟩
theorem d0_125 : D m0 125 (.i2b) 1 126 := ⟨by decide +kernel, rfl⟩
theorem d0_126 : D m0 126 (.bastore) 1 127 := ⟨by decide +kernel, rfl⟩
theorem d0_127 : D m0 127 (.aload 11) 2 129 := ⟨by decide +kernel, rfl⟩
theorem d0_129 : D m0 129 (.bipush 7) 2 131 := ⟨by decide +kernel, rfl⟩
theorem d0_131 : D m0 131 (.iload_n 3) 1 132 := ⟨by decide +kernel, rfl⟩
theorem d0_132 : D m0 132 (.bipush 24) 2 134 := ⟨by decide +kernel, rfl⟩
theorem d0_134 : D m0 134 (.iushr) 1 135 := ⟨by decide +kernel, rfl⟩
theorem d0_135 : D m0 135 (.i2b) 1 136 := ⟨by decide +kernel, rfl⟩
theorem d0_136 : D m0 136 (.bastore) 1 137 := ⟨by decide +kernel, rfl⟩
theorem d0_137 : D m0 137 (.aload 11) 2 139 := ⟨by decide +kernel, rfl⟩
theorem d0_139 : D m0 139 (.iload 4) 2 141 := ⟨by decide +kernel, rfl⟩
theorem d0_141 : D m0 141 (.iload 6) 2 143 := ⟨by decide +kernel, rfl⟩
theorem d0_143 : D m0 143 (.i2b) 1 144 := ⟨by decide +kernel, rfl⟩
theorem d0_144 : D m0 144 (.bastore) 1 145 := ⟨by decide +kernel, rfl⟩
theorem d0_145 : D m0 145 (.iload 5) 2 147 := ⟨by decide +kernel, rfl⟩
theorem d0_147 : D m0 147 (.iconst 1) 1 148 := ⟨by decide +kernel, rfl⟩
theorem d0_148 : DB m0 148 (.if_icmp .le 13) 13 151 161 := ⟨by decide +kernel, rfl, by decide, by decide⟩
theorem d0_151 : D m0 151 (.aload 11) 2 153 := ⟨by decide +kernel, rfl⟩
theorem d0_153 : D m0 153 (.iload 4) 2 155 := ⟨by decide +kernel, rfl⟩
theorem d0_155 : D m0 155 (.iconst 1) 1 156 := ⟨by decide +kernel, rfl⟩
theorem d0_156 : D m0 156 (.iadd) 1 157 := ⟨by decide +kernel, rfl⟩
theorem d0_157 : D m0 157 (.iload 7) 2 159 := ⟨by decide +kernel, rfl⟩
theorem d0_159 : D m0 159 (.i2b) 1 160 := ⟨by decide +kernel, rfl⟩
theorem d0_160 : D m0 160 (.bastore) 1 161 := ⟨by decide +kernel, rfl⟩
theorem d0_161 : D m0 161 (.iload 5) 2 163 := ⟨by decide +kernel, rfl⟩
theorem d0_163 : D m0 163 (.iconst 2) 1 164 := ⟨by decide +kernel, rfl⟩
theorem d0_164 : DB m0 164 (.if_icmp .le 13) 13 167 177 := ⟨by decide +kernel, rfl, by decide, by decide⟩
theorem d0_167 : D m0 167 (.aload 11) 2 169 := ⟨by decide +kernel, rfl⟩
theorem d0_169 : D m0 169 (.iload 4) 2 171 := ⟨by decide +kernel, rfl⟩
theorem d0_171 : D m0 171 (.iconst 2) 1 172 := ⟨by decide +kernel, rfl⟩
theorem d0_172 : D m0 172 (.iadd) 1 173 := ⟨by decide +kernel, rfl⟩
theorem d0_173 : D m0 173 (.iload 8) 2 175 := ⟨by decide +kernel, rfl⟩
theorem d0_175 : D m0 175 (.i2b) 1 176 := ⟨by decide +kernel, rfl⟩
theorem d0_176 : D m0 176 (.bastore) 1 177 := ⟨by decide +kernel, rfl⟩
theorem d0_177 : D m0 177 (.iload 5) 2 179 := ⟨by decide +kernel, rfl⟩
theorem d0_179 : D m0 179 (.iconst 3) 1 180 := ⟨by decide +kernel, rfl⟩
theorem d0_180 : DB m0 180 (.if_icmp .le 13) 13 183 193 := ⟨by decide +kernel, rfl, by decide, by decide⟩
theorem d0_183 : D m0 183 (.aload 11) 2 185 := ⟨by decide +kernel, rfl⟩
theorem d0_185 : D m0 185 (.iload 4) 2 187 := ⟨by decide +kernel, rfl⟩
theorem d0_187 : D m0 187 (.iconst 3) 1 188 := ⟨by decide +kernel, rfl⟩
theorem d0_188 : D m0 188 (.iadd) 1 189 := ⟨by decide +kernel, rfl⟩
theorem d0_189 : D m0 189 (.iload 9) 2 191 := ⟨by decide +kernel, rfl⟩
theorem d0_191 : D m0 191 (.i2b) 1 192 := ⟨by decide +kernel, rfl⟩
theorem d0_192 : D m0 192 (.bastore) 1 193 := ⟨by decide +kernel, rfl⟩
theorem d0_193 : D m0 193 (.iload 5) 2 195 := ⟨by decide +kernel, rfl⟩
theorem d0_195 : D m0 195 (.iconst 4) 1 196 := ⟨by decide +kernel, rfl⟩
theorem d0_196 : DB m0 196 (.if_icmp .le 13) 13 199 209 := ⟨by decide +kernel, rfl, by decide, by decide⟩
theorem d0_199 : D m0 199 (.aload 11) 2 201 := ⟨by decide +kernel, rfl⟩
theorem d0_201 : D m0 201 (.iload 4) 2 203 := ⟨by decide +kernel, rfl⟩
theorem d0_203 : D m0 203 (.iconst 4) 1 204 := ⟨by decide +kernel, rfl⟩
theorem d0_204 : D m0 204 (.iadd) 1 205 := ⟨by decide +kernel, rfl⟩
theorem d0_205 : D m0 205 (.iload 10) 2 207 := ⟨by decide +kernel, rfl⟩
theorem d0_207 : D m0 207 (.i2b) 1 208 := ⟨by decide +kernel, rfl⟩
theorem d0_208 : D m0 208 (.bastore) 1 209 := ⟨by decide +kernel, rfl⟩
theorem d0_209 : D m0 209 (.aload 11) 2 211 := ⟨by decide +kernel, rfl⟩
theorem d0_211 : D m0 211 (.iload 4) 2 213 := ⟨by decide +kernel, rfl⟩
theorem d0_213 : D m0 213 (.iload 5) 2 215 := ⟨by decide +kernel, rfl⟩
theorem d0_215 : D m0 215 (.iadd) 1 216 := ⟨by decide +kernel, rfl⟩
theorem d0_216 : D m0 216 (.baload) 1 217 := ⟨by decide +kernel, rfl⟩
theorem d0_217 : D m0 217 (.istore 12) 2 219 := ⟨by decide +kernel, rfl⟩
theorem d0_219 : D m0 219 (.iload 6) 2 221 := ⟨by decide +kernel, rfl⟩
theorem d0_221 : D m0 221 (.bipush 127) 2 223 := ⟨by decide +kernel, rfl⟩
theorem d0_223 : D m0 223 (.iand) 1 224 := ⟨by decide +kernel, rfl⟩
theorem d0_224 : D m0 224 (.istore 13) 2 226 := ⟨by decide +kernel, rfl⟩
theorem d0_226 : D m0 226 (.iload 5) 2 228 := ⟨by decide +kernel, rfl⟩
theorem d0_228 : D m0 228 (.iconst 1) 1 229 := ⟨by decide +kernel, rfl⟩
theorem d0_229 : DB m0 229 (.if_icmp .le 17) 17 232 246 := ⟨by decide +kernel, rfl, by decide, by decide⟩
theorem d0_232 : D m0 232 (.iload 13) 2 234 := ⟨by decide +kernel, rfl⟩
theorem d0_234 : D m0 234 (.iload 7) 2 236 := ⟨by decide +kernel, rfl⟩
theorem d0_236 : D m0 236 (.bipush 127) 2 238 := ⟨by decide +kernel, rfl⟩
theorem d0_238 : D m0 238 (.iand) 1 239 := ⟨by decide +kernel, rfl⟩
theorem d0_239 : D m0 239 (.sipush 128) 3 242 := ⟨by decide +kernel, rfl⟩
theorem d0_242 : D m0 242 (.imul) 1 243 := ⟨by decide +kernel, rfl⟩
theorem d0_243 : D m0 243 (.iadd) 1 244 := ⟨by decide +kernel, rfl⟩
theorem d0_244 : D m0 244 (.istore 13) 2 246 := ⟨by decide +kernel, rfl⟩
theorem d0_246 : D m0 246 (.iload 5) 2 248 := ⟨by decide +kernel, rfl⟩
theorem d0_248 : D m0 248 (.iconst 2) 1 249 := ⟨by decide +kernel, rfl⟩
theorem d0_249 : DB m0 249 (.if_icmp .le 17) 17 252 266 := ⟨by decide +kernel, rfl, by decide, by decide⟩
theorem d0_252 : D m0 252 (.iload 13) 2 254 := ⟨by decide +kernel, rfl⟩
theorem d0_254 : D m0 254 (.iload 8) 2 256 := ⟨by decide +kernel, rfl⟩
theorem d0_256 : D m0 256 (.bipush 127) 2 258 := ⟨by decide +kernel, rfl⟩
theorem d0_258 : D m0 258 (.iand) 1 259 := ⟨by decide +kernel, rfl⟩
theorem d0_259 : D m0 259 (.sipush 16384) 3 262 := ⟨by decide +kernel, rfl⟩
theorem d0_262 : D m0 262 (.imul) 1 263 := ⟨by decide +kernel, rfl⟩
theorem d0_263 : D m0 263 (.iadd) 1 264 := ⟨by decide +kernel, rfl⟩
theorem d0_264 : D m0 264 (.istore 13) 2 266 := ⟨by decide +kernel, rfl⟩
theorem d0_266 : D m0 266 (.iload 5) 2 268 := ⟨by decide +kernel, rfl⟩
theorem d0_268 : D m0 268 (.iconst 3) 1 269 := ⟨by decide +kernel, rfl⟩
theorem d0_269 : DB m0 269 (.if_icmp .le 16) 16 272 285 := ⟨by decide +kernel, rfl, by decide, by decide⟩
theorem d0_272 : D m0 272 (.iload 13) 2 274 := ⟨by decide +kernel, rfl⟩
theorem d0_274 : D m0 274 (.iload 9) 2 276 := ⟨by decide +kernel, rfl⟩
theorem d0_276 : D m0 276 (.bipush 127) 2 278 := ⟨by decide +kernel, rfl⟩
theorem d0_278 : D m0 278 (.iand) 1 279 := ⟨by decide +kernel, rfl⟩
theorem d0_279 : D m0 279 (.ldc 14) 2 281 := ⟨by decide +kernel, rfl⟩
theorem d0_281 : D m0 281 (.imul) 1 282 := ⟨by decide +kernel, rfl⟩
theorem d0_282 : D m0 282 (.iadd) 1 283 := ⟨by decide +kernel, rfl⟩
theorem d0_283 : D m0 283 (.istore 13) 2 285 := ⟨by decide +kernel, rfl⟩
theorem d0_285 : D m0 285 (.iload 5) 2 287 := ⟨by decide +kernel, rfl⟩
theorem d0_287 : D m0 287 (.iconst 4) 1 288 := ⟨by decide +kernel, rfl⟩
theorem d0_288 : DB m0 288 (.if_icmp .le 16) 16 291 304 := ⟨by decide +kernel, rfl, by decide, by decide⟩
theorem d0_291 : D m0 291 (.iload 13) 2 293 := ⟨by decide +kernel, rfl⟩
theorem d0_293 : D m0 293 (.iload 10) 2 295 := ⟨by decide +kernel, rfl⟩
theorem d0_295 : D m0 295 (.bipush 127) 2 297 := ⟨by decide +kernel, rfl⟩
theorem d0_297 : D m0 297 (.iand) 1 298 := ⟨by decide +kernel, rfl⟩
theorem d0_298 : D m0 298 (.ldc 15) 2 300 := ⟨by decide +kernel, rfl⟩
theorem d0_300 : D m0 300 (.imul) 1 301 := ⟨by decide +kernel, rfl⟩
theorem d0_301 : D m0 301 (.iadd) 1 302 := ⟨by decide +kernel, rfl⟩
theorem d0_302 : D m0 302 (.istore 13) 2 304 := ⟨by decide +kernel, rfl⟩
theorem d0_304 : D m0 304 (.new 16) 3 307 := ⟨by decide +kernel, rfl⟩
theorem d0_307 : D m0 307 (.dup) 1 308 := ⟨by decide +kernel, rfl⟩
theorem d0_308 : D m0 308 (.aload 11) 2 310 := ⟨by decide +kernel, rfl⟩
theorem d0_310 : D m0 310 (.iload 4) 2 312 := ⟨by decide +kernel, rfl⟩
theorem d0_312 : D m0 312 (.invokespecial 18) 3 315 := ⟨by decide +kernel, rfl⟩
theorem d0_315 : D m0 315 (.astore 14) 2 317 := ⟨by decide +kernel, rfl⟩
theorem d0_317 : D m0 317 (.aload 14) 2 319 := ⟨by decide +kernel, rfl⟩
theorem d0_319 : D m0 319 (.invokevirtual 21) 3 322 := ⟨by decide +kernel, rfl⟩
theorem d0_322 : D m0 322 (.istore 15) 2 324 := ⟨by decide +kernel, rfl⟩
theorem d0_324 : D m0 324 (.aload 14) 2 326 := ⟨by decide +kernel, rfl⟩
theorem d0_326 : D m0 326 (.invokevirtual 25) 3 329 := ⟨by decide +kernel, rfl⟩
theorem d0_329 : D m0 329 (.istore 16) 2 331 := ⟨by decide +kernel, rfl⟩
theorem d0_331 : D m0 331 (.iload 15) 2 333 := ⟨by decide +kernel, rfl⟩
theorem d0_333 : D m0 333 (.iload 13) 2 335 := ⟨by decide +kernel, rfl⟩
theorem d0_335 : DB m0 335 (.if_icmp .ne 14) 14 338 349 := ⟨by decide +kernel, rfl, by decide, by decide⟩
theorem d0_338 : D m0 338 (.iload 16) 2 340 := ⟨by decide +kernel, rfl⟩
theorem d0_340 : D m0 340 (.iload 12) 2 342 := ⟨by decide +kernel, rfl⟩
theorem d0_342 : DB m0 342 (.if_icmp .ne 7) 7 345 349 := ⟨by decide +kernel, rfl, by decide, by decide⟩
theorem d0_345 : D m0 345 (.iconst 1) 1 346 := ⟨by decide +kernel, rfl⟩
theorem d0_346 : DB m0 346 (.goto 4) 4 349 350 := ⟨by decide +kernel, rfl, by decide, by decide⟩
theorem d0_349 : D m0 349 (.iconst 0) 1 350 := ⟨by decide +kernel, rfl⟩
theorem d0_350 : D m0 350 (.ireturn) 1 351 := ⟨by decide +kernel, rfl⟩
theorem d1_0 : D m1 0 (.lload_n 0) 1 1 := ⟨by decide +kernel, rfl⟩
theorem d1_1 : D m1 1 (.bipush 8) 2 3 := ⟨by decide +kernel, rfl⟩
theorem d1_3 : D m1 3 (.iload_n 2) 1 4 := ⟨by decide +kernel, rfl⟩
theorem d1_4 : D m1 4 (.imul) 1 5 := ⟨by decide +kernel, rfl⟩
theorem d1_5 : D m1 5 (.lushr) 1 6 := ⟨by decide +kernel, rfl⟩
theorem d1_6 : D m1 6 (.l2i) 1 7 := ⟨by decide +kernel, rfl⟩
theorem d1_7 : D m1 7 (.sipush 255) 3 10 := ⟨by decide +kernel, rfl⟩
theorem d1_10 : D m1 10 (.iand) 1 11 := ⟨by decide +kernel, rfl⟩
theorem d1_11 : D m1 11 (.istore 4) 2 13 := ⟨by decide +kernel, rfl⟩
theorem d1_13 : D m1 13 (.iload_n 2) 1 14 := ⟨by decide +kernel, rfl⟩
theorem d1_14 : D m1 14 (.iload_n 3) 1 15 := ⟨by decide +kernel, rfl⟩
theorem d1_15 : D m1 15 (.iconst 1) 1 16 := ⟨by decide +kernel, rfl⟩
theorem d1_16 : D m1 16 (.isub) 1 17 := ⟨by decide +kernel, rfl⟩
theorem d1_17 : DB m1 17 (.if_icmp .ge 10) 10 20 27 := ⟨by decide +kernel, rfl, by decide, by decide⟩
theorem d1_20 : D m1 20 (.iload 4) 2 22 := ⟨by decide +kernel, rfl⟩
theorem d1_22 : D m1 22 (.sipush 128) 3 25 := ⟨by decide +kernel, rfl⟩
theorem d1_25 : D m1 25 (.ior) 1 26 := ⟨by decide +kernel, rfl⟩
theorem d1_26 : D m1 26 (.ireturn) 1 27 := ⟨by decide +kernel, rfl⟩
theorem d1_27 : D m1 27 (.iload 4) 2 29 := ⟨by decide +kernel, rfl⟩
theorem d1_29 : D m1 29 (.bipush 127) 2 31 := ⟨by decide +kernel, rfl⟩
theorem d1_31 : D m1 31 (.iand) 1 32 := ⟨by decide +kernel, rfl⟩
theorem d1_32 : D m1 32 (.ireturn) 1 33 := ⟨by decide +kernel, rfl⟩
theorem d2_0 : D m2 0 (.aload_n 0) 1 1 := ⟨by decide +kernel, rfl⟩
theorem d2_1 : D m2 1 (.invokespecial 7) 3 4 := ⟨by decide +kernel, rfl⟩
theorem d2_4 : D m2 4 (.aload_n 0) 1 5 := ⟨by decide +kernel, rfl⟩
theorem d2_5 : D m2 5 (.aload_n 1) 1 6 := ⟨by decide +kernel, rfl⟩
theorem d2_6 : D m2 6 (.putfield 12) 3 9 := ⟨by decide +kernel, rfl⟩
theorem d2_9 : D m2 9 (.aload_n 0) 1 10 := ⟨by decide +kernel, rfl⟩
theorem d2_10 : D m2 10 (.iload_n 2) 1 11 := ⟨by decide +kernel, rfl⟩
theorem d2_11 : D m2 11 (.putfield 16) 3 14 := ⟨by decide +kernel, rfl⟩
theorem d2_14 : D m2 14 (.return_) 1 15 := ⟨by decide +kernel, rfl⟩
theorem d4_0 : D m4 0 (.iconst 0) 1 1 := ⟨by decide +kernel, rfl⟩
theorem d4_1 : D m4 1 (.istore_n 1) 1 2 := ⟨by decide +kernel, rfl⟩
theorem d4_2 : D m4 2 (.iconst 0) 1 3 := ⟨by decide +kernel, rfl⟩
theorem d4_3 : D m4 3 (.istore_n 2) 1 4 := ⟨by decide +kernel, rfl⟩
theorem d4_4 : D m4 4 (.aload_n 0) 1 5 := ⟨by decide +kernel, rfl⟩
theorem d4_5 : D m4 5 (.getfield 12) 3 8 := ⟨by decide +kernel, rfl⟩
theorem d4_8 : D m4 8 (.aload_n 0) 1 9 := ⟨by decide +kernel, rfl⟩
theorem d4_9 : D m4 9 (.dup) 1 10 := ⟨by decide +kernel, rfl⟩
theorem d4_10 : D m4 10 (.getfield 16) 3 13 := ⟨by decide +kernel, rfl⟩
theorem d4_13 : D m4 13 (.dup_x1) 1 14 := ⟨by decide +kernel, rfl⟩
theorem d4_14 : D m4 14 (.iconst 1) 1 15 := ⟨by decide +kernel, rfl⟩
theorem d4_15 : D m4 15 (.iadd) 1 16 := ⟨by decide +kernel, rfl⟩
theorem d4_16 : D m4 16 (.putfield 16) 3 19 := ⟨by decide +kernel, rfl⟩
theorem d4_19 : D m4 19 (.baload) 1 20 := ⟨by decide +kernel, rfl⟩
theorem d4_20 : D m4 20 (.istore_n 3) 1 21 := ⟨by decide +kernel, rfl⟩
theorem d4_21 : D m4 21 (.iload_n 1) 1 22 := ⟨by decide +kernel, rfl⟩
theorem d4_22 : D m4 22 (.iload_n 3) 1 23 := ⟨by decide +kernel, rfl⟩
theorem d4_23 : D m4 23 (.bipush 127) 2 25 := ⟨by decide +kernel, rfl⟩
theorem d4_25 : D m4 25 (.iand) 1 26 := ⟨by decide +kernel, rfl⟩
theorem d4_26 : D m4 26 (.iload_n 2) 1 27 := ⟨by decide +kernel, rfl⟩
theorem d4_27 : D m4 27 (.ishl) 1 28 := ⟨by decide +kernel, rfl⟩
theorem d4_28 : D m4 28 (.ior) 1 29 := ⟨by decide +kernel, rfl⟩
theorem d4_29 : D m4 29 (.istore_n 1) 1 30 := ⟨by decide +kernel, rfl⟩
theorem d4_30 : D m4 30 (.iload_n 3) 1 31 := ⟨by decide +kernel, rfl⟩
theorem d4_31 : DB m4 31 (.ifCond .lt 5) 5 34 36 := ⟨by decide +kernel, rfl, by decide, by decide⟩
theorem d4_34 : D m4 34 (.iload_n 1) 1 35 := ⟨by decide +kernel, rfl⟩
theorem d4_35 : D m4 35 (.ireturn) 1 36 := ⟨by decide +kernel, rfl⟩
theorem d4_36 : D m4 36 (.iinc 2 7) 3 39 := ⟨by decide +kernel, rfl⟩
theorem d4_39 : DB m4 39 (.goto (-35)) (-35) 42 4 := ⟨by decide +kernel, rfl, by decide, by decide⟩
theorem d5_0 : D m5 0 (.aload_n 0) 1 1 := ⟨by decide +kernel, rfl⟩
theorem d5_1 : D m5 1 (.getfield 12) 3 4 := ⟨by decide +kernel, rfl⟩
theorem d5_4 : D m5 4 (.aload_n 0) 1 5 := ⟨by decide +kernel, rfl⟩
theorem d5_5 : D m5 5 (.dup) 1 6 := ⟨by decide +kernel, rfl⟩
theorem d5_6 : D m5 6 (.getfield 16) 3 9 := ⟨by decide +kernel, rfl⟩
theorem d5_9 : D m5 9 (.dup_x1) 1 10 := ⟨by decide +kernel, rfl⟩
theorem d5_10 : D m5 10 (.iconst 1) 1 11 := ⟨by decide +kernel, rfl⟩
theorem d5_11 : D m5 11 (.iadd) 1 12 := ⟨by decide +kernel, rfl⟩
theorem d5_12 : D m5 12 (.putfield 16) 3 15 := ⟨by decide +kernel, rfl⟩
theorem d5_15 : D m5 15 (.baload) 1 16 := ⟨by decide +kernel, rfl⟩
theorem d5_16 : D m5 16 (.ireturn) 1 17 := ⟨by decide +kernel, rfl⟩
theorem pn0 : plainName "com/example/quiverstore/quiverstore/ByteReaderGetLengthPinLaw" = true := by first | (simp [plainName, overriddenIn]; done) | decide +kernel
theorem pd1 : parseMethodDescriptor "(JII)I" = some ⟨[.long, .int, .int], some .int⟩ := by decide +kernel
theorem ok1 {Z : State} {a0 : Array Value} (hw : ∀ d ∈ tables_1, d.before a0 Z = true) : OkM a0 Z m1 3 := ⟨hw _ (wd 4 rfl), hw _ (wd 3 rfl), plainFor_of_name pn0, ⟨by decide, by decide⟩, arity pd1 rfl⟩
theorem pn1 : plainName "com/example/quiverstore/quiverstore/ByteReader" = true := by first | (simp [plainName, overriddenIn]; done) | decide +kernel
theorem pd2 : parseMethodDescriptor "([BI)V" = some ⟨[(.array .byte), .int], none⟩ := by decide +kernel
theorem ok2 {Z : State} {a0 : Array Value} (hw : ∀ d ∈ tables_1, d.before a0 Z = true) : OkM a0 Z m2 2 := ⟨hw _ (wd 11 rfl), hw _ (wd 8 rfl), plainFor_of_name pn1, ⟨by decide, by decide⟩, arity pd2 rfl⟩
theorem pd4 : parseMethodDescriptor "()I" = some ⟨[], some .int⟩ := by decide +kernel
theorem ok4 {Z : State} {a0 : Array Value} (hw : ∀ d ∈ tables_1, d.before a0 Z = true) : OkM a0 Z m4 0 := ⟨hw _ (wd 23 rfl), hw _ (wd 8 rfl), plainFor_of_name pn1, ⟨by decide, by decide⟩, arity pd4 rfl⟩
theorem pd5 : parseMethodDescriptor "()B" = some ⟨[], some .byte⟩ := by decide +kernel
theorem ok5 {Z : State} {a0 : Array Value} (hw : ∀ d ∈ tables_1, d.before a0 Z = true) : OkM a0 Z m5 0 := ⟨hw _ (wd 28 rfl), hw _ (wd 8 rfl), plainFor_of_name pn1, ⟨by decide, by decide⟩, arity pd5 rfl⟩
def fs0 : List (Key × Value) := [(("com/example/quiverstore/quiverstore/ByteReader", "bytes", "[B"), .null), (("com/example/quiverstore/quiverstore/ByteReader", "position", "I"), .int 0)]
theorem okc0 {Z : State} {a0 : Array Value} (hw : ∀ d ∈ tables_1, d.before a0 Z = true) : OkC a0 Z "com/example/quiverstore/quiverstore/ByteReader" 2 fs0 := by
  refine ⟨hw _ (wd 7 rfl), hw _ (wd 8 rfl), fun q hq => ?_, by simp [fs0]⟩
  simp only [fs0, List.mem_cons, List.not_mem_nil, or_false] at hq
  rcases hq with rfl | rfl
  · exact ⟨(.array .byte), Or.inr (hw _ (wd 16 rfl)), by decide, rfl⟩
  · exact ⟨.int, Or.inl (hw _ (wd 18 rfl)), by decide, rfl⟩
theorem own_127 (i : Nat) : (127 : Int32).toBitVec.getLsbD i = decide (i < 7) := by
  have : (127 : Int32) = Int32.ofNat (2 ^ 7 - 1) := rfl
  rw [this, lit_bit, Nat.testBit_two_pow_sub_one]
  by_cases h : i < 7 <;> simp [h]; omega
theorem own_low (b : Int32) : b.toInt8.toInt32.toInt8.toInt32 &&& 127 = b &&& 127 := by
  apply bx32
  intro i hi
  simp only [and_bit, byte_bit, own_127]
  by_cases h : i < 7
  · simp [h, hi, show i < 8 by omega]
  · simp [h]
theorem own_127n (b : Int32) : (b &&& 127).toBitVec.toNat < 2 ^ 7 := Nat.lt_of_le_of_lt (and_nat b 127 127 rfl) (by decide)
theorem own_first (B : Int32) : (0 : Int32) ||| (B <<< ((0 : Int32) &&& 31)) = B := by
  apply bx32
  intro i hi
  rw [or_bit, shl_bit (m := 0) (by decide) (by decide)]
  have : (0 : Int32).toBitVec.getLsbD i = false := by show (0#32).getLsbD i = false; simp
  simp [this, hi]
theorem own_mul (B s m : Int32) (k : Nat) (hs : s.toBitVec.toNat = k) (hk : k < 32) (hm : m.toBitVec.toNat = 2 ^ k) : (B <<< s) = B * m := by
  apply Int32.toBitVec_inj.mp
  show B.toBitVec <<< (s.toBitVec.smod 32) = B.toBitVec * m.toBitVec
  rw [BitVec.shiftLeft_eq', amt32 hs hk]
  apply BitVec.eq_of_toNat_eq
  rw [BitVec.toNat_shiftLeft, BitVec.toNat_mul, hm, Nat.shiftLeft_eq]
theorem own_step (A B s m : Int32) (k : Nat) (hA : A.toBitVec.toNat < 2 ^ k) (hs : s.toBitVec.toNat = k) (hk : k < 32) (hm : m.toBitVec.toNat = 2 ^ k) : A ||| (B <<< s) = A + B * m := by
  rw [← own_mul B s m k hs hk hm]
  apply Int32.toBitVec_inj.mp
  show A.toBitVec ||| (B <<< s).toBitVec = A.toBitVec + (B <<< s).toBitVec
  refine (BitVec.add_eq_or_of_and_eq_zero _ _ ?_).symm
  apply BitVec.eq_of_getLsbD_eq
  intro i hi
  rw [BitVec.getLsbD_and, shl_bit hs hk]
  by_cases c : i < k
  · simp [c]
  · have : A.toBitVec.getLsbD i = false := by
      rw [BitVec.getLsbD]; exact Nat.testBit_lt_two_pow (Nat.lt_of_lt_of_le hA (Nat.pow_le_pow_right (by decide) (by omega)))
    simp [this]
theorem own_bd (A B m : Int32) (k : Nat) (hA : A.toBitVec.toNat < 2 ^ k) (hB : B.toBitVec.toNat < 2 ^ 7) (hk : k + 7 ≤ 31) (hm : m.toBitVec.toNat = 2 ^ k) : (A + B * m).toBitVec.toNat < 2 ^ (k + 7) := by
  show (A.toBitVec + B.toBitVec * m.toBitVec).toNat < _
  rw [BitVec.toNat_add, BitVec.toNat_mul, hm]
  refine Nat.lt_of_le_of_lt (Nat.mod_le _ _) ?_
  have h1 : B.toBitVec.toNat * 2 ^ k % 2 ^ 32 ≤ B.toBitVec.toNat * 2 ^ k := Nat.mod_le _ _
  have h2 : B.toBitVec.toNat * 2 ^ k ≤ 127 * 2 ^ k := Nat.mul_le_mul_right _ (by omega)
  have h3 : 2 ^ (k + 7) = 128 * 2 ^ k := by rw [Nat.pow_add, Nat.mul_comm]
  omega
theorem own_neg (r : Int32) : (r ||| 128).toInt8.toInt32.toInt8.toInt32 < 0 := by
  have e : (r ||| 128).toInt8.toInt32.toInt8.toInt32.toBitVec.msb = true := by
    rw [BitVec.msb_eq_getLsbD_last]
    simp only [byte_bit, or_bit]
    have : (128 : Int32).toBitVec.getLsbD 7 = true := by decide
    simp [this]
  rw [Int32.lt_iff_toInt_lt]
  show BitVec.toInt _ < 0
  rw [BitVec.msb_eq_toInt] at e; simpa using e
theorem own_pos (r : Int32) : ¬ (r &&& 127).toInt8.toInt32.toInt8.toInt32 < 0 := by
  have e : (r &&& 127).toInt8.toInt32.toInt8.toInt32.toBitVec.msb = false := by
    rw [BitVec.msb_eq_getLsbD_last]
    simp only [byte_bit, and_bit, own_127]
    simp
  rw [Int32.lt_iff_toInt_lt]
  show ¬ BitVec.toInt _ < 0
  rw [BitVec.msb_eq_toInt] at e; simpa using e
theorem own_sum1 (r0 : Int32) : ((0 : Int32) ||| (((r0.toInt8.toInt32.toInt8.toInt32) &&& 127) <<< ((0 : Int32) &&& 31))) = (r0 &&& 127) := by
  simp only [own_low, own_first]
theorem own_sum2 (r0 r1 : Int32) : (((0 : Int32) ||| (((r0.toInt8.toInt32.toInt8.toInt32) &&& 127) <<< ((0 : Int32) &&& 31))) ||| (((r1.toInt8.toInt32.toInt8.toInt32) &&& 127) <<< (((0 : Int32) + 7) &&& 31))) = ((r0 &&& 127) + (r1 &&& 127) * 128) := by
  simp only [own_low, own_first]
  have a1 := own_step (r0 &&& 127) (r1 &&& 127) ((0 + 7) &&& 31) 128 7 (own_127n r0) (by decide) (by decide) (by decide)
  have b1 := own_bd (r0 &&& 127) (r1 &&& 127) 128 7 (own_127n r0) (own_127n r1) (by decide) (by decide)
  rw [a1]
theorem own_sum3 (r0 r1 r2 : Int32) : ((((0 : Int32) ||| (((r0.toInt8.toInt32.toInt8.toInt32) &&& 127) <<< ((0 : Int32) &&& 31))) ||| (((r1.toInt8.toInt32.toInt8.toInt32) &&& 127) <<< (((0 : Int32) + 7) &&& 31))) ||| (((r2.toInt8.toInt32.toInt8.toInt32) &&& 127) <<< ((((0 : Int32) + 7) + 7) &&& 31))) = (((r0 &&& 127) + (r1 &&& 127) * 128) + (r2 &&& 127) * 16384) := by
  simp only [own_low, own_first]
  have a1 := own_step (r0 &&& 127) (r1 &&& 127) ((0 + 7) &&& 31) 128 7 (own_127n r0) (by decide) (by decide) (by decide)
  have b1 := own_bd (r0 &&& 127) (r1 &&& 127) 128 7 (own_127n r0) (own_127n r1) (by decide) (by decide)
  rw [a1]
  have a2 := own_step ((r0 &&& 127) + (r1 &&& 127) * 128) (r2 &&& 127) ((0 + 7 + 7) &&& 31) 16384 14 b1 (by decide) (by decide) (by decide)
  have b2 := own_bd ((r0 &&& 127) + (r1 &&& 127) * 128) (r2 &&& 127) 16384 14 b1 (own_127n r2) (by decide) (by decide)
  rw [a2]
theorem own_sum4 (r0 r1 r2 r3 : Int32) : (((((0 : Int32) ||| (((r0.toInt8.toInt32.toInt8.toInt32) &&& 127) <<< ((0 : Int32) &&& 31))) ||| (((r1.toInt8.toInt32.toInt8.toInt32) &&& 127) <<< (((0 : Int32) + 7) &&& 31))) ||| (((r2.toInt8.toInt32.toInt8.toInt32) &&& 127) <<< ((((0 : Int32) + 7) + 7) &&& 31))) ||| (((r3.toInt8.toInt32.toInt8.toInt32) &&& 127) <<< (((((0 : Int32) + 7) + 7) + 7) &&& 31))) = ((((r0 &&& 127) + (r1 &&& 127) * 128) + (r2 &&& 127) * 16384) + (r3 &&& 127) * 2097152) := by
  simp only [own_low, own_first]
  have a1 := own_step (r0 &&& 127) (r1 &&& 127) ((0 + 7) &&& 31) 128 7 (own_127n r0) (by decide) (by decide) (by decide)
  have b1 := own_bd (r0 &&& 127) (r1 &&& 127) 128 7 (own_127n r0) (own_127n r1) (by decide) (by decide)
  rw [a1]
  have a2 := own_step ((r0 &&& 127) + (r1 &&& 127) * 128) (r2 &&& 127) ((0 + 7 + 7) &&& 31) 16384 14 b1 (by decide) (by decide) (by decide)
  have b2 := own_bd ((r0 &&& 127) + (r1 &&& 127) * 128) (r2 &&& 127) 16384 14 b1 (own_127n r2) (by decide) (by decide)
  rw [a2]
  have a3 := own_step (((r0 &&& 127) + (r1 &&& 127) * 128) + (r2 &&& 127) * 16384) (r3 &&& 127) ((0 + 7 + 7 + 7) &&& 31) 2097152 21 b2 (by decide) (by decide) (by decide)
  have b3 := own_bd (((r0 &&& 127) + (r1 &&& 127) * 128) + (r2 &&& 127) * 16384) (r3 &&& 127) 2097152 21 b2 (own_127n r3) (by decide) (by decide)
  rw [a3]
theorem own_sum5 (r0 r1 r2 r3 r4 : Int32) : ((((((0 : Int32) ||| (((r0.toInt8.toInt32.toInt8.toInt32) &&& 127) <<< ((0 : Int32) &&& 31))) ||| (((r1.toInt8.toInt32.toInt8.toInt32) &&& 127) <<< (((0 : Int32) + 7) &&& 31))) ||| (((r2.toInt8.toInt32.toInt8.toInt32) &&& 127) <<< ((((0 : Int32) + 7) + 7) &&& 31))) ||| (((r3.toInt8.toInt32.toInt8.toInt32) &&& 127) <<< (((((0 : Int32) + 7) + 7) + 7) &&& 31))) ||| (((r4.toInt8.toInt32.toInt8.toInt32) &&& 127) <<< ((((((0 : Int32) + 7) + 7) + 7) + 7) &&& 31))) = (((((r0 &&& 127) + (r1 &&& 127) * 128) + (r2 &&& 127) * 16384) + (r3 &&& 127) * 2097152) + (r4 &&& 127) * 268435456) := by
  simp only [own_low, own_first]
  have a1 := own_step (r0 &&& 127) (r1 &&& 127) ((0 + 7) &&& 31) 128 7 (own_127n r0) (by decide) (by decide) (by decide)
  have b1 := own_bd (r0 &&& 127) (r1 &&& 127) 128 7 (own_127n r0) (own_127n r1) (by decide) (by decide)
  rw [a1]
  have a2 := own_step ((r0 &&& 127) + (r1 &&& 127) * 128) (r2 &&& 127) ((0 + 7 + 7) &&& 31) 16384 14 b1 (by decide) (by decide) (by decide)
  have b2 := own_bd ((r0 &&& 127) + (r1 &&& 127) * 128) (r2 &&& 127) 16384 14 b1 (own_127n r2) (by decide) (by decide)
  rw [a2]
  have a3 := own_step (((r0 &&& 127) + (r1 &&& 127) * 128) + (r2 &&& 127) * 16384) (r3 &&& 127) ((0 + 7 + 7 + 7) &&& 31) 2097152 21 b2 (by decide) (by decide) (by decide)
  have b3 := own_bd (((r0 &&& 127) + (r1 &&& 127) * 128) + (r2 &&& 127) * 16384) (r3 &&& 127) 2097152 21 b2 (own_127n r3) (by decide) (by decide)
  rw [a3]
  have a4 := own_step ((((r0 &&& 127) + (r1 &&& 127) * 128) + (r2 &&& 127) * 16384) + (r3 &&& 127) * 2097152) (r4 &&& 127) ((0 + 7 + 7 + 7 + 7) &&& 31) 268435456 28 b3 (by decide) (by decide) (by decide)
  rw [a4]
theorem own_p (s : Int32) : (s &&& 2147483647) % 3 = 0 ∨ (s &&& 2147483647) % 3 = 1 ∨ (s &&& 2147483647) % 3 = 2 := by
  obtain ⟨k, hk, e⟩ := rem_nat (s &&& 2147483647) 3 3 ((c_andS s 2147483647).2.2 (by decide)) rfl (by decide) (by decide)
  have hc : k = 0 ∨ k = 1 ∨ k = 2 := by omega
  rcases hc with rfl | rfl | rfl
  · exact Or.inl e
  · exact Or.inr (Or.inl e)
  · exact Or.inr (Or.inr e)
theorem own_un (s : Int32) : 0 ≤ (XT.ushr s 8).toInt := by
  have e : (XT.ushr s 8).toBitVec.msb = false := by
    rw [BitVec.msb_eq_getLsbD_last, ushr_bit (m := 8) (by decide)]
    exact BitVec.getLsbD_of_ge _ _ (by decide)
  rw [BitVec.msb_eq_toInt] at e
  show 0 ≤ BitVec.toInt _
  simpa using e
theorem own_n (s : Int32) : (XT.ushr s 8) % 5 = 0 ∨ (XT.ushr s 8) % 5 = 1 ∨ (XT.ushr s 8) % 5 = 2 ∨ (XT.ushr s 8) % 5 = 3 ∨ (XT.ushr s 8) % 5 = 4 := by
  obtain ⟨k, hk, e⟩ := rem_nat (XT.ushr s 8) 5 5 (own_un s) rfl (by decide) (by decide)
  have hc : k = 0 ∨ k = 1 ∨ k = 2 ∨ k = 3 ∨ k = 4 := by omega
  rcases hc with rfl | rfl | rfl | rfl | rfl
  · exact Or.inl e
  · exact Or.inr (Or.inl e)
  · exact Or.inr (Or.inr (Or.inl e))
  · exact Or.inr (Or.inr (Or.inr (Or.inl e)))
  · exact Or.inr (Or.inr (Or.inr (Or.inr e)))
set_option maxRecDepth 65536 in
set_option maxHeartbeats 40000000 in
theorem c1_0 {l : Launch} {Z : State} {a0 : Array Value} {n : Nat} (hw : ∀ d ∈ tables_1, d.before a0 Z = true) (x0 : Int64) : W l Z n m1 0 (entryL [(.long (x0)), (.int (0)), (.int (1))] 5) [] [] 0 0 (Is (some (.int ((((XT.ushrL x0 (8 * 0)).toInt32) &&& 255) &&& 127))) []) := by
  show W l Z n m1 0 [(.val (.long (x0))), .second, (.val (.int (0))), (.val (.int (1))), .unset] [] [] 0 0 _
  refine W.lloadN d1_0 rfl ?_
  refine W.bipush 8 d1_1 rfl ?_
  refine W.iloadN d1_3 rfl ?_
  refine W.imul d1_4 ?_
  refine W.lushr d1_5 ?_
  refine W.l2i d1_6 ?_
  refine W.sipush 255 d1_7 rfl ?_
  refine W.iand d1_10 ?_
  refine W.istore d1_11 rfl ?_
  refine W.iloadN d1_13 rfl ?_
  refine W.iloadN d1_14 rfl ?_
  refine W.iconst 1 d1_15 rfl ?_
  refine W.isub d1_16 ?_
  refine W.icmp_ge d1_17 (fun h17 => ?_) (fun h => False.elim (by revert h; decide))
  refine W.iload d1_27 rfl ?_
  refine W.bipush 127 d1_29 rfl ?_
  refine W.iand d1_31 ?_
  exact W.ireturn d1_32 rfl (by decide) (by decide) (⟨rfl, rfl⟩)
set_option maxRecDepth 65536 in
set_option maxHeartbeats 40000000 in
theorem c1_1 {l : Launch} {Z : State} {a0 : Array Value} {n : Nat} (hw : ∀ d ∈ tables_1, d.before a0 Z = true) (x0 : Int64) : W l Z n m1 0 (entryL [(.long (x0)), (.int (1)), (.int (1))] 5) [] [] 0 0 (Is (some (.int ((((XT.ushrL x0 (8 * 1)).toInt32) &&& 255) &&& 127))) []) := by
  show W l Z n m1 0 [(.val (.long (x0))), .second, (.val (.int (1))), (.val (.int (1))), .unset] [] [] 0 0 _
  refine W.lloadN d1_0 rfl ?_
  refine W.bipush 8 d1_1 rfl ?_
  refine W.iloadN d1_3 rfl ?_
  refine W.imul d1_4 ?_
  refine W.lushr d1_5 ?_
  refine W.l2i d1_6 ?_
  refine W.sipush 255 d1_7 rfl ?_
  refine W.iand d1_10 ?_
  refine W.istore d1_11 rfl ?_
  refine W.iloadN d1_13 rfl ?_
  refine W.iloadN d1_14 rfl ?_
  refine W.iconst 1 d1_15 rfl ?_
  refine W.isub d1_16 ?_
  refine W.icmp_ge d1_17 (fun h17 => ?_) (fun h => False.elim (by revert h; decide))
  refine W.iload d1_27 rfl ?_
  refine W.bipush 127 d1_29 rfl ?_
  refine W.iand d1_31 ?_
  exact W.ireturn d1_32 rfl (by decide) (by decide) (⟨rfl, rfl⟩)
set_option maxRecDepth 65536 in
set_option maxHeartbeats 40000000 in
theorem c1_2 {l : Launch} {Z : State} {a0 : Array Value} {n : Nat} (hw : ∀ d ∈ tables_1, d.before a0 Z = true) (x0 : Int64) : W l Z n m1 0 (entryL [(.long (x0)), (.int (2)), (.int (1))] 5) [] [] 0 0 (Is (some (.int ((((XT.ushrL x0 (8 * 2)).toInt32) &&& 255) &&& 127))) []) := by
  show W l Z n m1 0 [(.val (.long (x0))), .second, (.val (.int (2))), (.val (.int (1))), .unset] [] [] 0 0 _
  refine W.lloadN d1_0 rfl ?_
  refine W.bipush 8 d1_1 rfl ?_
  refine W.iloadN d1_3 rfl ?_
  refine W.imul d1_4 ?_
  refine W.lushr d1_5 ?_
  refine W.l2i d1_6 ?_
  refine W.sipush 255 d1_7 rfl ?_
  refine W.iand d1_10 ?_
  refine W.istore d1_11 rfl ?_
  refine W.iloadN d1_13 rfl ?_
  refine W.iloadN d1_14 rfl ?_
  refine W.iconst 1 d1_15 rfl ?_
  refine W.isub d1_16 ?_
  refine W.icmp_ge d1_17 (fun h17 => ?_) (fun h => False.elim (by revert h; decide))
  refine W.iload d1_27 rfl ?_
  refine W.bipush 127 d1_29 rfl ?_
  refine W.iand d1_31 ?_
  exact W.ireturn d1_32 rfl (by decide) (by decide) (⟨rfl, rfl⟩)
set_option maxRecDepth 65536 in
set_option maxHeartbeats 40000000 in
theorem c1_3 {l : Launch} {Z : State} {a0 : Array Value} {n : Nat} (hw : ∀ d ∈ tables_1, d.before a0 Z = true) (x0 : Int64) : W l Z n m1 0 (entryL [(.long (x0)), (.int (3)), (.int (1))] 5) [] [] 0 0 (Is (some (.int ((((XT.ushrL x0 (8 * 3)).toInt32) &&& 255) &&& 127))) []) := by
  show W l Z n m1 0 [(.val (.long (x0))), .second, (.val (.int (3))), (.val (.int (1))), .unset] [] [] 0 0 _
  refine W.lloadN d1_0 rfl ?_
  refine W.bipush 8 d1_1 rfl ?_
  refine W.iloadN d1_3 rfl ?_
  refine W.imul d1_4 ?_
  refine W.lushr d1_5 ?_
  refine W.l2i d1_6 ?_
  refine W.sipush 255 d1_7 rfl ?_
  refine W.iand d1_10 ?_
  refine W.istore d1_11 rfl ?_
  refine W.iloadN d1_13 rfl ?_
  refine W.iloadN d1_14 rfl ?_
  refine W.iconst 1 d1_15 rfl ?_
  refine W.isub d1_16 ?_
  refine W.icmp_ge d1_17 (fun h17 => ?_) (fun h => False.elim (by revert h; decide))
  refine W.iload d1_27 rfl ?_
  refine W.bipush 127 d1_29 rfl ?_
  refine W.iand d1_31 ?_
  exact W.ireturn d1_32 rfl (by decide) (by decide) (⟨rfl, rfl⟩)
set_option maxRecDepth 65536 in
set_option maxHeartbeats 40000000 in
theorem c1_4 {l : Launch} {Z : State} {a0 : Array Value} {n : Nat} (hw : ∀ d ∈ tables_1, d.before a0 Z = true) (x0 : Int64) : W l Z n m1 0 (entryL [(.long (x0)), (.int (4)), (.int (1))] 5) [] [] 0 0 (Is (some (.int ((((XT.ushrL x0 (8 * 4)).toInt32) &&& 255) &&& 127))) []) := by
  show W l Z n m1 0 [(.val (.long (x0))), .second, (.val (.int (4))), (.val (.int (1))), .unset] [] [] 0 0 _
  refine W.lloadN d1_0 rfl ?_
  refine W.bipush 8 d1_1 rfl ?_
  refine W.iloadN d1_3 rfl ?_
  refine W.imul d1_4 ?_
  refine W.lushr d1_5 ?_
  refine W.l2i d1_6 ?_
  refine W.sipush 255 d1_7 rfl ?_
  refine W.iand d1_10 ?_
  refine W.istore d1_11 rfl ?_
  refine W.iloadN d1_13 rfl ?_
  refine W.iloadN d1_14 rfl ?_
  refine W.iconst 1 d1_15 rfl ?_
  refine W.isub d1_16 ?_
  refine W.icmp_ge d1_17 (fun h17 => ?_) (fun h => False.elim (by revert h; decide))
  refine W.iload d1_27 rfl ?_
  refine W.bipush 127 d1_29 rfl ?_
  refine W.iand d1_31 ?_
  exact W.ireturn d1_32 rfl (by decide) (by decide) (⟨rfl, rfl⟩)
set_option maxRecDepth 65536 in
set_option maxHeartbeats 40000000 in
theorem c2_5 {l : Launch} {Z : State} {a0 : Array Value} {n : Nat} (hw : ∀ d ∈ tables_1, d.before a0 Z = true) (x0 : Int32) (x1 : Int32) (x2 : Int32) (x3 : Int32) (x4 : Int32) (x5 : Int32) (x6 : Int32) (x7 : Int32) : W l Z n m2 0 (entryL [(.ref 1), (.ref 0), (.int (0))] 3) [] [.inr (.byte, [(.int (x0)), (.int (x1)), (.int (x2)), (.int (x3)), (.int (x4)), (.int (x5)), (.int (x6)), (.int (x7))]), .inl ("com/example/quiverstore/quiverstore/ByteReader", [(("com/example/quiverstore/quiverstore/ByteReader", "bytes", "[B"), .null), (("com/example/quiverstore/quiverstore/ByteReader", "position", "I"), (.int (0)))])] 0 0 (Is none [.inr (.byte, [(.int (x0)), (.int (x1)), (.int (x2)), (.int (x3)), (.int (x4)), (.int (x5)), (.int (x6)), (.int (x7))]), .inl ("com/example/quiverstore/quiverstore/ByteReader", [(("com/example/quiverstore/quiverstore/ByteReader", "bytes", "[B"), (.ref 0)), (("com/example/quiverstore/quiverstore/ByteReader", "position", "I"), (.int (0)))])]) := by
  show W l Z n m2 0 [(.val (.ref 1)), (.val (.ref 0)), (.val (.int (0)))] [] [.inr (.byte, [(.int (x0)), (.int (x1)), (.int (x2)), (.int (x3)), (.int (x4)), (.int (x5)), (.int (x6)), (.int (x7))]), .inl ("com/example/quiverstore/quiverstore/ByteReader", [(("com/example/quiverstore/quiverstore/ByteReader", "bytes", "[B"), .null), (("com/example/quiverstore/quiverstore/ByteReader", "position", "I"), (.int (0)))])] 0 0 _
  refine W.aloadN d2_0 rfl rfl ?_
  refine W.initO d2_1 (hw _ (wd 12 rfl)) (hw _ (wd 13 rfl)) (hw _ (wd 14 rfl)) rfl rfl ?_
  refine W.aloadN d2_4 rfl rfl ?_
  refine W.aloadN d2_5 rfl rfl ?_
  refine W.putfield 0 d2_6 (hw _ (wd 15 rfl)) rfl rfl (Or.inr ⟨hw _ (wd 16 rfl), rfl, rfl⟩) (hw _ (wd 7 rfl)) (ty := (.array .byte)) (by decide) (fun _ => rfl) (fun _ => rfl) ?_
  refine W.aloadN d2_9 rfl rfl ?_
  refine W.iloadN d2_10 rfl ?_
  refine W.putfield 1 d2_11 (hw _ (wd 17 rfl)) rfl rfl (Or.inl (hw _ (wd 18 rfl))) (hw _ (wd 7 rfl)) (ty := .int) (by decide) (fun _ => rfl) (fun _ => rfl) ?_
  exact W.leave d2_14 rfl (by decide) (by decide) (⟨rfl, rfl⟩)
set_option maxRecDepth 65536 in
set_option maxHeartbeats 40000000 in
theorem c4_6 {l : Launch} {Z : State} {a0 : Array Value} {n : Nat} (hw : ∀ d ∈ tables_1, d.before a0 Z = true) (x0 : Int32) (x1 : Int32) (x2 : Int32) (x3 : Int32) (x4 : Int32) (x5 : Int32) (x6 : Int32) (x7 : Int32) (hy_x0 : ¬ x0 < 0) : W l Z n m4 0 (entryL [(.ref 1)] 4) [] [.inr (.byte, [(.int (x0)), (.int (x1)), (.int (x2)), (.int (x3)), (.int (x4)), (.int (x5)), (.int (x6)), (.int (x7))]), .inl ("com/example/quiverstore/quiverstore/ByteReader", [(("com/example/quiverstore/quiverstore/ByteReader", "bytes", "[B"), (.ref 0)), (("com/example/quiverstore/quiverstore/ByteReader", "position", "I"), (.int (0)))])] 0 0 (Is (some (.int ((0 : Int32) ||| ((x0 &&& 127) <<< ((0 : Int32) &&& 31))))) [.inr (.byte, [(.int (x0)), (.int (x1)), (.int (x2)), (.int (x3)), (.int (x4)), (.int (x5)), (.int (x6)), (.int (x7))]), .inl ("com/example/quiverstore/quiverstore/ByteReader", [(("com/example/quiverstore/quiverstore/ByteReader", "bytes", "[B"), (.ref 0)), (("com/example/quiverstore/quiverstore/ByteReader", "position", "I"), (.int (0 + 1)))])]) := by
  show W l Z n m4 0 [(.val (.ref 1)), .unset, .unset, .unset] [] [.inr (.byte, [(.int (x0)), (.int (x1)), (.int (x2)), (.int (x3)), (.int (x4)), (.int (x5)), (.int (x6)), (.int (x7))]), .inl ("com/example/quiverstore/quiverstore/ByteReader", [(("com/example/quiverstore/quiverstore/ByteReader", "bytes", "[B"), (.ref 0)), (("com/example/quiverstore/quiverstore/ByteReader", "position", "I"), (.int (0)))])] 0 0 _
  refine W.iconst 0 d4_0 rfl ?_
  refine W.istoreN d4_1 rfl ?_
  refine W.iconst 0 d4_2 rfl ?_
  refine W.istoreN d4_3 rfl ?_
  refine W.aloadN d4_4 rfl rfl ?_
  refine W.getfield 0 d4_5 (hw _ (wd 15 rfl)) rfl rfl ?_
  refine W.aloadN d4_8 rfl rfl ?_
  refine W.dup d4_9 rfl ?_
  refine W.getfield 1 d4_10 (hw _ (wd 17 rfl)) rfl rfl ?_
  refine W.dupX1 d4_13 rfl rfl ?_
  refine W.iconst 1 d4_14 rfl ?_
  refine W.iadd d4_15 ?_
  refine W.putfield 1 d4_16 (hw _ (wd 17 rfl)) rfl rfl (Or.inl (hw _ (wd 18 rfl))) (hw _ (wd 7 rfl)) (ty := .int) (by decide) (fun _ => rfl) (fun _ => rfl) ?_
  refine W.baload (i := 0) d4_19 rfl ⟨by decide, by decide⟩ rfl ?_
  refine W.istoreN d4_20 rfl ?_
  show WB _ l Z n m4 21 [(.val (.ref 1)), (.val (.int (0))), (.val (.int (0))), (.val (.int (x0)))] [] [.inr (.byte, [(.int (x0)), (.int (x1)), (.int (x2)), (.int (x3)), (.int (x4)), (.int (x5)), (.int (x6)), (.int (x7))]), .inl ("com/example/quiverstore/quiverstore/ByteReader", [(("com/example/quiverstore/quiverstore/ByteReader", "bytes", "[B"), (.ref 0)), (("com/example/quiverstore/quiverstore/ByteReader", "position", "I"), (.int (0 + 1)))])] _ _ _
  refine W.iloadN d4_21 rfl ?_
  refine W.iloadN d4_22 rfl ?_
  refine W.bipush 127 d4_23 rfl ?_
  refine W.iand d4_25 ?_
  refine W.iloadN d4_26 rfl ?_
  refine W.ishl d4_27 ?_
  refine W.ior d4_28 ?_
  refine W.istoreN d4_29 rfl ?_
  refine W.iloadN d4_30 rfl ?_
  refine W.if_lt d4_31 (fun h => False.elim (hy_x0 h)) (fun h31 => ?_)
  refine W.iloadN d4_34 rfl ?_
  exact W.ireturn d4_35 rfl (by decide) (by decide) (⟨rfl, rfl⟩)
set_option maxRecDepth 65536 in
set_option maxHeartbeats 40000000 in
theorem c5_7 {l : Launch} {Z : State} {a0 : Array Value} {n : Nat} (hw : ∀ d ∈ tables_1, d.before a0 Z = true) (x0 : Int32) (x1 : Int32) (x2 : Int32) (x3 : Int32) (x4 : Int32) (x5 : Int32) (x6 : Int32) (x7 : Int32) : W l Z n m5 0 (entryL [(.ref 1)] 1) [] [.inr (.byte, [(.int (x0)), (.int (x1)), (.int (x2)), (.int (x3)), (.int (x4)), (.int (x5)), (.int (x6)), (.int (x7))]), .inl ("com/example/quiverstore/quiverstore/ByteReader", [(("com/example/quiverstore/quiverstore/ByteReader", "bytes", "[B"), (.ref 0)), (("com/example/quiverstore/quiverstore/ByteReader", "position", "I"), (.int (1)))])] 0 0 (Is (some (.int (nar .byte x1))) [.inr (.byte, [(.int (x0)), (.int (x1)), (.int (x2)), (.int (x3)), (.int (x4)), (.int (x5)), (.int (x6)), (.int (x7))]), .inl ("com/example/quiverstore/quiverstore/ByteReader", [(("com/example/quiverstore/quiverstore/ByteReader", "bytes", "[B"), (.ref 0)), (("com/example/quiverstore/quiverstore/ByteReader", "position", "I"), (.int (1 + 1)))])]) := by
  show W l Z n m5 0 [(.val (.ref 1))] [] [.inr (.byte, [(.int (x0)), (.int (x1)), (.int (x2)), (.int (x3)), (.int (x4)), (.int (x5)), (.int (x6)), (.int (x7))]), .inl ("com/example/quiverstore/quiverstore/ByteReader", [(("com/example/quiverstore/quiverstore/ByteReader", "bytes", "[B"), (.ref 0)), (("com/example/quiverstore/quiverstore/ByteReader", "position", "I"), (.int (1)))])] 0 0 _
  refine W.aloadN d5_0 rfl rfl ?_
  refine W.getfield 0 d5_1 (hw _ (wd 15 rfl)) rfl rfl ?_
  refine W.aloadN d5_4 rfl rfl ?_
  refine W.dup d5_5 rfl ?_
  refine W.getfield 1 d5_6 (hw _ (wd 17 rfl)) rfl rfl ?_
  refine W.dupX1 d5_9 rfl rfl ?_
  refine W.iconst 1 d5_10 rfl ?_
  refine W.iadd d5_11 ?_
  refine W.putfield 1 d5_12 (hw _ (wd 17 rfl)) rfl rfl (Or.inl (hw _ (wd 18 rfl))) (hw _ (wd 7 rfl)) (ty := .int) (by decide) (fun _ => rfl) (fun _ => rfl) ?_
  refine W.baload (i := 1) d5_15 rfl ⟨by decide, by decide⟩ rfl ?_
  exact W.nreturn .byte d5_16 rfl (by simp) (by decide) (by decide) (⟨rfl, rfl⟩)
set_option maxRecDepth 65536 in
set_option maxHeartbeats 40000000 in
theorem c2_8 {l : Launch} {Z : State} {a0 : Array Value} {n : Nat} (hw : ∀ d ∈ tables_1, d.before a0 Z = true) (x0 : Int32) (x1 : Int32) (x2 : Int32) (x3 : Int32) (x4 : Int32) (x5 : Int32) (x6 : Int32) (x7 : Int32) : W l Z n m2 0 (entryL [(.ref 1), (.ref 0), (.int (1))] 3) [] [.inr (.byte, [(.int (x0)), (.int (x1)), (.int (x2)), (.int (x3)), (.int (x4)), (.int (x5)), (.int (x6)), (.int (x7))]), .inl ("com/example/quiverstore/quiverstore/ByteReader", [(("com/example/quiverstore/quiverstore/ByteReader", "bytes", "[B"), .null), (("com/example/quiverstore/quiverstore/ByteReader", "position", "I"), (.int (0)))])] 0 0 (Is none [.inr (.byte, [(.int (x0)), (.int (x1)), (.int (x2)), (.int (x3)), (.int (x4)), (.int (x5)), (.int (x6)), (.int (x7))]), .inl ("com/example/quiverstore/quiverstore/ByteReader", [(("com/example/quiverstore/quiverstore/ByteReader", "bytes", "[B"), (.ref 0)), (("com/example/quiverstore/quiverstore/ByteReader", "position", "I"), (.int (1)))])]) := by
  show W l Z n m2 0 [(.val (.ref 1)), (.val (.ref 0)), (.val (.int (1)))] [] [.inr (.byte, [(.int (x0)), (.int (x1)), (.int (x2)), (.int (x3)), (.int (x4)), (.int (x5)), (.int (x6)), (.int (x7))]), .inl ("com/example/quiverstore/quiverstore/ByteReader", [(("com/example/quiverstore/quiverstore/ByteReader", "bytes", "[B"), .null), (("com/example/quiverstore/quiverstore/ByteReader", "position", "I"), (.int (0)))])] 0 0 _
  refine W.aloadN d2_0 rfl rfl ?_
  refine W.initO d2_1 (hw _ (wd 12 rfl)) (hw _ (wd 13 rfl)) (hw _ (wd 14 rfl)) rfl rfl ?_
  refine W.aloadN d2_4 rfl rfl ?_
  refine W.aloadN d2_5 rfl rfl ?_
  refine W.putfield 0 d2_6 (hw _ (wd 15 rfl)) rfl rfl (Or.inr ⟨hw _ (wd 16 rfl), rfl, rfl⟩) (hw _ (wd 7 rfl)) (ty := (.array .byte)) (by decide) (fun _ => rfl) (fun _ => rfl) ?_
  refine W.aloadN d2_9 rfl rfl ?_
  refine W.iloadN d2_10 rfl ?_
  refine W.putfield 1 d2_11 (hw _ (wd 17 rfl)) rfl rfl (Or.inl (hw _ (wd 18 rfl))) (hw _ (wd 7 rfl)) (ty := .int) (by decide) (fun _ => rfl) (fun _ => rfl) ?_
  exact W.leave d2_14 rfl (by decide) (by decide) (⟨rfl, rfl⟩)
set_option maxRecDepth 65536 in
set_option maxHeartbeats 40000000 in
theorem c4_9 {l : Launch} {Z : State} {a0 : Array Value} {n : Nat} (hw : ∀ d ∈ tables_1, d.before a0 Z = true) (x0 : Int32) (x1 : Int32) (x2 : Int32) (x3 : Int32) (x4 : Int32) (x5 : Int32) (x6 : Int32) (x7 : Int32) (hy_x1 : ¬ x1 < 0) : W l Z n m4 0 (entryL [(.ref 1)] 4) [] [.inr (.byte, [(.int (x0)), (.int (x1)), (.int (x2)), (.int (x3)), (.int (x4)), (.int (x5)), (.int (x6)), (.int (x7))]), .inl ("com/example/quiverstore/quiverstore/ByteReader", [(("com/example/quiverstore/quiverstore/ByteReader", "bytes", "[B"), (.ref 0)), (("com/example/quiverstore/quiverstore/ByteReader", "position", "I"), (.int (1)))])] 0 0 (Is (some (.int ((0 : Int32) ||| ((x1 &&& 127) <<< ((0 : Int32) &&& 31))))) [.inr (.byte, [(.int (x0)), (.int (x1)), (.int (x2)), (.int (x3)), (.int (x4)), (.int (x5)), (.int (x6)), (.int (x7))]), .inl ("com/example/quiverstore/quiverstore/ByteReader", [(("com/example/quiverstore/quiverstore/ByteReader", "bytes", "[B"), (.ref 0)), (("com/example/quiverstore/quiverstore/ByteReader", "position", "I"), (.int (1 + 1)))])]) := by
  show W l Z n m4 0 [(.val (.ref 1)), .unset, .unset, .unset] [] [.inr (.byte, [(.int (x0)), (.int (x1)), (.int (x2)), (.int (x3)), (.int (x4)), (.int (x5)), (.int (x6)), (.int (x7))]), .inl ("com/example/quiverstore/quiverstore/ByteReader", [(("com/example/quiverstore/quiverstore/ByteReader", "bytes", "[B"), (.ref 0)), (("com/example/quiverstore/quiverstore/ByteReader", "position", "I"), (.int (1)))])] 0 0 _
  refine W.iconst 0 d4_0 rfl ?_
  refine W.istoreN d4_1 rfl ?_
  refine W.iconst 0 d4_2 rfl ?_
  refine W.istoreN d4_3 rfl ?_
  refine W.aloadN d4_4 rfl rfl ?_
  refine W.getfield 0 d4_5 (hw _ (wd 15 rfl)) rfl rfl ?_
  refine W.aloadN d4_8 rfl rfl ?_
  refine W.dup d4_9 rfl ?_
  refine W.getfield 1 d4_10 (hw _ (wd 17 rfl)) rfl rfl ?_
  refine W.dupX1 d4_13 rfl rfl ?_
  refine W.iconst 1 d4_14 rfl ?_
  refine W.iadd d4_15 ?_
  refine W.putfield 1 d4_16 (hw _ (wd 17 rfl)) rfl rfl (Or.inl (hw _ (wd 18 rfl))) (hw _ (wd 7 rfl)) (ty := .int) (by decide) (fun _ => rfl) (fun _ => rfl) ?_
  refine W.baload (i := 1) d4_19 rfl ⟨by decide, by decide⟩ rfl ?_
  refine W.istoreN d4_20 rfl ?_
  show WB _ l Z n m4 21 [(.val (.ref 1)), (.val (.int (0))), (.val (.int (0))), (.val (.int (x1)))] [] [.inr (.byte, [(.int (x0)), (.int (x1)), (.int (x2)), (.int (x3)), (.int (x4)), (.int (x5)), (.int (x6)), (.int (x7))]), .inl ("com/example/quiverstore/quiverstore/ByteReader", [(("com/example/quiverstore/quiverstore/ByteReader", "bytes", "[B"), (.ref 0)), (("com/example/quiverstore/quiverstore/ByteReader", "position", "I"), (.int (1 + 1)))])] _ _ _
  refine W.iloadN d4_21 rfl ?_
  refine W.iloadN d4_22 rfl ?_
  refine W.bipush 127 d4_23 rfl ?_
  refine W.iand d4_25 ?_
  refine W.iloadN d4_26 rfl ?_
  refine W.ishl d4_27 ?_
  refine W.ior d4_28 ?_
  refine W.istoreN d4_29 rfl ?_
  refine W.iloadN d4_30 rfl ?_
  refine W.if_lt d4_31 (fun h => False.elim (hy_x1 h)) (fun h31 => ?_)
  refine W.iloadN d4_34 rfl ?_
  exact W.ireturn d4_35 rfl (by decide) (by decide) (⟨rfl, rfl⟩)
set_option maxRecDepth 65536 in
set_option maxHeartbeats 40000000 in
theorem c5_10 {l : Launch} {Z : State} {a0 : Array Value} {n : Nat} (hw : ∀ d ∈ tables_1, d.before a0 Z = true) (x0 : Int32) (x1 : Int32) (x2 : Int32) (x3 : Int32) (x4 : Int32) (x5 : Int32) (x6 : Int32) (x7 : Int32) : W l Z n m5 0 (entryL [(.ref 1)] 1) [] [.inr (.byte, [(.int (x0)), (.int (x1)), (.int (x2)), (.int (x3)), (.int (x4)), (.int (x5)), (.int (x6)), (.int (x7))]), .inl ("com/example/quiverstore/quiverstore/ByteReader", [(("com/example/quiverstore/quiverstore/ByteReader", "bytes", "[B"), (.ref 0)), (("com/example/quiverstore/quiverstore/ByteReader", "position", "I"), (.int (2)))])] 0 0 (Is (some (.int (nar .byte x2))) [.inr (.byte, [(.int (x0)), (.int (x1)), (.int (x2)), (.int (x3)), (.int (x4)), (.int (x5)), (.int (x6)), (.int (x7))]), .inl ("com/example/quiverstore/quiverstore/ByteReader", [(("com/example/quiverstore/quiverstore/ByteReader", "bytes", "[B"), (.ref 0)), (("com/example/quiverstore/quiverstore/ByteReader", "position", "I"), (.int (2 + 1)))])]) := by
  show W l Z n m5 0 [(.val (.ref 1))] [] [.inr (.byte, [(.int (x0)), (.int (x1)), (.int (x2)), (.int (x3)), (.int (x4)), (.int (x5)), (.int (x6)), (.int (x7))]), .inl ("com/example/quiverstore/quiverstore/ByteReader", [(("com/example/quiverstore/quiverstore/ByteReader", "bytes", "[B"), (.ref 0)), (("com/example/quiverstore/quiverstore/ByteReader", "position", "I"), (.int (2)))])] 0 0 _
  refine W.aloadN d5_0 rfl rfl ?_
  refine W.getfield 0 d5_1 (hw _ (wd 15 rfl)) rfl rfl ?_
  refine W.aloadN d5_4 rfl rfl ?_
  refine W.dup d5_5 rfl ?_
  refine W.getfield 1 d5_6 (hw _ (wd 17 rfl)) rfl rfl ?_
  refine W.dupX1 d5_9 rfl rfl ?_
  refine W.iconst 1 d5_10 rfl ?_
  refine W.iadd d5_11 ?_
  refine W.putfield 1 d5_12 (hw _ (wd 17 rfl)) rfl rfl (Or.inl (hw _ (wd 18 rfl))) (hw _ (wd 7 rfl)) (ty := .int) (by decide) (fun _ => rfl) (fun _ => rfl) ?_
  refine W.baload (i := 2) d5_15 rfl ⟨by decide, by decide⟩ rfl ?_
  exact W.nreturn .byte d5_16 rfl (by simp) (by decide) (by decide) (⟨rfl, rfl⟩)
set_option maxRecDepth 65536 in
set_option maxHeartbeats 40000000 in
theorem c2_11 {l : Launch} {Z : State} {a0 : Array Value} {n : Nat} (hw : ∀ d ∈ tables_1, d.before a0 Z = true) (x0 : Int32) (x1 : Int32) (x2 : Int32) (x3 : Int32) (x4 : Int32) (x5 : Int32) (x6 : Int32) (x7 : Int32) : W l Z n m2 0 (entryL [(.ref 1), (.ref 0), (.int (2))] 3) [] [.inr (.byte, [(.int (x0)), (.int (x1)), (.int (x2)), (.int (x3)), (.int (x4)), (.int (x5)), (.int (x6)), (.int (x7))]), .inl ("com/example/quiverstore/quiverstore/ByteReader", [(("com/example/quiverstore/quiverstore/ByteReader", "bytes", "[B"), .null), (("com/example/quiverstore/quiverstore/ByteReader", "position", "I"), (.int (0)))])] 0 0 (Is none [.inr (.byte, [(.int (x0)), (.int (x1)), (.int (x2)), (.int (x3)), (.int (x4)), (.int (x5)), (.int (x6)), (.int (x7))]), .inl ("com/example/quiverstore/quiverstore/ByteReader", [(("com/example/quiverstore/quiverstore/ByteReader", "bytes", "[B"), (.ref 0)), (("com/example/quiverstore/quiverstore/ByteReader", "position", "I"), (.int (2)))])]) := by
  show W l Z n m2 0 [(.val (.ref 1)), (.val (.ref 0)), (.val (.int (2)))] [] [.inr (.byte, [(.int (x0)), (.int (x1)), (.int (x2)), (.int (x3)), (.int (x4)), (.int (x5)), (.int (x6)), (.int (x7))]), .inl ("com/example/quiverstore/quiverstore/ByteReader", [(("com/example/quiverstore/quiverstore/ByteReader", "bytes", "[B"), .null), (("com/example/quiverstore/quiverstore/ByteReader", "position", "I"), (.int (0)))])] 0 0 _
  refine W.aloadN d2_0 rfl rfl ?_
  refine W.initO d2_1 (hw _ (wd 12 rfl)) (hw _ (wd 13 rfl)) (hw _ (wd 14 rfl)) rfl rfl ?_
  refine W.aloadN d2_4 rfl rfl ?_
  refine W.aloadN d2_5 rfl rfl ?_
  refine W.putfield 0 d2_6 (hw _ (wd 15 rfl)) rfl rfl (Or.inr ⟨hw _ (wd 16 rfl), rfl, rfl⟩) (hw _ (wd 7 rfl)) (ty := (.array .byte)) (by decide) (fun _ => rfl) (fun _ => rfl) ?_
  refine W.aloadN d2_9 rfl rfl ?_
  refine W.iloadN d2_10 rfl ?_
  refine W.putfield 1 d2_11 (hw _ (wd 17 rfl)) rfl rfl (Or.inl (hw _ (wd 18 rfl))) (hw _ (wd 7 rfl)) (ty := .int) (by decide) (fun _ => rfl) (fun _ => rfl) ?_
  exact W.leave d2_14 rfl (by decide) (by decide) (⟨rfl, rfl⟩)
set_option maxRecDepth 65536 in
set_option maxHeartbeats 40000000 in
theorem c4_12 {l : Launch} {Z : State} {a0 : Array Value} {n : Nat} (hw : ∀ d ∈ tables_1, d.before a0 Z = true) (x0 : Int32) (x1 : Int32) (x2 : Int32) (x3 : Int32) (x4 : Int32) (x5 : Int32) (x6 : Int32) (x7 : Int32) (hy_x2 : ¬ x2 < 0) : W l Z n m4 0 (entryL [(.ref 1)] 4) [] [.inr (.byte, [(.int (x0)), (.int (x1)), (.int (x2)), (.int (x3)), (.int (x4)), (.int (x5)), (.int (x6)), (.int (x7))]), .inl ("com/example/quiverstore/quiverstore/ByteReader", [(("com/example/quiverstore/quiverstore/ByteReader", "bytes", "[B"), (.ref 0)), (("com/example/quiverstore/quiverstore/ByteReader", "position", "I"), (.int (2)))])] 0 0 (Is (some (.int ((0 : Int32) ||| ((x2 &&& 127) <<< ((0 : Int32) &&& 31))))) [.inr (.byte, [(.int (x0)), (.int (x1)), (.int (x2)), (.int (x3)), (.int (x4)), (.int (x5)), (.int (x6)), (.int (x7))]), .inl ("com/example/quiverstore/quiverstore/ByteReader", [(("com/example/quiverstore/quiverstore/ByteReader", "bytes", "[B"), (.ref 0)), (("com/example/quiverstore/quiverstore/ByteReader", "position", "I"), (.int (2 + 1)))])]) := by
  show W l Z n m4 0 [(.val (.ref 1)), .unset, .unset, .unset] [] [.inr (.byte, [(.int (x0)), (.int (x1)), (.int (x2)), (.int (x3)), (.int (x4)), (.int (x5)), (.int (x6)), (.int (x7))]), .inl ("com/example/quiverstore/quiverstore/ByteReader", [(("com/example/quiverstore/quiverstore/ByteReader", "bytes", "[B"), (.ref 0)), (("com/example/quiverstore/quiverstore/ByteReader", "position", "I"), (.int (2)))])] 0 0 _
  refine W.iconst 0 d4_0 rfl ?_
  refine W.istoreN d4_1 rfl ?_
  refine W.iconst 0 d4_2 rfl ?_
  refine W.istoreN d4_3 rfl ?_
  refine W.aloadN d4_4 rfl rfl ?_
  refine W.getfield 0 d4_5 (hw _ (wd 15 rfl)) rfl rfl ?_
  refine W.aloadN d4_8 rfl rfl ?_
  refine W.dup d4_9 rfl ?_
  refine W.getfield 1 d4_10 (hw _ (wd 17 rfl)) rfl rfl ?_
  refine W.dupX1 d4_13 rfl rfl ?_
  refine W.iconst 1 d4_14 rfl ?_
  refine W.iadd d4_15 ?_
  refine W.putfield 1 d4_16 (hw _ (wd 17 rfl)) rfl rfl (Or.inl (hw _ (wd 18 rfl))) (hw _ (wd 7 rfl)) (ty := .int) (by decide) (fun _ => rfl) (fun _ => rfl) ?_
  refine W.baload (i := 2) d4_19 rfl ⟨by decide, by decide⟩ rfl ?_
  refine W.istoreN d4_20 rfl ?_
  show WB _ l Z n m4 21 [(.val (.ref 1)), (.val (.int (0))), (.val (.int (0))), (.val (.int (x2)))] [] [.inr (.byte, [(.int (x0)), (.int (x1)), (.int (x2)), (.int (x3)), (.int (x4)), (.int (x5)), (.int (x6)), (.int (x7))]), .inl ("com/example/quiverstore/quiverstore/ByteReader", [(("com/example/quiverstore/quiverstore/ByteReader", "bytes", "[B"), (.ref 0)), (("com/example/quiverstore/quiverstore/ByteReader", "position", "I"), (.int (2 + 1)))])] _ _ _
  refine W.iloadN d4_21 rfl ?_
  refine W.iloadN d4_22 rfl ?_
  refine W.bipush 127 d4_23 rfl ?_
  refine W.iand d4_25 ?_
  refine W.iloadN d4_26 rfl ?_
  refine W.ishl d4_27 ?_
  refine W.ior d4_28 ?_
  refine W.istoreN d4_29 rfl ?_
  refine W.iloadN d4_30 rfl ?_
  refine W.if_lt d4_31 (fun h => False.elim (hy_x2 h)) (fun h31 => ?_)
  refine W.iloadN d4_34 rfl ?_
  exact W.ireturn d4_35 rfl (by decide) (by decide) (⟨rfl, rfl⟩)
set_option maxRecDepth 65536 in
set_option maxHeartbeats 40000000 in
theorem c5_13 {l : Launch} {Z : State} {a0 : Array Value} {n : Nat} (hw : ∀ d ∈ tables_1, d.before a0 Z = true) (x0 : Int32) (x1 : Int32) (x2 : Int32) (x3 : Int32) (x4 : Int32) (x5 : Int32) (x6 : Int32) (x7 : Int32) : W l Z n m5 0 (entryL [(.ref 1)] 1) [] [.inr (.byte, [(.int (x0)), (.int (x1)), (.int (x2)), (.int (x3)), (.int (x4)), (.int (x5)), (.int (x6)), (.int (x7))]), .inl ("com/example/quiverstore/quiverstore/ByteReader", [(("com/example/quiverstore/quiverstore/ByteReader", "bytes", "[B"), (.ref 0)), (("com/example/quiverstore/quiverstore/ByteReader", "position", "I"), (.int (3)))])] 0 0 (Is (some (.int (nar .byte x3))) [.inr (.byte, [(.int (x0)), (.int (x1)), (.int (x2)), (.int (x3)), (.int (x4)), (.int (x5)), (.int (x6)), (.int (x7))]), .inl ("com/example/quiverstore/quiverstore/ByteReader", [(("com/example/quiverstore/quiverstore/ByteReader", "bytes", "[B"), (.ref 0)), (("com/example/quiverstore/quiverstore/ByteReader", "position", "I"), (.int (3 + 1)))])]) := by
  show W l Z n m5 0 [(.val (.ref 1))] [] [.inr (.byte, [(.int (x0)), (.int (x1)), (.int (x2)), (.int (x3)), (.int (x4)), (.int (x5)), (.int (x6)), (.int (x7))]), .inl ("com/example/quiverstore/quiverstore/ByteReader", [(("com/example/quiverstore/quiverstore/ByteReader", "bytes", "[B"), (.ref 0)), (("com/example/quiverstore/quiverstore/ByteReader", "position", "I"), (.int (3)))])] 0 0 _
  refine W.aloadN d5_0 rfl rfl ?_
  refine W.getfield 0 d5_1 (hw _ (wd 15 rfl)) rfl rfl ?_
  refine W.aloadN d5_4 rfl rfl ?_
  refine W.dup d5_5 rfl ?_
  refine W.getfield 1 d5_6 (hw _ (wd 17 rfl)) rfl rfl ?_
  refine W.dupX1 d5_9 rfl rfl ?_
  refine W.iconst 1 d5_10 rfl ?_
  refine W.iadd d5_11 ?_
  refine W.putfield 1 d5_12 (hw _ (wd 17 rfl)) rfl rfl (Or.inl (hw _ (wd 18 rfl))) (hw _ (wd 7 rfl)) (ty := .int) (by decide) (fun _ => rfl) (fun _ => rfl) ?_
  refine W.baload (i := 3) d5_15 rfl ⟨by decide, by decide⟩ rfl ?_
  exact W.nreturn .byte d5_16 rfl (by simp) (by decide) (by decide) (⟨rfl, rfl⟩)
set_option maxRecDepth 65536 in
set_option maxHeartbeats 40000000 in
theorem c1_14 {l : Launch} {Z : State} {a0 : Array Value} {n : Nat} (hw : ∀ d ∈ tables_1, d.before a0 Z = true) (x0 : Int64) : W l Z n m1 0 (entryL [(.long (x0)), (.int (0)), (.int (2))] 5) [] [] 0 0 (Is (some (.int ((((XT.ushrL x0 (8 * 0)).toInt32) &&& 255) ||| 128))) []) := by
  show W l Z n m1 0 [(.val (.long (x0))), .second, (.val (.int (0))), (.val (.int (2))), .unset] [] [] 0 0 _
  refine W.lloadN d1_0 rfl ?_
  refine W.bipush 8 d1_1 rfl ?_
  refine W.iloadN d1_3 rfl ?_
  refine W.imul d1_4 ?_
  refine W.lushr d1_5 ?_
  refine W.l2i d1_6 ?_
  refine W.sipush 255 d1_7 rfl ?_
  refine W.iand d1_10 ?_
  refine W.istore d1_11 rfl ?_
  refine W.iloadN d1_13 rfl ?_
  refine W.iloadN d1_14 rfl ?_
  refine W.iconst 1 d1_15 rfl ?_
  refine W.isub d1_16 ?_
  refine W.icmp_ge d1_17 (fun h => False.elim (by revert h; decide)) (fun h17 => ?_)
  refine W.iload d1_20 rfl ?_
  refine W.sipush 128 d1_22 rfl ?_
  refine W.ior d1_25 ?_
  exact W.ireturn d1_26 rfl (by decide) (by decide) (⟨rfl, rfl⟩)
set_option maxRecDepth 65536 in
set_option maxHeartbeats 40000000 in
theorem c1_15 {l : Launch} {Z : State} {a0 : Array Value} {n : Nat} (hw : ∀ d ∈ tables_1, d.before a0 Z = true) (x0 : Int64) : W l Z n m1 0 (entryL [(.long (x0)), (.int (1)), (.int (2))] 5) [] [] 0 0 (Is (some (.int ((((XT.ushrL x0 (8 * 1)).toInt32) &&& 255) &&& 127))) []) := by
  show W l Z n m1 0 [(.val (.long (x0))), .second, (.val (.int (1))), (.val (.int (2))), .unset] [] [] 0 0 _
  refine W.lloadN d1_0 rfl ?_
  refine W.bipush 8 d1_1 rfl ?_
  refine W.iloadN d1_3 rfl ?_
  refine W.imul d1_4 ?_
  refine W.lushr d1_5 ?_
  refine W.l2i d1_6 ?_
  refine W.sipush 255 d1_7 rfl ?_
  refine W.iand d1_10 ?_
  refine W.istore d1_11 rfl ?_
  refine W.iloadN d1_13 rfl ?_
  refine W.iloadN d1_14 rfl ?_
  refine W.iconst 1 d1_15 rfl ?_
  refine W.isub d1_16 ?_
  refine W.icmp_ge d1_17 (fun h17 => ?_) (fun h => False.elim (by revert h; decide))
  refine W.iload d1_27 rfl ?_
  refine W.bipush 127 d1_29 rfl ?_
  refine W.iand d1_31 ?_
  exact W.ireturn d1_32 rfl (by decide) (by decide) (⟨rfl, rfl⟩)
set_option maxRecDepth 65536 in
set_option maxHeartbeats 40000000 in
theorem c1_16 {l : Launch} {Z : State} {a0 : Array Value} {n : Nat} (hw : ∀ d ∈ tables_1, d.before a0 Z = true) (x0 : Int64) : W l Z n m1 0 (entryL [(.long (x0)), (.int (2)), (.int (2))] 5) [] [] 0 0 (Is (some (.int ((((XT.ushrL x0 (8 * 2)).toInt32) &&& 255) &&& 127))) []) := by
  show W l Z n m1 0 [(.val (.long (x0))), .second, (.val (.int (2))), (.val (.int (2))), .unset] [] [] 0 0 _
  refine W.lloadN d1_0 rfl ?_
  refine W.bipush 8 d1_1 rfl ?_
  refine W.iloadN d1_3 rfl ?_
  refine W.imul d1_4 ?_
  refine W.lushr d1_5 ?_
  refine W.l2i d1_6 ?_
  refine W.sipush 255 d1_7 rfl ?_
  refine W.iand d1_10 ?_
  refine W.istore d1_11 rfl ?_
  refine W.iloadN d1_13 rfl ?_
  refine W.iloadN d1_14 rfl ?_
  refine W.iconst 1 d1_15 rfl ?_
  refine W.isub d1_16 ?_
  refine W.icmp_ge d1_17 (fun h17 => ?_) (fun h => False.elim (by revert h; decide))
  refine W.iload d1_27 rfl ?_
  refine W.bipush 127 d1_29 rfl ?_
  refine W.iand d1_31 ?_
  exact W.ireturn d1_32 rfl (by decide) (by decide) (⟨rfl, rfl⟩)
set_option maxRecDepth 65536 in
set_option maxHeartbeats 40000000 in
theorem c1_17 {l : Launch} {Z : State} {a0 : Array Value} {n : Nat} (hw : ∀ d ∈ tables_1, d.before a0 Z = true) (x0 : Int64) : W l Z n m1 0 (entryL [(.long (x0)), (.int (3)), (.int (2))] 5) [] [] 0 0 (Is (some (.int ((((XT.ushrL x0 (8 * 3)).toInt32) &&& 255) &&& 127))) []) := by
  show W l Z n m1 0 [(.val (.long (x0))), .second, (.val (.int (3))), (.val (.int (2))), .unset] [] [] 0 0 _
  refine W.lloadN d1_0 rfl ?_
  refine W.bipush 8 d1_1 rfl ?_
  refine W.iloadN d1_3 rfl ?_
  refine W.imul d1_4 ?_
  refine W.lushr d1_5 ?_
  refine W.l2i d1_6 ?_
  refine W.sipush 255 d1_7 rfl ?_
  refine W.iand d1_10 ?_
  refine W.istore d1_11 rfl ?_
  refine W.iloadN d1_13 rfl ?_
  refine W.iloadN d1_14 rfl ?_
  refine W.iconst 1 d1_15 rfl ?_
  refine W.isub d1_16 ?_
  refine W.icmp_ge d1_17 (fun h17 => ?_) (fun h => False.elim (by revert h; decide))
  refine W.iload d1_27 rfl ?_
  refine W.bipush 127 d1_29 rfl ?_
  refine W.iand d1_31 ?_
  exact W.ireturn d1_32 rfl (by decide) (by decide) (⟨rfl, rfl⟩)
set_option maxRecDepth 65536 in
set_option maxHeartbeats 40000000 in
theorem c1_18 {l : Launch} {Z : State} {a0 : Array Value} {n : Nat} (hw : ∀ d ∈ tables_1, d.before a0 Z = true) (x0 : Int64) : W l Z n m1 0 (entryL [(.long (x0)), (.int (4)), (.int (2))] 5) [] [] 0 0 (Is (some (.int ((((XT.ushrL x0 (8 * 4)).toInt32) &&& 255) &&& 127))) []) := by
  show W l Z n m1 0 [(.val (.long (x0))), .second, (.val (.int (4))), (.val (.int (2))), .unset] [] [] 0 0 _
  refine W.lloadN d1_0 rfl ?_
  refine W.bipush 8 d1_1 rfl ?_
  refine W.iloadN d1_3 rfl ?_
  refine W.imul d1_4 ?_
  refine W.lushr d1_5 ?_
  refine W.l2i d1_6 ?_
  refine W.sipush 255 d1_7 rfl ?_
  refine W.iand d1_10 ?_
  refine W.istore d1_11 rfl ?_
  refine W.iloadN d1_13 rfl ?_
  refine W.iloadN d1_14 rfl ?_
  refine W.iconst 1 d1_15 rfl ?_
  refine W.isub d1_16 ?_
  refine W.icmp_ge d1_17 (fun h17 => ?_) (fun h => False.elim (by revert h; decide))
  refine W.iload d1_27 rfl ?_
  refine W.bipush 127 d1_29 rfl ?_
  refine W.iand d1_31 ?_
  exact W.ireturn d1_32 rfl (by decide) (by decide) (⟨rfl, rfl⟩)
set_option maxRecDepth 65536 in
set_option maxHeartbeats 40000000 in
theorem c4_19 {l : Launch} {Z : State} {a0 : Array Value} {n : Nat} (hw : ∀ d ∈ tables_1, d.before a0 Z = true) (x0 : Int32) (x1 : Int32) (x2 : Int32) (x3 : Int32) (x4 : Int32) (x5 : Int32) (x6 : Int32) (x7 : Int32) (hy_x0 : x0 < 0) (hy_x1 : ¬ x1 < 0) : W l Z n m4 0 (entryL [(.ref 1)] 4) [] [.inr (.byte, [(.int (x0)), (.int (x1)), (.int (x2)), (.int (x3)), (.int (x4)), (.int (x5)), (.int (x6)), (.int (x7))]), .inl ("com/example/quiverstore/quiverstore/ByteReader", [(("com/example/quiverstore/quiverstore/ByteReader", "bytes", "[B"), (.ref 0)), (("com/example/quiverstore/quiverstore/ByteReader", "position", "I"), (.int (0)))])] 0 0 (Is (some (.int (((0 : Int32) ||| ((x0 &&& 127) <<< ((0 : Int32) &&& 31))) ||| ((x1 &&& 127) <<< ((0 + 7) &&& 31))))) [.inr (.byte, [(.int (x0)), (.int (x1)), (.int (x2)), (.int (x3)), (.int (x4)), (.int (x5)), (.int (x6)), (.int (x7))]), .inl ("com/example/quiverstore/quiverstore/ByteReader", [(("com/example/quiverstore/quiverstore/ByteReader", "bytes", "[B"), (.ref 0)), (("com/example/quiverstore/quiverstore/ByteReader", "position", "I"), (.int ((0 + 1) + 1)))])]) := by
  show W l Z n m4 0 [(.val (.ref 1)), .unset, .unset, .unset] [] [.inr (.byte, [(.int (x0)), (.int (x1)), (.int (x2)), (.int (x3)), (.int (x4)), (.int (x5)), (.int (x6)), (.int (x7))]), .inl ("com/example/quiverstore/quiverstore/ByteReader", [(("com/example/quiverstore/quiverstore/ByteReader", "bytes", "[B"), (.ref 0)), (("com/example/quiverstore/quiverstore/ByteReader", "position", "I"), (.int (0)))])] 0 0 _
  refine W.iconst 0 d4_0 rfl ?_
  refine W.istoreN d4_1 rfl ?_
  refine W.iconst 0 d4_2 rfl ?_
  refine W.istoreN d4_3 rfl ?_
  refine W.aloadN d4_4 rfl rfl ?_
  refine W.getfield 0 d4_5 (hw _ (wd 15 rfl)) rfl rfl ?_
  refine W.aloadN d4_8 rfl rfl ?_
  refine W.dup d4_9 rfl ?_
  refine W.getfield 1 d4_10 (hw _ (wd 17 rfl)) rfl rfl ?_
  refine W.dupX1 d4_13 rfl rfl ?_
  refine W.iconst 1 d4_14 rfl ?_
  refine W.iadd d4_15 ?_
  refine W.putfield 1 d4_16 (hw _ (wd 17 rfl)) rfl rfl (Or.inl (hw _ (wd 18 rfl))) (hw _ (wd 7 rfl)) (ty := .int) (by decide) (fun _ => rfl) (fun _ => rfl) ?_
  refine W.baload (i := 0) d4_19 rfl ⟨by decide, by decide⟩ rfl ?_
  refine W.istoreN d4_20 rfl ?_
  show WB _ l Z n m4 21 [(.val (.ref 1)), (.val (.int (0))), (.val (.int (0))), (.val (.int (x0)))] [] [.inr (.byte, [(.int (x0)), (.int (x1)), (.int (x2)), (.int (x3)), (.int (x4)), (.int (x5)), (.int (x6)), (.int (x7))]), .inl ("com/example/quiverstore/quiverstore/ByteReader", [(("com/example/quiverstore/quiverstore/ByteReader", "bytes", "[B"), (.ref 0)), (("com/example/quiverstore/quiverstore/ByteReader", "position", "I"), (.int (0 + 1)))])] _ _ _
  refine W.iloadN d4_21 rfl ?_
  refine W.iloadN d4_22 rfl ?_
  refine W.bipush 127 d4_23 rfl ?_
  refine W.iand d4_25 ?_
  refine W.iloadN d4_26 rfl ?_
  refine W.ishl d4_27 ?_
  refine W.ior d4_28 ?_
  refine W.istoreN d4_29 rfl ?_
  refine W.iloadN d4_30 rfl ?_
  refine W.if_lt d4_31 (fun h31 => ?_) (fun h => False.elim (h hy_x0))
  refine W.iinc 7 d4_36 rfl rfl ?_
  refine W.goto d4_39 ?_
  refine W.aloadN d4_4 rfl rfl ?_
  refine W.getfield 0 d4_5 (hw _ (wd 15 rfl)) rfl rfl ?_
  refine W.aloadN d4_8 rfl rfl ?_
  refine W.dup d4_9 rfl ?_
  refine W.getfield 1 d4_10 (hw _ (wd 17 rfl)) rfl rfl ?_
  refine W.dupX1 d4_13 rfl rfl ?_
  refine W.iconst 1 d4_14 rfl ?_
  refine W.iadd d4_15 ?_
  refine W.putfield 1 d4_16 (hw _ (wd 17 rfl)) rfl rfl (Or.inl (hw _ (wd 18 rfl))) (hw _ (wd 7 rfl)) (ty := .int) (by decide) (fun _ => rfl) (fun _ => rfl) ?_
  refine W.baload (i := 1) d4_19 rfl ⟨by decide, by decide⟩ rfl ?_
  refine W.istoreN d4_20 rfl ?_
  show WB _ l Z n m4 21 [(.val (.ref 1)), (.val (.int ((0 : Int32) ||| ((x0 &&& 127) <<< ((0 : Int32) &&& 31))))), (.val (.int (0 + 7))), (.val (.int (x1)))] [] [.inr (.byte, [(.int (x0)), (.int (x1)), (.int (x2)), (.int (x3)), (.int (x4)), (.int (x5)), (.int (x6)), (.int (x7))]), .inl ("com/example/quiverstore/quiverstore/ByteReader", [(("com/example/quiverstore/quiverstore/ByteReader", "bytes", "[B"), (.ref 0)), (("com/example/quiverstore/quiverstore/ByteReader", "position", "I"), (.int ((0 + 1) + 1)))])] _ _ _
  refine W.iloadN d4_21 rfl ?_
  refine W.iloadN d4_22 rfl ?_
  refine W.bipush 127 d4_23 rfl ?_
  refine W.iand d4_25 ?_
  refine W.iloadN d4_26 rfl ?_
  refine W.ishl d4_27 ?_
  refine W.ior d4_28 ?_
  refine W.istoreN d4_29 rfl ?_
  refine W.iloadN d4_30 rfl ?_
  refine W.if_lt d4_31 (fun h => False.elim (hy_x1 h)) (fun h31 => ?_)
  refine W.iloadN d4_34 rfl ?_
  exact W.ireturn d4_35 rfl (by decide) (by decide) (⟨rfl, rfl⟩)
set_option maxRecDepth 65536 in
set_option maxHeartbeats 40000000 in
theorem c4_20 {l : Launch} {Z : State} {a0 : Array Value} {n : Nat} (hw : ∀ d ∈ tables_1, d.before a0 Z = true) (x0 : Int32) (x1 : Int32) (x2 : Int32) (x3 : Int32) (x4 : Int32) (x5 : Int32) (x6 : Int32) (x7 : Int32) (hy_x1 : x1 < 0) (hy_x2 : ¬ x2 < 0) : W l Z n m4 0 (entryL [(.ref 1)] 4) [] [.inr (.byte, [(.int (x0)), (.int (x1)), (.int (x2)), (.int (x3)), (.int (x4)), (.int (x5)), (.int (x6)), (.int (x7))]), .inl ("com/example/quiverstore/quiverstore/ByteReader", [(("com/example/quiverstore/quiverstore/ByteReader", "bytes", "[B"), (.ref 0)), (("com/example/quiverstore/quiverstore/ByteReader", "position", "I"), (.int (1)))])] 0 0 (Is (some (.int (((0 : Int32) ||| ((x1 &&& 127) <<< ((0 : Int32) &&& 31))) ||| ((x2 &&& 127) <<< ((0 + 7) &&& 31))))) [.inr (.byte, [(.int (x0)), (.int (x1)), (.int (x2)), (.int (x3)), (.int (x4)), (.int (x5)), (.int (x6)), (.int (x7))]), .inl ("com/example/quiverstore/quiverstore/ByteReader", [(("com/example/quiverstore/quiverstore/ByteReader", "bytes", "[B"), (.ref 0)), (("com/example/quiverstore/quiverstore/ByteReader", "position", "I"), (.int ((1 + 1) + 1)))])]) := by
  show W l Z n m4 0 [(.val (.ref 1)), .unset, .unset, .unset] [] [.inr (.byte, [(.int (x0)), (.int (x1)), (.int (x2)), (.int (x3)), (.int (x4)), (.int (x5)), (.int (x6)), (.int (x7))]), .inl ("com/example/quiverstore/quiverstore/ByteReader", [(("com/example/quiverstore/quiverstore/ByteReader", "bytes", "[B"), (.ref 0)), (("com/example/quiverstore/quiverstore/ByteReader", "position", "I"), (.int (1)))])] 0 0 _
  refine W.iconst 0 d4_0 rfl ?_
  refine W.istoreN d4_1 rfl ?_
  refine W.iconst 0 d4_2 rfl ?_
  refine W.istoreN d4_3 rfl ?_
  refine W.aloadN d4_4 rfl rfl ?_
  refine W.getfield 0 d4_5 (hw _ (wd 15 rfl)) rfl rfl ?_
  refine W.aloadN d4_8 rfl rfl ?_
  refine W.dup d4_9 rfl ?_
  refine W.getfield 1 d4_10 (hw _ (wd 17 rfl)) rfl rfl ?_
  refine W.dupX1 d4_13 rfl rfl ?_
  refine W.iconst 1 d4_14 rfl ?_
  refine W.iadd d4_15 ?_
  refine W.putfield 1 d4_16 (hw _ (wd 17 rfl)) rfl rfl (Or.inl (hw _ (wd 18 rfl))) (hw _ (wd 7 rfl)) (ty := .int) (by decide) (fun _ => rfl) (fun _ => rfl) ?_
  refine W.baload (i := 1) d4_19 rfl ⟨by decide, by decide⟩ rfl ?_
  refine W.istoreN d4_20 rfl ?_
  show WB _ l Z n m4 21 [(.val (.ref 1)), (.val (.int (0))), (.val (.int (0))), (.val (.int (x1)))] [] [.inr (.byte, [(.int (x0)), (.int (x1)), (.int (x2)), (.int (x3)), (.int (x4)), (.int (x5)), (.int (x6)), (.int (x7))]), .inl ("com/example/quiverstore/quiverstore/ByteReader", [(("com/example/quiverstore/quiverstore/ByteReader", "bytes", "[B"), (.ref 0)), (("com/example/quiverstore/quiverstore/ByteReader", "position", "I"), (.int (1 + 1)))])] _ _ _
  refine W.iloadN d4_21 rfl ?_
  refine W.iloadN d4_22 rfl ?_
  refine W.bipush 127 d4_23 rfl ?_
  refine W.iand d4_25 ?_
  refine W.iloadN d4_26 rfl ?_
  refine W.ishl d4_27 ?_
  refine W.ior d4_28 ?_
  refine W.istoreN d4_29 rfl ?_
  refine W.iloadN d4_30 rfl ?_
  refine W.if_lt d4_31 (fun h31 => ?_) (fun h => False.elim (h hy_x1))
  refine W.iinc 7 d4_36 rfl rfl ?_
  refine W.goto d4_39 ?_
  refine W.aloadN d4_4 rfl rfl ?_
  refine W.getfield 0 d4_5 (hw _ (wd 15 rfl)) rfl rfl ?_
  refine W.aloadN d4_8 rfl rfl ?_
  refine W.dup d4_9 rfl ?_
  refine W.getfield 1 d4_10 (hw _ (wd 17 rfl)) rfl rfl ?_
  refine W.dupX1 d4_13 rfl rfl ?_
  refine W.iconst 1 d4_14 rfl ?_
  refine W.iadd d4_15 ?_
  refine W.putfield 1 d4_16 (hw _ (wd 17 rfl)) rfl rfl (Or.inl (hw _ (wd 18 rfl))) (hw _ (wd 7 rfl)) (ty := .int) (by decide) (fun _ => rfl) (fun _ => rfl) ?_
  refine W.baload (i := 2) d4_19 rfl ⟨by decide, by decide⟩ rfl ?_
  refine W.istoreN d4_20 rfl ?_
  show WB _ l Z n m4 21 [(.val (.ref 1)), (.val (.int ((0 : Int32) ||| ((x1 &&& 127) <<< ((0 : Int32) &&& 31))))), (.val (.int (0 + 7))), (.val (.int (x2)))] [] [.inr (.byte, [(.int (x0)), (.int (x1)), (.int (x2)), (.int (x3)), (.int (x4)), (.int (x5)), (.int (x6)), (.int (x7))]), .inl ("com/example/quiverstore/quiverstore/ByteReader", [(("com/example/quiverstore/quiverstore/ByteReader", "bytes", "[B"), (.ref 0)), (("com/example/quiverstore/quiverstore/ByteReader", "position", "I"), (.int ((1 + 1) + 1)))])] _ _ _
  refine W.iloadN d4_21 rfl ?_
  refine W.iloadN d4_22 rfl ?_
  refine W.bipush 127 d4_23 rfl ?_
  refine W.iand d4_25 ?_
  refine W.iloadN d4_26 rfl ?_
  refine W.ishl d4_27 ?_
  refine W.ior d4_28 ?_
  refine W.istoreN d4_29 rfl ?_
  refine W.iloadN d4_30 rfl ?_
  refine W.if_lt d4_31 (fun h => False.elim (hy_x2 h)) (fun h31 => ?_)
  refine W.iloadN d4_34 rfl ?_
  exact W.ireturn d4_35 rfl (by decide) (by decide) (⟨rfl, rfl⟩)
set_option maxRecDepth 65536 in
set_option maxHeartbeats 40000000 in
theorem c4_21 {l : Launch} {Z : State} {a0 : Array Value} {n : Nat} (hw : ∀ d ∈ tables_1, d.before a0 Z = true) (x0 : Int32) (x1 : Int32) (x2 : Int32) (x3 : Int32) (x4 : Int32) (x5 : Int32) (x6 : Int32) (x7 : Int32) (hy_x2 : x2 < 0) (hy_x3 : ¬ x3 < 0) : W l Z n m4 0 (entryL [(.ref 1)] 4) [] [.inr (.byte, [(.int (x0)), (.int (x1)), (.int (x2)), (.int (x3)), (.int (x4)), (.int (x5)), (.int (x6)), (.int (x7))]), .inl ("com/example/quiverstore/quiverstore/ByteReader", [(("com/example/quiverstore/quiverstore/ByteReader", "bytes", "[B"), (.ref 0)), (("com/example/quiverstore/quiverstore/ByteReader", "position", "I"), (.int (2)))])] 0 0 (Is (some (.int (((0 : Int32) ||| ((x2 &&& 127) <<< ((0 : Int32) &&& 31))) ||| ((x3 &&& 127) <<< ((0 + 7) &&& 31))))) [.inr (.byte, [(.int (x0)), (.int (x1)), (.int (x2)), (.int (x3)), (.int (x4)), (.int (x5)), (.int (x6)), (.int (x7))]), .inl ("com/example/quiverstore/quiverstore/ByteReader", [(("com/example/quiverstore/quiverstore/ByteReader", "bytes", "[B"), (.ref 0)), (("com/example/quiverstore/quiverstore/ByteReader", "position", "I"), (.int ((2 + 1) + 1)))])]) := by
  show W l Z n m4 0 [(.val (.ref 1)), .unset, .unset, .unset] [] [.inr (.byte, [(.int (x0)), (.int (x1)), (.int (x2)), (.int (x3)), (.int (x4)), (.int (x5)), (.int (x6)), (.int (x7))]), .inl ("com/example/quiverstore/quiverstore/ByteReader", [(("com/example/quiverstore/quiverstore/ByteReader", "bytes", "[B"), (.ref 0)), (("com/example/quiverstore/quiverstore/ByteReader", "position", "I"), (.int (2)))])] 0 0 _
  refine W.iconst 0 d4_0 rfl ?_
  refine W.istoreN d4_1 rfl ?_
  refine W.iconst 0 d4_2 rfl ?_
  refine W.istoreN d4_3 rfl ?_
  refine W.aloadN d4_4 rfl rfl ?_
  refine W.getfield 0 d4_5 (hw _ (wd 15 rfl)) rfl rfl ?_
  refine W.aloadN d4_8 rfl rfl ?_
  refine W.dup d4_9 rfl ?_
  refine W.getfield 1 d4_10 (hw _ (wd 17 rfl)) rfl rfl ?_
  refine W.dupX1 d4_13 rfl rfl ?_
  refine W.iconst 1 d4_14 rfl ?_
  refine W.iadd d4_15 ?_
  refine W.putfield 1 d4_16 (hw _ (wd 17 rfl)) rfl rfl (Or.inl (hw _ (wd 18 rfl))) (hw _ (wd 7 rfl)) (ty := .int) (by decide) (fun _ => rfl) (fun _ => rfl) ?_
  refine W.baload (i := 2) d4_19 rfl ⟨by decide, by decide⟩ rfl ?_
  refine W.istoreN d4_20 rfl ?_
  show WB _ l Z n m4 21 [(.val (.ref 1)), (.val (.int (0))), (.val (.int (0))), (.val (.int (x2)))] [] [.inr (.byte, [(.int (x0)), (.int (x1)), (.int (x2)), (.int (x3)), (.int (x4)), (.int (x5)), (.int (x6)), (.int (x7))]), .inl ("com/example/quiverstore/quiverstore/ByteReader", [(("com/example/quiverstore/quiverstore/ByteReader", "bytes", "[B"), (.ref 0)), (("com/example/quiverstore/quiverstore/ByteReader", "position", "I"), (.int (2 + 1)))])] _ _ _
  refine W.iloadN d4_21 rfl ?_
  refine W.iloadN d4_22 rfl ?_
  refine W.bipush 127 d4_23 rfl ?_
  refine W.iand d4_25 ?_
  refine W.iloadN d4_26 rfl ?_
  refine W.ishl d4_27 ?_
  refine W.ior d4_28 ?_
  refine W.istoreN d4_29 rfl ?_
  refine W.iloadN d4_30 rfl ?_
  refine W.if_lt d4_31 (fun h31 => ?_) (fun h => False.elim (h hy_x2))
  refine W.iinc 7 d4_36 rfl rfl ?_
  refine W.goto d4_39 ?_
  refine W.aloadN d4_4 rfl rfl ?_
  refine W.getfield 0 d4_5 (hw _ (wd 15 rfl)) rfl rfl ?_
  refine W.aloadN d4_8 rfl rfl ?_
  refine W.dup d4_9 rfl ?_
  refine W.getfield 1 d4_10 (hw _ (wd 17 rfl)) rfl rfl ?_
  refine W.dupX1 d4_13 rfl rfl ?_
  refine W.iconst 1 d4_14 rfl ?_
  refine W.iadd d4_15 ?_
  refine W.putfield 1 d4_16 (hw _ (wd 17 rfl)) rfl rfl (Or.inl (hw _ (wd 18 rfl))) (hw _ (wd 7 rfl)) (ty := .int) (by decide) (fun _ => rfl) (fun _ => rfl) ?_
  refine W.baload (i := 3) d4_19 rfl ⟨by decide, by decide⟩ rfl ?_
  refine W.istoreN d4_20 rfl ?_
  show WB _ l Z n m4 21 [(.val (.ref 1)), (.val (.int ((0 : Int32) ||| ((x2 &&& 127) <<< ((0 : Int32) &&& 31))))), (.val (.int (0 + 7))), (.val (.int (x3)))] [] [.inr (.byte, [(.int (x0)), (.int (x1)), (.int (x2)), (.int (x3)), (.int (x4)), (.int (x5)), (.int (x6)), (.int (x7))]), .inl ("com/example/quiverstore/quiverstore/ByteReader", [(("com/example/quiverstore/quiverstore/ByteReader", "bytes", "[B"), (.ref 0)), (("com/example/quiverstore/quiverstore/ByteReader", "position", "I"), (.int ((2 + 1) + 1)))])] _ _ _
  refine W.iloadN d4_21 rfl ?_
  refine W.iloadN d4_22 rfl ?_
  refine W.bipush 127 d4_23 rfl ?_
  refine W.iand d4_25 ?_
  refine W.iloadN d4_26 rfl ?_
  refine W.ishl d4_27 ?_
  refine W.ior d4_28 ?_
  refine W.istoreN d4_29 rfl ?_
  refine W.iloadN d4_30 rfl ?_
  refine W.if_lt d4_31 (fun h => False.elim (hy_x3 h)) (fun h31 => ?_)
  refine W.iloadN d4_34 rfl ?_
  exact W.ireturn d4_35 rfl (by decide) (by decide) (⟨rfl, rfl⟩)
set_option maxRecDepth 65536 in
set_option maxHeartbeats 40000000 in
theorem c5_22 {l : Launch} {Z : State} {a0 : Array Value} {n : Nat} (hw : ∀ d ∈ tables_1, d.before a0 Z = true) (x0 : Int32) (x1 : Int32) (x2 : Int32) (x3 : Int32) (x4 : Int32) (x5 : Int32) (x6 : Int32) (x7 : Int32) : W l Z n m5 0 (entryL [(.ref 1)] 1) [] [.inr (.byte, [(.int (x0)), (.int (x1)), (.int (x2)), (.int (x3)), (.int (x4)), (.int (x5)), (.int (x6)), (.int (x7))]), .inl ("com/example/quiverstore/quiverstore/ByteReader", [(("com/example/quiverstore/quiverstore/ByteReader", "bytes", "[B"), (.ref 0)), (("com/example/quiverstore/quiverstore/ByteReader", "position", "I"), (.int (4)))])] 0 0 (Is (some (.int (nar .byte x4))) [.inr (.byte, [(.int (x0)), (.int (x1)), (.int (x2)), (.int (x3)), (.int (x4)), (.int (x5)), (.int (x6)), (.int (x7))]), .inl ("com/example/quiverstore/quiverstore/ByteReader", [(("com/example/quiverstore/quiverstore/ByteReader", "bytes", "[B"), (.ref 0)), (("com/example/quiverstore/quiverstore/ByteReader", "position", "I"), (.int (4 + 1)))])]) := by
  show W l Z n m5 0 [(.val (.ref 1))] [] [.inr (.byte, [(.int (x0)), (.int (x1)), (.int (x2)), (.int (x3)), (.int (x4)), (.int (x5)), (.int (x6)), (.int (x7))]), .inl ("com/example/quiverstore/quiverstore/ByteReader", [(("com/example/quiverstore/quiverstore/ByteReader", "bytes", "[B"), (.ref 0)), (("com/example/quiverstore/quiverstore/ByteReader", "position", "I"), (.int (4)))])] 0 0 _
  refine W.aloadN d5_0 rfl rfl ?_
  refine W.getfield 0 d5_1 (hw _ (wd 15 rfl)) rfl rfl ?_
  refine W.aloadN d5_4 rfl rfl ?_
  refine W.dup d5_5 rfl ?_
  refine W.getfield 1 d5_6 (hw _ (wd 17 rfl)) rfl rfl ?_
  refine W.dupX1 d5_9 rfl rfl ?_
  refine W.iconst 1 d5_10 rfl ?_
  refine W.iadd d5_11 ?_
  refine W.putfield 1 d5_12 (hw _ (wd 17 rfl)) rfl rfl (Or.inl (hw _ (wd 18 rfl))) (hw _ (wd 7 rfl)) (ty := .int) (by decide) (fun _ => rfl) (fun _ => rfl) ?_
  refine W.baload (i := 4) d5_15 rfl ⟨by decide, by decide⟩ rfl ?_
  exact W.nreturn .byte d5_16 rfl (by simp) (by decide) (by decide) (⟨rfl, rfl⟩)
set_option maxRecDepth 65536 in
set_option maxHeartbeats 40000000 in
theorem c1_23 {l : Launch} {Z : State} {a0 : Array Value} {n : Nat} (hw : ∀ d ∈ tables_1, d.before a0 Z = true) (x0 : Int64) : W l Z n m1 0 (entryL [(.long (x0)), (.int (0)), (.int (3))] 5) [] [] 0 0 (Is (some (.int ((((XT.ushrL x0 (8 * 0)).toInt32) &&& 255) ||| 128))) []) := by
  show W l Z n m1 0 [(.val (.long (x0))), .second, (.val (.int (0))), (.val (.int (3))), .unset] [] [] 0 0 _
  refine W.lloadN d1_0 rfl ?_
  refine W.bipush 8 d1_1 rfl ?_
  refine W.iloadN d1_3 rfl ?_
  refine W.imul d1_4 ?_
  refine W.lushr d1_5 ?_
  refine W.l2i d1_6 ?_
  refine W.sipush 255 d1_7 rfl ?_
  refine W.iand d1_10 ?_
  refine W.istore d1_11 rfl ?_
  refine W.iloadN d1_13 rfl ?_
  refine W.iloadN d1_14 rfl ?_
  refine W.iconst 1 d1_15 rfl ?_
  refine W.isub d1_16 ?_
  refine W.icmp_ge d1_17 (fun h => False.elim (by revert h; decide)) (fun h17 => ?_)
  refine W.iload d1_20 rfl ?_
  refine W.sipush 128 d1_22 rfl ?_
  refine W.ior d1_25 ?_
  exact W.ireturn d1_26 rfl (by decide) (by decide) (⟨rfl, rfl⟩)
set_option maxRecDepth 65536 in
set_option maxHeartbeats 40000000 in
theorem c1_24 {l : Launch} {Z : State} {a0 : Array Value} {n : Nat} (hw : ∀ d ∈ tables_1, d.before a0 Z = true) (x0 : Int64) : W l Z n m1 0 (entryL [(.long (x0)), (.int (1)), (.int (3))] 5) [] [] 0 0 (Is (some (.int ((((XT.ushrL x0 (8 * 1)).toInt32) &&& 255) ||| 128))) []) := by
  show W l Z n m1 0 [(.val (.long (x0))), .second, (.val (.int (1))), (.val (.int (3))), .unset] [] [] 0 0 _
  refine W.lloadN d1_0 rfl ?_
  refine W.bipush 8 d1_1 rfl ?_
  refine W.iloadN d1_3 rfl ?_
  refine W.imul d1_4 ?_
  refine W.lushr d1_5 ?_
  refine W.l2i d1_6 ?_
  refine W.sipush 255 d1_7 rfl ?_
  refine W.iand d1_10 ?_
  refine W.istore d1_11 rfl ?_
  refine W.iloadN d1_13 rfl ?_
  refine W.iloadN d1_14 rfl ?_
  refine W.iconst 1 d1_15 rfl ?_
  refine W.isub d1_16 ?_
  refine W.icmp_ge d1_17 (fun h => False.elim (by revert h; decide)) (fun h17 => ?_)
  refine W.iload d1_20 rfl ?_
  refine W.sipush 128 d1_22 rfl ?_
  refine W.ior d1_25 ?_
  exact W.ireturn d1_26 rfl (by decide) (by decide) (⟨rfl, rfl⟩)
set_option maxRecDepth 65536 in
set_option maxHeartbeats 40000000 in
theorem c1_25 {l : Launch} {Z : State} {a0 : Array Value} {n : Nat} (hw : ∀ d ∈ tables_1, d.before a0 Z = true) (x0 : Int64) : W l Z n m1 0 (entryL [(.long (x0)), (.int (2)), (.int (3))] 5) [] [] 0 0 (Is (some (.int ((((XT.ushrL x0 (8 * 2)).toInt32) &&& 255) &&& 127))) []) := by
  show W l Z n m1 0 [(.val (.long (x0))), .second, (.val (.int (2))), (.val (.int (3))), .unset] [] [] 0 0 _
  refine W.lloadN d1_0 rfl ?_
  refine W.bipush 8 d1_1 rfl ?_
  refine W.iloadN d1_3 rfl ?_
  refine W.imul d1_4 ?_
  refine W.lushr d1_5 ?_
  refine W.l2i d1_6 ?_
  refine W.sipush 255 d1_7 rfl ?_
  refine W.iand d1_10 ?_
  refine W.istore d1_11 rfl ?_
  refine W.iloadN d1_13 rfl ?_
  refine W.iloadN d1_14 rfl ?_
  refine W.iconst 1 d1_15 rfl ?_
  refine W.isub d1_16 ?_
  refine W.icmp_ge d1_17 (fun h17 => ?_) (fun h => False.elim (by revert h; decide))
  refine W.iload d1_27 rfl ?_
  refine W.bipush 127 d1_29 rfl ?_
  refine W.iand d1_31 ?_
  exact W.ireturn d1_32 rfl (by decide) (by decide) (⟨rfl, rfl⟩)
set_option maxRecDepth 65536 in
set_option maxHeartbeats 40000000 in
theorem c1_26 {l : Launch} {Z : State} {a0 : Array Value} {n : Nat} (hw : ∀ d ∈ tables_1, d.before a0 Z = true) (x0 : Int64) : W l Z n m1 0 (entryL [(.long (x0)), (.int (3)), (.int (3))] 5) [] [] 0 0 (Is (some (.int ((((XT.ushrL x0 (8 * 3)).toInt32) &&& 255) &&& 127))) []) := by
  show W l Z n m1 0 [(.val (.long (x0))), .second, (.val (.int (3))), (.val (.int (3))), .unset] [] [] 0 0 _
  refine W.lloadN d1_0 rfl ?_
  refine W.bipush 8 d1_1 rfl ?_
  refine W.iloadN d1_3 rfl ?_
  refine W.imul d1_4 ?_
  refine W.lushr d1_5 ?_
  refine W.l2i d1_6 ?_
  refine W.sipush 255 d1_7 rfl ?_
  refine W.iand d1_10 ?_
  refine W.istore d1_11 rfl ?_
  refine W.iloadN d1_13 rfl ?_
  refine W.iloadN d1_14 rfl ?_
  refine W.iconst 1 d1_15 rfl ?_
  refine W.isub d1_16 ?_
  refine W.icmp_ge d1_17 (fun h17 => ?_) (fun h => False.elim (by revert h; decide))
  refine W.iload d1_27 rfl ?_
  refine W.bipush 127 d1_29 rfl ?_
  refine W.iand d1_31 ?_
  exact W.ireturn d1_32 rfl (by decide) (by decide) (⟨rfl, rfl⟩)
set_option maxRecDepth 65536 in
set_option maxHeartbeats 40000000 in
theorem c1_27 {l : Launch} {Z : State} {a0 : Array Value} {n : Nat} (hw : ∀ d ∈ tables_1, d.before a0 Z = true) (x0 : Int64) : W l Z n m1 0 (entryL [(.long (x0)), (.int (4)), (.int (3))] 5) [] [] 0 0 (Is (some (.int ((((XT.ushrL x0 (8 * 4)).toInt32) &&& 255) &&& 127))) []) := by
  show W l Z n m1 0 [(.val (.long (x0))), .second, (.val (.int (4))), (.val (.int (3))), .unset] [] [] 0 0 _
  refine W.lloadN d1_0 rfl ?_
  refine W.bipush 8 d1_1 rfl ?_
  refine W.iloadN d1_3 rfl ?_
  refine W.imul d1_4 ?_
  refine W.lushr d1_5 ?_
  refine W.l2i d1_6 ?_
  refine W.sipush 255 d1_7 rfl ?_
  refine W.iand d1_10 ?_
  refine W.istore d1_11 rfl ?_
  refine W.iloadN d1_13 rfl ?_
  refine W.iloadN d1_14 rfl ?_
  refine W.iconst 1 d1_15 rfl ?_
  refine W.isub d1_16 ?_
  refine W.icmp_ge d1_17 (fun h17 => ?_) (fun h => False.elim (by revert h; decide))
  refine W.iload d1_27 rfl ?_
  refine W.bipush 127 d1_29 rfl ?_
  refine W.iand d1_31 ?_
  exact W.ireturn d1_32 rfl (by decide) (by decide) (⟨rfl, rfl⟩)
set_option maxRecDepth 65536 in
set_option maxHeartbeats 40000000 in
theorem c4_28 {l : Launch} {Z : State} {a0 : Array Value} {n : Nat} (hw : ∀ d ∈ tables_1, d.before a0 Z = true) (x0 : Int32) (x1 : Int32) (x2 : Int32) (x3 : Int32) (x4 : Int32) (x5 : Int32) (x6 : Int32) (x7 : Int32) (hy_x0 : x0 < 0) (hy_x1 : x1 < 0) (hy_x2 : ¬ x2 < 0) : W l Z n m4 0 (entryL [(.ref 1)] 4) [] [.inr (.byte, [(.int (x0)), (.int (x1)), (.int (x2)), (.int (x3)), (.int (x4)), (.int (x5)), (.int (x6)), (.int (x7))]), .inl ("com/example/quiverstore/quiverstore/ByteReader", [(("com/example/quiverstore/quiverstore/ByteReader", "bytes", "[B"), (.ref 0)), (("com/example/quiverstore/quiverstore/ByteReader", "position", "I"), (.int (0)))])] 0 0 (Is (some (.int ((((0 : Int32) ||| ((x0 &&& 127) <<< ((0 : Int32) &&& 31))) ||| ((x1 &&& 127) <<< ((0 + 7) &&& 31))) ||| ((x2 &&& 127) <<< (((0 + 7) + 7) &&& 31))))) [.inr (.byte, [(.int (x0)), (.int (x1)), (.int (x2)), (.int (x3)), (.int (x4)), (.int (x5)), (.int (x6)), (.int (x7))]), .inl ("com/example/quiverstore/quiverstore/ByteReader", [(("com/example/quiverstore/quiverstore/ByteReader", "bytes", "[B"), (.ref 0)), (("com/example/quiverstore/quiverstore/ByteReader", "position", "I"), (.int (((0 + 1) + 1) + 1)))])]) := by
  show W l Z n m4 0 [(.val (.ref 1)), .unset, .unset, .unset] [] [.inr (.byte, [(.int (x0)), (.int (x1)), (.int (x2)), (.int (x3)), (.int (x4)), (.int (x5)), (.int (x6)), (.int (x7))]), .inl ("com/example/quiverstore/quiverstore/ByteReader", [(("com/example/quiverstore/quiverstore/ByteReader", "bytes", "[B"), (.ref 0)), (("com/example/quiverstore/quiverstore/ByteReader", "position", "I"), (.int (0)))])] 0 0 _
  refine W.iconst 0 d4_0 rfl ?_
  refine W.istoreN d4_1 rfl ?_
  refine W.iconst 0 d4_2 rfl ?_
  refine W.istoreN d4_3 rfl ?_
  refine W.aloadN d4_4 rfl rfl ?_
  refine W.getfield 0 d4_5 (hw _ (wd 15 rfl)) rfl rfl ?_
  refine W.aloadN d4_8 rfl rfl ?_
  refine W.dup d4_9 rfl ?_
  refine W.getfield 1 d4_10 (hw _ (wd 17 rfl)) rfl rfl ?_
  refine W.dupX1 d4_13 rfl rfl ?_
  refine W.iconst 1 d4_14 rfl ?_
  refine W.iadd d4_15 ?_
  refine W.putfield 1 d4_16 (hw _ (wd 17 rfl)) rfl rfl (Or.inl (hw _ (wd 18 rfl))) (hw _ (wd 7 rfl)) (ty := .int) (by decide) (fun _ => rfl) (fun _ => rfl) ?_
  refine W.baload (i := 0) d4_19 rfl ⟨by decide, by decide⟩ rfl ?_
  refine W.istoreN d4_20 rfl ?_
  show WB _ l Z n m4 21 [(.val (.ref 1)), (.val (.int (0))), (.val (.int (0))), (.val (.int (x0)))] [] [.inr (.byte, [(.int (x0)), (.int (x1)), (.int (x2)), (.int (x3)), (.int (x4)), (.int (x5)), (.int (x6)), (.int (x7))]), .inl ("com/example/quiverstore/quiverstore/ByteReader", [(("com/example/quiverstore/quiverstore/ByteReader", "bytes", "[B"), (.ref 0)), (("com/example/quiverstore/quiverstore/ByteReader", "position", "I"), (.int (0 + 1)))])] _ _ _
  refine W.iloadN d4_21 rfl ?_
  refine W.iloadN d4_22 rfl ?_
  refine W.bipush 127 d4_23 rfl ?_
  refine W.iand d4_25 ?_
  refine W.iloadN d4_26 rfl ?_
  refine W.ishl d4_27 ?_
  refine W.ior d4_28 ?_
  refine W.istoreN d4_29 rfl ?_
  refine W.iloadN d4_30 rfl ?_
  refine W.if_lt d4_31 (fun h31 => ?_) (fun h => False.elim (h hy_x0))
  refine W.iinc 7 d4_36 rfl rfl ?_
  refine W.goto d4_39 ?_
  refine W.aloadN d4_4 rfl rfl ?_
  refine W.getfield 0 d4_5 (hw _ (wd 15 rfl)) rfl rfl ?_
  refine W.aloadN d4_8 rfl rfl ?_
  refine W.dup d4_9 rfl ?_
  refine W.getfield 1 d4_10 (hw _ (wd 17 rfl)) rfl rfl ?_
  refine W.dupX1 d4_13 rfl rfl ?_
  refine W.iconst 1 d4_14 rfl ?_
  refine W.iadd d4_15 ?_
  refine W.putfield 1 d4_16 (hw _ (wd 17 rfl)) rfl rfl (Or.inl (hw _ (wd 18 rfl))) (hw _ (wd 7 rfl)) (ty := .int) (by decide) (fun _ => rfl) (fun _ => rfl) ?_
  refine W.baload (i := 1) d4_19 rfl ⟨by decide, by decide⟩ rfl ?_
  refine W.istoreN d4_20 rfl ?_
  show WB _ l Z n m4 21 [(.val (.ref 1)), (.val (.int ((0 : Int32) ||| ((x0 &&& 127) <<< ((0 : Int32) &&& 31))))), (.val (.int (0 + 7))), (.val (.int (x1)))] [] [.inr (.byte, [(.int (x0)), (.int (x1)), (.int (x2)), (.int (x3)), (.int (x4)), (.int (x5)), (.int (x6)), (.int (x7))]), .inl ("com/example/quiverstore/quiverstore/ByteReader", [(("com/example/quiverstore/quiverstore/ByteReader", "bytes", "[B"), (.ref 0)), (("com/example/quiverstore/quiverstore/ByteReader", "position", "I"), (.int ((0 + 1) + 1)))])] _ _ _
  refine W.iloadN d4_21 rfl ?_
  refine W.iloadN d4_22 rfl ?_
  refine W.bipush 127 d4_23 rfl ?_
  refine W.iand d4_25 ?_
  refine W.iloadN d4_26 rfl ?_
  refine W.ishl d4_27 ?_
  refine W.ior d4_28 ?_
  refine W.istoreN d4_29 rfl ?_
  refine W.iloadN d4_30 rfl ?_
  refine W.if_lt d4_31 (fun h31 => ?_) (fun h => False.elim (h hy_x1))
  refine W.iinc 7 d4_36 rfl rfl ?_
  refine W.goto d4_39 ?_
  refine W.aloadN d4_4 rfl rfl ?_
  refine W.getfield 0 d4_5 (hw _ (wd 15 rfl)) rfl rfl ?_
  refine W.aloadN d4_8 rfl rfl ?_
  refine W.dup d4_9 rfl ?_
  refine W.getfield 1 d4_10 (hw _ (wd 17 rfl)) rfl rfl ?_
  refine W.dupX1 d4_13 rfl rfl ?_
  refine W.iconst 1 d4_14 rfl ?_
  refine W.iadd d4_15 ?_
  refine W.putfield 1 d4_16 (hw _ (wd 17 rfl)) rfl rfl (Or.inl (hw _ (wd 18 rfl))) (hw _ (wd 7 rfl)) (ty := .int) (by decide) (fun _ => rfl) (fun _ => rfl) ?_
  refine W.baload (i := 2) d4_19 rfl ⟨by decide, by decide⟩ rfl ?_
  refine W.istoreN d4_20 rfl ?_
  show WB _ l Z n m4 21 [(.val (.ref 1)), (.val (.int (((0 : Int32) ||| ((x0 &&& 127) <<< ((0 : Int32) &&& 31))) ||| ((x1 &&& 127) <<< ((0 + 7) &&& 31))))), (.val (.int ((0 + 7) + 7))), (.val (.int (x2)))] [] [.inr (.byte, [(.int (x0)), (.int (x1)), (.int (x2)), (.int (x3)), (.int (x4)), (.int (x5)), (.int (x6)), (.int (x7))]), .inl ("com/example/quiverstore/quiverstore/ByteReader", [(("com/example/quiverstore/quiverstore/ByteReader", "bytes", "[B"), (.ref 0)), (("com/example/quiverstore/quiverstore/ByteReader", "position", "I"), (.int (((0 + 1) + 1) + 1)))])] _ _ _
  refine W.iloadN d4_21 rfl ?_
  refine W.iloadN d4_22 rfl ?_
  refine W.bipush 127 d4_23 rfl ?_
  refine W.iand d4_25 ?_
  refine W.iloadN d4_26 rfl ?_
  refine W.ishl d4_27 ?_
  refine W.ior d4_28 ?_
  refine W.istoreN d4_29 rfl ?_
  refine W.iloadN d4_30 rfl ?_
  refine W.if_lt d4_31 (fun h => False.elim (hy_x2 h)) (fun h31 => ?_)
  refine W.iloadN d4_34 rfl ?_
  exact W.ireturn d4_35 rfl (by decide) (by decide) (⟨rfl, rfl⟩)
set_option maxRecDepth 65536 in
set_option maxHeartbeats 40000000 in
theorem c4_29 {l : Launch} {Z : State} {a0 : Array Value} {n : Nat} (hw : ∀ d ∈ tables_1, d.before a0 Z = true) (x0 : Int32) (x1 : Int32) (x2 : Int32) (x3 : Int32) (x4 : Int32) (x5 : Int32) (x6 : Int32) (x7 : Int32) (hy_x1 : x1 < 0) (hy_x2 : x2 < 0) (hy_x3 : ¬ x3 < 0) : W l Z n m4 0 (entryL [(.ref 1)] 4) [] [.inr (.byte, [(.int (x0)), (.int (x1)), (.int (x2)), (.int (x3)), (.int (x4)), (.int (x5)), (.int (x6)), (.int (x7))]), .inl ("com/example/quiverstore/quiverstore/ByteReader", [(("com/example/quiverstore/quiverstore/ByteReader", "bytes", "[B"), (.ref 0)), (("com/example/quiverstore/quiverstore/ByteReader", "position", "I"), (.int (1)))])] 0 0 (Is (some (.int ((((0 : Int32) ||| ((x1 &&& 127) <<< ((0 : Int32) &&& 31))) ||| ((x2 &&& 127) <<< ((0 + 7) &&& 31))) ||| ((x3 &&& 127) <<< (((0 + 7) + 7) &&& 31))))) [.inr (.byte, [(.int (x0)), (.int (x1)), (.int (x2)), (.int (x3)), (.int (x4)), (.int (x5)), (.int (x6)), (.int (x7))]), .inl ("com/example/quiverstore/quiverstore/ByteReader", [(("com/example/quiverstore/quiverstore/ByteReader", "bytes", "[B"), (.ref 0)), (("com/example/quiverstore/quiverstore/ByteReader", "position", "I"), (.int (((1 + 1) + 1) + 1)))])]) := by
  show W l Z n m4 0 [(.val (.ref 1)), .unset, .unset, .unset] [] [.inr (.byte, [(.int (x0)), (.int (x1)), (.int (x2)), (.int (x3)), (.int (x4)), (.int (x5)), (.int (x6)), (.int (x7))]), .inl ("com/example/quiverstore/quiverstore/ByteReader", [(("com/example/quiverstore/quiverstore/ByteReader", "bytes", "[B"), (.ref 0)), (("com/example/quiverstore/quiverstore/ByteReader", "position", "I"), (.int (1)))])] 0 0 _
  refine W.iconst 0 d4_0 rfl ?_
  refine W.istoreN d4_1 rfl ?_
  refine W.iconst 0 d4_2 rfl ?_
  refine W.istoreN d4_3 rfl ?_
  refine W.aloadN d4_4 rfl rfl ?_
  refine W.getfield 0 d4_5 (hw _ (wd 15 rfl)) rfl rfl ?_
  refine W.aloadN d4_8 rfl rfl ?_
  refine W.dup d4_9 rfl ?_
  refine W.getfield 1 d4_10 (hw _ (wd 17 rfl)) rfl rfl ?_
  refine W.dupX1 d4_13 rfl rfl ?_
  refine W.iconst 1 d4_14 rfl ?_
  refine W.iadd d4_15 ?_
  refine W.putfield 1 d4_16 (hw _ (wd 17 rfl)) rfl rfl (Or.inl (hw _ (wd 18 rfl))) (hw _ (wd 7 rfl)) (ty := .int) (by decide) (fun _ => rfl) (fun _ => rfl) ?_
  refine W.baload (i := 1) d4_19 rfl ⟨by decide, by decide⟩ rfl ?_
  refine W.istoreN d4_20 rfl ?_
  show WB _ l Z n m4 21 [(.val (.ref 1)), (.val (.int (0))), (.val (.int (0))), (.val (.int (x1)))] [] [.inr (.byte, [(.int (x0)), (.int (x1)), (.int (x2)), (.int (x3)), (.int (x4)), (.int (x5)), (.int (x6)), (.int (x7))]), .inl ("com/example/quiverstore/quiverstore/ByteReader", [(("com/example/quiverstore/quiverstore/ByteReader", "bytes", "[B"), (.ref 0)), (("com/example/quiverstore/quiverstore/ByteReader", "position", "I"), (.int (1 + 1)))])] _ _ _
  refine W.iloadN d4_21 rfl ?_
  refine W.iloadN d4_22 rfl ?_
  refine W.bipush 127 d4_23 rfl ?_
  refine W.iand d4_25 ?_
  refine W.iloadN d4_26 rfl ?_
  refine W.ishl d4_27 ?_
  refine W.ior d4_28 ?_
  refine W.istoreN d4_29 rfl ?_
  refine W.iloadN d4_30 rfl ?_
  refine W.if_lt d4_31 (fun h31 => ?_) (fun h => False.elim (h hy_x1))
  refine W.iinc 7 d4_36 rfl rfl ?_
  refine W.goto d4_39 ?_
  refine W.aloadN d4_4 rfl rfl ?_
  refine W.getfield 0 d4_5 (hw _ (wd 15 rfl)) rfl rfl ?_
  refine W.aloadN d4_8 rfl rfl ?_
  refine W.dup d4_9 rfl ?_
  refine W.getfield 1 d4_10 (hw _ (wd 17 rfl)) rfl rfl ?_
  refine W.dupX1 d4_13 rfl rfl ?_
  refine W.iconst 1 d4_14 rfl ?_
  refine W.iadd d4_15 ?_
  refine W.putfield 1 d4_16 (hw _ (wd 17 rfl)) rfl rfl (Or.inl (hw _ (wd 18 rfl))) (hw _ (wd 7 rfl)) (ty := .int) (by decide) (fun _ => rfl) (fun _ => rfl) ?_
  refine W.baload (i := 2) d4_19 rfl ⟨by decide, by decide⟩ rfl ?_
  refine W.istoreN d4_20 rfl ?_
  show WB _ l Z n m4 21 [(.val (.ref 1)), (.val (.int ((0 : Int32) ||| ((x1 &&& 127) <<< ((0 : Int32) &&& 31))))), (.val (.int (0 + 7))), (.val (.int (x2)))] [] [.inr (.byte, [(.int (x0)), (.int (x1)), (.int (x2)), (.int (x3)), (.int (x4)), (.int (x5)), (.int (x6)), (.int (x7))]), .inl ("com/example/quiverstore/quiverstore/ByteReader", [(("com/example/quiverstore/quiverstore/ByteReader", "bytes", "[B"), (.ref 0)), (("com/example/quiverstore/quiverstore/ByteReader", "position", "I"), (.int ((1 + 1) + 1)))])] _ _ _
  refine W.iloadN d4_21 rfl ?_
  refine W.iloadN d4_22 rfl ?_
  refine W.bipush 127 d4_23 rfl ?_
  refine W.iand d4_25 ?_
  refine W.iloadN d4_26 rfl ?_
  refine W.ishl d4_27 ?_
  refine W.ior d4_28 ?_
  refine W.istoreN d4_29 rfl ?_
  refine W.iloadN d4_30 rfl ?_
  refine W.if_lt d4_31 (fun h31 => ?_) (fun h => False.elim (h hy_x2))
  refine W.iinc 7 d4_36 rfl rfl ?_
  refine W.goto d4_39 ?_
  refine W.aloadN d4_4 rfl rfl ?_
  refine W.getfield 0 d4_5 (hw _ (wd 15 rfl)) rfl rfl ?_
  refine W.aloadN d4_8 rfl rfl ?_
  refine W.dup d4_9 rfl ?_
  refine W.getfield 1 d4_10 (hw _ (wd 17 rfl)) rfl rfl ?_
  refine W.dupX1 d4_13 rfl rfl ?_
  refine W.iconst 1 d4_14 rfl ?_
  refine W.iadd d4_15 ?_
  refine W.putfield 1 d4_16 (hw _ (wd 17 rfl)) rfl rfl (Or.inl (hw _ (wd 18 rfl))) (hw _ (wd 7 rfl)) (ty := .int) (by decide) (fun _ => rfl) (fun _ => rfl) ?_
  refine W.baload (i := 3) d4_19 rfl ⟨by decide, by decide⟩ rfl ?_
  refine W.istoreN d4_20 rfl ?_
  show WB _ l Z n m4 21 [(.val (.ref 1)), (.val (.int (((0 : Int32) ||| ((x1 &&& 127) <<< ((0 : Int32) &&& 31))) ||| ((x2 &&& 127) <<< ((0 + 7) &&& 31))))), (.val (.int ((0 + 7) + 7))), (.val (.int (x3)))] [] [.inr (.byte, [(.int (x0)), (.int (x1)), (.int (x2)), (.int (x3)), (.int (x4)), (.int (x5)), (.int (x6)), (.int (x7))]), .inl ("com/example/quiverstore/quiverstore/ByteReader", [(("com/example/quiverstore/quiverstore/ByteReader", "bytes", "[B"), (.ref 0)), (("com/example/quiverstore/quiverstore/ByteReader", "position", "I"), (.int (((1 + 1) + 1) + 1)))])] _ _ _
  refine W.iloadN d4_21 rfl ?_
  refine W.iloadN d4_22 rfl ?_
  refine W.bipush 127 d4_23 rfl ?_
  refine W.iand d4_25 ?_
  refine W.iloadN d4_26 rfl ?_
  refine W.ishl d4_27 ?_
  refine W.ior d4_28 ?_
  refine W.istoreN d4_29 rfl ?_
  refine W.iloadN d4_30 rfl ?_
  refine W.if_lt d4_31 (fun h => False.elim (hy_x3 h)) (fun h31 => ?_)
  refine W.iloadN d4_34 rfl ?_
  exact W.ireturn d4_35 rfl (by decide) (by decide) (⟨rfl, rfl⟩)
set_option maxRecDepth 65536 in
set_option maxHeartbeats 40000000 in
theorem c4_30 {l : Launch} {Z : State} {a0 : Array Value} {n : Nat} (hw : ∀ d ∈ tables_1, d.before a0 Z = true) (x0 : Int32) (x1 : Int32) (x2 : Int32) (x3 : Int32) (x4 : Int32) (x5 : Int32) (x6 : Int32) (x7 : Int32) (hy_x2 : x2 < 0) (hy_x3 : x3 < 0) (hy_x4 : ¬ x4 < 0) : W l Z n m4 0 (entryL [(.ref 1)] 4) [] [.inr (.byte, [(.int (x0)), (.int (x1)), (.int (x2)), (.int (x3)), (.int (x4)), (.int (x5)), (.int (x6)), (.int (x7))]), .inl ("com/example/quiverstore/quiverstore/ByteReader", [(("com/example/quiverstore/quiverstore/ByteReader", "bytes", "[B"), (.ref 0)), (("com/example/quiverstore/quiverstore/ByteReader", "position", "I"), (.int (2)))])] 0 0 (Is (some (.int ((((0 : Int32) ||| ((x2 &&& 127) <<< ((0 : Int32) &&& 31))) ||| ((x3 &&& 127) <<< ((0 + 7) &&& 31))) ||| ((x4 &&& 127) <<< (((0 + 7) + 7) &&& 31))))) [.inr (.byte, [(.int (x0)), (.int (x1)), (.int (x2)), (.int (x3)), (.int (x4)), (.int (x5)), (.int (x6)), (.int (x7))]), .inl ("com/example/quiverstore/quiverstore/ByteReader", [(("com/example/quiverstore/quiverstore/ByteReader", "bytes", "[B"), (.ref 0)), (("com/example/quiverstore/quiverstore/ByteReader", "position", "I"), (.int (((2 + 1) + 1) + 1)))])]) := by
  show W l Z n m4 0 [(.val (.ref 1)), .unset, .unset, .unset] [] [.inr (.byte, [(.int (x0)), (.int (x1)), (.int (x2)), (.int (x3)), (.int (x4)), (.int (x5)), (.int (x6)), (.int (x7))]), .inl ("com/example/quiverstore/quiverstore/ByteReader", [(("com/example/quiverstore/quiverstore/ByteReader", "bytes", "[B"), (.ref 0)), (("com/example/quiverstore/quiverstore/ByteReader", "position", "I"), (.int (2)))])] 0 0 _
  refine W.iconst 0 d4_0 rfl ?_
  refine W.istoreN d4_1 rfl ?_
  refine W.iconst 0 d4_2 rfl ?_
  refine W.istoreN d4_3 rfl ?_
  refine W.aloadN d4_4 rfl rfl ?_
  refine W.getfield 0 d4_5 (hw _ (wd 15 rfl)) rfl rfl ?_
  refine W.aloadN d4_8 rfl rfl ?_
  refine W.dup d4_9 rfl ?_
  refine W.getfield 1 d4_10 (hw _ (wd 17 rfl)) rfl rfl ?_
  refine W.dupX1 d4_13 rfl rfl ?_
  refine W.iconst 1 d4_14 rfl ?_
  refine W.iadd d4_15 ?_
  refine W.putfield 1 d4_16 (hw _ (wd 17 rfl)) rfl rfl (Or.inl (hw _ (wd 18 rfl))) (hw _ (wd 7 rfl)) (ty := .int) (by decide) (fun _ => rfl) (fun _ => rfl) ?_
  refine W.baload (i := 2) d4_19 rfl ⟨by decide, by decide⟩ rfl ?_
  refine W.istoreN d4_20 rfl ?_
  show WB _ l Z n m4 21 [(.val (.ref 1)), (.val (.int (0))), (.val (.int (0))), (.val (.int (x2)))] [] [.inr (.byte, [(.int (x0)), (.int (x1)), (.int (x2)), (.int (x3)), (.int (x4)), (.int (x5)), (.int (x6)), (.int (x7))]), .inl ("com/example/quiverstore/quiverstore/ByteReader", [(("com/example/quiverstore/quiverstore/ByteReader", "bytes", "[B"), (.ref 0)), (("com/example/quiverstore/quiverstore/ByteReader", "position", "I"), (.int (2 + 1)))])] _ _ _
  refine W.iloadN d4_21 rfl ?_
  refine W.iloadN d4_22 rfl ?_
  refine W.bipush 127 d4_23 rfl ?_
  refine W.iand d4_25 ?_
  refine W.iloadN d4_26 rfl ?_
  refine W.ishl d4_27 ?_
  refine W.ior d4_28 ?_
  refine W.istoreN d4_29 rfl ?_
  refine W.iloadN d4_30 rfl ?_
  refine W.if_lt d4_31 (fun h31 => ?_) (fun h => False.elim (h hy_x2))
  refine W.iinc 7 d4_36 rfl rfl ?_
  refine W.goto d4_39 ?_
  refine W.aloadN d4_4 rfl rfl ?_
  refine W.getfield 0 d4_5 (hw _ (wd 15 rfl)) rfl rfl ?_
  refine W.aloadN d4_8 rfl rfl ?_
  refine W.dup d4_9 rfl ?_
  refine W.getfield 1 d4_10 (hw _ (wd 17 rfl)) rfl rfl ?_
  refine W.dupX1 d4_13 rfl rfl ?_
  refine W.iconst 1 d4_14 rfl ?_
  refine W.iadd d4_15 ?_
  refine W.putfield 1 d4_16 (hw _ (wd 17 rfl)) rfl rfl (Or.inl (hw _ (wd 18 rfl))) (hw _ (wd 7 rfl)) (ty := .int) (by decide) (fun _ => rfl) (fun _ => rfl) ?_
  refine W.baload (i := 3) d4_19 rfl ⟨by decide, by decide⟩ rfl ?_
  refine W.istoreN d4_20 rfl ?_
  show WB _ l Z n m4 21 [(.val (.ref 1)), (.val (.int ((0 : Int32) ||| ((x2 &&& 127) <<< ((0 : Int32) &&& 31))))), (.val (.int (0 + 7))), (.val (.int (x3)))] [] [.inr (.byte, [(.int (x0)), (.int (x1)), (.int (x2)), (.int (x3)), (.int (x4)), (.int (x5)), (.int (x6)), (.int (x7))]), .inl ("com/example/quiverstore/quiverstore/ByteReader", [(("com/example/quiverstore/quiverstore/ByteReader", "bytes", "[B"), (.ref 0)), (("com/example/quiverstore/quiverstore/ByteReader", "position", "I"), (.int ((2 + 1) + 1)))])] _ _ _
  refine W.iloadN d4_21 rfl ?_
  refine W.iloadN d4_22 rfl ?_
  refine W.bipush 127 d4_23 rfl ?_
  refine W.iand d4_25 ?_
  refine W.iloadN d4_26 rfl ?_
  refine W.ishl d4_27 ?_
  refine W.ior d4_28 ?_
  refine W.istoreN d4_29 rfl ?_
  refine W.iloadN d4_30 rfl ?_
  refine W.if_lt d4_31 (fun h31 => ?_) (fun h => False.elim (h hy_x3))
  refine W.iinc 7 d4_36 rfl rfl ?_
  refine W.goto d4_39 ?_
  refine W.aloadN d4_4 rfl rfl ?_
  refine W.getfield 0 d4_5 (hw _ (wd 15 rfl)) rfl rfl ?_
  refine W.aloadN d4_8 rfl rfl ?_
  refine W.dup d4_9 rfl ?_
  refine W.getfield 1 d4_10 (hw _ (wd 17 rfl)) rfl rfl ?_
  refine W.dupX1 d4_13 rfl rfl ?_
  refine W.iconst 1 d4_14 rfl ?_
  refine W.iadd d4_15 ?_
  refine W.putfield 1 d4_16 (hw _ (wd 17 rfl)) rfl rfl (Or.inl (hw _ (wd 18 rfl))) (hw _ (wd 7 rfl)) (ty := .int) (by decide) (fun _ => rfl) (fun _ => rfl) ?_
  refine W.baload (i := 4) d4_19 rfl ⟨by decide, by decide⟩ rfl ?_
  refine W.istoreN d4_20 rfl ?_
  show WB _ l Z n m4 21 [(.val (.ref 1)), (.val (.int (((0 : Int32) ||| ((x2 &&& 127) <<< ((0 : Int32) &&& 31))) ||| ((x3 &&& 127) <<< ((0 + 7) &&& 31))))), (.val (.int ((0 + 7) + 7))), (.val (.int (x4)))] [] [.inr (.byte, [(.int (x0)), (.int (x1)), (.int (x2)), (.int (x3)), (.int (x4)), (.int (x5)), (.int (x6)), (.int (x7))]), .inl ("com/example/quiverstore/quiverstore/ByteReader", [(("com/example/quiverstore/quiverstore/ByteReader", "bytes", "[B"), (.ref 0)), (("com/example/quiverstore/quiverstore/ByteReader", "position", "I"), (.int (((2 + 1) + 1) + 1)))])] _ _ _
  refine W.iloadN d4_21 rfl ?_
  refine W.iloadN d4_22 rfl ?_
  refine W.bipush 127 d4_23 rfl ?_
  refine W.iand d4_25 ?_
  refine W.iloadN d4_26 rfl ?_
  refine W.ishl d4_27 ?_
  refine W.ior d4_28 ?_
  refine W.istoreN d4_29 rfl ?_
  refine W.iloadN d4_30 rfl ?_
  refine W.if_lt d4_31 (fun h => False.elim (hy_x4 h)) (fun h31 => ?_)
  refine W.iloadN d4_34 rfl ?_
  exact W.ireturn d4_35 rfl (by decide) (by decide) (⟨rfl, rfl⟩)
set_option maxRecDepth 65536 in
set_option maxHeartbeats 40000000 in
theorem c5_31 {l : Launch} {Z : State} {a0 : Array Value} {n : Nat} (hw : ∀ d ∈ tables_1, d.before a0 Z = true) (x0 : Int32) (x1 : Int32) (x2 : Int32) (x3 : Int32) (x4 : Int32) (x5 : Int32) (x6 : Int32) (x7 : Int32) : W l Z n m5 0 (entryL [(.ref 1)] 1) [] [.inr (.byte, [(.int (x0)), (.int (x1)), (.int (x2)), (.int (x3)), (.int (x4)), (.int (x5)), (.int (x6)), (.int (x7))]), .inl ("com/example/quiverstore/quiverstore/ByteReader", [(("com/example/quiverstore/quiverstore/ByteReader", "bytes", "[B"), (.ref 0)), (("com/example/quiverstore/quiverstore/ByteReader", "position", "I"), (.int (5)))])] 0 0 (Is (some (.int (nar .byte x5))) [.inr (.byte, [(.int (x0)), (.int (x1)), (.int (x2)), (.int (x3)), (.int (x4)), (.int (x5)), (.int (x6)), (.int (x7))]), .inl ("com/example/quiverstore/quiverstore/ByteReader", [(("com/example/quiverstore/quiverstore/ByteReader", "bytes", "[B"), (.ref 0)), (("com/example/quiverstore/quiverstore/ByteReader", "position", "I"), (.int (5 + 1)))])]) := by
  show W l Z n m5 0 [(.val (.ref 1))] [] [.inr (.byte, [(.int (x0)), (.int (x1)), (.int (x2)), (.int (x3)), (.int (x4)), (.int (x5)), (.int (x6)), (.int (x7))]), .inl ("com/example/quiverstore/quiverstore/ByteReader", [(("com/example/quiverstore/quiverstore/ByteReader", "bytes", "[B"), (.ref 0)), (("com/example/quiverstore/quiverstore/ByteReader", "position", "I"), (.int (5)))])] 0 0 _
  refine W.aloadN d5_0 rfl rfl ?_
  refine W.getfield 0 d5_1 (hw _ (wd 15 rfl)) rfl rfl ?_
  refine W.aloadN d5_4 rfl rfl ?_
  refine W.dup d5_5 rfl ?_
  refine W.getfield 1 d5_6 (hw _ (wd 17 rfl)) rfl rfl ?_
  refine W.dupX1 d5_9 rfl rfl ?_
  refine W.iconst 1 d5_10 rfl ?_
  refine W.iadd d5_11 ?_
  refine W.putfield 1 d5_12 (hw _ (wd 17 rfl)) rfl rfl (Or.inl (hw _ (wd 18 rfl))) (hw _ (wd 7 rfl)) (ty := .int) (by decide) (fun _ => rfl) (fun _ => rfl) ?_
  refine W.baload (i := 5) d5_15 rfl ⟨by decide, by decide⟩ rfl ?_
  exact W.nreturn .byte d5_16 rfl (by simp) (by decide) (by decide) (⟨rfl, rfl⟩)
set_option maxRecDepth 65536 in
set_option maxHeartbeats 40000000 in
theorem c1_32 {l : Launch} {Z : State} {a0 : Array Value} {n : Nat} (hw : ∀ d ∈ tables_1, d.before a0 Z = true) (x0 : Int64) : W l Z n m1 0 (entryL [(.long (x0)), (.int (0)), (.int (4))] 5) [] [] 0 0 (Is (some (.int ((((XT.ushrL x0 (8 * 0)).toInt32) &&& 255) ||| 128))) []) := by
  show W l Z n m1 0 [(.val (.long (x0))), .second, (.val (.int (0))), (.val (.int (4))), .unset] [] [] 0 0 _
  refine W.lloadN d1_0 rfl ?_
  refine W.bipush 8 d1_1 rfl ?_
  refine W.iloadN d1_3 rfl ?_
  refine W.imul d1_4 ?_
  refine W.lushr d1_5 ?_
  refine W.l2i d1_6 ?_
  refine W.sipush 255 d1_7 rfl ?_
  refine W.iand d1_10 ?_
  refine W.istore d1_11 rfl ?_
  refine W.iloadN d1_13 rfl ?_
  refine W.iloadN d1_14 rfl ?_
  refine W.iconst 1 d1_15 rfl ?_
  refine W.isub d1_16 ?_
  refine W.icmp_ge d1_17 (fun h => False.elim (by revert h; decide)) (fun h17 => ?_)
  refine W.iload d1_20 rfl ?_
  refine W.sipush 128 d1_22 rfl ?_
  refine W.ior d1_25 ?_
  exact W.ireturn d1_26 rfl (by decide) (by decide) (⟨rfl, rfl⟩)
set_option maxRecDepth 65536 in
set_option maxHeartbeats 40000000 in
theorem c1_33 {l : Launch} {Z : State} {a0 : Array Value} {n : Nat} (hw : ∀ d ∈ tables_1, d.before a0 Z = true) (x0 : Int64) : W l Z n m1 0 (entryL [(.long (x0)), (.int (1)), (.int (4))] 5) [] [] 0 0 (Is (some (.int ((((XT.ushrL x0 (8 * 1)).toInt32) &&& 255) ||| 128))) []) := by
  show W l Z n m1 0 [(.val (.long (x0))), .second, (.val (.int (1))), (.val (.int (4))), .unset] [] [] 0 0 _
  refine W.lloadN d1_0 rfl ?_
  refine W.bipush 8 d1_1 rfl ?_
  refine W.iloadN d1_3 rfl ?_
  refine W.imul d1_4 ?_
  refine W.lushr d1_5 ?_
  refine W.l2i d1_6 ?_
  refine W.sipush 255 d1_7 rfl ?_
  refine W.iand d1_10 ?_
  refine W.istore d1_11 rfl ?_
  refine W.iloadN d1_13 rfl ?_
  refine W.iloadN d1_14 rfl ?_
  refine W.iconst 1 d1_15 rfl ?_
  refine W.isub d1_16 ?_
  refine W.icmp_ge d1_17 (fun h => False.elim (by revert h; decide)) (fun h17 => ?_)
  refine W.iload d1_20 rfl ?_
  refine W.sipush 128 d1_22 rfl ?_
  refine W.ior d1_25 ?_
  exact W.ireturn d1_26 rfl (by decide) (by decide) (⟨rfl, rfl⟩)
set_option maxRecDepth 65536 in
set_option maxHeartbeats 40000000 in
theorem c1_34 {l : Launch} {Z : State} {a0 : Array Value} {n : Nat} (hw : ∀ d ∈ tables_1, d.before a0 Z = true) (x0 : Int64) : W l Z n m1 0 (entryL [(.long (x0)), (.int (2)), (.int (4))] 5) [] [] 0 0 (Is (some (.int ((((XT.ushrL x0 (8 * 2)).toInt32) &&& 255) ||| 128))) []) := by
  show W l Z n m1 0 [(.val (.long (x0))), .second, (.val (.int (2))), (.val (.int (4))), .unset] [] [] 0 0 _
  refine W.lloadN d1_0 rfl ?_
  refine W.bipush 8 d1_1 rfl ?_
  refine W.iloadN d1_3 rfl ?_
  refine W.imul d1_4 ?_
  refine W.lushr d1_5 ?_
  refine W.l2i d1_6 ?_
  refine W.sipush 255 d1_7 rfl ?_
  refine W.iand d1_10 ?_
  refine W.istore d1_11 rfl ?_
  refine W.iloadN d1_13 rfl ?_
  refine W.iloadN d1_14 rfl ?_
  refine W.iconst 1 d1_15 rfl ?_
  refine W.isub d1_16 ?_
  refine W.icmp_ge d1_17 (fun h => False.elim (by revert h; decide)) (fun h17 => ?_)
  refine W.iload d1_20 rfl ?_
  refine W.sipush 128 d1_22 rfl ?_
  refine W.ior d1_25 ?_
  exact W.ireturn d1_26 rfl (by decide) (by decide) (⟨rfl, rfl⟩)
set_option maxRecDepth 65536 in
set_option maxHeartbeats 40000000 in
theorem c1_35 {l : Launch} {Z : State} {a0 : Array Value} {n : Nat} (hw : ∀ d ∈ tables_1, d.before a0 Z = true) (x0 : Int64) : W l Z n m1 0 (entryL [(.long (x0)), (.int (3)), (.int (4))] 5) [] [] 0 0 (Is (some (.int ((((XT.ushrL x0 (8 * 3)).toInt32) &&& 255) &&& 127))) []) := by
  show W l Z n m1 0 [(.val (.long (x0))), .second, (.val (.int (3))), (.val (.int (4))), .unset] [] [] 0 0 _
  refine W.lloadN d1_0 rfl ?_
  refine W.bipush 8 d1_1 rfl ?_
  refine W.iloadN d1_3 rfl ?_
  refine W.imul d1_4 ?_
  refine W.lushr d1_5 ?_
  refine W.l2i d1_6 ?_
  refine W.sipush 255 d1_7 rfl ?_
  refine W.iand d1_10 ?_
  refine W.istore d1_11 rfl ?_
  refine W.iloadN d1_13 rfl ?_
  refine W.iloadN d1_14 rfl ?_
  refine W.iconst 1 d1_15 rfl ?_
  refine W.isub d1_16 ?_
  refine W.icmp_ge d1_17 (fun h17 => ?_) (fun h => False.elim (by revert h; decide))
  refine W.iload d1_27 rfl ?_
  refine W.bipush 127 d1_29 rfl ?_
  refine W.iand d1_31 ?_
  exact W.ireturn d1_32 rfl (by decide) (by decide) (⟨rfl, rfl⟩)
set_option maxRecDepth 65536 in
set_option maxHeartbeats 40000000 in
theorem c1_36 {l : Launch} {Z : State} {a0 : Array Value} {n : Nat} (hw : ∀ d ∈ tables_1, d.before a0 Z = true) (x0 : Int64) : W l Z n m1 0 (entryL [(.long (x0)), (.int (4)), (.int (4))] 5) [] [] 0 0 (Is (some (.int ((((XT.ushrL x0 (8 * 4)).toInt32) &&& 255) &&& 127))) []) := by
  show W l Z n m1 0 [(.val (.long (x0))), .second, (.val (.int (4))), (.val (.int (4))), .unset] [] [] 0 0 _
  refine W.lloadN d1_0 rfl ?_
  refine W.bipush 8 d1_1 rfl ?_
  refine W.iloadN d1_3 rfl ?_
  refine W.imul d1_4 ?_
  refine W.lushr d1_5 ?_
  refine W.l2i d1_6 ?_
  refine W.sipush 255 d1_7 rfl ?_
  refine W.iand d1_10 ?_
  refine W.istore d1_11 rfl ?_
  refine W.iloadN d1_13 rfl ?_
  refine W.iloadN d1_14 rfl ?_
  refine W.iconst 1 d1_15 rfl ?_
  refine W.isub d1_16 ?_
  refine W.icmp_ge d1_17 (fun h17 => ?_) (fun h => False.elim (by revert h; decide))
  refine W.iload d1_27 rfl ?_
  refine W.bipush 127 d1_29 rfl ?_
  refine W.iand d1_31 ?_
  exact W.ireturn d1_32 rfl (by decide) (by decide) (⟨rfl, rfl⟩)
set_option maxRecDepth 65536 in
set_option maxHeartbeats 40000000 in
theorem c4_37 {l : Launch} {Z : State} {a0 : Array Value} {n : Nat} (hw : ∀ d ∈ tables_1, d.before a0 Z = true) (x0 : Int32) (x1 : Int32) (x2 : Int32) (x3 : Int32) (x4 : Int32) (x5 : Int32) (x6 : Int32) (x7 : Int32) (hy_x0 : x0 < 0) (hy_x1 : x1 < 0) (hy_x2 : x2 < 0) (hy_x3 : ¬ x3 < 0) : W l Z n m4 0 (entryL [(.ref 1)] 4) [] [.inr (.byte, [(.int (x0)), (.int (x1)), (.int (x2)), (.int (x3)), (.int (x4)), (.int (x5)), (.int (x6)), (.int (x7))]), .inl ("com/example/quiverstore/quiverstore/ByteReader", [(("com/example/quiverstore/quiverstore/ByteReader", "bytes", "[B"), (.ref 0)), (("com/example/quiverstore/quiverstore/ByteReader", "position", "I"), (.int (0)))])] 0 0 (Is (some (.int (((((0 : Int32) ||| ((x0 &&& 127) <<< ((0 : Int32) &&& 31))) ||| ((x1 &&& 127) <<< ((0 + 7) &&& 31))) ||| ((x2 &&& 127) <<< (((0 + 7) + 7) &&& 31))) ||| ((x3 &&& 127) <<< ((((0 + 7) + 7) + 7) &&& 31))))) [.inr (.byte, [(.int (x0)), (.int (x1)), (.int (x2)), (.int (x3)), (.int (x4)), (.int (x5)), (.int (x6)), (.int (x7))]), .inl ("com/example/quiverstore/quiverstore/ByteReader", [(("com/example/quiverstore/quiverstore/ByteReader", "bytes", "[B"), (.ref 0)), (("com/example/quiverstore/quiverstore/ByteReader", "position", "I"), (.int ((((0 + 1) + 1) + 1) + 1)))])]) := by
  show W l Z n m4 0 [(.val (.ref 1)), .unset, .unset, .unset] [] [.inr (.byte, [(.int (x0)), (.int (x1)), (.int (x2)), (.int (x3)), (.int (x4)), (.int (x5)), (.int (x6)), (.int (x7))]), .inl ("com/example/quiverstore/quiverstore/ByteReader", [(("com/example/quiverstore/quiverstore/ByteReader", "bytes", "[B"), (.ref 0)), (("com/example/quiverstore/quiverstore/ByteReader", "position", "I"), (.int (0)))])] 0 0 _
  refine W.iconst 0 d4_0 rfl ?_
  refine W.istoreN d4_1 rfl ?_
  refine W.iconst 0 d4_2 rfl ?_
  refine W.istoreN d4_3 rfl ?_
  refine W.aloadN d4_4 rfl rfl ?_
  refine W.getfield 0 d4_5 (hw _ (wd 15 rfl)) rfl rfl ?_
  refine W.aloadN d4_8 rfl rfl ?_
  refine W.dup d4_9 rfl ?_
  refine W.getfield 1 d4_10 (hw _ (wd 17 rfl)) rfl rfl ?_
  refine W.dupX1 d4_13 rfl rfl ?_
  refine W.iconst 1 d4_14 rfl ?_
  refine W.iadd d4_15 ?_
  refine W.putfield 1 d4_16 (hw _ (wd 17 rfl)) rfl rfl (Or.inl (hw _ (wd 18 rfl))) (hw _ (wd 7 rfl)) (ty := .int) (by decide) (fun _ => rfl) (fun _ => rfl) ?_
  refine W.baload (i := 0) d4_19 rfl ⟨by decide, by decide⟩ rfl ?_
  refine W.istoreN d4_20 rfl ?_
  show WB _ l Z n m4 21 [(.val (.ref 1)), (.val (.int (0))), (.val (.int (0))), (.val (.int (x0)))] [] [.inr (.byte, [(.int (x0)), (.int (x1)), (.int (x2)), (.int (x3)), (.int (x4)), (.int (x5)), (.int (x6)), (.int (x7))]), .inl ("com/example/quiverstore/quiverstore/ByteReader", [(("com/example/quiverstore/quiverstore/ByteReader", "bytes", "[B"), (.ref 0)), (("com/example/quiverstore/quiverstore/ByteReader", "position", "I"), (.int (0 + 1)))])] _ _ _
  refine W.iloadN d4_21 rfl ?_
  refine W.iloadN d4_22 rfl ?_
  refine W.bipush 127 d4_23 rfl ?_
  refine W.iand d4_25 ?_
  refine W.iloadN d4_26 rfl ?_
  refine W.ishl d4_27 ?_
  refine W.ior d4_28 ?_
  refine W.istoreN d4_29 rfl ?_
  refine W.iloadN d4_30 rfl ?_
  refine W.if_lt d4_31 (fun h31 => ?_) (fun h => False.elim (h hy_x0))
  refine W.iinc 7 d4_36 rfl rfl ?_
  refine W.goto d4_39 ?_
  refine W.aloadN d4_4 rfl rfl ?_
  refine W.getfield 0 d4_5 (hw _ (wd 15 rfl)) rfl rfl ?_
  refine W.aloadN d4_8 rfl rfl ?_
  refine W.dup d4_9 rfl ?_
  refine W.getfield 1 d4_10 (hw _ (wd 17 rfl)) rfl rfl ?_
  refine W.dupX1 d4_13 rfl rfl ?_
  refine W.iconst 1 d4_14 rfl ?_
  refine W.iadd d4_15 ?_
  refine W.putfield 1 d4_16 (hw _ (wd 17 rfl)) rfl rfl (Or.inl (hw _ (wd 18 rfl))) (hw _ (wd 7 rfl)) (ty := .int) (by decide) (fun _ => rfl) (fun _ => rfl) ?_
  refine W.baload (i := 1) d4_19 rfl ⟨by decide, by decide⟩ rfl ?_
  refine W.istoreN d4_20 rfl ?_
  show WB _ l Z n m4 21 [(.val (.ref 1)), (.val (.int ((0 : Int32) ||| ((x0 &&& 127) <<< ((0 : Int32) &&& 31))))), (.val (.int (0 + 7))), (.val (.int (x1)))] [] [.inr (.byte, [(.int (x0)), (.int (x1)), (.int (x2)), (.int (x3)), (.int (x4)), (.int (x5)), (.int (x6)), (.int (x7))]), .inl ("com/example/quiverstore/quiverstore/ByteReader", [(("com/example/quiverstore/quiverstore/ByteReader", "bytes", "[B"), (.ref 0)), (("com/example/quiverstore/quiverstore/ByteReader", "position", "I"), (.int ((0 + 1) + 1)))])] _ _ _
  refine W.iloadN d4_21 rfl ?_
  refine W.iloadN d4_22 rfl ?_
  refine W.bipush 127 d4_23 rfl ?_
  refine W.iand d4_25 ?_
  refine W.iloadN d4_26 rfl ?_
  refine W.ishl d4_27 ?_
  refine W.ior d4_28 ?_
  refine W.istoreN d4_29 rfl ?_
  refine W.iloadN d4_30 rfl ?_
  refine W.if_lt d4_31 (fun h31 => ?_) (fun h => False.elim (h hy_x1))
  refine W.iinc 7 d4_36 rfl rfl ?_
  refine W.goto d4_39 ?_
  refine W.aloadN d4_4 rfl rfl ?_
  refine W.getfield 0 d4_5 (hw _ (wd 15 rfl)) rfl rfl ?_
  refine W.aloadN d4_8 rfl rfl ?_
  refine W.dup d4_9 rfl ?_
  refine W.getfield 1 d4_10 (hw _ (wd 17 rfl)) rfl rfl ?_
  refine W.dupX1 d4_13 rfl rfl ?_
  refine W.iconst 1 d4_14 rfl ?_
  refine W.iadd d4_15 ?_
  refine W.putfield 1 d4_16 (hw _ (wd 17 rfl)) rfl rfl (Or.inl (hw _ (wd 18 rfl))) (hw _ (wd 7 rfl)) (ty := .int) (by decide) (fun _ => rfl) (fun _ => rfl) ?_
  refine W.baload (i := 2) d4_19 rfl ⟨by decide, by decide⟩ rfl ?_
  refine W.istoreN d4_20 rfl ?_
  show WB _ l Z n m4 21 [(.val (.ref 1)), (.val (.int (((0 : Int32) ||| ((x0 &&& 127) <<< ((0 : Int32) &&& 31))) ||| ((x1 &&& 127) <<< ((0 + 7) &&& 31))))), (.val (.int ((0 + 7) + 7))), (.val (.int (x2)))] [] [.inr (.byte, [(.int (x0)), (.int (x1)), (.int (x2)), (.int (x3)), (.int (x4)), (.int (x5)), (.int (x6)), (.int (x7))]), .inl ("com/example/quiverstore/quiverstore/ByteReader", [(("com/example/quiverstore/quiverstore/ByteReader", "bytes", "[B"), (.ref 0)), (("com/example/quiverstore/quiverstore/ByteReader", "position", "I"), (.int (((0 + 1) + 1) + 1)))])] _ _ _
  refine W.iloadN d4_21 rfl ?_
  refine W.iloadN d4_22 rfl ?_
  refine W.bipush 127 d4_23 rfl ?_
  refine W.iand d4_25 ?_
  refine W.iloadN d4_26 rfl ?_
  refine W.ishl d4_27 ?_
  refine W.ior d4_28 ?_
  refine W.istoreN d4_29 rfl ?_
  refine W.iloadN d4_30 rfl ?_
  refine W.if_lt d4_31 (fun h31 => ?_) (fun h => False.elim (h hy_x2))
  refine W.iinc 7 d4_36 rfl rfl ?_
  refine W.goto d4_39 ?_
  refine W.aloadN d4_4 rfl rfl ?_
  refine W.getfield 0 d4_5 (hw _ (wd 15 rfl)) rfl rfl ?_
  refine W.aloadN d4_8 rfl rfl ?_
  refine W.dup d4_9 rfl ?_
  refine W.getfield 1 d4_10 (hw _ (wd 17 rfl)) rfl rfl ?_
  refine W.dupX1 d4_13 rfl rfl ?_
  refine W.iconst 1 d4_14 rfl ?_
  refine W.iadd d4_15 ?_
  refine W.putfield 1 d4_16 (hw _ (wd 17 rfl)) rfl rfl (Or.inl (hw _ (wd 18 rfl))) (hw _ (wd 7 rfl)) (ty := .int) (by decide) (fun _ => rfl) (fun _ => rfl) ?_
  refine W.baload (i := 3) d4_19 rfl ⟨by decide, by decide⟩ rfl ?_
  refine W.istoreN d4_20 rfl ?_
  show WB _ l Z n m4 21 [(.val (.ref 1)), (.val (.int ((((0 : Int32) ||| ((x0 &&& 127) <<< ((0 : Int32) &&& 31))) ||| ((x1 &&& 127) <<< ((0 + 7) &&& 31))) ||| ((x2 &&& 127) <<< (((0 + 7) + 7) &&& 31))))), (.val (.int (((0 + 7) + 7) + 7))), (.val (.int (x3)))] [] [.inr (.byte, [(.int (x0)), (.int (x1)), (.int (x2)), (.int (x3)), (.int (x4)), (.int (x5)), (.int (x6)), (.int (x7))]), .inl ("com/example/quiverstore/quiverstore/ByteReader", [(("com/example/quiverstore/quiverstore/ByteReader", "bytes", "[B"), (.ref 0)), (("com/example/quiverstore/quiverstore/ByteReader", "position", "I"), (.int ((((0 + 1) + 1) + 1) + 1)))])] _ _ _
  refine W.iloadN d4_21 rfl ?_
  refine W.iloadN d4_22 rfl ?_
  refine W.bipush 127 d4_23 rfl ?_
  refine W.iand d4_25 ?_
  refine W.iloadN d4_26 rfl ?_
  refine W.ishl d4_27 ?_
  refine W.ior d4_28 ?_
  refine W.istoreN d4_29 rfl ?_
  refine W.iloadN d4_30 rfl ?_
  refine W.if_lt d4_31 (fun h => False.elim (hy_x3 h)) (fun h31 => ?_)
  refine W.iloadN d4_34 rfl ?_
  exact W.ireturn d4_35 rfl (by decide) (by decide) (⟨rfl, rfl⟩)
set_option maxRecDepth 65536 in
set_option maxHeartbeats 40000000 in
theorem c4_38 {l : Launch} {Z : State} {a0 : Array Value} {n : Nat} (hw : ∀ d ∈ tables_1, d.before a0 Z = true) (x0 : Int32) (x1 : Int32) (x2 : Int32) (x3 : Int32) (x4 : Int32) (x5 : Int32) (x6 : Int32) (x7 : Int32) (hy_x1 : x1 < 0) (hy_x2 : x2 < 0) (hy_x3 : x3 < 0) (hy_x4 : ¬ x4 < 0) : W l Z n m4 0 (entryL [(.ref 1)] 4) [] [.inr (.byte, [(.int (x0)), (.int (x1)), (.int (x2)), (.int (x3)), (.int (x4)), (.int (x5)), (.int (x6)), (.int (x7))]), .inl ("com/example/quiverstore/quiverstore/ByteReader", [(("com/example/quiverstore/quiverstore/ByteReader", "bytes", "[B"), (.ref 0)), (("com/example/quiverstore/quiverstore/ByteReader", "position", "I"), (.int (1)))])] 0 0 (Is (some (.int (((((0 : Int32) ||| ((x1 &&& 127) <<< ((0 : Int32) &&& 31))) ||| ((x2 &&& 127) <<< ((0 + 7) &&& 31))) ||| ((x3 &&& 127) <<< (((0 + 7) + 7) &&& 31))) ||| ((x4 &&& 127) <<< ((((0 + 7) + 7) + 7) &&& 31))))) [.inr (.byte, [(.int (x0)), (.int (x1)), (.int (x2)), (.int (x3)), (.int (x4)), (.int (x5)), (.int (x6)), (.int (x7))]), .inl ("com/example/quiverstore/quiverstore/ByteReader", [(("com/example/quiverstore/quiverstore/ByteReader", "bytes", "[B"), (.ref 0)), (("com/example/quiverstore/quiverstore/ByteReader", "position", "I"), (.int ((((1 + 1) + 1) + 1) + 1)))])]) := by
  show W l Z n m4 0 [(.val (.ref 1)), .unset, .unset, .unset] [] [.inr (.byte, [(.int (x0)), (.int (x1)), (.int (x2)), (.int (x3)), (.int (x4)), (.int (x5)), (.int (x6)), (.int (x7))]), .inl ("com/example/quiverstore/quiverstore/ByteReader", [(("com/example/quiverstore/quiverstore/ByteReader", "bytes", "[B"), (.ref 0)), (("com/example/quiverstore/quiverstore/ByteReader", "position", "I"), (.int (1)))])] 0 0 _
  refine W.iconst 0 d4_0 rfl ?_
  refine W.istoreN d4_1 rfl ?_
  refine W.iconst 0 d4_2 rfl ?_
  refine W.istoreN d4_3 rfl ?_
  refine W.aloadN d4_4 rfl rfl ?_
  refine W.getfield 0 d4_5 (hw _ (wd 15 rfl)) rfl rfl ?_
  refine W.aloadN d4_8 rfl rfl ?_
  refine W.dup d4_9 rfl ?_
  refine W.getfield 1 d4_10 (hw _ (wd 17 rfl)) rfl rfl ?_
  refine W.dupX1 d4_13 rfl rfl ?_
  refine W.iconst 1 d4_14 rfl ?_
  refine W.iadd d4_15 ?_
  refine W.putfield 1 d4_16 (hw _ (wd 17 rfl)) rfl rfl (Or.inl (hw _ (wd 18 rfl))) (hw _ (wd 7 rfl)) (ty := .int) (by decide) (fun _ => rfl) (fun _ => rfl) ?_
  refine W.baload (i := 1) d4_19 rfl ⟨by decide, by decide⟩ rfl ?_
  refine W.istoreN d4_20 rfl ?_
  show WB _ l Z n m4 21 [(.val (.ref 1)), (.val (.int (0))), (.val (.int (0))), (.val (.int (x1)))] [] [.inr (.byte, [(.int (x0)), (.int (x1)), (.int (x2)), (.int (x3)), (.int (x4)), (.int (x5)), (.int (x6)), (.int (x7))]), .inl ("com/example/quiverstore/quiverstore/ByteReader", [(("com/example/quiverstore/quiverstore/ByteReader", "bytes", "[B"), (.ref 0)), (("com/example/quiverstore/quiverstore/ByteReader", "position", "I"), (.int (1 + 1)))])] _ _ _
  refine W.iloadN d4_21 rfl ?_
  refine W.iloadN d4_22 rfl ?_
  refine W.bipush 127 d4_23 rfl ?_
  refine W.iand d4_25 ?_
  refine W.iloadN d4_26 rfl ?_
  refine W.ishl d4_27 ?_
  refine W.ior d4_28 ?_
  refine W.istoreN d4_29 rfl ?_
  refine W.iloadN d4_30 rfl ?_
  refine W.if_lt d4_31 (fun h31 => ?_) (fun h => False.elim (h hy_x1))
  refine W.iinc 7 d4_36 rfl rfl ?_
  refine W.goto d4_39 ?_
  refine W.aloadN d4_4 rfl rfl ?_
  refine W.getfield 0 d4_5 (hw _ (wd 15 rfl)) rfl rfl ?_
  refine W.aloadN d4_8 rfl rfl ?_
  refine W.dup d4_9 rfl ?_
  refine W.getfield 1 d4_10 (hw _ (wd 17 rfl)) rfl rfl ?_
  refine W.dupX1 d4_13 rfl rfl ?_
  refine W.iconst 1 d4_14 rfl ?_
  refine W.iadd d4_15 ?_
  refine W.putfield 1 d4_16 (hw _ (wd 17 rfl)) rfl rfl (Or.inl (hw _ (wd 18 rfl))) (hw _ (wd 7 rfl)) (ty := .int) (by decide) (fun _ => rfl) (fun _ => rfl) ?_
  refine W.baload (i := 2) d4_19 rfl ⟨by decide, by decide⟩ rfl ?_
  refine W.istoreN d4_20 rfl ?_
  show WB _ l Z n m4 21 [(.val (.ref 1)), (.val (.int ((0 : Int32) ||| ((x1 &&& 127) <<< ((0 : Int32) &&& 31))))), (.val (.int (0 + 7))), (.val (.int (x2)))] [] [.inr (.byte, [(.int (x0)), (.int (x1)), (.int (x2)), (.int (x3)), (.int (x4)), (.int (x5)), (.int (x6)), (.int (x7))]), .inl ("com/example/quiverstore/quiverstore/ByteReader", [(("com/example/quiverstore/quiverstore/ByteReader", "bytes", "[B"), (.ref 0)), (("com/example/quiverstore/quiverstore/ByteReader", "position", "I"), (.int ((1 + 1) + 1)))])] _ _ _
  refine W.iloadN d4_21 rfl ?_
  refine W.iloadN d4_22 rfl ?_
  refine W.bipush 127 d4_23 rfl ?_
  refine W.iand d4_25 ?_
  refine W.iloadN d4_26 rfl ?_
  refine W.ishl d4_27 ?_
  refine W.ior d4_28 ?_
  refine W.istoreN d4_29 rfl ?_
  refine W.iloadN d4_30 rfl ?_
  refine W.if_lt d4_31 (fun h31 => ?_) (fun h => False.elim (h hy_x2))
  refine W.iinc 7 d4_36 rfl rfl ?_
  refine W.goto d4_39 ?_
  refine W.aloadN d4_4 rfl rfl ?_
  refine W.getfield 0 d4_5 (hw _ (wd 15 rfl)) rfl rfl ?_
  refine W.aloadN d4_8 rfl rfl ?_
  refine W.dup d4_9 rfl ?_
  refine W.getfield 1 d4_10 (hw _ (wd 17 rfl)) rfl rfl ?_
  refine W.dupX1 d4_13 rfl rfl ?_
  refine W.iconst 1 d4_14 rfl ?_
  refine W.iadd d4_15 ?_
  refine W.putfield 1 d4_16 (hw _ (wd 17 rfl)) rfl rfl (Or.inl (hw _ (wd 18 rfl))) (hw _ (wd 7 rfl)) (ty := .int) (by decide) (fun _ => rfl) (fun _ => rfl) ?_
  refine W.baload (i := 3) d4_19 rfl ⟨by decide, by decide⟩ rfl ?_
  refine W.istoreN d4_20 rfl ?_
  show WB _ l Z n m4 21 [(.val (.ref 1)), (.val (.int (((0 : Int32) ||| ((x1 &&& 127) <<< ((0 : Int32) &&& 31))) ||| ((x2 &&& 127) <<< ((0 + 7) &&& 31))))), (.val (.int ((0 + 7) + 7))), (.val (.int (x3)))] [] [.inr (.byte, [(.int (x0)), (.int (x1)), (.int (x2)), (.int (x3)), (.int (x4)), (.int (x5)), (.int (x6)), (.int (x7))]), .inl ("com/example/quiverstore/quiverstore/ByteReader", [(("com/example/quiverstore/quiverstore/ByteReader", "bytes", "[B"), (.ref 0)), (("com/example/quiverstore/quiverstore/ByteReader", "position", "I"), (.int (((1 + 1) + 1) + 1)))])] _ _ _
  refine W.iloadN d4_21 rfl ?_
  refine W.iloadN d4_22 rfl ?_
  refine W.bipush 127 d4_23 rfl ?_
  refine W.iand d4_25 ?_
  refine W.iloadN d4_26 rfl ?_
  refine W.ishl d4_27 ?_
  refine W.ior d4_28 ?_
  refine W.istoreN d4_29 rfl ?_
  refine W.iloadN d4_30 rfl ?_
  refine W.if_lt d4_31 (fun h31 => ?_) (fun h => False.elim (h hy_x3))
  refine W.iinc 7 d4_36 rfl rfl ?_
  refine W.goto d4_39 ?_
  refine W.aloadN d4_4 rfl rfl ?_
  refine W.getfield 0 d4_5 (hw _ (wd 15 rfl)) rfl rfl ?_
  refine W.aloadN d4_8 rfl rfl ?_
  refine W.dup d4_9 rfl ?_
  refine W.getfield 1 d4_10 (hw _ (wd 17 rfl)) rfl rfl ?_
  refine W.dupX1 d4_13 rfl rfl ?_
  refine W.iconst 1 d4_14 rfl ?_
  refine W.iadd d4_15 ?_
  refine W.putfield 1 d4_16 (hw _ (wd 17 rfl)) rfl rfl (Or.inl (hw _ (wd 18 rfl))) (hw _ (wd 7 rfl)) (ty := .int) (by decide) (fun _ => rfl) (fun _ => rfl) ?_
  refine W.baload (i := 4) d4_19 rfl ⟨by decide, by decide⟩ rfl ?_
  refine W.istoreN d4_20 rfl ?_
  show WB _ l Z n m4 21 [(.val (.ref 1)), (.val (.int ((((0 : Int32) ||| ((x1 &&& 127) <<< ((0 : Int32) &&& 31))) ||| ((x2 &&& 127) <<< ((0 + 7) &&& 31))) ||| ((x3 &&& 127) <<< (((0 + 7) + 7) &&& 31))))), (.val (.int (((0 + 7) + 7) + 7))), (.val (.int (x4)))] [] [.inr (.byte, [(.int (x0)), (.int (x1)), (.int (x2)), (.int (x3)), (.int (x4)), (.int (x5)), (.int (x6)), (.int (x7))]), .inl ("com/example/quiverstore/quiverstore/ByteReader", [(("com/example/quiverstore/quiverstore/ByteReader", "bytes", "[B"), (.ref 0)), (("com/example/quiverstore/quiverstore/ByteReader", "position", "I"), (.int ((((1 + 1) + 1) + 1) + 1)))])] _ _ _
  refine W.iloadN d4_21 rfl ?_
  refine W.iloadN d4_22 rfl ?_
  refine W.bipush 127 d4_23 rfl ?_
  refine W.iand d4_25 ?_
  refine W.iloadN d4_26 rfl ?_
  refine W.ishl d4_27 ?_
  refine W.ior d4_28 ?_
  refine W.istoreN d4_29 rfl ?_
  refine W.iloadN d4_30 rfl ?_
  refine W.if_lt d4_31 (fun h => False.elim (hy_x4 h)) (fun h31 => ?_)
  refine W.iloadN d4_34 rfl ?_
  exact W.ireturn d4_35 rfl (by decide) (by decide) (⟨rfl, rfl⟩)
set_option maxRecDepth 65536 in
set_option maxHeartbeats 40000000 in
theorem c4_39 {l : Launch} {Z : State} {a0 : Array Value} {n : Nat} (hw : ∀ d ∈ tables_1, d.before a0 Z = true) (x0 : Int32) (x1 : Int32) (x2 : Int32) (x3 : Int32) (x4 : Int32) (x5 : Int32) (x6 : Int32) (x7 : Int32) (hy_x2 : x2 < 0) (hy_x3 : x3 < 0) (hy_x4 : x4 < 0) (hy_x5 : ¬ x5 < 0) : W l Z n m4 0 (entryL [(.ref 1)] 4) [] [.inr (.byte, [(.int (x0)), (.int (x1)), (.int (x2)), (.int (x3)), (.int (x4)), (.int (x5)), (.int (x6)), (.int (x7))]), .inl ("com/example/quiverstore/quiverstore/ByteReader", [(("com/example/quiverstore/quiverstore/ByteReader", "bytes", "[B"), (.ref 0)), (("com/example/quiverstore/quiverstore/ByteReader", "position", "I"), (.int (2)))])] 0 0 (Is (some (.int (((((0 : Int32) ||| ((x2 &&& 127) <<< ((0 : Int32) &&& 31))) ||| ((x3 &&& 127) <<< ((0 + 7) &&& 31))) ||| ((x4 &&& 127) <<< (((0 + 7) + 7) &&& 31))) ||| ((x5 &&& 127) <<< ((((0 + 7) + 7) + 7) &&& 31))))) [.inr (.byte, [(.int (x0)), (.int (x1)), (.int (x2)), (.int (x3)), (.int (x4)), (.int (x5)), (.int (x6)), (.int (x7))]), .inl ("com/example/quiverstore/quiverstore/ByteReader", [(("com/example/quiverstore/quiverstore/ByteReader", "bytes", "[B"), (.ref 0)), (("com/example/quiverstore/quiverstore/ByteReader", "position", "I"), (.int ((((2 + 1) + 1) + 1) + 1)))])]) := by
  show W l Z n m4 0 [(.val (.ref 1)), .unset, .unset, .unset] [] [.inr (.byte, [(.int (x0)), (.int (x1)), (.int (x2)), (.int (x3)), (.int (x4)), (.int (x5)), (.int (x6)), (.int (x7))]), .inl ("com/example/quiverstore/quiverstore/ByteReader", [(("com/example/quiverstore/quiverstore/ByteReader", "bytes", "[B"), (.ref 0)), (("com/example/quiverstore/quiverstore/ByteReader", "position", "I"), (.int (2)))])] 0 0 _
  refine W.iconst 0 d4_0 rfl ?_
  refine W.istoreN d4_1 rfl ?_
  refine W.iconst 0 d4_2 rfl ?_
  refine W.istoreN d4_3 rfl ?_
  refine W.aloadN d4_4 rfl rfl ?_
  refine W.getfield 0 d4_5 (hw _ (wd 15 rfl)) rfl rfl ?_
  refine W.aloadN d4_8 rfl rfl ?_
  refine W.dup d4_9 rfl ?_
  refine W.getfield 1 d4_10 (hw _ (wd 17 rfl)) rfl rfl ?_
  refine W.dupX1 d4_13 rfl rfl ?_
  refine W.iconst 1 d4_14 rfl ?_
  refine W.iadd d4_15 ?_
  refine W.putfield 1 d4_16 (hw _ (wd 17 rfl)) rfl rfl (Or.inl (hw _ (wd 18 rfl))) (hw _ (wd 7 rfl)) (ty := .int) (by decide) (fun _ => rfl) (fun _ => rfl) ?_
  refine W.baload (i := 2) d4_19 rfl ⟨by decide, by decide⟩ rfl ?_
  refine W.istoreN d4_20 rfl ?_
  show WB _ l Z n m4 21 [(.val (.ref 1)), (.val (.int (0))), (.val (.int (0))), (.val (.int (x2)))] [] [.inr (.byte, [(.int (x0)), (.int (x1)), (.int (x2)), (.int (x3)), (.int (x4)), (.int (x5)), (.int (x6)), (.int (x7))]), .inl ("com/example/quiverstore/quiverstore/ByteReader", [(("com/example/quiverstore/quiverstore/ByteReader", "bytes", "[B"), (.ref 0)), (("com/example/quiverstore/quiverstore/ByteReader", "position", "I"), (.int (2 + 1)))])] _ _ _
  refine W.iloadN d4_21 rfl ?_
  refine W.iloadN d4_22 rfl ?_
  refine W.bipush 127 d4_23 rfl ?_
  refine W.iand d4_25 ?_
  refine W.iloadN d4_26 rfl ?_
  refine W.ishl d4_27 ?_
  refine W.ior d4_28 ?_
  refine W.istoreN d4_29 rfl ?_
  refine W.iloadN d4_30 rfl ?_
  refine W.if_lt d4_31 (fun h31 => ?_) (fun h => False.elim (h hy_x2))
  refine W.iinc 7 d4_36 rfl rfl ?_
  refine W.goto d4_39 ?_
  refine W.aloadN d4_4 rfl rfl ?_
  refine W.getfield 0 d4_5 (hw _ (wd 15 rfl)) rfl rfl ?_
  refine W.aloadN d4_8 rfl rfl ?_
  refine W.dup d4_9 rfl ?_
  refine W.getfield 1 d4_10 (hw _ (wd 17 rfl)) rfl rfl ?_
  refine W.dupX1 d4_13 rfl rfl ?_
  refine W.iconst 1 d4_14 rfl ?_
  refine W.iadd d4_15 ?_
  refine W.putfield 1 d4_16 (hw _ (wd 17 rfl)) rfl rfl (Or.inl (hw _ (wd 18 rfl))) (hw _ (wd 7 rfl)) (ty := .int) (by decide) (fun _ => rfl) (fun _ => rfl) ?_
  refine W.baload (i := 3) d4_19 rfl ⟨by decide, by decide⟩ rfl ?_
  refine W.istoreN d4_20 rfl ?_
  show WB _ l Z n m4 21 [(.val (.ref 1)), (.val (.int ((0 : Int32) ||| ((x2 &&& 127) <<< ((0 : Int32) &&& 31))))), (.val (.int (0 + 7))), (.val (.int (x3)))] [] [.inr (.byte, [(.int (x0)), (.int (x1)), (.int (x2)), (.int (x3)), (.int (x4)), (.int (x5)), (.int (x6)), (.int (x7))]), .inl ("com/example/quiverstore/quiverstore/ByteReader", [(("com/example/quiverstore/quiverstore/ByteReader", "bytes", "[B"), (.ref 0)), (("com/example/quiverstore/quiverstore/ByteReader", "position", "I"), (.int ((2 + 1) + 1)))])] _ _ _
  refine W.iloadN d4_21 rfl ?_
  refine W.iloadN d4_22 rfl ?_
  refine W.bipush 127 d4_23 rfl ?_
  refine W.iand d4_25 ?_
  refine W.iloadN d4_26 rfl ?_
  refine W.ishl d4_27 ?_
  refine W.ior d4_28 ?_
  refine W.istoreN d4_29 rfl ?_
  refine W.iloadN d4_30 rfl ?_
  refine W.if_lt d4_31 (fun h31 => ?_) (fun h => False.elim (h hy_x3))
  refine W.iinc 7 d4_36 rfl rfl ?_
  refine W.goto d4_39 ?_
  refine W.aloadN d4_4 rfl rfl ?_
  refine W.getfield 0 d4_5 (hw _ (wd 15 rfl)) rfl rfl ?_
  refine W.aloadN d4_8 rfl rfl ?_
  refine W.dup d4_9 rfl ?_
  refine W.getfield 1 d4_10 (hw _ (wd 17 rfl)) rfl rfl ?_
  refine W.dupX1 d4_13 rfl rfl ?_
  refine W.iconst 1 d4_14 rfl ?_
  refine W.iadd d4_15 ?_
  refine W.putfield 1 d4_16 (hw _ (wd 17 rfl)) rfl rfl (Or.inl (hw _ (wd 18 rfl))) (hw _ (wd 7 rfl)) (ty := .int) (by decide) (fun _ => rfl) (fun _ => rfl) ?_
  refine W.baload (i := 4) d4_19 rfl ⟨by decide, by decide⟩ rfl ?_
  refine W.istoreN d4_20 rfl ?_
  show WB _ l Z n m4 21 [(.val (.ref 1)), (.val (.int (((0 : Int32) ||| ((x2 &&& 127) <<< ((0 : Int32) &&& 31))) ||| ((x3 &&& 127) <<< ((0 + 7) &&& 31))))), (.val (.int ((0 + 7) + 7))), (.val (.int (x4)))] [] [.inr (.byte, [(.int (x0)), (.int (x1)), (.int (x2)), (.int (x3)), (.int (x4)), (.int (x5)), (.int (x6)), (.int (x7))]), .inl ("com/example/quiverstore/quiverstore/ByteReader", [(("com/example/quiverstore/quiverstore/ByteReader", "bytes", "[B"), (.ref 0)), (("com/example/quiverstore/quiverstore/ByteReader", "position", "I"), (.int (((2 + 1) + 1) + 1)))])] _ _ _
  refine W.iloadN d4_21 rfl ?_
  refine W.iloadN d4_22 rfl ?_
  refine W.bipush 127 d4_23 rfl ?_
  refine W.iand d4_25 ?_
  refine W.iloadN d4_26 rfl ?_
  refine W.ishl d4_27 ?_
  refine W.ior d4_28 ?_
  refine W.istoreN d4_29 rfl ?_
  refine W.iloadN d4_30 rfl ?_
  refine W.if_lt d4_31 (fun h31 => ?_) (fun h => False.elim (h hy_x4))
  refine W.iinc 7 d4_36 rfl rfl ?_
  refine W.goto d4_39 ?_
  refine W.aloadN d4_4 rfl rfl ?_
  refine W.getfield 0 d4_5 (hw _ (wd 15 rfl)) rfl rfl ?_
  refine W.aloadN d4_8 rfl rfl ?_
  refine W.dup d4_9 rfl ?_
  refine W.getfield 1 d4_10 (hw _ (wd 17 rfl)) rfl rfl ?_
  refine W.dupX1 d4_13 rfl rfl ?_
  refine W.iconst 1 d4_14 rfl ?_
  refine W.iadd d4_15 ?_
  refine W.putfield 1 d4_16 (hw _ (wd 17 rfl)) rfl rfl (Or.inl (hw _ (wd 18 rfl))) (hw _ (wd 7 rfl)) (ty := .int) (by decide) (fun _ => rfl) (fun _ => rfl) ?_
  refine W.baload (i := 5) d4_19 rfl ⟨by decide, by decide⟩ rfl ?_
  refine W.istoreN d4_20 rfl ?_
  show WB _ l Z n m4 21 [(.val (.ref 1)), (.val (.int ((((0 : Int32) ||| ((x2 &&& 127) <<< ((0 : Int32) &&& 31))) ||| ((x3 &&& 127) <<< ((0 + 7) &&& 31))) ||| ((x4 &&& 127) <<< (((0 + 7) + 7) &&& 31))))), (.val (.int (((0 + 7) + 7) + 7))), (.val (.int (x5)))] [] [.inr (.byte, [(.int (x0)), (.int (x1)), (.int (x2)), (.int (x3)), (.int (x4)), (.int (x5)), (.int (x6)), (.int (x7))]), .inl ("com/example/quiverstore/quiverstore/ByteReader", [(("com/example/quiverstore/quiverstore/ByteReader", "bytes", "[B"), (.ref 0)), (("com/example/quiverstore/quiverstore/ByteReader", "position", "I"), (.int ((((2 + 1) + 1) + 1) + 1)))])] _ _ _
  refine W.iloadN d4_21 rfl ?_
  refine W.iloadN d4_22 rfl ?_
  refine W.bipush 127 d4_23 rfl ?_
  refine W.iand d4_25 ?_
  refine W.iloadN d4_26 rfl ?_
  refine W.ishl d4_27 ?_
  refine W.ior d4_28 ?_
  refine W.istoreN d4_29 rfl ?_
  refine W.iloadN d4_30 rfl ?_
  refine W.if_lt d4_31 (fun h => False.elim (hy_x5 h)) (fun h31 => ?_)
  refine W.iloadN d4_34 rfl ?_
  exact W.ireturn d4_35 rfl (by decide) (by decide) (⟨rfl, rfl⟩)
set_option maxRecDepth 65536 in
set_option maxHeartbeats 40000000 in
theorem c5_40 {l : Launch} {Z : State} {a0 : Array Value} {n : Nat} (hw : ∀ d ∈ tables_1, d.before a0 Z = true) (x0 : Int32) (x1 : Int32) (x2 : Int32) (x3 : Int32) (x4 : Int32) (x5 : Int32) (x6 : Int32) (x7 : Int32) : W l Z n m5 0 (entryL [(.ref 1)] 1) [] [.inr (.byte, [(.int (x0)), (.int (x1)), (.int (x2)), (.int (x3)), (.int (x4)), (.int (x5)), (.int (x6)), (.int (x7))]), .inl ("com/example/quiverstore/quiverstore/ByteReader", [(("com/example/quiverstore/quiverstore/ByteReader", "bytes", "[B"), (.ref 0)), (("com/example/quiverstore/quiverstore/ByteReader", "position", "I"), (.int (6)))])] 0 0 (Is (some (.int (nar .byte x6))) [.inr (.byte, [(.int (x0)), (.int (x1)), (.int (x2)), (.int (x3)), (.int (x4)), (.int (x5)), (.int (x6)), (.int (x7))]), .inl ("com/example/quiverstore/quiverstore/ByteReader", [(("com/example/quiverstore/quiverstore/ByteReader", "bytes", "[B"), (.ref 0)), (("com/example/quiverstore/quiverstore/ByteReader", "position", "I"), (.int (6 + 1)))])]) := by
  show W l Z n m5 0 [(.val (.ref 1))] [] [.inr (.byte, [(.int (x0)), (.int (x1)), (.int (x2)), (.int (x3)), (.int (x4)), (.int (x5)), (.int (x6)), (.int (x7))]), .inl ("com/example/quiverstore/quiverstore/ByteReader", [(("com/example/quiverstore/quiverstore/ByteReader", "bytes", "[B"), (.ref 0)), (("com/example/quiverstore/quiverstore/ByteReader", "position", "I"), (.int (6)))])] 0 0 _
  refine W.aloadN d5_0 rfl rfl ?_
  refine W.getfield 0 d5_1 (hw _ (wd 15 rfl)) rfl rfl ?_
  refine W.aloadN d5_4 rfl rfl ?_
  refine W.dup d5_5 rfl ?_
  refine W.getfield 1 d5_6 (hw _ (wd 17 rfl)) rfl rfl ?_
  refine W.dupX1 d5_9 rfl rfl ?_
  refine W.iconst 1 d5_10 rfl ?_
  refine W.iadd d5_11 ?_
  refine W.putfield 1 d5_12 (hw _ (wd 17 rfl)) rfl rfl (Or.inl (hw _ (wd 18 rfl))) (hw _ (wd 7 rfl)) (ty := .int) (by decide) (fun _ => rfl) (fun _ => rfl) ?_
  refine W.baload (i := 6) d5_15 rfl ⟨by decide, by decide⟩ rfl ?_
  exact W.nreturn .byte d5_16 rfl (by simp) (by decide) (by decide) (⟨rfl, rfl⟩)
set_option maxRecDepth 65536 in
set_option maxHeartbeats 40000000 in
theorem c1_41 {l : Launch} {Z : State} {a0 : Array Value} {n : Nat} (hw : ∀ d ∈ tables_1, d.before a0 Z = true) (x0 : Int64) : W l Z n m1 0 (entryL [(.long (x0)), (.int (0)), (.int (5))] 5) [] [] 0 0 (Is (some (.int ((((XT.ushrL x0 (8 * 0)).toInt32) &&& 255) ||| 128))) []) := by
  show W l Z n m1 0 [(.val (.long (x0))), .second, (.val (.int (0))), (.val (.int (5))), .unset] [] [] 0 0 _
  refine W.lloadN d1_0 rfl ?_
  refine W.bipush 8 d1_1 rfl ?_
  refine W.iloadN d1_3 rfl ?_
  refine W.imul d1_4 ?_
  refine W.lushr d1_5 ?_
  refine W.l2i d1_6 ?_
  refine W.sipush 255 d1_7 rfl ?_
  refine W.iand d1_10 ?_
  refine W.istore d1_11 rfl ?_
  refine W.iloadN d1_13 rfl ?_
  refine W.iloadN d1_14 rfl ?_
  refine W.iconst 1 d1_15 rfl ?_
  refine W.isub d1_16 ?_
  refine W.icmp_ge d1_17 (fun h => False.elim (by revert h; decide)) (fun h17 => ?_)
  refine W.iload d1_20 rfl ?_
  refine W.sipush 128 d1_22 rfl ?_
  refine W.ior d1_25 ?_
  exact W.ireturn d1_26 rfl (by decide) (by decide) (⟨rfl, rfl⟩)
set_option maxRecDepth 65536 in
set_option maxHeartbeats 40000000 in
theorem c1_42 {l : Launch} {Z : State} {a0 : Array Value} {n : Nat} (hw : ∀ d ∈ tables_1, d.before a0 Z = true) (x0 : Int64) : W l Z n m1 0 (entryL [(.long (x0)), (.int (1)), (.int (5))] 5) [] [] 0 0 (Is (some (.int ((((XT.ushrL x0 (8 * 1)).toInt32) &&& 255) ||| 128))) []) := by
  show W l Z n m1 0 [(.val (.long (x0))), .second, (.val (.int (1))), (.val (.int (5))), .unset] [] [] 0 0 _
  refine W.lloadN d1_0 rfl ?_
  refine W.bipush 8 d1_1 rfl ?_
  refine W.iloadN d1_3 rfl ?_
  refine W.imul d1_4 ?_
  refine W.lushr d1_5 ?_
  refine W.l2i d1_6 ?_
  refine W.sipush 255 d1_7 rfl ?_
  refine W.iand d1_10 ?_
  refine W.istore d1_11 rfl ?_
  refine W.iloadN d1_13 rfl ?_
  refine W.iloadN d1_14 rfl ?_
  refine W.iconst 1 d1_15 rfl ?_
  refine W.isub d1_16 ?_
  refine W.icmp_ge d1_17 (fun h => False.elim (by revert h; decide)) (fun h17 => ?_)
  refine W.iload d1_20 rfl ?_
  refine W.sipush 128 d1_22 rfl ?_
  refine W.ior d1_25 ?_
  exact W.ireturn d1_26 rfl (by decide) (by decide) (⟨rfl, rfl⟩)
set_option maxRecDepth 65536 in
set_option maxHeartbeats 40000000 in
theorem c1_43 {l : Launch} {Z : State} {a0 : Array Value} {n : Nat} (hw : ∀ d ∈ tables_1, d.before a0 Z = true) (x0 : Int64) : W l Z n m1 0 (entryL [(.long (x0)), (.int (2)), (.int (5))] 5) [] [] 0 0 (Is (some (.int ((((XT.ushrL x0 (8 * 2)).toInt32) &&& 255) ||| 128))) []) := by
  show W l Z n m1 0 [(.val (.long (x0))), .second, (.val (.int (2))), (.val (.int (5))), .unset] [] [] 0 0 _
  refine W.lloadN d1_0 rfl ?_
  refine W.bipush 8 d1_1 rfl ?_
  refine W.iloadN d1_3 rfl ?_
  refine W.imul d1_4 ?_
  refine W.lushr d1_5 ?_
  refine W.l2i d1_6 ?_
  refine W.sipush 255 d1_7 rfl ?_
  refine W.iand d1_10 ?_
  refine W.istore d1_11 rfl ?_
  refine W.iloadN d1_13 rfl ?_
  refine W.iloadN d1_14 rfl ?_
  refine W.iconst 1 d1_15 rfl ?_
  refine W.isub d1_16 ?_
  refine W.icmp_ge d1_17 (fun h => False.elim (by revert h; decide)) (fun h17 => ?_)
  refine W.iload d1_20 rfl ?_
  refine W.sipush 128 d1_22 rfl ?_
  refine W.ior d1_25 ?_
  exact W.ireturn d1_26 rfl (by decide) (by decide) (⟨rfl, rfl⟩)
set_option maxRecDepth 65536 in
set_option maxHeartbeats 40000000 in
theorem c1_44 {l : Launch} {Z : State} {a0 : Array Value} {n : Nat} (hw : ∀ d ∈ tables_1, d.before a0 Z = true) (x0 : Int64) : W l Z n m1 0 (entryL [(.long (x0)), (.int (3)), (.int (5))] 5) [] [] 0 0 (Is (some (.int ((((XT.ushrL x0 (8 * 3)).toInt32) &&& 255) ||| 128))) []) := by
  show W l Z n m1 0 [(.val (.long (x0))), .second, (.val (.int (3))), (.val (.int (5))), .unset] [] [] 0 0 _
  refine W.lloadN d1_0 rfl ?_
  refine W.bipush 8 d1_1 rfl ?_
  refine W.iloadN d1_3 rfl ?_
  refine W.imul d1_4 ?_
  refine W.lushr d1_5 ?_
  refine W.l2i d1_6 ?_
  refine W.sipush 255 d1_7 rfl ?_
  refine W.iand d1_10 ?_
  refine W.istore d1_11 rfl ?_
  refine W.iloadN d1_13 rfl ?_
  refine W.iloadN d1_14 rfl ?_
  refine W.iconst 1 d1_15 rfl ?_
  refine W.isub d1_16 ?_
  refine W.icmp_ge d1_17 (fun h => False.elim (by revert h; decide)) (fun h17 => ?_)
  refine W.iload d1_20 rfl ?_
  refine W.sipush 128 d1_22 rfl ?_
  refine W.ior d1_25 ?_
  exact W.ireturn d1_26 rfl (by decide) (by decide) (⟨rfl, rfl⟩)
set_option maxRecDepth 65536 in
set_option maxHeartbeats 40000000 in
theorem c1_45 {l : Launch} {Z : State} {a0 : Array Value} {n : Nat} (hw : ∀ d ∈ tables_1, d.before a0 Z = true) (x0 : Int64) : W l Z n m1 0 (entryL [(.long (x0)), (.int (4)), (.int (5))] 5) [] [] 0 0 (Is (some (.int ((((XT.ushrL x0 (8 * 4)).toInt32) &&& 255) &&& 127))) []) := by
  show W l Z n m1 0 [(.val (.long (x0))), .second, (.val (.int (4))), (.val (.int (5))), .unset] [] [] 0 0 _
  refine W.lloadN d1_0 rfl ?_
  refine W.bipush 8 d1_1 rfl ?_
  refine W.iloadN d1_3 rfl ?_
  refine W.imul d1_4 ?_
  refine W.lushr d1_5 ?_
  refine W.l2i d1_6 ?_
  refine W.sipush 255 d1_7 rfl ?_
  refine W.iand d1_10 ?_
  refine W.istore d1_11 rfl ?_
  refine W.iloadN d1_13 rfl ?_
  refine W.iloadN d1_14 rfl ?_
  refine W.iconst 1 d1_15 rfl ?_
  refine W.isub d1_16 ?_
  refine W.icmp_ge d1_17 (fun h17 => ?_) (fun h => False.elim (by revert h; decide))
  refine W.iload d1_27 rfl ?_
  refine W.bipush 127 d1_29 rfl ?_
  refine W.iand d1_31 ?_
  exact W.ireturn d1_32 rfl (by decide) (by decide) (⟨rfl, rfl⟩)
set_option maxRecDepth 65536 in
set_option maxHeartbeats 40000000 in
theorem c4_46 {l : Launch} {Z : State} {a0 : Array Value} {n : Nat} (hw : ∀ d ∈ tables_1, d.before a0 Z = true) (x0 : Int32) (x1 : Int32) (x2 : Int32) (x3 : Int32) (x4 : Int32) (x5 : Int32) (x6 : Int32) (x7 : Int32) (hy_x0 : x0 < 0) (hy_x1 : x1 < 0) (hy_x2 : x2 < 0) (hy_x3 : x3 < 0) (hy_x4 : ¬ x4 < 0) : W l Z n m4 0 (entryL [(.ref 1)] 4) [] [.inr (.byte, [(.int (x0)), (.int (x1)), (.int (x2)), (.int (x3)), (.int (x4)), (.int (x5)), (.int (x6)), (.int (x7))]), .inl ("com/example/quiverstore/quiverstore/ByteReader", [(("com/example/quiverstore/quiverstore/ByteReader", "bytes", "[B"), (.ref 0)), (("com/example/quiverstore/quiverstore/ByteReader", "position", "I"), (.int (0)))])] 0 0 (Is (some (.int ((((((0 : Int32) ||| ((x0 &&& 127) <<< ((0 : Int32) &&& 31))) ||| ((x1 &&& 127) <<< ((0 + 7) &&& 31))) ||| ((x2 &&& 127) <<< (((0 + 7) + 7) &&& 31))) ||| ((x3 &&& 127) <<< ((((0 + 7) + 7) + 7) &&& 31))) ||| ((x4 &&& 127) <<< (((((0 + 7) + 7) + 7) + 7) &&& 31))))) [.inr (.byte, [(.int (x0)), (.int (x1)), (.int (x2)), (.int (x3)), (.int (x4)), (.int (x5)), (.int (x6)), (.int (x7))]), .inl ("com/example/quiverstore/quiverstore/ByteReader", [(("com/example/quiverstore/quiverstore/ByteReader", "bytes", "[B"), (.ref 0)), (("com/example/quiverstore/quiverstore/ByteReader", "position", "I"), (.int (((((0 + 1) + 1) + 1) + 1) + 1)))])]) := by
  show W l Z n m4 0 [(.val (.ref 1)), .unset, .unset, .unset] [] [.inr (.byte, [(.int (x0)), (.int (x1)), (.int (x2)), (.int (x3)), (.int (x4)), (.int (x5)), (.int (x6)), (.int (x7))]), .inl ("com/example/quiverstore/quiverstore/ByteReader", [(("com/example/quiverstore/quiverstore/ByteReader", "bytes", "[B"), (.ref 0)), (("com/example/quiverstore/quiverstore/ByteReader", "position", "I"), (.int (0)))])] 0 0 _
  refine W.iconst 0 d4_0 rfl ?_
  refine W.istoreN d4_1 rfl ?_
  refine W.iconst 0 d4_2 rfl ?_
  refine W.istoreN d4_3 rfl ?_
  refine W.aloadN d4_4 rfl rfl ?_
  refine W.getfield 0 d4_5 (hw _ (wd 15 rfl)) rfl rfl ?_
  refine W.aloadN d4_8 rfl rfl ?_
  refine W.dup d4_9 rfl ?_
  refine W.getfield 1 d4_10 (hw _ (wd 17 rfl)) rfl rfl ?_
  refine W.dupX1 d4_13 rfl rfl ?_
  refine W.iconst 1 d4_14 rfl ?_
  refine W.iadd d4_15 ?_
  refine W.putfield 1 d4_16 (hw _ (wd 17 rfl)) rfl rfl (Or.inl (hw _ (wd 18 rfl))) (hw _ (wd 7 rfl)) (ty := .int) (by decide) (fun _ => rfl) (fun _ => rfl) ?_
  refine W.baload (i := 0) d4_19 rfl ⟨by decide, by decide⟩ rfl ?_
  refine W.istoreN d4_20 rfl ?_
  show WB _ l Z n m4 21 [(.val (.ref 1)), (.val (.int (0))), (.val (.int (0))), (.val (.int (x0)))] [] [.inr (.byte, [(.int (x0)), (.int (x1)), (.int (x2)), (.int (x3)), (.int (x4)), (.int (x5)), (.int (x6)), (.int (x7))]), .inl ("com/example/quiverstore/quiverstore/ByteReader", [(("com/example/quiverstore/quiverstore/ByteReader", "bytes", "[B"), (.ref 0)), (("com/example/quiverstore/quiverstore/ByteReader", "position", "I"), (.int (0 + 1)))])] _ _ _
  refine W.iloadN d4_21 rfl ?_
  refine W.iloadN d4_22 rfl ?_
  refine W.bipush 127 d4_23 rfl ?_
  refine W.iand d4_25 ?_
  refine W.iloadN d4_26 rfl ?_
  refine W.ishl d4_27 ?_
  refine W.ior d4_28 ?_
  refine W.istoreN d4_29 rfl ?_
  refine W.iloadN d4_30 rfl ?_
  refine W.if_lt d4_31 (fun h31 => ?_) (fun h => False.elim (h hy_x0))
  refine W.iinc 7 d4_36 rfl rfl ?_
  refine W.goto d4_39 ?_
  refine W.aloadN d4_4 rfl rfl ?_
  refine W.getfield 0 d4_5 (hw _ (wd 15 rfl)) rfl rfl ?_
  refine W.aloadN d4_8 rfl rfl ?_
  refine W.dup d4_9 rfl ?_
  refine W.getfield 1 d4_10 (hw _ (wd 17 rfl)) rfl rfl ?_
  refine W.dupX1 d4_13 rfl rfl ?_
  refine W.iconst 1 d4_14 rfl ?_
  refine W.iadd d4_15 ?_
  refine W.putfield 1 d4_16 (hw _ (wd 17 rfl)) rfl rfl (Or.inl (hw _ (wd 18 rfl))) (hw _ (wd 7 rfl)) (ty := .int) (by decide) (fun _ => rfl) (fun _ => rfl) ?_
  refine W.baload (i := 1) d4_19 rfl ⟨by decide, by decide⟩ rfl ?_
  refine W.istoreN d4_20 rfl ?_
  show WB _ l Z n m4 21 [(.val (.ref 1)), (.val (.int ((0 : Int32) ||| ((x0 &&& 127) <<< ((0 : Int32) &&& 31))))), (.val (.int (0 + 7))), (.val (.int (x1)))] [] [.inr (.byte, [(.int (x0)), (.int (x1)), (.int (x2)), (.int (x3)), (.int (x4)), (.int (x5)), (.int (x6)), (.int (x7))]), .inl ("com/example/quiverstore/quiverstore/ByteReader", [(("com/example/quiverstore/quiverstore/ByteReader", "bytes", "[B"), (.ref 0)), (("com/example/quiverstore/quiverstore/ByteReader", "position", "I"), (.int ((0 + 1) + 1)))])] _ _ _
  refine W.iloadN d4_21 rfl ?_
  refine W.iloadN d4_22 rfl ?_
  refine W.bipush 127 d4_23 rfl ?_
  refine W.iand d4_25 ?_
  refine W.iloadN d4_26 rfl ?_
  refine W.ishl d4_27 ?_
  refine W.ior d4_28 ?_
  refine W.istoreN d4_29 rfl ?_
  refine W.iloadN d4_30 rfl ?_
  refine W.if_lt d4_31 (fun h31 => ?_) (fun h => False.elim (h hy_x1))
  refine W.iinc 7 d4_36 rfl rfl ?_
  refine W.goto d4_39 ?_
  refine W.aloadN d4_4 rfl rfl ?_
  refine W.getfield 0 d4_5 (hw _ (wd 15 rfl)) rfl rfl ?_
  refine W.aloadN d4_8 rfl rfl ?_
  refine W.dup d4_9 rfl ?_
  refine W.getfield 1 d4_10 (hw _ (wd 17 rfl)) rfl rfl ?_
  refine W.dupX1 d4_13 rfl rfl ?_
  refine W.iconst 1 d4_14 rfl ?_
  refine W.iadd d4_15 ?_
  refine W.putfield 1 d4_16 (hw _ (wd 17 rfl)) rfl rfl (Or.inl (hw _ (wd 18 rfl))) (hw _ (wd 7 rfl)) (ty := .int) (by decide) (fun _ => rfl) (fun _ => rfl) ?_
  refine W.baload (i := 2) d4_19 rfl ⟨by decide, by decide⟩ rfl ?_
  refine W.istoreN d4_20 rfl ?_
  show WB _ l Z n m4 21 [(.val (.ref 1)), (.val (.int (((0 : Int32) ||| ((x0 &&& 127) <<< ((0 : Int32) &&& 31))) ||| ((x1 &&& 127) <<< ((0 + 7) &&& 31))))), (.val (.int ((0 + 7) + 7))), (.val (.int (x2)))] [] [.inr (.byte, [(.int (x0)), (.int (x1)), (.int (x2)), (.int (x3)), (.int (x4)), (.int (x5)), (.int (x6)), (.int (x7))]), .inl ("com/example/quiverstore/quiverstore/ByteReader", [(("com/example/quiverstore/quiverstore/ByteReader", "bytes", "[B"), (.ref 0)), (("com/example/quiverstore/quiverstore/ByteReader", "position", "I"), (.int (((0 + 1) + 1) + 1)))])] _ _ _
  refine W.iloadN d4_21 rfl ?_
  refine W.iloadN d4_22 rfl ?_
  refine W.bipush 127 d4_23 rfl ?_
  refine W.iand d4_25 ?_
  refine W.iloadN d4_26 rfl ?_
  refine W.ishl d4_27 ?_
  refine W.ior d4_28 ?_
  refine W.istoreN d4_29 rfl ?_
  refine W.iloadN d4_30 rfl ?_
  refine W.if_lt d4_31 (fun h31 => ?_) (fun h => False.elim (h hy_x2))
  refine W.iinc 7 d4_36 rfl rfl ?_
  refine W.goto d4_39 ?_
  refine W.aloadN d4_4 rfl rfl ?_
  refine W.getfield 0 d4_5 (hw _ (wd 15 rfl)) rfl rfl ?_
  refine W.aloadN d4_8 rfl rfl ?_
  refine W.dup d4_9 rfl ?_
  refine W.getfield 1 d4_10 (hw _ (wd 17 rfl)) rfl rfl ?_
  refine W.dupX1 d4_13 rfl rfl ?_
  refine W.iconst 1 d4_14 rfl ?_
  refine W.iadd d4_15 ?_
  refine W.putfield 1 d4_16 (hw _ (wd 17 rfl)) rfl rfl (Or.inl (hw _ (wd 18 rfl))) (hw _ (wd 7 rfl)) (ty := .int) (by decide) (fun _ => rfl) (fun _ => rfl) ?_
  refine W.baload (i := 3) d4_19 rfl ⟨by decide, by decide⟩ rfl ?_
  refine W.istoreN d4_20 rfl ?_
  show WB _ l Z n m4 21 [(.val (.ref 1)), (.val (.int ((((0 : Int32) ||| ((x0 &&& 127) <<< ((0 : Int32) &&& 31))) ||| ((x1 &&& 127) <<< ((0 + 7) &&& 31))) ||| ((x2 &&& 127) <<< (((0 + 7) + 7) &&& 31))))), (.val (.int (((0 + 7) + 7) + 7))), (.val (.int (x3)))] [] [.inr (.byte, [(.int (x0)), (.int (x1)), (.int (x2)), (.int (x3)), (.int (x4)), (.int (x5)), (.int (x6)), (.int (x7))]), .inl ("com/example/quiverstore/quiverstore/ByteReader", [(("com/example/quiverstore/quiverstore/ByteReader", "bytes", "[B"), (.ref 0)), (("com/example/quiverstore/quiverstore/ByteReader", "position", "I"), (.int ((((0 + 1) + 1) + 1) + 1)))])] _ _ _
  refine W.iloadN d4_21 rfl ?_
  refine W.iloadN d4_22 rfl ?_
  refine W.bipush 127 d4_23 rfl ?_
  refine W.iand d4_25 ?_
  refine W.iloadN d4_26 rfl ?_
  refine W.ishl d4_27 ?_
  refine W.ior d4_28 ?_
  refine W.istoreN d4_29 rfl ?_
  refine W.iloadN d4_30 rfl ?_
  refine W.if_lt d4_31 (fun h31 => ?_) (fun h => False.elim (h hy_x3))
  refine W.iinc 7 d4_36 rfl rfl ?_
  refine W.goto d4_39 ?_
  refine W.aloadN d4_4 rfl rfl ?_
  refine W.getfield 0 d4_5 (hw _ (wd 15 rfl)) rfl rfl ?_
  refine W.aloadN d4_8 rfl rfl ?_
  refine W.dup d4_9 rfl ?_
  refine W.getfield 1 d4_10 (hw _ (wd 17 rfl)) rfl rfl ?_
  refine W.dupX1 d4_13 rfl rfl ?_
  refine W.iconst 1 d4_14 rfl ?_
  refine W.iadd d4_15 ?_
  refine W.putfield 1 d4_16 (hw _ (wd 17 rfl)) rfl rfl (Or.inl (hw _ (wd 18 rfl))) (hw _ (wd 7 rfl)) (ty := .int) (by decide) (fun _ => rfl) (fun _ => rfl) ?_
  refine W.baload (i := 4) d4_19 rfl ⟨by decide, by decide⟩ rfl ?_
  refine W.istoreN d4_20 rfl ?_
  show WB _ l Z n m4 21 [(.val (.ref 1)), (.val (.int (((((0 : Int32) ||| ((x0 &&& 127) <<< ((0 : Int32) &&& 31))) ||| ((x1 &&& 127) <<< ((0 + 7) &&& 31))) ||| ((x2 &&& 127) <<< (((0 + 7) + 7) &&& 31))) ||| ((x3 &&& 127) <<< ((((0 + 7) + 7) + 7) &&& 31))))), (.val (.int ((((0 + 7) + 7) + 7) + 7))), (.val (.int (x4)))] [] [.inr (.byte, [(.int (x0)), (.int (x1)), (.int (x2)), (.int (x3)), (.int (x4)), (.int (x5)), (.int (x6)), (.int (x7))]), .inl ("com/example/quiverstore/quiverstore/ByteReader", [(("com/example/quiverstore/quiverstore/ByteReader", "bytes", "[B"), (.ref 0)), (("com/example/quiverstore/quiverstore/ByteReader", "position", "I"), (.int (((((0 + 1) + 1) + 1) + 1) + 1)))])] _ _ _
  refine W.iloadN d4_21 rfl ?_
  refine W.iloadN d4_22 rfl ?_
  refine W.bipush 127 d4_23 rfl ?_
  refine W.iand d4_25 ?_
  refine W.iloadN d4_26 rfl ?_
  refine W.ishl d4_27 ?_
  refine W.ior d4_28 ?_
  refine W.istoreN d4_29 rfl ?_
  refine W.iloadN d4_30 rfl ?_
  refine W.if_lt d4_31 (fun h => False.elim (hy_x4 h)) (fun h31 => ?_)
  refine W.iloadN d4_34 rfl ?_
  exact W.ireturn d4_35 rfl (by decide) (by decide) (⟨rfl, rfl⟩)
set_option maxRecDepth 65536 in
set_option maxHeartbeats 40000000 in
theorem c4_47 {l : Launch} {Z : State} {a0 : Array Value} {n : Nat} (hw : ∀ d ∈ tables_1, d.before a0 Z = true) (x0 : Int32) (x1 : Int32) (x2 : Int32) (x3 : Int32) (x4 : Int32) (x5 : Int32) (x6 : Int32) (x7 : Int32) (hy_x1 : x1 < 0) (hy_x2 : x2 < 0) (hy_x3 : x3 < 0) (hy_x4 : x4 < 0) (hy_x5 : ¬ x5 < 0) : W l Z n m4 0 (entryL [(.ref 1)] 4) [] [.inr (.byte, [(.int (x0)), (.int (x1)), (.int (x2)), (.int (x3)), (.int (x4)), (.int (x5)), (.int (x6)), (.int (x7))]), .inl ("com/example/quiverstore/quiverstore/ByteReader", [(("com/example/quiverstore/quiverstore/ByteReader", "bytes", "[B"), (.ref 0)), (("com/example/quiverstore/quiverstore/ByteReader", "position", "I"), (.int (1)))])] 0 0 (Is (some (.int ((((((0 : Int32) ||| ((x1 &&& 127) <<< ((0 : Int32) &&& 31))) ||| ((x2 &&& 127) <<< ((0 + 7) &&& 31))) ||| ((x3 &&& 127) <<< (((0 + 7) + 7) &&& 31))) ||| ((x4 &&& 127) <<< ((((0 + 7) + 7) + 7) &&& 31))) ||| ((x5 &&& 127) <<< (((((0 + 7) + 7) + 7) + 7) &&& 31))))) [.inr (.byte, [(.int (x0)), (.int (x1)), (.int (x2)), (.int (x3)), (.int (x4)), (.int (x5)), (.int (x6)), (.int (x7))]), .inl ("com/example/quiverstore/quiverstore/ByteReader", [(("com/example/quiverstore/quiverstore/ByteReader", "bytes", "[B"), (.ref 0)), (("com/example/quiverstore/quiverstore/ByteReader", "position", "I"), (.int (((((1 + 1) + 1) + 1) + 1) + 1)))])]) := by
  show W l Z n m4 0 [(.val (.ref 1)), .unset, .unset, .unset] [] [.inr (.byte, [(.int (x0)), (.int (x1)), (.int (x2)), (.int (x3)), (.int (x4)), (.int (x5)), (.int (x6)), (.int (x7))]), .inl ("com/example/quiverstore/quiverstore/ByteReader", [(("com/example/quiverstore/quiverstore/ByteReader", "bytes", "[B"), (.ref 0)), (("com/example/quiverstore/quiverstore/ByteReader", "position", "I"), (.int (1)))])] 0 0 _
  refine W.iconst 0 d4_0 rfl ?_
  refine W.istoreN d4_1 rfl ?_
  refine W.iconst 0 d4_2 rfl ?_
  refine W.istoreN d4_3 rfl ?_
  refine W.aloadN d4_4 rfl rfl ?_
  refine W.getfield 0 d4_5 (hw _ (wd 15 rfl)) rfl rfl ?_
  refine W.aloadN d4_8 rfl rfl ?_
  refine W.dup d4_9 rfl ?_
  refine W.getfield 1 d4_10 (hw _ (wd 17 rfl)) rfl rfl ?_
  refine W.dupX1 d4_13 rfl rfl ?_
  refine W.iconst 1 d4_14 rfl ?_
  refine W.iadd d4_15 ?_
  refine W.putfield 1 d4_16 (hw _ (wd 17 rfl)) rfl rfl (Or.inl (hw _ (wd 18 rfl))) (hw _ (wd 7 rfl)) (ty := .int) (by decide) (fun _ => rfl) (fun _ => rfl) ?_
  refine W.baload (i := 1) d4_19 rfl ⟨by decide, by decide⟩ rfl ?_
  refine W.istoreN d4_20 rfl ?_
  show WB _ l Z n m4 21 [(.val (.ref 1)), (.val (.int (0))), (.val (.int (0))), (.val (.int (x1)))] [] [.inr (.byte, [(.int (x0)), (.int (x1)), (.int (x2)), (.int (x3)), (.int (x4)), (.int (x5)), (.int (x6)), (.int (x7))]), .inl ("com/example/quiverstore/quiverstore/ByteReader", [(("com/example/quiverstore/quiverstore/ByteReader", "bytes", "[B"), (.ref 0)), (("com/example/quiverstore/quiverstore/ByteReader", "position", "I"), (.int (1 + 1)))])] _ _ _
  refine W.iloadN d4_21 rfl ?_
  refine W.iloadN d4_22 rfl ?_
  refine W.bipush 127 d4_23 rfl ?_
  refine W.iand d4_25 ?_
  refine W.iloadN d4_26 rfl ?_
  refine W.ishl d4_27 ?_
  refine W.ior d4_28 ?_
  refine W.istoreN d4_29 rfl ?_
  refine W.iloadN d4_30 rfl ?_
  refine W.if_lt d4_31 (fun h31 => ?_) (fun h => False.elim (h hy_x1))
  refine W.iinc 7 d4_36 rfl rfl ?_
  refine W.goto d4_39 ?_
  refine W.aloadN d4_4 rfl rfl ?_
  refine W.getfield 0 d4_5 (hw _ (wd 15 rfl)) rfl rfl ?_
  refine W.aloadN d4_8 rfl rfl ?_
  refine W.dup d4_9 rfl ?_
  refine W.getfield 1 d4_10 (hw _ (wd 17 rfl)) rfl rfl ?_
  refine W.dupX1 d4_13 rfl rfl ?_
  refine W.iconst 1 d4_14 rfl ?_
  refine W.iadd d4_15 ?_
  refine W.putfield 1 d4_16 (hw _ (wd 17 rfl)) rfl rfl (Or.inl (hw _ (wd 18 rfl))) (hw _ (wd 7 rfl)) (ty := .int) (by decide) (fun _ => rfl) (fun _ => rfl) ?_
  refine W.baload (i := 2) d4_19 rfl ⟨by decide, by decide⟩ rfl ?_
  refine W.istoreN d4_20 rfl ?_
  show WB _ l Z n m4 21 [(.val (.ref 1)), (.val (.int ((0 : Int32) ||| ((x1 &&& 127) <<< ((0 : Int32) &&& 31))))), (.val (.int (0 + 7))), (.val (.int (x2)))] [] [.inr (.byte, [(.int (x0)), (.int (x1)), (.int (x2)), (.int (x3)), (.int (x4)), (.int (x5)), (.int (x6)), (.int (x7))]), .inl ("com/example/quiverstore/quiverstore/ByteReader", [(("com/example/quiverstore/quiverstore/ByteReader", "bytes", "[B"), (.ref 0)), (("com/example/quiverstore/quiverstore/ByteReader", "position", "I"), (.int ((1 + 1) + 1)))])] _ _ _
  refine W.iloadN d4_21 rfl ?_
  refine W.iloadN d4_22 rfl ?_
  refine W.bipush 127 d4_23 rfl ?_
  refine W.iand d4_25 ?_
  refine W.iloadN d4_26 rfl ?_
  refine W.ishl d4_27 ?_
  refine W.ior d4_28 ?_
  refine W.istoreN d4_29 rfl ?_
  refine W.iloadN d4_30 rfl ?_
  refine W.if_lt d4_31 (fun h31 => ?_) (fun h => False.elim (h hy_x2))
  refine W.iinc 7 d4_36 rfl rfl ?_
  refine W.goto d4_39 ?_
  refine W.aloadN d4_4 rfl rfl ?_
  refine W.getfield 0 d4_5 (hw _ (wd 15 rfl)) rfl rfl ?_
  refine W.aloadN d4_8 rfl rfl ?_
  refine W.dup d4_9 rfl ?_
  refine W.getfield 1 d4_10 (hw _ (wd 17 rfl)) rfl rfl ?_
  refine W.dupX1 d4_13 rfl rfl ?_
  refine W.iconst 1 d4_14 rfl ?_
  refine W.iadd d4_15 ?_
  refine W.putfield 1 d4_16 (hw _ (wd 17 rfl)) rfl rfl (Or.inl (hw _ (wd 18 rfl))) (hw _ (wd 7 rfl)) (ty := .int) (by decide) (fun _ => rfl) (fun _ => rfl) ?_
  refine W.baload (i := 3) d4_19 rfl ⟨by decide, by decide⟩ rfl ?_
  refine W.istoreN d4_20 rfl ?_
  show WB _ l Z n m4 21 [(.val (.ref 1)), (.val (.int (((0 : Int32) ||| ((x1 &&& 127) <<< ((0 : Int32) &&& 31))) ||| ((x2 &&& 127) <<< ((0 + 7) &&& 31))))), (.val (.int ((0 + 7) + 7))), (.val (.int (x3)))] [] [.inr (.byte, [(.int (x0)), (.int (x1)), (.int (x2)), (.int (x3)), (.int (x4)), (.int (x5)), (.int (x6)), (.int (x7))]), .inl ("com/example/quiverstore/quiverstore/ByteReader", [(("com/example/quiverstore/quiverstore/ByteReader", "bytes", "[B"), (.ref 0)), (("com/example/quiverstore/quiverstore/ByteReader", "position", "I"), (.int (((1 + 1) + 1) + 1)))])] _ _ _
  refine W.iloadN d4_21 rfl ?_
  refine W.iloadN d4_22 rfl ?_
  refine W.bipush 127 d4_23 rfl ?_
  refine W.iand d4_25 ?_
  refine W.iloadN d4_26 rfl ?_
  refine W.ishl d4_27 ?_
  refine W.ior d4_28 ?_
  refine W.istoreN d4_29 rfl ?_
  refine W.iloadN d4_30 rfl ?_
  refine W.if_lt d4_31 (fun h31 => ?_) (fun h => False.elim (h hy_x3))
  refine W.iinc 7 d4_36 rfl rfl ?_
  refine W.goto d4_39 ?_
  refine W.aloadN d4_4 rfl rfl ?_
  refine W.getfield 0 d4_5 (hw _ (wd 15 rfl)) rfl rfl ?_
  refine W.aloadN d4_8 rfl rfl ?_
  refine W.dup d4_9 rfl ?_
  refine W.getfield 1 d4_10 (hw _ (wd 17 rfl)) rfl rfl ?_
  refine W.dupX1 d4_13 rfl rfl ?_
  refine W.iconst 1 d4_14 rfl ?_
  refine W.iadd d4_15 ?_
  refine W.putfield 1 d4_16 (hw _ (wd 17 rfl)) rfl rfl (Or.inl (hw _ (wd 18 rfl))) (hw _ (wd 7 rfl)) (ty := .int) (by decide) (fun _ => rfl) (fun _ => rfl) ?_
  refine W.baload (i := 4) d4_19 rfl ⟨by decide, by decide⟩ rfl ?_
  refine W.istoreN d4_20 rfl ?_
  show WB _ l Z n m4 21 [(.val (.ref 1)), (.val (.int ((((0 : Int32) ||| ((x1 &&& 127) <<< ((0 : Int32) &&& 31))) ||| ((x2 &&& 127) <<< ((0 + 7) &&& 31))) ||| ((x3 &&& 127) <<< (((0 + 7) + 7) &&& 31))))), (.val (.int (((0 + 7) + 7) + 7))), (.val (.int (x4)))] [] [.inr (.byte, [(.int (x0)), (.int (x1)), (.int (x2)), (.int (x3)), (.int (x4)), (.int (x5)), (.int (x6)), (.int (x7))]), .inl ("com/example/quiverstore/quiverstore/ByteReader", [(("com/example/quiverstore/quiverstore/ByteReader", "bytes", "[B"), (.ref 0)), (("com/example/quiverstore/quiverstore/ByteReader", "position", "I"), (.int ((((1 + 1) + 1) + 1) + 1)))])] _ _ _
  refine W.iloadN d4_21 rfl ?_
  refine W.iloadN d4_22 rfl ?_
  refine W.bipush 127 d4_23 rfl ?_
  refine W.iand d4_25 ?_
  refine W.iloadN d4_26 rfl ?_
  refine W.ishl d4_27 ?_
  refine W.ior d4_28 ?_
  refine W.istoreN d4_29 rfl ?_
  refine W.iloadN d4_30 rfl ?_
  refine W.if_lt d4_31 (fun h31 => ?_) (fun h => False.elim (h hy_x4))
  refine W.iinc 7 d4_36 rfl rfl ?_
  refine W.goto d4_39 ?_
  refine W.aloadN d4_4 rfl rfl ?_
  refine W.getfield 0 d4_5 (hw _ (wd 15 rfl)) rfl rfl ?_
  refine W.aloadN d4_8 rfl rfl ?_
  refine W.dup d4_9 rfl ?_
  refine W.getfield 1 d4_10 (hw _ (wd 17 rfl)) rfl rfl ?_
  refine W.dupX1 d4_13 rfl rfl ?_
  refine W.iconst 1 d4_14 rfl ?_
  refine W.iadd d4_15 ?_
  refine W.putfield 1 d4_16 (hw _ (wd 17 rfl)) rfl rfl (Or.inl (hw _ (wd 18 rfl))) (hw _ (wd 7 rfl)) (ty := .int) (by decide) (fun _ => rfl) (fun _ => rfl) ?_
  refine W.baload (i := 5) d4_19 rfl ⟨by decide, by decide⟩ rfl ?_
  refine W.istoreN d4_20 rfl ?_
  show WB _ l Z n m4 21 [(.val (.ref 1)), (.val (.int (((((0 : Int32) ||| ((x1 &&& 127) <<< ((0 : Int32) &&& 31))) ||| ((x2 &&& 127) <<< ((0 + 7) &&& 31))) ||| ((x3 &&& 127) <<< (((0 + 7) + 7) &&& 31))) ||| ((x4 &&& 127) <<< ((((0 + 7) + 7) + 7) &&& 31))))), (.val (.int ((((0 + 7) + 7) + 7) + 7))), (.val (.int (x5)))] [] [.inr (.byte, [(.int (x0)), (.int (x1)), (.int (x2)), (.int (x3)), (.int (x4)), (.int (x5)), (.int (x6)), (.int (x7))]), .inl ("com/example/quiverstore/quiverstore/ByteReader", [(("com/example/quiverstore/quiverstore/ByteReader", "bytes", "[B"), (.ref 0)), (("com/example/quiverstore/quiverstore/ByteReader", "position", "I"), (.int (((((1 + 1) + 1) + 1) + 1) + 1)))])] _ _ _
  refine W.iloadN d4_21 rfl ?_
  refine W.iloadN d4_22 rfl ?_
  refine W.bipush 127 d4_23 rfl ?_
  refine W.iand d4_25 ?_
  refine W.iloadN d4_26 rfl ?_
  refine W.ishl d4_27 ?_
  refine W.ior d4_28 ?_
  refine W.istoreN d4_29 rfl ?_
  refine W.iloadN d4_30 rfl ?_
  refine W.if_lt d4_31 (fun h => False.elim (hy_x5 h)) (fun h31 => ?_)
  refine W.iloadN d4_34 rfl ?_
  exact W.ireturn d4_35 rfl (by decide) (by decide) (⟨rfl, rfl⟩)
set_option maxRecDepth 65536 in
set_option maxHeartbeats 40000000 in
theorem c4_48 {l : Launch} {Z : State} {a0 : Array Value} {n : Nat} (hw : ∀ d ∈ tables_1, d.before a0 Z = true) (x0 : Int32) (x1 : Int32) (x2 : Int32) (x3 : Int32) (x4 : Int32) (x5 : Int32) (x6 : Int32) (x7 : Int32) (hy_x2 : x2 < 0) (hy_x3 : x3 < 0) (hy_x4 : x4 < 0) (hy_x5 : x5 < 0) (hy_x6 : ¬ x6 < 0) : W l Z n m4 0 (entryL [(.ref 1)] 4) [] [.inr (.byte, [(.int (x0)), (.int (x1)), (.int (x2)), (.int (x3)), (.int (x4)), (.int (x5)), (.int (x6)), (.int (x7))]), .inl ("com/example/quiverstore/quiverstore/ByteReader", [(("com/example/quiverstore/quiverstore/ByteReader", "bytes", "[B"), (.ref 0)), (("com/example/quiverstore/quiverstore/ByteReader", "position", "I"), (.int (2)))])] 0 0 (Is (some (.int ((((((0 : Int32) ||| ((x2 &&& 127) <<< ((0 : Int32) &&& 31))) ||| ((x3 &&& 127) <<< ((0 + 7) &&& 31))) ||| ((x4 &&& 127) <<< (((0 + 7) + 7) &&& 31))) ||| ((x5 &&& 127) <<< ((((0 + 7) + 7) + 7) &&& 31))) ||| ((x6 &&& 127) <<< (((((0 + 7) + 7) + 7) + 7) &&& 31))))) [.inr (.byte, [(.int (x0)), (.int (x1)), (.int (x2)), (.int (x3)), (.int (x4)), (.int (x5)), (.int (x6)), (.int (x7))]), .inl ("com/example/quiverstore/quiverstore/ByteReader", [(("com/example/quiverstore/quiverstore/ByteReader", "bytes", "[B"), (.ref 0)), (("com/example/quiverstore/quiverstore/ByteReader", "position", "I"), (.int (((((2 + 1) + 1) + 1) + 1) + 1)))])]) := by
  show W l Z n m4 0 [(.val (.ref 1)), .unset, .unset, .unset] [] [.inr (.byte, [(.int (x0)), (.int (x1)), (.int (x2)), (.int (x3)), (.int (x4)), (.int (x5)), (.int (x6)), (.int (x7))]), .inl ("com/example/quiverstore/quiverstore/ByteReader", [(("com/example/quiverstore/quiverstore/ByteReader", "bytes", "[B"), (.ref 0)), (("com/example/quiverstore/quiverstore/ByteReader", "position", "I"), (.int (2)))])] 0 0 _
  refine W.iconst 0 d4_0 rfl ?_
  refine W.istoreN d4_1 rfl ?_
  refine W.iconst 0 d4_2 rfl ?_
  refine W.istoreN d4_3 rfl ?_
  refine W.aloadN d4_4 rfl rfl ?_
  refine W.getfield 0 d4_5 (hw _ (wd 15 rfl)) rfl rfl ?_
  refine W.aloadN d4_8 rfl rfl ?_
  refine W.dup d4_9 rfl ?_
  refine W.getfield 1 d4_10 (hw _ (wd 17 rfl)) rfl rfl ?_
  refine W.dupX1 d4_13 rfl rfl ?_
  refine W.iconst 1 d4_14 rfl ?_
  refine W.iadd d4_15 ?_
  refine W.putfield 1 d4_16 (hw _ (wd 17 rfl)) rfl rfl (Or.inl (hw _ (wd 18 rfl))) (hw _ (wd 7 rfl)) (ty := .int) (by decide) (fun _ => rfl) (fun _ => rfl) ?_
  refine W.baload (i := 2) d4_19 rfl ⟨by decide, by decide⟩ rfl ?_
  refine W.istoreN d4_20 rfl ?_
  show WB _ l Z n m4 21 [(.val (.ref 1)), (.val (.int (0))), (.val (.int (0))), (.val (.int (x2)))] [] [.inr (.byte, [(.int (x0)), (.int (x1)), (.int (x2)), (.int (x3)), (.int (x4)), (.int (x5)), (.int (x6)), (.int (x7))]), .inl ("com/example/quiverstore/quiverstore/ByteReader", [(("com/example/quiverstore/quiverstore/ByteReader", "bytes", "[B"), (.ref 0)), (("com/example/quiverstore/quiverstore/ByteReader", "position", "I"), (.int (2 + 1)))])] _ _ _
  refine W.iloadN d4_21 rfl ?_
  refine W.iloadN d4_22 rfl ?_
  refine W.bipush 127 d4_23 rfl ?_
  refine W.iand d4_25 ?_
  refine W.iloadN d4_26 rfl ?_
  refine W.ishl d4_27 ?_
  refine W.ior d4_28 ?_
  refine W.istoreN d4_29 rfl ?_
  refine W.iloadN d4_30 rfl ?_
  refine W.if_lt d4_31 (fun h31 => ?_) (fun h => False.elim (h hy_x2))
  refine W.iinc 7 d4_36 rfl rfl ?_
  refine W.goto d4_39 ?_
  refine W.aloadN d4_4 rfl rfl ?_
  refine W.getfield 0 d4_5 (hw _ (wd 15 rfl)) rfl rfl ?_
  refine W.aloadN d4_8 rfl rfl ?_
  refine W.dup d4_9 rfl ?_
  refine W.getfield 1 d4_10 (hw _ (wd 17 rfl)) rfl rfl ?_
  refine W.dupX1 d4_13 rfl rfl ?_
  refine W.iconst 1 d4_14 rfl ?_
  refine W.iadd d4_15 ?_
  refine W.putfield 1 d4_16 (hw _ (wd 17 rfl)) rfl rfl (Or.inl (hw _ (wd 18 rfl))) (hw _ (wd 7 rfl)) (ty := .int) (by decide) (fun _ => rfl) (fun _ => rfl) ?_
  refine W.baload (i := 3) d4_19 rfl ⟨by decide, by decide⟩ rfl ?_
  refine W.istoreN d4_20 rfl ?_
  show WB _ l Z n m4 21 [(.val (.ref 1)), (.val (.int ((0 : Int32) ||| ((x2 &&& 127) <<< ((0 : Int32) &&& 31))))), (.val (.int (0 + 7))), (.val (.int (x3)))] [] [.inr (.byte, [(.int (x0)), (.int (x1)), (.int (x2)), (.int (x3)), (.int (x4)), (.int (x5)), (.int (x6)), (.int (x7))]), .inl ("com/example/quiverstore/quiverstore/ByteReader", [(("com/example/quiverstore/quiverstore/ByteReader", "bytes", "[B"), (.ref 0)), (("com/example/quiverstore/quiverstore/ByteReader", "position", "I"), (.int ((2 + 1) + 1)))])] _ _ _
  refine W.iloadN d4_21 rfl ?_
  refine W.iloadN d4_22 rfl ?_
  refine W.bipush 127 d4_23 rfl ?_
  refine W.iand d4_25 ?_
  refine W.iloadN d4_26 rfl ?_
  refine W.ishl d4_27 ?_
  refine W.ior d4_28 ?_
  refine W.istoreN d4_29 rfl ?_
  refine W.iloadN d4_30 rfl ?_
  refine W.if_lt d4_31 (fun h31 => ?_) (fun h => False.elim (h hy_x3))
  refine W.iinc 7 d4_36 rfl rfl ?_
  refine W.goto d4_39 ?_
  refine W.aloadN d4_4 rfl rfl ?_
  refine W.getfield 0 d4_5 (hw _ (wd 15 rfl)) rfl rfl ?_
  refine W.aloadN d4_8 rfl rfl ?_
  refine W.dup d4_9 rfl ?_
  refine W.getfield 1 d4_10 (hw _ (wd 17 rfl)) rfl rfl ?_
  refine W.dupX1 d4_13 rfl rfl ?_
  refine W.iconst 1 d4_14 rfl ?_
  refine W.iadd d4_15 ?_
  refine W.putfield 1 d4_16 (hw _ (wd 17 rfl)) rfl rfl (Or.inl (hw _ (wd 18 rfl))) (hw _ (wd 7 rfl)) (ty := .int) (by decide) (fun _ => rfl) (fun _ => rfl) ?_
  refine W.baload (i := 4) d4_19 rfl ⟨by decide, by decide⟩ rfl ?_
  refine W.istoreN d4_20 rfl ?_
  show WB _ l Z n m4 21 [(.val (.ref 1)), (.val (.int (((0 : Int32) ||| ((x2 &&& 127) <<< ((0 : Int32) &&& 31))) ||| ((x3 &&& 127) <<< ((0 + 7) &&& 31))))), (.val (.int ((0 + 7) + 7))), (.val (.int (x4)))] [] [.inr (.byte, [(.int (x0)), (.int (x1)), (.int (x2)), (.int (x3)), (.int (x4)), (.int (x5)), (.int (x6)), (.int (x7))]), .inl ("com/example/quiverstore/quiverstore/ByteReader", [(("com/example/quiverstore/quiverstore/ByteReader", "bytes", "[B"), (.ref 0)), (("com/example/quiverstore/quiverstore/ByteReader", "position", "I"), (.int (((2 + 1) + 1) + 1)))])] _ _ _
  refine W.iloadN d4_21 rfl ?_
  refine W.iloadN d4_22 rfl ?_
  refine W.bipush 127 d4_23 rfl ?_
  refine W.iand d4_25 ?_
  refine W.iloadN d4_26 rfl ?_
  refine W.ishl d4_27 ?_
  refine W.ior d4_28 ?_
  refine W.istoreN d4_29 rfl ?_
  refine W.iloadN d4_30 rfl ?_
  refine W.if_lt d4_31 (fun h31 => ?_) (fun h => False.elim (h hy_x4))
  refine W.iinc 7 d4_36 rfl rfl ?_
  refine W.goto d4_39 ?_
  refine W.aloadN d4_4 rfl rfl ?_
  refine W.getfield 0 d4_5 (hw _ (wd 15 rfl)) rfl rfl ?_
  refine W.aloadN d4_8 rfl rfl ?_
  refine W.dup d4_9 rfl ?_
  refine W.getfield 1 d4_10 (hw _ (wd 17 rfl)) rfl rfl ?_
  refine W.dupX1 d4_13 rfl rfl ?_
  refine W.iconst 1 d4_14 rfl ?_
  refine W.iadd d4_15 ?_
  refine W.putfield 1 d4_16 (hw _ (wd 17 rfl)) rfl rfl (Or.inl (hw _ (wd 18 rfl))) (hw _ (wd 7 rfl)) (ty := .int) (by decide) (fun _ => rfl) (fun _ => rfl) ?_
  refine W.baload (i := 5) d4_19 rfl ⟨by decide, by decide⟩ rfl ?_
  refine W.istoreN d4_20 rfl ?_
  show WB _ l Z n m4 21 [(.val (.ref 1)), (.val (.int ((((0 : Int32) ||| ((x2 &&& 127) <<< ((0 : Int32) &&& 31))) ||| ((x3 &&& 127) <<< ((0 + 7) &&& 31))) ||| ((x4 &&& 127) <<< (((0 + 7) + 7) &&& 31))))), (.val (.int (((0 + 7) + 7) + 7))), (.val (.int (x5)))] [] [.inr (.byte, [(.int (x0)), (.int (x1)), (.int (x2)), (.int (x3)), (.int (x4)), (.int (x5)), (.int (x6)), (.int (x7))]), .inl ("com/example/quiverstore/quiverstore/ByteReader", [(("com/example/quiverstore/quiverstore/ByteReader", "bytes", "[B"), (.ref 0)), (("com/example/quiverstore/quiverstore/ByteReader", "position", "I"), (.int ((((2 + 1) + 1) + 1) + 1)))])] _ _ _
  refine W.iloadN d4_21 rfl ?_
  refine W.iloadN d4_22 rfl ?_
  refine W.bipush 127 d4_23 rfl ?_
  refine W.iand d4_25 ?_
  refine W.iloadN d4_26 rfl ?_
  refine W.ishl d4_27 ?_
  refine W.ior d4_28 ?_
  refine W.istoreN d4_29 rfl ?_
  refine W.iloadN d4_30 rfl ?_
  refine W.if_lt d4_31 (fun h31 => ?_) (fun h => False.elim (h hy_x5))
  refine W.iinc 7 d4_36 rfl rfl ?_
  refine W.goto d4_39 ?_
  refine W.aloadN d4_4 rfl rfl ?_
  refine W.getfield 0 d4_5 (hw _ (wd 15 rfl)) rfl rfl ?_
  refine W.aloadN d4_8 rfl rfl ?_
  refine W.dup d4_9 rfl ?_
  refine W.getfield 1 d4_10 (hw _ (wd 17 rfl)) rfl rfl ?_
  refine W.dupX1 d4_13 rfl rfl ?_
  refine W.iconst 1 d4_14 rfl ?_
  refine W.iadd d4_15 ?_
  refine W.putfield 1 d4_16 (hw _ (wd 17 rfl)) rfl rfl (Or.inl (hw _ (wd 18 rfl))) (hw _ (wd 7 rfl)) (ty := .int) (by decide) (fun _ => rfl) (fun _ => rfl) ?_
  refine W.baload (i := 6) d4_19 rfl ⟨by decide, by decide⟩ rfl ?_
  refine W.istoreN d4_20 rfl ?_
  show WB _ l Z n m4 21 [(.val (.ref 1)), (.val (.int (((((0 : Int32) ||| ((x2 &&& 127) <<< ((0 : Int32) &&& 31))) ||| ((x3 &&& 127) <<< ((0 + 7) &&& 31))) ||| ((x4 &&& 127) <<< (((0 + 7) + 7) &&& 31))) ||| ((x5 &&& 127) <<< ((((0 + 7) + 7) + 7) &&& 31))))), (.val (.int ((((0 + 7) + 7) + 7) + 7))), (.val (.int (x6)))] [] [.inr (.byte, [(.int (x0)), (.int (x1)), (.int (x2)), (.int (x3)), (.int (x4)), (.int (x5)), (.int (x6)), (.int (x7))]), .inl ("com/example/quiverstore/quiverstore/ByteReader", [(("com/example/quiverstore/quiverstore/ByteReader", "bytes", "[B"), (.ref 0)), (("com/example/quiverstore/quiverstore/ByteReader", "position", "I"), (.int (((((2 + 1) + 1) + 1) + 1) + 1)))])] _ _ _
  refine W.iloadN d4_21 rfl ?_
  refine W.iloadN d4_22 rfl ?_
  refine W.bipush 127 d4_23 rfl ?_
  refine W.iand d4_25 ?_
  refine W.iloadN d4_26 rfl ?_
  refine W.ishl d4_27 ?_
  refine W.ior d4_28 ?_
  refine W.istoreN d4_29 rfl ?_
  refine W.iloadN d4_30 rfl ?_
  refine W.if_lt d4_31 (fun h => False.elim (hy_x6 h)) (fun h31 => ?_)
  refine W.iloadN d4_34 rfl ?_
  exact W.ireturn d4_35 rfl (by decide) (by decide) (⟨rfl, rfl⟩)
set_option maxRecDepth 65536 in
set_option maxHeartbeats 40000000 in
theorem c5_49 {l : Launch} {Z : State} {a0 : Array Value} {n : Nat} (hw : ∀ d ∈ tables_1, d.before a0 Z = true) (x0 : Int32) (x1 : Int32) (x2 : Int32) (x3 : Int32) (x4 : Int32) (x5 : Int32) (x6 : Int32) (x7 : Int32) : W l Z n m5 0 (entryL [(.ref 1)] 1) [] [.inr (.byte, [(.int (x0)), (.int (x1)), (.int (x2)), (.int (x3)), (.int (x4)), (.int (x5)), (.int (x6)), (.int (x7))]), .inl ("com/example/quiverstore/quiverstore/ByteReader", [(("com/example/quiverstore/quiverstore/ByteReader", "bytes", "[B"), (.ref 0)), (("com/example/quiverstore/quiverstore/ByteReader", "position", "I"), (.int (7)))])] 0 0 (Is (some (.int (nar .byte x7))) [.inr (.byte, [(.int (x0)), (.int (x1)), (.int (x2)), (.int (x3)), (.int (x4)), (.int (x5)), (.int (x6)), (.int (x7))]), .inl ("com/example/quiverstore/quiverstore/ByteReader", [(("com/example/quiverstore/quiverstore/ByteReader", "bytes", "[B"), (.ref 0)), (("com/example/quiverstore/quiverstore/ByteReader", "position", "I"), (.int (7 + 1)))])]) := by
  show W l Z n m5 0 [(.val (.ref 1))] [] [.inr (.byte, [(.int (x0)), (.int (x1)), (.int (x2)), (.int (x3)), (.int (x4)), (.int (x5)), (.int (x6)), (.int (x7))]), .inl ("com/example/quiverstore/quiverstore/ByteReader", [(("com/example/quiverstore/quiverstore/ByteReader", "bytes", "[B"), (.ref 0)), (("com/example/quiverstore/quiverstore/ByteReader", "position", "I"), (.int (7)))])] 0 0 _
  refine W.aloadN d5_0 rfl rfl ?_
  refine W.getfield 0 d5_1 (hw _ (wd 15 rfl)) rfl rfl ?_
  refine W.aloadN d5_4 rfl rfl ?_
  refine W.dup d5_5 rfl ?_
  refine W.getfield 1 d5_6 (hw _ (wd 17 rfl)) rfl rfl ?_
  refine W.dupX1 d5_9 rfl rfl ?_
  refine W.iconst 1 d5_10 rfl ?_
  refine W.iadd d5_11 ?_
  refine W.putfield 1 d5_12 (hw _ (wd 17 rfl)) rfl rfl (Or.inl (hw _ (wd 18 rfl))) (hw _ (wd 7 rfl)) (ty := .int) (by decide) (fun _ => rfl) (fun _ => rfl) ?_
  refine W.baload (i := 7) d5_15 rfl ⟨by decide, by decide⟩ rfl ?_
  exact W.nreturn .byte d5_16 rfl (by simp) (by decide) (by decide) (⟨rfl, rfl⟩)
set_option maxRecDepth 65536 in
set_option maxHeartbeats 40000000 in
theorem w_law {l : Launch} {Z : State} {a0 : Array Value} {n : Nat} (hw : ∀ d ∈ tables_1, d.before a0 Z = true) (a : Int64) (b e : Int32) : W l Z n m0 0 (entryL [.long a, .int b, .int e] 17) [] [] 0 0 (fun v _ => v = some (.int 1)) := by
  show W l Z n m0 0 [(.val (.long (a))), .second, (.val (.int (b))), (.val (.int (e))), .unset, .unset, .unset, .unset, .unset, .unset, .unset, .unset, .unset, .unset, .unset, .unset, .unset] [] [] 0 0 _
  refine W.iloadN d0_0 rfl ?_
  refine W.ldc d0_1 (hw _ (wd 0 rfl)) ?_
  refine W.iand d0_3 ?_
  refine W.iconst 3 d0_4 rfl ?_
  refine W.irem d0_5 (by decide) ?_
  refine W.istore d0_6 rfl ?_
  refine W.iconst 1 d0_8 rfl ?_
  refine W.iloadN d0_9 rfl ?_
  refine W.bipush 8 d0_10 rfl ?_
  refine W.iushr d0_12 ?_
  refine W.iconst 5 d0_13 rfl ?_
  refine W.irem d0_14 (by decide) ?_
  rcases own_n b with q15 | q15 | q15 | q15 | q15
  · rw [q15]
    refine W.iadd d0_15 ?_
    refine W.istore d0_16 rfl ?_
    refine W.lloadN d0_18 rfl ?_
    refine W.iconst 0 d0_19 rfl ?_
    refine W.iload d0_20 rfl ?_
    refine W.callsV (M' := m1) d0_22 (hw _ (wd 1 rfl)) (hw _ (wd 2 rfl)) (c1_0 hw a) (ok1 hw) rfl rfl rfl ?_
    refine W.istore d0_25 rfl ?_
    refine W.lloadN d0_27 rfl ?_
    refine W.iconst 1 d0_28 rfl ?_
    refine W.iload d0_29 rfl ?_
    refine W.callsV (M' := m1) d0_31 (hw _ (wd 1 rfl)) (hw _ (wd 2 rfl)) (c1_1 hw a) (ok1 hw) rfl rfl rfl ?_
    refine W.istore d0_34 rfl ?_
    show WB _ l Z n m0 36 [(.val (.long (a))), .second, (.val (.int (b))), (.val (.int (e))), (.val (.int ((b &&& 2147483647) % 3))), (.val (.int (1 + 0))), (.val (.int ((((XT.ushrL a (8 * 0)).toInt32) &&& 255) &&& 127))), (.val (.int ((((XT.ushrL a (8 * 1)).toInt32) &&& 255) &&& 127))), .unset, .unset, .unset, .unset, .unset, .unset, .unset, .unset, .unset] [] [] _ _ _
    refine W.lloadN d0_36 rfl ?_
    refine W.iconst 2 d0_37 rfl ?_
    refine W.iload d0_38 rfl ?_
    refine W.callsV (M' := m1) d0_40 (hw _ (wd 1 rfl)) (hw _ (wd 2 rfl)) (c1_2 hw a) (ok1 hw) rfl rfl rfl ?_
    refine W.istore d0_43 rfl ?_
    refine W.lloadN d0_45 rfl ?_
    refine W.iconst 3 d0_46 rfl ?_
    refine W.iload d0_47 rfl ?_
    refine W.callsV (M' := m1) d0_49 (hw _ (wd 1 rfl)) (hw _ (wd 2 rfl)) (c1_3 hw a) (ok1 hw) rfl rfl rfl ?_
    refine W.istore d0_52 rfl ?_
    refine W.lloadN d0_54 rfl ?_
    refine W.iconst 4 d0_55 rfl ?_
    refine W.iload d0_56 rfl ?_
    refine W.callsV (M' := m1) d0_58 (hw _ (wd 1 rfl)) (hw _ (wd 2 rfl)) (c1_4 hw a) (ok1 hw) rfl rfl rfl ?_
    refine W.istore d0_61 rfl ?_
    refine W.bipush 8 d0_63 rfl ?_
    refine W.newarray (N := 0) (cnt := 8) (cap := 8) d0_65 (hw _ (wd 5 rfl)) ⟨by decide, by decide⟩ rfl (Nat.le_refl _) (by decide) (by decide) (by decide) ?_
    show WB _ l Z n m0 67 [(.val (.long (a))), .second, (.val (.int (b))), (.val (.int (e))), (.val (.int ((b &&& 2147483647) % 3))), (.val (.int (1 + 0))), (.val (.int ((((XT.ushrL a (8 * 0)).toInt32) &&& 255) &&& 127))), (.val (.int ((((XT.ushrL a (8 * 1)).toInt32) &&& 255) &&& 127))), (.val (.int ((((XT.ushrL a (8 * 2)).toInt32) &&& 255) &&& 127))), (.val (.int ((((XT.ushrL a (8 * 3)).toInt32) &&& 255) &&& 127))), (.val (.int ((((XT.ushrL a (8 * 4)).toInt32) &&& 255) &&& 127))), .unset, .unset, .unset, .unset, .unset, .unset] [(.ref 0)] [.inr (.byte, [(.int (0)), (.int (0)), (.int (0)), (.int (0)), (.int (0)), (.int (0)), (.int (0)), (.int (0))])] _ _ _
    refine W.astore d0_67 rfl rfl ?_
    refine W.aload d0_69 rfl rfl ?_
    refine W.iconst 0 d0_71 rfl ?_
    refine W.iloadN d0_72 rfl ?_
    refine W.i2b d0_73 ?_
    refine W.bastore (i := 0) d0_74 rfl ⟨by decide, by decide⟩ (by simp) ?_
    refine W.aload d0_75 rfl rfl ?_
    refine W.iconst 1 d0_77 rfl ?_
    refine W.iloadN d0_78 rfl ?_
    refine W.bipush 8 d0_79 rfl ?_
    refine W.iushr d0_81 ?_
    refine W.i2b d0_82 ?_
    refine W.bastore (i := 1) d0_83 rfl ⟨by decide, by decide⟩ (by simp) ?_
    refine W.aload d0_84 rfl rfl ?_
    refine W.iconst 2 d0_86 rfl ?_
    refine W.iloadN d0_87 rfl ?_
    refine W.bipush 16 d0_88 rfl ?_
    refine W.iushr d0_90 ?_
    refine W.i2b d0_91 ?_
    refine W.bastore (i := 2) d0_92 rfl ⟨by decide, by decide⟩ (by simp) ?_
    show WB _ l Z n m0 93 [(.val (.long (a))), .second, (.val (.int (b))), (.val (.int (e))), (.val (.int ((b &&& 2147483647) % 3))), (.val (.int (1 + 0))), (.val (.int ((((XT.ushrL a (8 * 0)).toInt32) &&& 255) &&& 127))), (.val (.int ((((XT.ushrL a (8 * 1)).toInt32) &&& 255) &&& 127))), (.val (.int ((((XT.ushrL a (8 * 2)).toInt32) &&& 255) &&& 127))), (.val (.int ((((XT.ushrL a (8 * 3)).toInt32) &&& 255) &&& 127))), (.val (.int ((((XT.ushrL a (8 * 4)).toInt32) &&& 255) &&& 127))), (.val (.ref 0)), .unset, .unset, .unset, .unset, .unset] [] [.inr (.byte, [(.int (e.toInt8.toInt32.toInt8.toInt32)), (.int (((XT.ushr e 8).toInt8.toInt32).toInt8.toInt32)), (.int (((XT.ushr e 16).toInt8.toInt32).toInt8.toInt32)), (.int (0)), (.int (0)), (.int (0)), (.int (0)), (.int (0))])] _ _ _
    refine W.aload d0_93 rfl rfl ?_
    refine W.iconst 3 d0_95 rfl ?_
    refine W.iloadN d0_96 rfl ?_
    refine W.bipush 24 d0_97 rfl ?_
    refine W.iushr d0_99 ?_
    refine W.i2b d0_100 ?_
    refine W.bastore (i := 3) d0_101 rfl ⟨by decide, by decide⟩ (by simp) ?_
    refine W.aload d0_102 rfl rfl ?_
    refine W.iconst 4 d0_104 rfl ?_
    refine W.iloadN d0_105 rfl ?_
    refine W.i2b d0_106 ?_
    refine W.bastore (i := 4) d0_107 rfl ⟨by decide, by decide⟩ (by simp) ?_
    refine W.aload d0_108 rfl rfl ?_
    refine W.iconst 5 d0_110 rfl ?_
    refine W.iloadN d0_111 rfl ?_
    refine W.bipush 8 d0_112 rfl ?_
    refine W.iushr d0_114 ?_
    refine W.i2b d0_115 ?_
    refine W.bastore (i := 5) d0_116 rfl ⟨by decide, by decide⟩ (by simp) ?_
    refine W.aload d0_117 rfl rfl ?_
    refine W.bipush 6 d0_119 rfl ?_
    refine W.iloadN d0_121 rfl ?_
    refine W.bipush 16 d0_122 rfl ?_
    refine W.iushr d0_124 ?_
    refine W.i2b d0_125 ?_
    refine W.bastore (i := 6) d0_126 rfl ⟨by decide, by decide⟩ (by simp) ?_
    show WB _ l Z n m0 127 [(.val (.long (a))), .second, (.val (.int (b))), (.val (.int (e))), (.val (.int ((b &&& 2147483647) % 3))), (.val (.int (1 + 0))), (.val (.int ((((XT.ushrL a (8 * 0)).toInt32) &&& 255) &&& 127))), (.val (.int ((((XT.ushrL a (8 * 1)).toInt32) &&& 255) &&& 127))), (.val (.int ((((XT.ushrL a (8 * 2)).toInt32) &&& 255) &&& 127))), (.val (.int ((((XT.ushrL a (8 * 3)).toInt32) &&& 255) &&& 127))), (.val (.int ((((XT.ushrL a (8 * 4)).toInt32) &&& 255) &&& 127))), (.val (.ref 0)), .unset, .unset, .unset, .unset, .unset] [] [.inr (.byte, [(.int (e.toInt8.toInt32.toInt8.toInt32)), (.int (((XT.ushr e 8).toInt8.toInt32).toInt8.toInt32)), (.int (((XT.ushr e 16).toInt8.toInt32).toInt8.toInt32)), (.int (((XT.ushr e 24).toInt8.toInt32).toInt8.toInt32)), (.int (e.toInt8.toInt32.toInt8.toInt32)), (.int (((XT.ushr e 8).toInt8.toInt32).toInt8.toInt32)), (.int (((XT.ushr e 16).toInt8.toInt32).toInt8.toInt32)), (.int (0))])] _ _ _
    refine W.aload d0_127 rfl rfl ?_
    refine W.bipush 7 d0_129 rfl ?_
    refine W.iloadN d0_131 rfl ?_
    refine W.bipush 24 d0_132 rfl ?_
    refine W.iushr d0_134 ?_
    refine W.i2b d0_135 ?_
    refine W.bastore (i := 7) d0_136 rfl ⟨by decide, by decide⟩ (by simp) ?_
    rcases own_p b with q137 | q137 | q137
    · rw [q137]
      refine W.aload d0_137 rfl rfl ?_
      refine W.iload d0_139 rfl ?_
      refine W.iload d0_141 rfl ?_
      refine W.i2b d0_143 ?_
      refine W.bastore (i := 0) d0_144 rfl ⟨by decide, by decide⟩ (by simp) ?_
      refine W.iload d0_145 rfl ?_
      refine W.iconst 1 d0_147 rfl ?_
      refine W.icmp_le d0_148 (fun h148 => ?_) (fun h => False.elim (by revert h; decide))
      refine W.iload d0_161 rfl ?_
      refine W.iconst 2 d0_163 rfl ?_
      refine W.icmp_le d0_164 (fun h164 => ?_) (fun h => False.elim (by revert h; decide))
      refine W.iload d0_177 rfl ?_
      refine W.iconst 3 d0_179 rfl ?_
      refine W.icmp_le d0_180 (fun h180 => ?_) (fun h => False.elim (by revert h; decide))
      refine W.iload d0_193 rfl ?_
      refine W.iconst 4 d0_195 rfl ?_
      refine W.icmp_le d0_196 (fun h196 => ?_) (fun h => False.elim (by revert h; decide))
      refine W.aload d0_209 rfl rfl ?_
      refine W.iload d0_211 rfl ?_
      refine W.iload d0_213 rfl ?_
      refine W.iadd d0_215 ?_
      refine W.baload (i := 1) d0_216 rfl ⟨by decide, by decide⟩ rfl ?_
      refine W.istore d0_217 rfl ?_
      refine W.iload d0_219 rfl ?_
      refine W.bipush 127 d0_221 rfl ?_
      refine W.iand d0_223 ?_
      refine W.istore d0_224 rfl ?_
      show WB _ l Z n m0 226 [(.val (.long (a))), .second, (.val (.int (b))), (.val (.int (e))), (.val (.int (0))), (.val (.int (1 + 0))), (.val (.int ((((XT.ushrL a (8 * 0)).toInt32) &&& 255) &&& 127))), (.val (.int ((((XT.ushrL a (8 * 1)).toInt32) &&& 255) &&& 127))), (.val (.int ((((XT.ushrL a (8 * 2)).toInt32) &&& 255) &&& 127))), (.val (.int ((((XT.ushrL a (8 * 3)).toInt32) &&& 255) &&& 127))), (.val (.int ((((XT.ushrL a (8 * 4)).toInt32) &&& 255) &&& 127))), (.val (.ref 0)), (.val (.int (((XT.ushr e 8).toInt8.toInt32).toInt8.toInt32))), (.val (.int (((((XT.ushrL a (8 * 0)).toInt32) &&& 255) &&& 127) &&& 127))), .unset, .unset, .unset] [] [.inr (.byte, [(.int ((((((XT.ushrL a (8 * 0)).toInt32) &&& 255) &&& 127).toInt8.toInt32).toInt8.toInt32)), (.int (((XT.ushr e 8).toInt8.toInt32).toInt8.toInt32)), (.int (((XT.ushr e 16).toInt8.toInt32).toInt8.toInt32)), (.int (((XT.ushr e 24).toInt8.toInt32).toInt8.toInt32)), (.int (e.toInt8.toInt32.toInt8.toInt32)), (.int (((XT.ushr e 8).toInt8.toInt32).toInt8.toInt32)), (.int (((XT.ushr e 16).toInt8.toInt32).toInt8.toInt32)), (.int (((XT.ushr e 24).toInt8.toInt32).toInt8.toInt32))])] _ _ _
      refine W.iload d0_226 rfl ?_
      refine W.iconst 1 d0_228 rfl ?_
      refine W.icmp_le d0_229 (fun h229 => ?_) (fun h => False.elim (by revert h; decide))
      refine W.iload d0_246 rfl ?_
      refine W.iconst 2 d0_248 rfl ?_
      refine W.icmp_le d0_249 (fun h249 => ?_) (fun h => False.elim (by revert h; decide))
      refine W.iload d0_266 rfl ?_
      refine W.iconst 3 d0_268 rfl ?_
      refine W.icmp_le d0_269 (fun h269 => ?_) (fun h => False.elim (by revert h; decide))
      refine W.iload d0_285 rfl ?_
      refine W.iconst 4 d0_287 rfl ?_
      refine W.icmp_le d0_288 (fun h288 => ?_) (fun h => False.elim (by revert h; decide))
      refine W.new (N := 1) d0_304 (hw _ (wd 6 rfl)) (okc0 hw) rfl (by decide) (by decide) ?_
      refine W.dup d0_307 rfl ?_
      refine W.aload d0_308 rfl rfl ?_
      refine W.iload d0_310 rfl ?_
      refine W.initN (M' := m2) d0_312 rfl rfl (hw _ (wd 9 rfl)) (hw _ (wd 10 rfl)) (c2_5 hw ((((((XT.ushrL a (8 * 0)).toInt32) &&& 255) &&& 127).toInt8.toInt32).toInt8.toInt32) (((XT.ushr e 8).toInt8.toInt32).toInt8.toInt32) (((XT.ushr e 16).toInt8.toInt32).toInt8.toInt32) (((XT.ushr e 24).toInt8.toInt32).toInt8.toInt32) e.toInt8.toInt32.toInt8.toInt32 (((XT.ushr e 8).toInt8.toInt32).toInt8.toInt32) (((XT.ushr e 16).toInt8.toInt32).toInt8.toInt32) (((XT.ushr e 24).toInt8.toInt32).toInt8.toInt32)) (ok2 hw) rfl rfl rfl ?_
      refine W.astore d0_315 rfl rfl ?_
      refine W.aload d0_317 rfl rfl ?_
      refine W.callvV (M' := m4) d0_319 (hw _ (wd 19 rfl)) (hw _ (wd 20 rfl)) (hw _ (wd 21 rfl)) (hw _ (wd 22 rfl)) (c4_6 hw ((((((XT.ushrL a (8 * 0)).toInt32) &&& 255) &&& 127).toInt8.toInt32).toInt8.toInt32) (((XT.ushr e 8).toInt8.toInt32).toInt8.toInt32) (((XT.ushr e 16).toInt8.toInt32).toInt8.toInt32) (((XT.ushr e 24).toInt8.toInt32).toInt8.toInt32) e.toInt8.toInt32.toInt8.toInt32 (((XT.ushr e 8).toInt8.toInt32).toInt8.toInt32) (((XT.ushr e 16).toInt8.toInt32).toInt8.toInt32) (((XT.ushr e 24).toInt8.toInt32).toInt8.toInt32) (own_pos _)) (ok4 hw) rfl rfl rfl rfl ?_
      refine W.istore d0_322 rfl ?_
      refine W.aload d0_324 rfl rfl ?_
      refine W.callvV (M' := m5) d0_326 (hw _ (wd 24 rfl)) (hw _ (wd 25 rfl)) (hw _ (wd 26 rfl)) (hw _ (wd 27 rfl)) (c5_7 hw ((((((XT.ushrL a (8 * 0)).toInt32) &&& 255) &&& 127).toInt8.toInt32).toInt8.toInt32) (((XT.ushr e 8).toInt8.toInt32).toInt8.toInt32) (((XT.ushr e 16).toInt8.toInt32).toInt8.toInt32) (((XT.ushr e 24).toInt8.toInt32).toInt8.toInt32) e.toInt8.toInt32.toInt8.toInt32 (((XT.ushr e 8).toInt8.toInt32).toInt8.toInt32) (((XT.ushr e 16).toInt8.toInt32).toInt8.toInt32) (((XT.ushr e 24).toInt8.toInt32).toInt8.toInt32)) (ok5 hw) rfl rfl rfl rfl ?_
      refine W.istore d0_329 rfl ?_
      show WB _ l Z n m0 331 [(.val (.long (a))), .second, (.val (.int (b))), (.val (.int (e))), (.val (.int (0))), (.val (.int (1 + 0))), (.val (.int ((((XT.ushrL a (8 * 0)).toInt32) &&& 255) &&& 127))), (.val (.int ((((XT.ushrL a (8 * 1)).toInt32) &&& 255) &&& 127))), (.val (.int ((((XT.ushrL a (8 * 2)).toInt32) &&& 255) &&& 127))), (.val (.int ((((XT.ushrL a (8 * 3)).toInt32) &&& 255) &&& 127))), (.val (.int ((((XT.ushrL a (8 * 4)).toInt32) &&& 255) &&& 127))), (.val (.ref 0)), (.val (.int (((XT.ushr e 8).toInt8.toInt32).toInt8.toInt32))), (.val (.int (((((XT.ushrL a (8 * 0)).toInt32) &&& 255) &&& 127) &&& 127))), (.val (.ref 1)), (.val (.int ((0 : Int32) ||| ((((((((XT.ushrL a (8 * 0)).toInt32) &&& 255) &&& 127).toInt8.toInt32).toInt8.toInt32) &&& 127) <<< ((0 : Int32) &&& 31))))), (.val (.int (nar .byte (((XT.ushr e 8).toInt8.toInt32).toInt8.toInt32))))] [] [.inr (.byte, [(.int (((((((XT.ushrL a (8 * 0)).toInt32) &&& 255) &&& 127).toInt8.toInt32).toInt8.toInt32))), (.int ((((XT.ushr e 8).toInt8.toInt32).toInt8.toInt32))), (.int ((((XT.ushr e 16).toInt8.toInt32).toInt8.toInt32))), (.int ((((XT.ushr e 24).toInt8.toInt32).toInt8.toInt32))), (.int (e.toInt8.toInt32.toInt8.toInt32)), (.int ((((XT.ushr e 8).toInt8.toInt32).toInt8.toInt32))), (.int ((((XT.ushr e 16).toInt8.toInt32).toInt8.toInt32))), (.int ((((XT.ushr e 24).toInt8.toInt32).toInt8.toInt32)))]), .inl ("com/example/quiverstore/quiverstore/ByteReader", [(("com/example/quiverstore/quiverstore/ByteReader", "bytes", "[B"), (.ref 0)), (("com/example/quiverstore/quiverstore/ByteReader", "position", "I"), (.int (1 + 1)))])] _ _ _
      refine W.iload d0_331 rfl ?_
      refine W.iload d0_333 rfl ?_
      refine W.icmp_ne d0_335 (fun h => False.elim (h (own_sum1 _))) (fun h335 => ?_)
      refine W.iload d0_338 rfl ?_
      refine W.iload d0_340 rfl ?_
      refine W.icmp_ne d0_342 (fun h => False.elim (h (nar_byte _))) (fun h342 => ?_)
      refine W.iconst 1 d0_345 rfl ?_
      refine W.goto d0_346 ?_
      exact W.nreturn .boolean d0_350 rfl (by simp) (by decide) (by decide) (rfl)
    · rw [q137]
      refine W.aload d0_137 rfl rfl ?_
      refine W.iload d0_139 rfl ?_
      refine W.iload d0_141 rfl ?_
      refine W.i2b d0_143 ?_
      refine W.bastore (i := 1) d0_144 rfl ⟨by decide, by decide⟩ (by simp) ?_
      refine W.iload d0_145 rfl ?_
      refine W.iconst 1 d0_147 rfl ?_
      refine W.icmp_le d0_148 (fun h148 => ?_) (fun h => False.elim (by revert h; decide))
      refine W.iload d0_161 rfl ?_
      refine W.iconst 2 d0_163 rfl ?_
      refine W.icmp_le d0_164 (fun h164 => ?_) (fun h => False.elim (by revert h; decide))
      refine W.iload d0_177 rfl ?_
      refine W.iconst 3 d0_179 rfl ?_
      refine W.icmp_le d0_180 (fun h180 => ?_) (fun h => False.elim (by revert h; decide))
      refine W.iload d0_193 rfl ?_
      refine W.iconst 4 d0_195 rfl ?_
      refine W.icmp_le d0_196 (fun h196 => ?_) (fun h => False.elim (by revert h; decide))
      refine W.aload d0_209 rfl rfl ?_
      refine W.iload d0_211 rfl ?_
      refine W.iload d0_213 rfl ?_
      refine W.iadd d0_215 ?_
      refine W.baload (i := 2) d0_216 rfl ⟨by decide, by decide⟩ rfl ?_
      refine W.istore d0_217 rfl ?_
      refine W.iload d0_219 rfl ?_
      refine W.bipush 127 d0_221 rfl ?_
      refine W.iand d0_223 ?_
      refine W.istore d0_224 rfl ?_
      show WB _ l Z n m0 226 [(.val (.long (a))), .second, (.val (.int (b))), (.val (.int (e))), (.val (.int (1))), (.val (.int (1 + 0))), (.val (.int ((((XT.ushrL a (8 * 0)).toInt32) &&& 255) &&& 127))), (.val (.int ((((XT.ushrL a (8 * 1)).toInt32) &&& 255) &&& 127))), (.val (.int ((((XT.ushrL a (8 * 2)).toInt32) &&& 255) &&& 127))), (.val (.int ((((XT.ushrL a (8 * 3)).toInt32) &&& 255) &&& 127))), (.val (.int ((((XT.ushrL a (8 * 4)).toInt32) &&& 255) &&& 127))), (.val (.ref 0)), (.val (.int (((XT.ushr e 16).toInt8.toInt32).toInt8.toInt32))), (.val (.int (((((XT.ushrL a (8 * 0)).toInt32) &&& 255) &&& 127) &&& 127))), .unset, .unset, .unset] [] [.inr (.byte, [(.int (e.toInt8.toInt32.toInt8.toInt32)), (.int ((((((XT.ushrL a (8 * 0)).toInt32) &&& 255) &&& 127).toInt8.toInt32).toInt8.toInt32)), (.int (((XT.ushr e 16).toInt8.toInt32).toInt8.toInt32)), (.int (((XT.ushr e 24).toInt8.toInt32).toInt8.toInt32)), (.int (e.toInt8.toInt32.toInt8.toInt32)), (.int (((XT.ushr e 8).toInt8.toInt32).toInt8.toInt32)), (.int (((XT.ushr e 16).toInt8.toInt32).toInt8.toInt32)), (.int (((XT.ushr e 24).toInt8.toInt32).toInt8.toInt32))])] _ _ _
      refine W.iload d0_226 rfl ?_
      refine W.iconst 1 d0_228 rfl ?_
      refine W.icmp_le d0_229 (fun h229 => ?_) (fun h => False.elim (by revert h; decide))
      refine W.iload d0_246 rfl ?_
      refine W.iconst 2 d0_248 rfl ?_
      refine W.icmp_le d0_249 (fun h249 => ?_) (fun h => False.elim (by revert h; decide))
      refine W.iload d0_266 rfl ?_
      refine W.iconst 3 d0_268 rfl ?_
      refine W.icmp_le d0_269 (fun h269 => ?_) (fun h => False.elim (by revert h; decide))
      refine W.iload d0_285 rfl ?_
      refine W.iconst 4 d0_287 rfl ?_
      refine W.icmp_le d0_288 (fun h288 => ?_) (fun h => False.elim (by revert h; decide))
      refine W.new (N := 1) d0_304 (hw _ (wd 6 rfl)) (okc0 hw) rfl (by decide) (by decide) ?_
      refine W.dup d0_307 rfl ?_
      refine W.aload d0_308 rfl rfl ?_
      refine W.iload d0_310 rfl ?_
      refine W.initN (M' := m2) d0_312 rfl rfl (hw _ (wd 9 rfl)) (hw _ (wd 10 rfl)) (c2_8 hw e.toInt8.toInt32.toInt8.toInt32 ((((((XT.ushrL a (8 * 0)).toInt32) &&& 255) &&& 127).toInt8.toInt32).toInt8.toInt32) (((XT.ushr e 16).toInt8.toInt32).toInt8.toInt32) (((XT.ushr e 24).toInt8.toInt32).toInt8.toInt32) e.toInt8.toInt32.toInt8.toInt32 (((XT.ushr e 8).toInt8.toInt32).toInt8.toInt32) (((XT.ushr e 16).toInt8.toInt32).toInt8.toInt32) (((XT.ushr e 24).toInt8.toInt32).toInt8.toInt32)) (ok2 hw) rfl rfl rfl ?_
      refine W.astore d0_315 rfl rfl ?_
      refine W.aload d0_317 rfl rfl ?_
      refine W.callvV (M' := m4) d0_319 (hw _ (wd 19 rfl)) (hw _ (wd 20 rfl)) (hw _ (wd 21 rfl)) (hw _ (wd 22 rfl)) (c4_9 hw e.toInt8.toInt32.toInt8.toInt32 ((((((XT.ushrL a (8 * 0)).toInt32) &&& 255) &&& 127).toInt8.toInt32).toInt8.toInt32) (((XT.ushr e 16).toInt8.toInt32).toInt8.toInt32) (((XT.ushr e 24).toInt8.toInt32).toInt8.toInt32) e.toInt8.toInt32.toInt8.toInt32 (((XT.ushr e 8).toInt8.toInt32).toInt8.toInt32) (((XT.ushr e 16).toInt8.toInt32).toInt8.toInt32) (((XT.ushr e 24).toInt8.toInt32).toInt8.toInt32) (own_pos _)) (ok4 hw) rfl rfl rfl rfl ?_
      refine W.istore d0_322 rfl ?_
      refine W.aload d0_324 rfl rfl ?_
      refine W.callvV (M' := m5) d0_326 (hw _ (wd 24 rfl)) (hw _ (wd 25 rfl)) (hw _ (wd 26 rfl)) (hw _ (wd 27 rfl)) (c5_10 hw e.toInt8.toInt32.toInt8.toInt32 ((((((XT.ushrL a (8 * 0)).toInt32) &&& 255) &&& 127).toInt8.toInt32).toInt8.toInt32) (((XT.ushr e 16).toInt8.toInt32).toInt8.toInt32) (((XT.ushr e 24).toInt8.toInt32).toInt8.toInt32) e.toInt8.toInt32.toInt8.toInt32 (((XT.ushr e 8).toInt8.toInt32).toInt8.toInt32) (((XT.ushr e 16).toInt8.toInt32).toInt8.toInt32) (((XT.ushr e 24).toInt8.toInt32).toInt8.toInt32)) (ok5 hw) rfl rfl rfl rfl ?_
      refine W.istore d0_329 rfl ?_
      show WB _ l Z n m0 331 [(.val (.long (a))), .second, (.val (.int (b))), (.val (.int (e))), (.val (.int (1))), (.val (.int (1 + 0))), (.val (.int ((((XT.ushrL a (8 * 0)).toInt32) &&& 255) &&& 127))), (.val (.int ((((XT.ushrL a (8 * 1)).toInt32) &&& 255) &&& 127))), (.val (.int ((((XT.ushrL a (8 * 2)).toInt32) &&& 255) &&& 127))), (.val (.int ((((XT.ushrL a (8 * 3)).toInt32) &&& 255) &&& 127))), (.val (.int ((((XT.ushrL a (8 * 4)).toInt32) &&& 255) &&& 127))), (.val (.ref 0)), (.val (.int (((XT.ushr e 16).toInt8.toInt32).toInt8.toInt32))), (.val (.int (((((XT.ushrL a (8 * 0)).toInt32) &&& 255) &&& 127) &&& 127))), (.val (.ref 1)), (.val (.int ((0 : Int32) ||| ((((((((XT.ushrL a (8 * 0)).toInt32) &&& 255) &&& 127).toInt8.toInt32).toInt8.toInt32) &&& 127) <<< ((0 : Int32) &&& 31))))), (.val (.int (nar .byte (((XT.ushr e 16).toInt8.toInt32).toInt8.toInt32))))] [] [.inr (.byte, [(.int (e.toInt8.toInt32.toInt8.toInt32)), (.int (((((((XT.ushrL a (8 * 0)).toInt32) &&& 255) &&& 127).toInt8.toInt32).toInt8.toInt32))), (.int ((((XT.ushr e 16).toInt8.toInt32).toInt8.toInt32))), (.int ((((XT.ushr e 24).toInt8.toInt32).toInt8.toInt32))), (.int (e.toInt8.toInt32.toInt8.toInt32)), (.int ((((XT.ushr e 8).toInt8.toInt32).toInt8.toInt32))), (.int ((((XT.ushr e 16).toInt8.toInt32).toInt8.toInt32))), (.int ((((XT.ushr e 24).toInt8.toInt32).toInt8.toInt32)))]), .inl ("com/example/quiverstore/quiverstore/ByteReader", [(("com/example/quiverstore/quiverstore/ByteReader", "bytes", "[B"), (.ref 0)), (("com/example/quiverstore/quiverstore/ByteReader", "position", "I"), (.int (2 + 1)))])] _ _ _
      refine W.iload d0_331 rfl ?_
      refine W.iload d0_333 rfl ?_
      refine W.icmp_ne d0_335 (fun h => False.elim (h (own_sum1 _))) (fun h335 => ?_)
      refine W.iload d0_338 rfl ?_
      refine W.iload d0_340 rfl ?_
      refine W.icmp_ne d0_342 (fun h => False.elim (h (nar_byte _))) (fun h342 => ?_)
      refine W.iconst 1 d0_345 rfl ?_
      refine W.goto d0_346 ?_
      exact W.nreturn .boolean d0_350 rfl (by simp) (by decide) (by decide) (rfl)
    · rw [q137]
      refine W.aload d0_137 rfl rfl ?_
      refine W.iload d0_139 rfl ?_
      refine W.iload d0_141 rfl ?_
      refine W.i2b d0_143 ?_
      refine W.bastore (i := 2) d0_144 rfl ⟨by decide, by decide⟩ (by simp) ?_
      refine W.iload d0_145 rfl ?_
      refine W.iconst 1 d0_147 rfl ?_
      refine W.icmp_le d0_148 (fun h148 => ?_) (fun h => False.elim (by revert h; decide))
      refine W.iload d0_161 rfl ?_
      refine W.iconst 2 d0_163 rfl ?_
      refine W.icmp_le d0_164 (fun h164 => ?_) (fun h => False.elim (by revert h; decide))
      refine W.iload d0_177 rfl ?_
      refine W.iconst 3 d0_179 rfl ?_
      refine W.icmp_le d0_180 (fun h180 => ?_) (fun h => False.elim (by revert h; decide))
      refine W.iload d0_193 rfl ?_
      refine W.iconst 4 d0_195 rfl ?_
      refine W.icmp_le d0_196 (fun h196 => ?_) (fun h => False.elim (by revert h; decide))
      refine W.aload d0_209 rfl rfl ?_
      refine W.iload d0_211 rfl ?_
      refine W.iload d0_213 rfl ?_
      refine W.iadd d0_215 ?_
      refine W.baload (i := 3) d0_216 rfl ⟨by decide, by decide⟩ rfl ?_
      refine W.istore d0_217 rfl ?_
      refine W.iload d0_219 rfl ?_
      refine W.bipush 127 d0_221 rfl ?_
      refine W.iand d0_223 ?_
      refine W.istore d0_224 rfl ?_
      show WB _ l Z n m0 226 [(.val (.long (a))), .second, (.val (.int (b))), (.val (.int (e))), (.val (.int (2))), (.val (.int (1 + 0))), (.val (.int ((((XT.ushrL a (8 * 0)).toInt32) &&& 255) &&& 127))), (.val (.int ((((XT.ushrL a (8 * 1)).toInt32) &&& 255) &&& 127))), (.val (.int ((((XT.ushrL a (8 * 2)).toInt32) &&& 255) &&& 127))), (.val (.int ((((XT.ushrL a (8 * 3)).toInt32) &&& 255) &&& 127))), (.val (.int ((((XT.ushrL a (8 * 4)).toInt32) &&& 255) &&& 127))), (.val (.ref 0)), (.val (.int (((XT.ushr e 24).toInt8.toInt32).toInt8.toInt32))), (.val (.int (((((XT.ushrL a (8 * 0)).toInt32) &&& 255) &&& 127) &&& 127))), .unset, .unset, .unset] [] [.inr (.byte, [(.int (e.toInt8.toInt32.toInt8.toInt32)), (.int (((XT.ushr e 8).toInt8.toInt32).toInt8.toInt32)), (.int ((((((XT.ushrL a (8 * 0)).toInt32) &&& 255) &&& 127).toInt8.toInt32).toInt8.toInt32)), (.int (((XT.ushr e 24).toInt8.toInt32).toInt8.toInt32)), (.int (e.toInt8.toInt32.toInt8.toInt32)), (.int (((XT.ushr e 8).toInt8.toInt32).toInt8.toInt32)), (.int (((XT.ushr e 16).toInt8.toInt32).toInt8.toInt32)), (.int (((XT.ushr e 24).toInt8.toInt32).toInt8.toInt32))])] _ _ _
      refine W.iload d0_226 rfl ?_
      refine W.iconst 1 d0_228 rfl ?_
      refine W.icmp_le d0_229 (fun h229 => ?_) (fun h => False.elim (by revert h; decide))
      refine W.iload d0_246 rfl ?_
      refine W.iconst 2 d0_248 rfl ?_
      refine W.icmp_le d0_249 (fun h249 => ?_) (fun h => False.elim (by revert h; decide))
      refine W.iload d0_266 rfl ?_
      refine W.iconst 3 d0_268 rfl ?_
      refine W.icmp_le d0_269 (fun h269 => ?_) (fun h => False.elim (by revert h; decide))
      refine W.iload d0_285 rfl ?_
      refine W.iconst 4 d0_287 rfl ?_
      refine W.icmp_le d0_288 (fun h288 => ?_) (fun h => False.elim (by revert h; decide))
      refine W.new (N := 1) d0_304 (hw _ (wd 6 rfl)) (okc0 hw) rfl (by decide) (by decide) ?_
      refine W.dup d0_307 rfl ?_
      refine W.aload d0_308 rfl rfl ?_
      refine W.iload d0_310 rfl ?_
      refine W.initN (M' := m2) d0_312 rfl rfl (hw _ (wd 9 rfl)) (hw _ (wd 10 rfl)) (c2_11 hw e.toInt8.toInt32.toInt8.toInt32 (((XT.ushr e 8).toInt8.toInt32).toInt8.toInt32) ((((((XT.ushrL a (8 * 0)).toInt32) &&& 255) &&& 127).toInt8.toInt32).toInt8.toInt32) (((XT.ushr e 24).toInt8.toInt32).toInt8.toInt32) e.toInt8.toInt32.toInt8.toInt32 (((XT.ushr e 8).toInt8.toInt32).toInt8.toInt32) (((XT.ushr e 16).toInt8.toInt32).toInt8.toInt32) (((XT.ushr e 24).toInt8.toInt32).toInt8.toInt32)) (ok2 hw) rfl rfl rfl ?_
      refine W.astore d0_315 rfl rfl ?_
      refine W.aload d0_317 rfl rfl ?_
      refine W.callvV (M' := m4) d0_319 (hw _ (wd 19 rfl)) (hw _ (wd 20 rfl)) (hw _ (wd 21 rfl)) (hw _ (wd 22 rfl)) (c4_12 hw e.toInt8.toInt32.toInt8.toInt32 (((XT.ushr e 8).toInt8.toInt32).toInt8.toInt32) ((((((XT.ushrL a (8 * 0)).toInt32) &&& 255) &&& 127).toInt8.toInt32).toInt8.toInt32) (((XT.ushr e 24).toInt8.toInt32).toInt8.toInt32) e.toInt8.toInt32.toInt8.toInt32 (((XT.ushr e 8).toInt8.toInt32).toInt8.toInt32) (((XT.ushr e 16).toInt8.toInt32).toInt8.toInt32) (((XT.ushr e 24).toInt8.toInt32).toInt8.toInt32) (own_pos _)) (ok4 hw) rfl rfl rfl rfl ?_
      refine W.istore d0_322 rfl ?_
      refine W.aload d0_324 rfl rfl ?_
      refine W.callvV (M' := m5) d0_326 (hw _ (wd 24 rfl)) (hw _ (wd 25 rfl)) (hw _ (wd 26 rfl)) (hw _ (wd 27 rfl)) (c5_13 hw e.toInt8.toInt32.toInt8.toInt32 (((XT.ushr e 8).toInt8.toInt32).toInt8.toInt32) ((((((XT.ushrL a (8 * 0)).toInt32) &&& 255) &&& 127).toInt8.toInt32).toInt8.toInt32) (((XT.ushr e 24).toInt8.toInt32).toInt8.toInt32) e.toInt8.toInt32.toInt8.toInt32 (((XT.ushr e 8).toInt8.toInt32).toInt8.toInt32) (((XT.ushr e 16).toInt8.toInt32).toInt8.toInt32) (((XT.ushr e 24).toInt8.toInt32).toInt8.toInt32)) (ok5 hw) rfl rfl rfl rfl ?_
      refine W.istore d0_329 rfl ?_
      show WB _ l Z n m0 331 [(.val (.long (a))), .second, (.val (.int (b))), (.val (.int (e))), (.val (.int (2))), (.val (.int (1 + 0))), (.val (.int ((((XT.ushrL a (8 * 0)).toInt32) &&& 255) &&& 127))), (.val (.int ((((XT.ushrL a (8 * 1)).toInt32) &&& 255) &&& 127))), (.val (.int ((((XT.ushrL a (8 * 2)).toInt32) &&& 255) &&& 127))), (.val (.int ((((XT.ushrL a (8 * 3)).toInt32) &&& 255) &&& 127))), (.val (.int ((((XT.ushrL a (8 * 4)).toInt32) &&& 255) &&& 127))), (.val (.ref 0)), (.val (.int (((XT.ushr e 24).toInt8.toInt32).toInt8.toInt32))), (.val (.int (((((XT.ushrL a (8 * 0)).toInt32) &&& 255) &&& 127) &&& 127))), (.val (.ref 1)), (.val (.int ((0 : Int32) ||| ((((((((XT.ushrL a (8 * 0)).toInt32) &&& 255) &&& 127).toInt8.toInt32).toInt8.toInt32) &&& 127) <<< ((0 : Int32) &&& 31))))), (.val (.int (nar .byte (((XT.ushr e 24).toInt8.toInt32).toInt8.toInt32))))] [] [.inr (.byte, [(.int (e.toInt8.toInt32.toInt8.toInt32)), (.int ((((XT.ushr e 8).toInt8.toInt32).toInt8.toInt32))), (.int (((((((XT.ushrL a (8 * 0)).toInt32) &&& 255) &&& 127).toInt8.toInt32).toInt8.toInt32))), (.int ((((XT.ushr e 24).toInt8.toInt32).toInt8.toInt32))), (.int (e.toInt8.toInt32.toInt8.toInt32)), (.int ((((XT.ushr e 8).toInt8.toInt32).toInt8.toInt32))), (.int ((((XT.ushr e 16).toInt8.toInt32).toInt8.toInt32))), (.int ((((XT.ushr e 24).toInt8.toInt32).toInt8.toInt32)))]), .inl ("com/example/quiverstore/quiverstore/ByteReader", [(("com/example/quiverstore/quiverstore/ByteReader", "bytes", "[B"), (.ref 0)), (("com/example/quiverstore/quiverstore/ByteReader", "position", "I"), (.int (3 + 1)))])] _ _ _
      refine W.iload d0_331 rfl ?_
      refine W.iload d0_333 rfl ?_
      refine W.icmp_ne d0_335 (fun h => False.elim (h (own_sum1 _))) (fun h335 => ?_)
      refine W.iload d0_338 rfl ?_
      refine W.iload d0_340 rfl ?_
      refine W.icmp_ne d0_342 (fun h => False.elim (h (nar_byte _))) (fun h342 => ?_)
      refine W.iconst 1 d0_345 rfl ?_
      refine W.goto d0_346 ?_
      exact W.nreturn .boolean d0_350 rfl (by simp) (by decide) (by decide) (rfl)
  · rw [q15]
    refine W.iadd d0_15 ?_
    refine W.istore d0_16 rfl ?_
    refine W.lloadN d0_18 rfl ?_
    refine W.iconst 0 d0_19 rfl ?_
    refine W.iload d0_20 rfl ?_
    refine W.callsV (M' := m1) d0_22 (hw _ (wd 1 rfl)) (hw _ (wd 2 rfl)) (c1_14 hw a) (ok1 hw) rfl rfl rfl ?_
    refine W.istore d0_25 rfl ?_
    refine W.lloadN d0_27 rfl ?_
    refine W.iconst 1 d0_28 rfl ?_
    refine W.iload d0_29 rfl ?_
    refine W.callsV (M' := m1) d0_31 (hw _ (wd 1 rfl)) (hw _ (wd 2 rfl)) (c1_15 hw a) (ok1 hw) rfl rfl rfl ?_
    refine W.istore d0_34 rfl ?_
    show WB _ l Z n m0 36 [(.val (.long (a))), .second, (.val (.int (b))), (.val (.int (e))), (.val (.int ((b &&& 2147483647) % 3))), (.val (.int (1 + 1))), (.val (.int ((((XT.ushrL a (8 * 0)).toInt32) &&& 255) ||| 128))), (.val (.int ((((XT.ushrL a (8 * 1)).toInt32) &&& 255) &&& 127))), .unset, .unset, .unset, .unset, .unset, .unset, .unset, .unset, .unset] [] [] _ _ _
    refine W.lloadN d0_36 rfl ?_
    refine W.iconst 2 d0_37 rfl ?_
    refine W.iload d0_38 rfl ?_
    refine W.callsV (M' := m1) d0_40 (hw _ (wd 1 rfl)) (hw _ (wd 2 rfl)) (c1_16 hw a) (ok1 hw) rfl rfl rfl ?_
    refine W.istore d0_43 rfl ?_
    refine W.lloadN d0_45 rfl ?_
    refine W.iconst 3 d0_46 rfl ?_
    refine W.iload d0_47 rfl ?_
    refine W.callsV (M' := m1) d0_49 (hw _ (wd 1 rfl)) (hw _ (wd 2 rfl)) (c1_17 hw a) (ok1 hw) rfl rfl rfl ?_
    refine W.istore d0_52 rfl ?_
    refine W.lloadN d0_54 rfl ?_
    refine W.iconst 4 d0_55 rfl ?_
    refine W.iload d0_56 rfl ?_
    refine W.callsV (M' := m1) d0_58 (hw _ (wd 1 rfl)) (hw _ (wd 2 rfl)) (c1_18 hw a) (ok1 hw) rfl rfl rfl ?_
    refine W.istore d0_61 rfl ?_
    refine W.bipush 8 d0_63 rfl ?_
    refine W.newarray (N := 0) (cnt := 8) (cap := 8) d0_65 (hw _ (wd 5 rfl)) ⟨by decide, by decide⟩ rfl (Nat.le_refl _) (by decide) (by decide) (by decide) ?_
    show WB _ l Z n m0 67 [(.val (.long (a))), .second, (.val (.int (b))), (.val (.int (e))), (.val (.int ((b &&& 2147483647) % 3))), (.val (.int (1 + 1))), (.val (.int ((((XT.ushrL a (8 * 0)).toInt32) &&& 255) ||| 128))), (.val (.int ((((XT.ushrL a (8 * 1)).toInt32) &&& 255) &&& 127))), (.val (.int ((((XT.ushrL a (8 * 2)).toInt32) &&& 255) &&& 127))), (.val (.int ((((XT.ushrL a (8 * 3)).toInt32) &&& 255) &&& 127))), (.val (.int ((((XT.ushrL a (8 * 4)).toInt32) &&& 255) &&& 127))), .unset, .unset, .unset, .unset, .unset, .unset] [(.ref 0)] [.inr (.byte, [(.int (0)), (.int (0)), (.int (0)), (.int (0)), (.int (0)), (.int (0)), (.int (0)), (.int (0))])] _ _ _
    refine W.astore d0_67 rfl rfl ?_
    refine W.aload d0_69 rfl rfl ?_
    refine W.iconst 0 d0_71 rfl ?_
    refine W.iloadN d0_72 rfl ?_
    refine W.i2b d0_73 ?_
    refine W.bastore (i := 0) d0_74 rfl ⟨by decide, by decide⟩ (by simp) ?_
    refine W.aload d0_75 rfl rfl ?_
    refine W.iconst 1 d0_77 rfl ?_
    refine W.iloadN d0_78 rfl ?_
    refine W.bipush 8 d0_79 rfl ?_
    refine W.iushr d0_81 ?_
    refine W.i2b d0_82 ?_
    refine W.bastore (i := 1) d0_83 rfl ⟨by decide, by decide⟩ (by simp) ?_
    refine W.aload d0_84 rfl rfl ?_
    refine W.iconst 2 d0_86 rfl ?_
    refine W.iloadN d0_87 rfl ?_
    refine W.bipush 16 d0_88 rfl ?_
    refine W.iushr d0_90 ?_
    refine W.i2b d0_91 ?_
    refine W.bastore (i := 2) d0_92 rfl ⟨by decide, by decide⟩ (by simp) ?_
    show WB _ l Z n m0 93 [(.val (.long (a))), .second, (.val (.int (b))), (.val (.int (e))), (.val (.int ((b &&& 2147483647) % 3))), (.val (.int (1 + 1))), (.val (.int ((((XT.ushrL a (8 * 0)).toInt32) &&& 255) ||| 128))), (.val (.int ((((XT.ushrL a (8 * 1)).toInt32) &&& 255) &&& 127))), (.val (.int ((((XT.ushrL a (8 * 2)).toInt32) &&& 255) &&& 127))), (.val (.int ((((XT.ushrL a (8 * 3)).toInt32) &&& 255) &&& 127))), (.val (.int ((((XT.ushrL a (8 * 4)).toInt32) &&& 255) &&& 127))), (.val (.ref 0)), .unset, .unset, .unset, .unset, .unset] [] [.inr (.byte, [(.int (e.toInt8.toInt32.toInt8.toInt32)), (.int (((XT.ushr e 8).toInt8.toInt32).toInt8.toInt32)), (.int (((XT.ushr e 16).toInt8.toInt32).toInt8.toInt32)), (.int (0)), (.int (0)), (.int (0)), (.int (0)), (.int (0))])] _ _ _
    refine W.aload d0_93 rfl rfl ?_
    refine W.iconst 3 d0_95 rfl ?_
    refine W.iloadN d0_96 rfl ?_
    refine W.bipush 24 d0_97 rfl ?_
    refine W.iushr d0_99 ?_
    refine W.i2b d0_100 ?_
    refine W.bastore (i := 3) d0_101 rfl ⟨by decide, by decide⟩ (by simp) ?_
    refine W.aload d0_102 rfl rfl ?_
    refine W.iconst 4 d0_104 rfl ?_
    refine W.iloadN d0_105 rfl ?_
    refine W.i2b d0_106 ?_
    refine W.bastore (i := 4) d0_107 rfl ⟨by decide, by decide⟩ (by simp) ?_
    refine W.aload d0_108 rfl rfl ?_
    refine W.iconst 5 d0_110 rfl ?_
    refine W.iloadN d0_111 rfl ?_
    refine W.bipush 8 d0_112 rfl ?_
    refine W.iushr d0_114 ?_
    refine W.i2b d0_115 ?_
    refine W.bastore (i := 5) d0_116 rfl ⟨by decide, by decide⟩ (by simp) ?_
    refine W.aload d0_117 rfl rfl ?_
    refine W.bipush 6 d0_119 rfl ?_
    refine W.iloadN d0_121 rfl ?_
    refine W.bipush 16 d0_122 rfl ?_
    refine W.iushr d0_124 ?_
    refine W.i2b d0_125 ?_
    refine W.bastore (i := 6) d0_126 rfl ⟨by decide, by decide⟩ (by simp) ?_
    show WB _ l Z n m0 127 [(.val (.long (a))), .second, (.val (.int (b))), (.val (.int (e))), (.val (.int ((b &&& 2147483647) % 3))), (.val (.int (1 + 1))), (.val (.int ((((XT.ushrL a (8 * 0)).toInt32) &&& 255) ||| 128))), (.val (.int ((((XT.ushrL a (8 * 1)).toInt32) &&& 255) &&& 127))), (.val (.int ((((XT.ushrL a (8 * 2)).toInt32) &&& 255) &&& 127))), (.val (.int ((((XT.ushrL a (8 * 3)).toInt32) &&& 255) &&& 127))), (.val (.int ((((XT.ushrL a (8 * 4)).toInt32) &&& 255) &&& 127))), (.val (.ref 0)), .unset, .unset, .unset, .unset, .unset] [] [.inr (.byte, [(.int (e.toInt8.toInt32.toInt8.toInt32)), (.int (((XT.ushr e 8).toInt8.toInt32).toInt8.toInt32)), (.int (((XT.ushr e 16).toInt8.toInt32).toInt8.toInt32)), (.int (((XT.ushr e 24).toInt8.toInt32).toInt8.toInt32)), (.int (e.toInt8.toInt32.toInt8.toInt32)), (.int (((XT.ushr e 8).toInt8.toInt32).toInt8.toInt32)), (.int (((XT.ushr e 16).toInt8.toInt32).toInt8.toInt32)), (.int (0))])] _ _ _
    refine W.aload d0_127 rfl rfl ?_
    refine W.bipush 7 d0_129 rfl ?_
    refine W.iloadN d0_131 rfl ?_
    refine W.bipush 24 d0_132 rfl ?_
    refine W.iushr d0_134 ?_
    refine W.i2b d0_135 ?_
    refine W.bastore (i := 7) d0_136 rfl ⟨by decide, by decide⟩ (by simp) ?_
    rcases own_p b with q137 | q137 | q137
    · rw [q137]
      refine W.aload d0_137 rfl rfl ?_
      refine W.iload d0_139 rfl ?_
      refine W.iload d0_141 rfl ?_
      refine W.i2b d0_143 ?_
      refine W.bastore (i := 0) d0_144 rfl ⟨by decide, by decide⟩ (by simp) ?_
      refine W.iload d0_145 rfl ?_
      refine W.iconst 1 d0_147 rfl ?_
      refine W.icmp_le d0_148 (fun h => False.elim (by revert h; decide)) (fun h148 => ?_)
      refine W.aload d0_151 rfl rfl ?_
      refine W.iload d0_153 rfl ?_
      refine W.iconst 1 d0_155 rfl ?_
      refine W.iadd d0_156 ?_
      refine W.iload d0_157 rfl ?_
      refine W.i2b d0_159 ?_
      refine W.bastore (i := 1) d0_160 rfl ⟨by decide, by decide⟩ (by simp) ?_
      refine W.iload d0_161 rfl ?_
      refine W.iconst 2 d0_163 rfl ?_
      refine W.icmp_le d0_164 (fun h164 => ?_) (fun h => False.elim (by revert h; decide))
      refine W.iload d0_177 rfl ?_
      refine W.iconst 3 d0_179 rfl ?_
      refine W.icmp_le d0_180 (fun h180 => ?_) (fun h => False.elim (by revert h; decide))
      refine W.iload d0_193 rfl ?_
      refine W.iconst 4 d0_195 rfl ?_
      refine W.icmp_le d0_196 (fun h196 => ?_) (fun h => False.elim (by revert h; decide))
      refine W.aload d0_209 rfl rfl ?_
      refine W.iload d0_211 rfl ?_
      refine W.iload d0_213 rfl ?_
      refine W.iadd d0_215 ?_
      refine W.baload (i := 2) d0_216 rfl ⟨by decide, by decide⟩ rfl ?_
      refine W.istore d0_217 rfl ?_
      show WB _ l Z n m0 219 [(.val (.long (a))), .second, (.val (.int (b))), (.val (.int (e))), (.val (.int (0))), (.val (.int (1 + 1))), (.val (.int ((((XT.ushrL a (8 * 0)).toInt32) &&& 255) ||| 128))), (.val (.int ((((XT.ushrL a (8 * 1)).toInt32) &&& 255) &&& 127))), (.val (.int ((((XT.ushrL a (8 * 2)).toInt32) &&& 255) &&& 127))), (.val (.int ((((XT.ushrL a (8 * 3)).toInt32) &&& 255) &&& 127))), (.val (.int ((((XT.ushrL a (8 * 4)).toInt32) &&& 255) &&& 127))), (.val (.ref 0)), (.val (.int (((XT.ushr e 16).toInt8.toInt32).toInt8.toInt32))), .unset, .unset, .unset, .unset] [] [.inr (.byte, [(.int ((((((XT.ushrL a (8 * 0)).toInt32) &&& 255) ||| 128).toInt8.toInt32).toInt8.toInt32)), (.int ((((((XT.ushrL a (8 * 1)).toInt32) &&& 255) &&& 127).toInt8.toInt32).toInt8.toInt32)), (.int (((XT.ushr e 16).toInt8.toInt32).toInt8.toInt32)), (.int (((XT.ushr e 24).toInt8.toInt32).toInt8.toInt32)), (.int (e.toInt8.toInt32.toInt8.toInt32)), (.int (((XT.ushr e 8).toInt8.toInt32).toInt8.toInt32)), (.int (((XT.ushr e 16).toInt8.toInt32).toInt8.toInt32)), (.int (((XT.ushr e 24).toInt8.toInt32).toInt8.toInt32))])] _ _ _
      refine W.iload d0_219 rfl ?_
      refine W.bipush 127 d0_221 rfl ?_
      refine W.iand d0_223 ?_
      refine W.istore d0_224 rfl ?_
      refine W.iload d0_226 rfl ?_
      refine W.iconst 1 d0_228 rfl ?_
      refine W.icmp_le d0_229 (fun h => False.elim (by revert h; decide)) (fun h229 => ?_)
      refine W.iload d0_232 rfl ?_
      refine W.iload d0_234 rfl ?_
      refine W.bipush 127 d0_236 rfl ?_
      refine W.iand d0_238 ?_
      refine W.sipush 128 d0_239 rfl ?_
      refine W.imul d0_242 ?_
      refine W.iadd d0_243 ?_
      refine W.istore d0_244 rfl ?_
      refine W.iload d0_246 rfl ?_
      refine W.iconst 2 d0_248 rfl ?_
      refine W.icmp_le d0_249 (fun h249 => ?_) (fun h => False.elim (by revert h; decide))
      refine W.iload d0_266 rfl ?_
      refine W.iconst 3 d0_268 rfl ?_
      refine W.icmp_le d0_269 (fun h269 => ?_) (fun h => False.elim (by revert h; decide))
      refine W.iload d0_285 rfl ?_
      refine W.iconst 4 d0_287 rfl ?_
      refine W.icmp_le d0_288 (fun h288 => ?_) (fun h => False.elim (by revert h; decide))
      refine W.new (N := 1) d0_304 (hw _ (wd 6 rfl)) (okc0 hw) rfl (by decide) (by decide) ?_
      refine W.dup d0_307 rfl ?_
      refine W.aload d0_308 rfl rfl ?_
      refine W.iload d0_310 rfl ?_
      refine W.initN (M' := m2) d0_312 rfl rfl (hw _ (wd 9 rfl)) (hw _ (wd 10 rfl)) (c2_5 hw ((((((XT.ushrL a (8 * 0)).toInt32) &&& 255) ||| 128).toInt8.toInt32).toInt8.toInt32) ((((((XT.ushrL a (8 * 1)).toInt32) &&& 255) &&& 127).toInt8.toInt32).toInt8.toInt32) (((XT.ushr e 16).toInt8.toInt32).toInt8.toInt32) (((XT.ushr e 24).toInt8.toInt32).toInt8.toInt32) e.toInt8.toInt32.toInt8.toInt32 (((XT.ushr e 8).toInt8.toInt32).toInt8.toInt32) (((XT.ushr e 16).toInt8.toInt32).toInt8.toInt32) (((XT.ushr e 24).toInt8.toInt32).toInt8.toInt32)) (ok2 hw) rfl rfl rfl ?_
      refine W.astore d0_315 rfl rfl ?_
      show WB _ l Z n m0 317 [(.val (.long (a))), .second, (.val (.int (b))), (.val (.int (e))), (.val (.int (0))), (.val (.int (1 + 1))), (.val (.int ((((XT.ushrL a (8 * 0)).toInt32) &&& 255) ||| 128))), (.val (.int ((((XT.ushrL a (8 * 1)).toInt32) &&& 255) &&& 127))), (.val (.int ((((XT.ushrL a (8 * 2)).toInt32) &&& 255) &&& 127))), (.val (.int ((((XT.ushrL a (8 * 3)).toInt32) &&& 255) &&& 127))), (.val (.int ((((XT.ushrL a (8 * 4)).toInt32) &&& 255) &&& 127))), (.val (.ref 0)), (.val (.int (((XT.ushr e 16).toInt8.toInt32).toInt8.toInt32))), (.val (.int ((((((XT.ushrL a (8 * 0)).toInt32) &&& 255) ||| 128) &&& 127) + ((((((XT.ushrL a (8 * 1)).toInt32) &&& 255) &&& 127) &&& 127) * 128)))), (.val (.ref 1)), .unset, .unset] [] [.inr (.byte, [(.int (((((((XT.ushrL a (8 * 0)).toInt32) &&& 255) ||| 128).toInt8.toInt32).toInt8.toInt32))), (.int (((((((XT.ushrL a (8 * 1)).toInt32) &&& 255) &&& 127).toInt8.toInt32).toInt8.toInt32))), (.int ((((XT.ushr e 16).toInt8.toInt32).toInt8.toInt32))), (.int ((((XT.ushr e 24).toInt8.toInt32).toInt8.toInt32))), (.int (e.toInt8.toInt32.toInt8.toInt32)), (.int ((((XT.ushr e 8).toInt8.toInt32).toInt8.toInt32))), (.int ((((XT.ushr e 16).toInt8.toInt32).toInt8.toInt32))), (.int ((((XT.ushr e 24).toInt8.toInt32).toInt8.toInt32)))]), .inl ("com/example/quiverstore/quiverstore/ByteReader", [(("com/example/quiverstore/quiverstore/ByteReader", "bytes", "[B"), (.ref 0)), (("com/example/quiverstore/quiverstore/ByteReader", "position", "I"), (.int (0)))])] _ _ _
      refine W.aload d0_317 rfl rfl ?_
      refine W.callvV (M' := m4) d0_319 (hw _ (wd 19 rfl)) (hw _ (wd 20 rfl)) (hw _ (wd 21 rfl)) (hw _ (wd 22 rfl)) (c4_19 hw ((((((XT.ushrL a (8 * 0)).toInt32) &&& 255) ||| 128).toInt8.toInt32).toInt8.toInt32) ((((((XT.ushrL a (8 * 1)).toInt32) &&& 255) &&& 127).toInt8.toInt32).toInt8.toInt32) (((XT.ushr e 16).toInt8.toInt32).toInt8.toInt32) (((XT.ushr e 24).toInt8.toInt32).toInt8.toInt32) e.toInt8.toInt32.toInt8.toInt32 (((XT.ushr e 8).toInt8.toInt32).toInt8.toInt32) (((XT.ushr e 16).toInt8.toInt32).toInt8.toInt32) (((XT.ushr e 24).toInt8.toInt32).toInt8.toInt32) (own_neg _) (own_pos _)) (ok4 hw) rfl rfl rfl rfl ?_
      refine W.istore d0_322 rfl ?_
      refine W.aload d0_324 rfl rfl ?_
      refine W.callvV (M' := m5) d0_326 (hw _ (wd 24 rfl)) (hw _ (wd 25 rfl)) (hw _ (wd 26 rfl)) (hw _ (wd 27 rfl)) (c5_10 hw ((((((XT.ushrL a (8 * 0)).toInt32) &&& 255) ||| 128).toInt8.toInt32).toInt8.toInt32) ((((((XT.ushrL a (8 * 1)).toInt32) &&& 255) &&& 127).toInt8.toInt32).toInt8.toInt32) (((XT.ushr e 16).toInt8.toInt32).toInt8.toInt32) (((XT.ushr e 24).toInt8.toInt32).toInt8.toInt32) e.toInt8.toInt32.toInt8.toInt32 (((XT.ushr e 8).toInt8.toInt32).toInt8.toInt32) (((XT.ushr e 16).toInt8.toInt32).toInt8.toInt32) (((XT.ushr e 24).toInt8.toInt32).toInt8.toInt32)) (ok5 hw) rfl rfl rfl rfl ?_
      refine W.istore d0_329 rfl ?_
      refine W.iload d0_331 rfl ?_
      refine W.iload d0_333 rfl ?_
      refine W.icmp_ne d0_335 (fun h => False.elim (h (own_sum2 _ _))) (fun h335 => ?_)
      refine W.iload d0_338 rfl ?_
      refine W.iload d0_340 rfl ?_
      refine W.icmp_ne d0_342 (fun h => False.elim (h (nar_byte _))) (fun h342 => ?_)
      refine W.iconst 1 d0_345 rfl ?_
      refine W.goto d0_346 ?_
      exact W.nreturn .boolean d0_350 rfl (by simp) (by decide) (by decide) (rfl)
    · rw [q137]
      refine W.aload d0_137 rfl rfl ?_
      refine W.iload d0_139 rfl ?_
      refine W.iload d0_141 rfl ?_
      refine W.i2b d0_143 ?_
      refine W.bastore (i := 1) d0_144 rfl ⟨by decide, by decide⟩ (by simp) ?_
      refine W.iload d0_145 rfl ?_
      refine W.iconst 1 d0_147 rfl ?_
      refine W.icmp_le d0_148 (fun h => False.elim (by revert h; decide)) (fun h148 => ?_)
      refine W.aload d0_151 rfl rfl ?_
      refine W.iload d0_153 rfl ?_
      refine W.iconst 1 d0_155 rfl ?_
      refine W.iadd d0_156 ?_
      refine W.iload d0_157 rfl ?_
      refine W.i2b d0_159 ?_
      refine W.bastore (i := 2) d0_160 rfl ⟨by decide, by decide⟩ (by simp) ?_
      refine W.iload d0_161 rfl ?_
      refine W.iconst 2 d0_163 rfl ?_
      refine W.icmp_le d0_164 (fun h164 => ?_) (fun h => False.elim (by revert h; decide))
      refine W.iload d0_177 rfl ?_
      refine W.iconst 3 d0_179 rfl ?_
      refine W.icmp_le d0_180 (fun h180 => ?_) (fun h => False.elim (by revert h; decide))
      refine W.iload d0_193 rfl ?_
      refine W.iconst 4 d0_195 rfl ?_
      refine W.icmp_le d0_196 (fun h196 => ?_) (fun h => False.elim (by revert h; decide))
      refine W.aload d0_209 rfl rfl ?_
      refine W.iload d0_211 rfl ?_
      refine W.iload d0_213 rfl ?_
      refine W.iadd d0_215 ?_
      refine W.baload (i := 3) d0_216 rfl ⟨by decide, by decide⟩ rfl ?_
      refine W.istore d0_217 rfl ?_
      show WB _ l Z n m0 219 [(.val (.long (a))), .second, (.val (.int (b))), (.val (.int (e))), (.val (.int (1))), (.val (.int (1 + 1))), (.val (.int ((((XT.ushrL a (8 * 0)).toInt32) &&& 255) ||| 128))), (.val (.int ((((XT.ushrL a (8 * 1)).toInt32) &&& 255) &&& 127))), (.val (.int ((((XT.ushrL a (8 * 2)).toInt32) &&& 255) &&& 127))), (.val (.int ((((XT.ushrL a (8 * 3)).toInt32) &&& 255) &&& 127))), (.val (.int ((((XT.ushrL a (8 * 4)).toInt32) &&& 255) &&& 127))), (.val (.ref 0)), (.val (.int (((XT.ushr e 24).toInt8.toInt32).toInt8.toInt32))), .unset, .unset, .unset, .unset] [] [.inr (.byte, [(.int (e.toInt8.toInt32.toInt8.toInt32)), (.int ((((((XT.ushrL a (8 * 0)).toInt32) &&& 255) ||| 128).toInt8.toInt32).toInt8.toInt32)), (.int ((((((XT.ushrL a (8 * 1)).toInt32) &&& 255) &&& 127).toInt8.toInt32).toInt8.toInt32)), (.int (((XT.ushr e 24).toInt8.toInt32).toInt8.toInt32)), (.int (e.toInt8.toInt32.toInt8.toInt32)), (.int (((XT.ushr e 8).toInt8.toInt32).toInt8.toInt32)), (.int (((XT.ushr e 16).toInt8.toInt32).toInt8.toInt32)), (.int (((XT.ushr e 24).toInt8.toInt32).toInt8.toInt32))])] _ _ _
      refine W.iload d0_219 rfl ?_
      refine W.bipush 127 d0_221 rfl ?_
      refine W.iand d0_223 ?_
      refine W.istore d0_224 rfl ?_
      refine W.iload d0_226 rfl ?_
      refine W.iconst 1 d0_228 rfl ?_
      refine W.icmp_le d0_229 (fun h => False.elim (by revert h; decide)) (fun h229 => ?_)
      refine W.iload d0_232 rfl ?_
      refine W.iload d0_234 rfl ?_
      refine W.bipush 127 d0_236 rfl ?_
      refine W.iand d0_238 ?_
      refine W.sipush 128 d0_239 rfl ?_
      refine W.imul d0_242 ?_
      refine W.iadd d0_243 ?_
      refine W.istore d0_244 rfl ?_
      refine W.iload d0_246 rfl ?_
      refine W.iconst 2 d0_248 rfl ?_
      refine W.icmp_le d0_249 (fun h249 => ?_) (fun h => False.elim (by revert h; decide))
      refine W.iload d0_266 rfl ?_
      refine W.iconst 3 d0_268 rfl ?_
      refine W.icmp_le d0_269 (fun h269 => ?_) (fun h => False.elim (by revert h; decide))
      refine W.iload d0_285 rfl ?_
      refine W.iconst 4 d0_287 rfl ?_
      refine W.icmp_le d0_288 (fun h288 => ?_) (fun h => False.elim (by revert h; decide))
      refine W.new (N := 1) d0_304 (hw _ (wd 6 rfl)) (okc0 hw) rfl (by decide) (by decide) ?_
      refine W.dup d0_307 rfl ?_
      refine W.aload d0_308 rfl rfl ?_
      refine W.iload d0_310 rfl ?_
      refine W.initN (M' := m2) d0_312 rfl rfl (hw _ (wd 9 rfl)) (hw _ (wd 10 rfl)) (c2_8 hw e.toInt8.toInt32.toInt8.toInt32 ((((((XT.ushrL a (8 * 0)).toInt32) &&& 255) ||| 128).toInt8.toInt32).toInt8.toInt32) ((((((XT.ushrL a (8 * 1)).toInt32) &&& 255) &&& 127).toInt8.toInt32).toInt8.toInt32) (((XT.ushr e 24).toInt8.toInt32).toInt8.toInt32) e.toInt8.toInt32.toInt8.toInt32 (((XT.ushr e 8).toInt8.toInt32).toInt8.toInt32) (((XT.ushr e 16).toInt8.toInt32).toInt8.toInt32) (((XT.ushr e 24).toInt8.toInt32).toInt8.toInt32)) (ok2 hw) rfl rfl rfl ?_
      refine W.astore d0_315 rfl rfl ?_
      show WB _ l Z n m0 317 [(.val (.long (a))), .second, (.val (.int (b))), (.val (.int (e))), (.val (.int (1))), (.val (.int (1 + 1))), (.val (.int ((((XT.ushrL a (8 * 0)).toInt32) &&& 255) ||| 128))), (.val (.int ((((XT.ushrL a (8 * 1)).toInt32) &&& 255) &&& 127))), (.val (.int ((((XT.ushrL a (8 * 2)).toInt32) &&& 255) &&& 127))), (.val (.int ((((XT.ushrL a (8 * 3)).toInt32) &&& 255) &&& 127))), (.val (.int ((((XT.ushrL a (8 * 4)).toInt32) &&& 255) &&& 127))), (.val (.ref 0)), (.val (.int (((XT.ushr e 24).toInt8.toInt32).toInt8.toInt32))), (.val (.int ((((((XT.ushrL a (8 * 0)).toInt32) &&& 255) ||| 128) &&& 127) + ((((((XT.ushrL a (8 * 1)).toInt32) &&& 255) &&& 127) &&& 127) * 128)))), (.val (.ref 1)), .unset, .unset] [] [.inr (.byte, [(.int (e.toInt8.toInt32.toInt8.toInt32)), (.int (((((((XT.ushrL a (8 * 0)).toInt32) &&& 255) ||| 128).toInt8.toInt32).toInt8.toInt32))), (.int (((((((XT.ushrL a (8 * 1)).toInt32) &&& 255) &&& 127).toInt8.toInt32).toInt8.toInt32))), (.int ((((XT.ushr e 24).toInt8.toInt32).toInt8.toInt32))), (.int (e.toInt8.toInt32.toInt8.toInt32)), (.int ((((XT.ushr e 8).toInt8.toInt32).toInt8.toInt32))), (.int ((((XT.ushr e 16).toInt8.toInt32).toInt8.toInt32))), (.int ((((XT.ushr e 24).toInt8.toInt32).toInt8.toInt32)))]), .inl ("com/example/quiverstore/quiverstore/ByteReader", [(("com/example/quiverstore/quiverstore/ByteReader", "bytes", "[B"), (.ref 0)), (("com/example/quiverstore/quiverstore/ByteReader", "position", "I"), (.int (1)))])] _ _ _
      refine W.aload d0_317 rfl rfl ?_
      refine W.callvV (M' := m4) d0_319 (hw _ (wd 19 rfl)) (hw _ (wd 20 rfl)) (hw _ (wd 21 rfl)) (hw _ (wd 22 rfl)) (c4_20 hw e.toInt8.toInt32.toInt8.toInt32 ((((((XT.ushrL a (8 * 0)).toInt32) &&& 255) ||| 128).toInt8.toInt32).toInt8.toInt32) ((((((XT.ushrL a (8 * 1)).toInt32) &&& 255) &&& 127).toInt8.toInt32).toInt8.toInt32) (((XT.ushr e 24).toInt8.toInt32).toInt8.toInt32) e.toInt8.toInt32.toInt8.toInt32 (((XT.ushr e 8).toInt8.toInt32).toInt8.toInt32) (((XT.ushr e 16).toInt8.toInt32).toInt8.toInt32) (((XT.ushr e 24).toInt8.toInt32).toInt8.toInt32) (own_neg _) (own_pos _)) (ok4 hw) rfl rfl rfl rfl ?_
      refine W.istore d0_322 rfl ?_
      refine W.aload d0_324 rfl rfl ?_
      refine W.callvV (M' := m5) d0_326 (hw _ (wd 24 rfl)) (hw _ (wd 25 rfl)) (hw _ (wd 26 rfl)) (hw _ (wd 27 rfl)) (c5_13 hw e.toInt8.toInt32.toInt8.toInt32 ((((((XT.ushrL a (8 * 0)).toInt32) &&& 255) ||| 128).toInt8.toInt32).toInt8.toInt32) ((((((XT.ushrL a (8 * 1)).toInt32) &&& 255) &&& 127).toInt8.toInt32).toInt8.toInt32) (((XT.ushr e 24).toInt8.toInt32).toInt8.toInt32) e.toInt8.toInt32.toInt8.toInt32 (((XT.ushr e 8).toInt8.toInt32).toInt8.toInt32) (((XT.ushr e 16).toInt8.toInt32).toInt8.toInt32) (((XT.ushr e 24).toInt8.toInt32).toInt8.toInt32)) (ok5 hw) rfl rfl rfl rfl ?_
      refine W.istore d0_329 rfl ?_
      refine W.iload d0_331 rfl ?_
      refine W.iload d0_333 rfl ?_
      refine W.icmp_ne d0_335 (fun h => False.elim (h (own_sum2 _ _))) (fun h335 => ?_)
      refine W.iload d0_338 rfl ?_
      refine W.iload d0_340 rfl ?_
      refine W.icmp_ne d0_342 (fun h => False.elim (h (nar_byte _))) (fun h342 => ?_)
      refine W.iconst 1 d0_345 rfl ?_
      refine W.goto d0_346 ?_
      exact W.nreturn .boolean d0_350 rfl (by simp) (by decide) (by decide) (rfl)
    · rw [q137]
      refine W.aload d0_137 rfl rfl ?_
      refine W.iload d0_139 rfl ?_
      refine W.iload d0_141 rfl ?_
      refine W.i2b d0_143 ?_
      refine W.bastore (i := 2) d0_144 rfl ⟨by decide, by decide⟩ (by simp) ?_
      refine W.iload d0_145 rfl ?_
      refine W.iconst 1 d0_147 rfl ?_
      refine W.icmp_le d0_148 (fun h => False.elim (by revert h; decide)) (fun h148 => ?_)
      refine W.aload d0_151 rfl rfl ?_
      refine W.iload d0_153 rfl ?_
      refine W.iconst 1 d0_155 rfl ?_
      refine W.iadd d0_156 ?_
      refine W.iload d0_157 rfl ?_
      refine W.i2b d0_159 ?_
      refine W.bastore (i := 3) d0_160 rfl ⟨by decide, by decide⟩ (by simp) ?_
      refine W.iload d0_161 rfl ?_
      refine W.iconst 2 d0_163 rfl ?_
      refine W.icmp_le d0_164 (fun h164 => ?_) (fun h => False.elim (by revert h; decide))
      refine W.iload d0_177 rfl ?_
      refine W.iconst 3 d0_179 rfl ?_
      refine W.icmp_le d0_180 (fun h180 => ?_) (fun h => False.elim (by revert h; decide))
      refine W.iload d0_193 rfl ?_
      refine W.iconst 4 d0_195 rfl ?_
      refine W.icmp_le d0_196 (fun h196 => ?_) (fun h => False.elim (by revert h; decide))
      refine W.aload d0_209 rfl rfl ?_
      refine W.iload d0_211 rfl ?_
      refine W.iload d0_213 rfl ?_
      refine W.iadd d0_215 ?_
      refine W.baload (i := 4) d0_216 rfl ⟨by decide, by decide⟩ rfl ?_
      refine W.istore d0_217 rfl ?_
      show WB _ l Z n m0 219 [(.val (.long (a))), .second, (.val (.int (b))), (.val (.int (e))), (.val (.int (2))), (.val (.int (1 + 1))), (.val (.int ((((XT.ushrL a (8 * 0)).toInt32) &&& 255) ||| 128))), (.val (.int ((((XT.ushrL a (8 * 1)).toInt32) &&& 255) &&& 127))), (.val (.int ((((XT.ushrL a (8 * 2)).toInt32) &&& 255) &&& 127))), (.val (.int ((((XT.ushrL a (8 * 3)).toInt32) &&& 255) &&& 127))), (.val (.int ((((XT.ushrL a (8 * 4)).toInt32) &&& 255) &&& 127))), (.val (.ref 0)), (.val (.int (e.toInt8.toInt32.toInt8.toInt32))), .unset, .unset, .unset, .unset] [] [.inr (.byte, [(.int (e.toInt8.toInt32.toInt8.toInt32)), (.int (((XT.ushr e 8).toInt8.toInt32).toInt8.toInt32)), (.int ((((((XT.ushrL a (8 * 0)).toInt32) &&& 255) ||| 128).toInt8.toInt32).toInt8.toInt32)), (.int ((((((XT.ushrL a (8 * 1)).toInt32) &&& 255) &&& 127).toInt8.toInt32).toInt8.toInt32)), (.int (e.toInt8.toInt32.toInt8.toInt32)), (.int (((XT.ushr e 8).toInt8.toInt32).toInt8.toInt32)), (.int (((XT.ushr e 16).toInt8.toInt32).toInt8.toInt32)), (.int (((XT.ushr e 24).toInt8.toInt32).toInt8.toInt32))])] _ _ _
      refine W.iload d0_219 rfl ?_
      refine W.bipush 127 d0_221 rfl ?_
      refine W.iand d0_223 ?_
      refine W.istore d0_224 rfl ?_
      refine W.iload d0_226 rfl ?_
      refine W.iconst 1 d0_228 rfl ?_
      refine W.icmp_le d0_229 (fun h => False.elim (by revert h; decide)) (fun h229 => ?_)
      refine W.iload d0_232 rfl ?_
      refine W.iload d0_234 rfl ?_
      refine W.bipush 127 d0_236 rfl ?_
      refine W.iand d0_238 ?_
      refine W.sipush 128 d0_239 rfl ?_
      refine W.imul d0_242 ?_
      refine W.iadd d0_243 ?_
      refine W.istore d0_244 rfl ?_
      refine W.iload d0_246 rfl ?_
      refine W.iconst 2 d0_248 rfl ?_
      refine W.icmp_le d0_249 (fun h249 => ?_) (fun h => False.elim (by revert h; decide))
      refine W.iload d0_266 rfl ?_
      refine W.iconst 3 d0_268 rfl ?_
      refine W.icmp_le d0_269 (fun h269 => ?_) (fun h => False.elim (by revert h; decide))
      refine W.iload d0_285 rfl ?_
      refine W.iconst 4 d0_287 rfl ?_
      refine W.icmp_le d0_288 (fun h288 => ?_) (fun h => False.elim (by revert h; decide))
      refine W.new (N := 1) d0_304 (hw _ (wd 6 rfl)) (okc0 hw) rfl (by decide) (by decide) ?_
      refine W.dup d0_307 rfl ?_
      refine W.aload d0_308 rfl rfl ?_
      refine W.iload d0_310 rfl ?_
      refine W.initN (M' := m2) d0_312 rfl rfl (hw _ (wd 9 rfl)) (hw _ (wd 10 rfl)) (c2_11 hw e.toInt8.toInt32.toInt8.toInt32 (((XT.ushr e 8).toInt8.toInt32).toInt8.toInt32) ((((((XT.ushrL a (8 * 0)).toInt32) &&& 255) ||| 128).toInt8.toInt32).toInt8.toInt32) ((((((XT.ushrL a (8 * 1)).toInt32) &&& 255) &&& 127).toInt8.toInt32).toInt8.toInt32) e.toInt8.toInt32.toInt8.toInt32 (((XT.ushr e 8).toInt8.toInt32).toInt8.toInt32) (((XT.ushr e 16).toInt8.toInt32).toInt8.toInt32) (((XT.ushr e 24).toInt8.toInt32).toInt8.toInt32)) (ok2 hw) rfl rfl rfl ?_
      refine W.astore d0_315 rfl rfl ?_
      show WB _ l Z n m0 317 [(.val (.long (a))), .second, (.val (.int (b))), (.val (.int (e))), (.val (.int (2))), (.val (.int (1 + 1))), (.val (.int ((((XT.ushrL a (8 * 0)).toInt32) &&& 255) ||| 128))), (.val (.int ((((XT.ushrL a (8 * 1)).toInt32) &&& 255) &&& 127))), (.val (.int ((((XT.ushrL a (8 * 2)).toInt32) &&& 255) &&& 127))), (.val (.int ((((XT.ushrL a (8 * 3)).toInt32) &&& 255) &&& 127))), (.val (.int ((((XT.ushrL a (8 * 4)).toInt32) &&& 255) &&& 127))), (.val (.ref 0)), (.val (.int (e.toInt8.toInt32.toInt8.toInt32))), (.val (.int ((((((XT.ushrL a (8 * 0)).toInt32) &&& 255) ||| 128) &&& 127) + ((((((XT.ushrL a (8 * 1)).toInt32) &&& 255) &&& 127) &&& 127) * 128)))), (.val (.ref 1)), .unset, .unset] [] [.inr (.byte, [(.int (e.toInt8.toInt32.toInt8.toInt32)), (.int ((((XT.ushr e 8).toInt8.toInt32).toInt8.toInt32))), (.int (((((((XT.ushrL a (8 * 0)).toInt32) &&& 255) ||| 128).toInt8.toInt32).toInt8.toInt32))), (.int (((((((XT.ushrL a (8 * 1)).toInt32) &&& 255) &&& 127).toInt8.toInt32).toInt8.toInt32))), (.int (e.toInt8.toInt32.toInt8.toInt32)), (.int ((((XT.ushr e 8).toInt8.toInt32).toInt8.toInt32))), (.int ((((XT.ushr e 16).toInt8.toInt32).toInt8.toInt32))), (.int ((((XT.ushr e 24).toInt8.toInt32).toInt8.toInt32)))]), .inl ("com/example/quiverstore/quiverstore/ByteReader", [(("com/example/quiverstore/quiverstore/ByteReader", "bytes", "[B"), (.ref 0)), (("com/example/quiverstore/quiverstore/ByteReader", "position", "I"), (.int (2)))])] _ _ _
      refine W.aload d0_317 rfl rfl ?_
      refine W.callvV (M' := m4) d0_319 (hw _ (wd 19 rfl)) (hw _ (wd 20 rfl)) (hw _ (wd 21 rfl)) (hw _ (wd 22 rfl)) (c4_21 hw e.toInt8.toInt32.toInt8.toInt32 (((XT.ushr e 8).toInt8.toInt32).toInt8.toInt32) ((((((XT.ushrL a (8 * 0)).toInt32) &&& 255) ||| 128).toInt8.toInt32).toInt8.toInt32) ((((((XT.ushrL a (8 * 1)).toInt32) &&& 255) &&& 127).toInt8.toInt32).toInt8.toInt32) e.toInt8.toInt32.toInt8.toInt32 (((XT.ushr e 8).toInt8.toInt32).toInt8.toInt32) (((XT.ushr e 16).toInt8.toInt32).toInt8.toInt32) (((XT.ushr e 24).toInt8.toInt32).toInt8.toInt32) (own_neg _) (own_pos _)) (ok4 hw) rfl rfl rfl rfl ?_
      refine W.istore d0_322 rfl ?_
      refine W.aload d0_324 rfl rfl ?_
      refine W.callvV (M' := m5) d0_326 (hw _ (wd 24 rfl)) (hw _ (wd 25 rfl)) (hw _ (wd 26 rfl)) (hw _ (wd 27 rfl)) (c5_22 hw e.toInt8.toInt32.toInt8.toInt32 (((XT.ushr e 8).toInt8.toInt32).toInt8.toInt32) ((((((XT.ushrL a (8 * 0)).toInt32) &&& 255) ||| 128).toInt8.toInt32).toInt8.toInt32) ((((((XT.ushrL a (8 * 1)).toInt32) &&& 255) &&& 127).toInt8.toInt32).toInt8.toInt32) e.toInt8.toInt32.toInt8.toInt32 (((XT.ushr e 8).toInt8.toInt32).toInt8.toInt32) (((XT.ushr e 16).toInt8.toInt32).toInt8.toInt32) (((XT.ushr e 24).toInt8.toInt32).toInt8.toInt32)) (ok5 hw) rfl rfl rfl rfl ?_
      refine W.istore d0_329 rfl ?_
      refine W.iload d0_331 rfl ?_
      refine W.iload d0_333 rfl ?_
      refine W.icmp_ne d0_335 (fun h => False.elim (h (own_sum2 _ _))) (fun h335 => ?_)
      refine W.iload d0_338 rfl ?_
      refine W.iload d0_340 rfl ?_
      refine W.icmp_ne d0_342 (fun h => False.elim (h (nar_byte _))) (fun h342 => ?_)
      refine W.iconst 1 d0_345 rfl ?_
      refine W.goto d0_346 ?_
      exact W.nreturn .boolean d0_350 rfl (by simp) (by decide) (by decide) (rfl)
  · rw [q15]
    refine W.iadd d0_15 ?_
    refine W.istore d0_16 rfl ?_
    refine W.lloadN d0_18 rfl ?_
    refine W.iconst 0 d0_19 rfl ?_
    refine W.iload d0_20 rfl ?_
    refine W.callsV (M' := m1) d0_22 (hw _ (wd 1 rfl)) (hw _ (wd 2 rfl)) (c1_23 hw a) (ok1 hw) rfl rfl rfl ?_
    refine W.istore d0_25 rfl ?_
    refine W.lloadN d0_27 rfl ?_
    refine W.iconst 1 d0_28 rfl ?_
    refine W.iload d0_29 rfl ?_
    refine W.callsV (M' := m1) d0_31 (hw _ (wd 1 rfl)) (hw _ (wd 2 rfl)) (c1_24 hw a) (ok1 hw) rfl rfl rfl ?_
    refine W.istore d0_34 rfl ?_
    show WB _ l Z n m0 36 [(.val (.long (a))), .second, (.val (.int (b))), (.val (.int (e))), (.val (.int ((b &&& 2147483647) % 3))), (.val (.int (1 + 2))), (.val (.int ((((XT.ushrL a (8 * 0)).toInt32) &&& 255) ||| 128))), (.val (.int ((((XT.ushrL a (8 * 1)).toInt32) &&& 255) ||| 128))), .unset, .unset, .unset, .unset, .unset, .unset, .unset, .unset, .unset] [] [] _ _ _
    refine W.lloadN d0_36 rfl ?_
    refine W.iconst 2 d0_37 rfl ?_
    refine W.iload d0_38 rfl ?_
    refine W.callsV (M' := m1) d0_40 (hw _ (wd 1 rfl)) (hw _ (wd 2 rfl)) (c1_25 hw a) (ok1 hw) rfl rfl rfl ?_
    refine W.istore d0_43 rfl ?_
    refine W.lloadN d0_45 rfl ?_
    refine W.iconst 3 d0_46 rfl ?_
    refine W.iload d0_47 rfl ?_
    refine W.callsV (M' := m1) d0_49 (hw _ (wd 1 rfl)) (hw _ (wd 2 rfl)) (c1_26 hw a) (ok1 hw) rfl rfl rfl ?_
    refine W.istore d0_52 rfl ?_
    refine W.lloadN d0_54 rfl ?_
    refine W.iconst 4 d0_55 rfl ?_
    refine W.iload d0_56 rfl ?_
    refine W.callsV (M' := m1) d0_58 (hw _ (wd 1 rfl)) (hw _ (wd 2 rfl)) (c1_27 hw a) (ok1 hw) rfl rfl rfl ?_
    refine W.istore d0_61 rfl ?_
    refine W.bipush 8 d0_63 rfl ?_
    refine W.newarray (N := 0) (cnt := 8) (cap := 8) d0_65 (hw _ (wd 5 rfl)) ⟨by decide, by decide⟩ rfl (Nat.le_refl _) (by decide) (by decide) (by decide) ?_
    show WB _ l Z n m0 67 [(.val (.long (a))), .second, (.val (.int (b))), (.val (.int (e))), (.val (.int ((b &&& 2147483647) % 3))), (.val (.int (1 + 2))), (.val (.int ((((XT.ushrL a (8 * 0)).toInt32) &&& 255) ||| 128))), (.val (.int ((((XT.ushrL a (8 * 1)).toInt32) &&& 255) ||| 128))), (.val (.int ((((XT.ushrL a (8 * 2)).toInt32) &&& 255) &&& 127))), (.val (.int ((((XT.ushrL a (8 * 3)).toInt32) &&& 255) &&& 127))), (.val (.int ((((XT.ushrL a (8 * 4)).toInt32) &&& 255) &&& 127))), .unset, .unset, .unset, .unset, .unset, .unset] [(.ref 0)] [.inr (.byte, [(.int (0)), (.int (0)), (.int (0)), (.int (0)), (.int (0)), (.int (0)), (.int (0)), (.int (0))])] _ _ _
    refine W.astore d0_67 rfl rfl ?_
    refine W.aload d0_69 rfl rfl ?_
    refine W.iconst 0 d0_71 rfl ?_
    refine W.iloadN d0_72 rfl ?_
    refine W.i2b d0_73 ?_
    refine W.bastore (i := 0) d0_74 rfl ⟨by decide, by decide⟩ (by simp) ?_
    refine W.aload d0_75 rfl rfl ?_
    refine W.iconst 1 d0_77 rfl ?_
    refine W.iloadN d0_78 rfl ?_
    refine W.bipush 8 d0_79 rfl ?_
    refine W.iushr d0_81 ?_
    refine W.i2b d0_82 ?_
    refine W.bastore (i := 1) d0_83 rfl ⟨by decide, by decide⟩ (by simp) ?_
    refine W.aload d0_84 rfl rfl ?_
    refine W.iconst 2 d0_86 rfl ?_
    refine W.iloadN d0_87 rfl ?_
    refine W.bipush 16 d0_88 rfl ?_
    refine W.iushr d0_90 ?_
    refine W.i2b d0_91 ?_
    refine W.bastore (i := 2) d0_92 rfl ⟨by decide, by decide⟩ (by simp) ?_
    show WB _ l Z n m0 93 [(.val (.long (a))), .second, (.val (.int (b))), (.val (.int (e))), (.val (.int ((b &&& 2147483647) % 3))), (.val (.int (1 + 2))), (.val (.int ((((XT.ushrL a (8 * 0)).toInt32) &&& 255) ||| 128))), (.val (.int ((((XT.ushrL a (8 * 1)).toInt32) &&& 255) ||| 128))), (.val (.int ((((XT.ushrL a (8 * 2)).toInt32) &&& 255) &&& 127))), (.val (.int ((((XT.ushrL a (8 * 3)).toInt32) &&& 255) &&& 127))), (.val (.int ((((XT.ushrL a (8 * 4)).toInt32) &&& 255) &&& 127))), (.val (.ref 0)), .unset, .unset, .unset, .unset, .unset] [] [.inr (.byte, [(.int (e.toInt8.toInt32.toInt8.toInt32)), (.int (((XT.ushr e 8).toInt8.toInt32).toInt8.toInt32)), (.int (((XT.ushr e 16).toInt8.toInt32).toInt8.toInt32)), (.int (0)), (.int (0)), (.int (0)), (.int (0)), (.int (0))])] _ _ _
    refine W.aload d0_93 rfl rfl ?_
    refine W.iconst 3 d0_95 rfl ?_
    refine W.iloadN d0_96 rfl ?_
    refine W.bipush 24 d0_97 rfl ?_
    refine W.iushr d0_99 ?_
    refine W.i2b d0_100 ?_
    refine W.bastore (i := 3) d0_101 rfl ⟨by decide, by decide⟩ (by simp) ?_
    refine W.aload d0_102 rfl rfl ?_
    refine W.iconst 4 d0_104 rfl ?_
    refine W.iloadN d0_105 rfl ?_
    refine W.i2b d0_106 ?_
    refine W.bastore (i := 4) d0_107 rfl ⟨by decide, by decide⟩ (by simp) ?_
    refine W.aload d0_108 rfl rfl ?_
    refine W.iconst 5 d0_110 rfl ?_
    refine W.iloadN d0_111 rfl ?_
    refine W.bipush 8 d0_112 rfl ?_
    refine W.iushr d0_114 ?_
    refine W.i2b d0_115 ?_
    refine W.bastore (i := 5) d0_116 rfl ⟨by decide, by decide⟩ (by simp) ?_
    refine W.aload d0_117 rfl rfl ?_
    refine W.bipush 6 d0_119 rfl ?_
    refine W.iloadN d0_121 rfl ?_
    refine W.bipush 16 d0_122 rfl ?_
    refine W.iushr d0_124 ?_
    refine W.i2b d0_125 ?_
    refine W.bastore (i := 6) d0_126 rfl ⟨by decide, by decide⟩ (by simp) ?_
    show WB _ l Z n m0 127 [(.val (.long (a))), .second, (.val (.int (b))), (.val (.int (e))), (.val (.int ((b &&& 2147483647) % 3))), (.val (.int (1 + 2))), (.val (.int ((((XT.ushrL a (8 * 0)).toInt32) &&& 255) ||| 128))), (.val (.int ((((XT.ushrL a (8 * 1)).toInt32) &&& 255) ||| 128))), (.val (.int ((((XT.ushrL a (8 * 2)).toInt32) &&& 255) &&& 127))), (.val (.int ((((XT.ushrL a (8 * 3)).toInt32) &&& 255) &&& 127))), (.val (.int ((((XT.ushrL a (8 * 4)).toInt32) &&& 255) &&& 127))), (.val (.ref 0)), .unset, .unset, .unset, .unset, .unset] [] [.inr (.byte, [(.int (e.toInt8.toInt32.toInt8.toInt32)), (.int (((XT.ushr e 8).toInt8.toInt32).toInt8.toInt32)), (.int (((XT.ushr e 16).toInt8.toInt32).toInt8.toInt32)), (.int (((XT.ushr e 24).toInt8.toInt32).toInt8.toInt32)), (.int (e.toInt8.toInt32.toInt8.toInt32)), (.int (((XT.ushr e 8).toInt8.toInt32).toInt8.toInt32)), (.int (((XT.ushr e 16).toInt8.toInt32).toInt8.toInt32)), (.int (0))])] _ _ _
    refine W.aload d0_127 rfl rfl ?_
    refine W.bipush 7 d0_129 rfl ?_
    refine W.iloadN d0_131 rfl ?_
    refine W.bipush 24 d0_132 rfl ?_
    refine W.iushr d0_134 ?_
    refine W.i2b d0_135 ?_
    refine W.bastore (i := 7) d0_136 rfl ⟨by decide, by decide⟩ (by simp) ?_
    rcases own_p b with q137 | q137 | q137
    · rw [q137]
      refine W.aload d0_137 rfl rfl ?_
      refine W.iload d0_139 rfl ?_
      refine W.iload d0_141 rfl ?_
      refine W.i2b d0_143 ?_
      refine W.bastore (i := 0) d0_144 rfl ⟨by decide, by decide⟩ (by simp) ?_
      refine W.iload d0_145 rfl ?_
      refine W.iconst 1 d0_147 rfl ?_
      refine W.icmp_le d0_148 (fun h => False.elim (by revert h; decide)) (fun h148 => ?_)
      refine W.aload d0_151 rfl rfl ?_
      refine W.iload d0_153 rfl ?_
      refine W.iconst 1 d0_155 rfl ?_
      refine W.iadd d0_156 ?_
      refine W.iload d0_157 rfl ?_
      refine W.i2b d0_159 ?_
      refine W.bastore (i := 1) d0_160 rfl ⟨by decide, by decide⟩ (by simp) ?_
      refine W.iload d0_161 rfl ?_
      refine W.iconst 2 d0_163 rfl ?_
      refine W.icmp_le d0_164 (fun h => False.elim (by revert h; decide)) (fun h164 => ?_)
      refine W.aload d0_167 rfl rfl ?_
      refine W.iload d0_169 rfl ?_
      refine W.iconst 2 d0_171 rfl ?_
      refine W.iadd d0_172 ?_
      refine W.iload d0_173 rfl ?_
      refine W.i2b d0_175 ?_
      refine W.bastore (i := 2) d0_176 rfl ⟨by decide, by decide⟩ (by simp) ?_
      show WB _ l Z n m0 177 [(.val (.long (a))), .second, (.val (.int (b))), (.val (.int (e))), (.val (.int (0))), (.val (.int (1 + 2))), (.val (.int ((((XT.ushrL a (8 * 0)).toInt32) &&& 255) ||| 128))), (.val (.int ((((XT.ushrL a (8 * 1)).toInt32) &&& 255) ||| 128))), (.val (.int ((((XT.ushrL a (8 * 2)).toInt32) &&& 255) &&& 127))), (.val (.int ((((XT.ushrL a (8 * 3)).toInt32) &&& 255) &&& 127))), (.val (.int ((((XT.ushrL a (8 * 4)).toInt32) &&& 255) &&& 127))), (.val (.ref 0)), .unset, .unset, .unset, .unset, .unset] [] [.inr (.byte, [(.int ((((((XT.ushrL a (8 * 0)).toInt32) &&& 255) ||| 128).toInt8.toInt32).toInt8.toInt32)), (.int ((((((XT.ushrL a (8 * 1)).toInt32) &&& 255) ||| 128).toInt8.toInt32).toInt8.toInt32)), (.int ((((((XT.ushrL a (8 * 2)).toInt32) &&& 255) &&& 127).toInt8.toInt32).toInt8.toInt32)), (.int (((XT.ushr e 24).toInt8.toInt32).toInt8.toInt32)), (.int (e.toInt8.toInt32.toInt8.toInt32)), (.int (((XT.ushr e 8).toInt8.toInt32).toInt8.toInt32)), (.int (((XT.ushr e 16).toInt8.toInt32).toInt8.toInt32)), (.int (((XT.ushr e 24).toInt8.toInt32).toInt8.toInt32))])] _ _ _
      refine W.iload d0_177 rfl ?_
      refine W.iconst 3 d0_179 rfl ?_
      refine W.icmp_le d0_180 (fun h180 => ?_) (fun h => False.elim (by revert h; decide))
      refine W.iload d0_193 rfl ?_
      refine W.iconst 4 d0_195 rfl ?_
      refine W.icmp_le d0_196 (fun h196 => ?_) (fun h => False.elim (by revert h; decide))
      refine W.aload d0_209 rfl rfl ?_
      refine W.iload d0_211 rfl ?_
      refine W.iload d0_213 rfl ?_
      refine W.iadd d0_215 ?_
      refine W.baload (i := 3) d0_216 rfl ⟨by decide, by decide⟩ rfl ?_
      refine W.istore d0_217 rfl ?_
      refine W.iload d0_219 rfl ?_
      refine W.bipush 127 d0_221 rfl ?_
      refine W.iand d0_223 ?_
      refine W.istore d0_224 rfl ?_
      refine W.iload d0_226 rfl ?_
      refine W.iconst 1 d0_228 rfl ?_
      refine W.icmp_le d0_229 (fun h => False.elim (by revert h; decide)) (fun h229 => ?_)
      refine W.iload d0_232 rfl ?_
      refine W.iload d0_234 rfl ?_
      refine W.bipush 127 d0_236 rfl ?_
      refine W.iand d0_238 ?_
      refine W.sipush 128 d0_239 rfl ?_
      refine W.imul d0_242 ?_
      refine W.iadd d0_243 ?_
      refine W.istore d0_244 rfl ?_
      refine W.iload d0_246 rfl ?_
      refine W.iconst 2 d0_248 rfl ?_
      refine W.icmp_le d0_249 (fun h => False.elim (by revert h; decide)) (fun h249 => ?_)
      refine W.iload d0_252 rfl ?_
      refine W.iload d0_254 rfl ?_
      refine W.bipush 127 d0_256 rfl ?_
      refine W.iand d0_258 ?_
      refine W.sipush 16384 d0_259 rfl ?_
      refine W.imul d0_262 ?_
      refine W.iadd d0_263 ?_
      refine W.istore d0_264 rfl ?_
      show WB _ l Z n m0 266 [(.val (.long (a))), .second, (.val (.int (b))), (.val (.int (e))), (.val (.int (0))), (.val (.int (1 + 2))), (.val (.int ((((XT.ushrL a (8 * 0)).toInt32) &&& 255) ||| 128))), (.val (.int ((((XT.ushrL a (8 * 1)).toInt32) &&& 255) ||| 128))), (.val (.int ((((XT.ushrL a (8 * 2)).toInt32) &&& 255) &&& 127))), (.val (.int ((((XT.ushrL a (8 * 3)).toInt32) &&& 255) &&& 127))), (.val (.int ((((XT.ushrL a (8 * 4)).toInt32) &&& 255) &&& 127))), (.val (.ref 0)), (.val (.int (((XT.ushr e 24).toInt8.toInt32).toInt8.toInt32))), (.val (.int (((((((XT.ushrL a (8 * 0)).toInt32) &&& 255) ||| 128) &&& 127) + ((((((XT.ushrL a (8 * 1)).toInt32) &&& 255) ||| 128) &&& 127) * 128)) + ((((((XT.ushrL a (8 * 2)).toInt32) &&& 255) &&& 127) &&& 127) * 16384)))), .unset, .unset, .unset] [] [.inr (.byte, [(.int ((((((XT.ushrL a (8 * 0)).toInt32) &&& 255) ||| 128).toInt8.toInt32).toInt8.toInt32)), (.int ((((((XT.ushrL a (8 * 1)).toInt32) &&& 255) ||| 128).toInt8.toInt32).toInt8.toInt32)), (.int ((((((XT.ushrL a (8 * 2)).toInt32) &&& 255) &&& 127).toInt8.toInt32).toInt8.toInt32)), (.int (((XT.ushr e 24).toInt8.toInt32).toInt8.toInt32)), (.int (e.toInt8.toInt32.toInt8.toInt32)), (.int (((XT.ushr e 8).toInt8.toInt32).toInt8.toInt32)), (.int (((XT.ushr e 16).toInt8.toInt32).toInt8.toInt32)), (.int (((XT.ushr e 24).toInt8.toInt32).toInt8.toInt32))])] _ _ _
      refine W.iload d0_266 rfl ?_
      refine W.iconst 3 d0_268 rfl ?_
      refine W.icmp_le d0_269 (fun h269 => ?_) (fun h => False.elim (by revert h; decide))
      refine W.iload d0_285 rfl ?_
      refine W.iconst 4 d0_287 rfl ?_
      refine W.icmp_le d0_288 (fun h288 => ?_) (fun h => False.elim (by revert h; decide))
      refine W.new (N := 1) d0_304 (hw _ (wd 6 rfl)) (okc0 hw) rfl (by decide) (by decide) ?_
      refine W.dup d0_307 rfl ?_
      refine W.aload d0_308 rfl rfl ?_
      refine W.iload d0_310 rfl ?_
      refine W.initN (M' := m2) d0_312 rfl rfl (hw _ (wd 9 rfl)) (hw _ (wd 10 rfl)) (c2_5 hw ((((((XT.ushrL a (8 * 0)).toInt32) &&& 255) ||| 128).toInt8.toInt32).toInt8.toInt32) ((((((XT.ushrL a (8 * 1)).toInt32) &&& 255) ||| 128).toInt8.toInt32).toInt8.toInt32) ((((((XT.ushrL a (8 * 2)).toInt32) &&& 255) &&& 127).toInt8.toInt32).toInt8.toInt32) (((XT.ushr e 24).toInt8.toInt32).toInt8.toInt32) e.toInt8.toInt32.toInt8.toInt32 (((XT.ushr e 8).toInt8.toInt32).toInt8.toInt32) (((XT.ushr e 16).toInt8.toInt32).toInt8.toInt32) (((XT.ushr e 24).toInt8.toInt32).toInt8.toInt32)) (ok2 hw) rfl rfl rfl ?_
      refine W.astore d0_315 rfl rfl ?_
      refine W.aload d0_317 rfl rfl ?_
      refine W.callvV (M' := m4) d0_319 (hw _ (wd 19 rfl)) (hw _ (wd 20 rfl)) (hw _ (wd 21 rfl)) (hw _ (wd 22 rfl)) (c4_28 hw ((((((XT.ushrL a (8 * 0)).toInt32) &&& 255) ||| 128).toInt8.toInt32).toInt8.toInt32) ((((((XT.ushrL a (8 * 1)).toInt32) &&& 255) ||| 128).toInt8.toInt32).toInt8.toInt32) ((((((XT.ushrL a (8 * 2)).toInt32) &&& 255) &&& 127).toInt8.toInt32).toInt8.toInt32) (((XT.ushr e 24).toInt8.toInt32).toInt8.toInt32) e.toInt8.toInt32.toInt8.toInt32 (((XT.ushr e 8).toInt8.toInt32).toInt8.toInt32) (((XT.ushr e 16).toInt8.toInt32).toInt8.toInt32) (((XT.ushr e 24).toInt8.toInt32).toInt8.toInt32) (own_neg _) (own_neg _) (own_pos _)) (ok4 hw) rfl rfl rfl rfl ?_
      refine W.istore d0_322 rfl ?_
      refine W.aload d0_324 rfl rfl ?_
      refine W.callvV (M' := m5) d0_326 (hw _ (wd 24 rfl)) (hw _ (wd 25 rfl)) (hw _ (wd 26 rfl)) (hw _ (wd 27 rfl)) (c5_13 hw ((((((XT.ushrL a (8 * 0)).toInt32) &&& 255) ||| 128).toInt8.toInt32).toInt8.toInt32) ((((((XT.ushrL a (8 * 1)).toInt32) &&& 255) ||| 128).toInt8.toInt32).toInt8.toInt32) ((((((XT.ushrL a (8 * 2)).toInt32) &&& 255) &&& 127).toInt8.toInt32).toInt8.toInt32) (((XT.ushr e 24).toInt8.toInt32).toInt8.toInt32) e.toInt8.toInt32.toInt8.toInt32 (((XT.ushr e 8).toInt8.toInt32).toInt8.toInt32) (((XT.ushr e 16).toInt8.toInt32).toInt8.toInt32) (((XT.ushr e 24).toInt8.toInt32).toInt8.toInt32)) (ok5 hw) rfl rfl rfl rfl ?_
      refine W.istore d0_329 rfl ?_
      show WB _ l Z n m0 331 [(.val (.long (a))), .second, (.val (.int (b))), (.val (.int (e))), (.val (.int (0))), (.val (.int (1 + 2))), (.val (.int ((((XT.ushrL a (8 * 0)).toInt32) &&& 255) ||| 128))), (.val (.int ((((XT.ushrL a (8 * 1)).toInt32) &&& 255) ||| 128))), (.val (.int ((((XT.ushrL a (8 * 2)).toInt32) &&& 255) &&& 127))), (.val (.int ((((XT.ushrL a (8 * 3)).toInt32) &&& 255) &&& 127))), (.val (.int ((((XT.ushrL a (8 * 4)).toInt32) &&& 255) &&& 127))), (.val (.ref 0)), (.val (.int (((XT.ushr e 24).toInt8.toInt32).toInt8.toInt32))), (.val (.int (((((((XT.ushrL a (8 * 0)).toInt32) &&& 255) ||| 128) &&& 127) + ((((((XT.ushrL a (8 * 1)).toInt32) &&& 255) ||| 128) &&& 127) * 128)) + ((((((XT.ushrL a (8 * 2)).toInt32) &&& 255) &&& 127) &&& 127) * 16384)))), (.val (.ref 1)), (.val (.int ((((0 : Int32) ||| ((((((((XT.ushrL a (8 * 0)).toInt32) &&& 255) ||| 128).toInt8.toInt32).toInt8.toInt32) &&& 127) <<< ((0 : Int32) &&& 31))) ||| ((((((((XT.ushrL a (8 * 1)).toInt32) &&& 255) ||| 128).toInt8.toInt32).toInt8.toInt32) &&& 127) <<< ((0 + 7) &&& 31))) ||| ((((((((XT.ushrL a (8 * 2)).toInt32) &&& 255) &&& 127).toInt8.toInt32).toInt8.toInt32) &&& 127) <<< (((0 + 7) + 7) &&& 31))))), (.val (.int (nar .byte (((XT.ushr e 24).toInt8.toInt32).toInt8.toInt32))))] [] [.inr (.byte, [(.int (((((((XT.ushrL a (8 * 0)).toInt32) &&& 255) ||| 128).toInt8.toInt32).toInt8.toInt32))), (.int (((((((XT.ushrL a (8 * 1)).toInt32) &&& 255) ||| 128).toInt8.toInt32).toInt8.toInt32))), (.int (((((((XT.ushrL a (8 * 2)).toInt32) &&& 255) &&& 127).toInt8.toInt32).toInt8.toInt32))), (.int ((((XT.ushr e 24).toInt8.toInt32).toInt8.toInt32))), (.int (e.toInt8.toInt32.toInt8.toInt32)), (.int ((((XT.ushr e 8).toInt8.toInt32).toInt8.toInt32))), (.int ((((XT.ushr e 16).toInt8.toInt32).toInt8.toInt32))), (.int ((((XT.ushr e 24).toInt8.toInt32).toInt8.toInt32)))]), .inl ("com/example/quiverstore/quiverstore/ByteReader", [(("com/example/quiverstore/quiverstore/ByteReader", "bytes", "[B"), (.ref 0)), (("com/example/quiverstore/quiverstore/ByteReader", "position", "I"), (.int (3 + 1)))])] _ _ _
      refine W.iload d0_331 rfl ?_
      refine W.iload d0_333 rfl ?_
      refine W.icmp_ne d0_335 (fun h => False.elim (h (own_sum3 _ _ _))) (fun h335 => ?_)
      refine W.iload d0_338 rfl ?_
      refine W.iload d0_340 rfl ?_
      refine W.icmp_ne d0_342 (fun h => False.elim (h (nar_byte _))) (fun h342 => ?_)
      refine W.iconst 1 d0_345 rfl ?_
      refine W.goto d0_346 ?_
      exact W.nreturn .boolean d0_350 rfl (by simp) (by decide) (by decide) (rfl)
    · rw [q137]
      refine W.aload d0_137 rfl rfl ?_
      refine W.iload d0_139 rfl ?_
      refine W.iload d0_141 rfl ?_
      refine W.i2b d0_143 ?_
      refine W.bastore (i := 1) d0_144 rfl ⟨by decide, by decide⟩ (by simp) ?_
      refine W.iload d0_145 rfl ?_
      refine W.iconst 1 d0_147 rfl ?_
      refine W.icmp_le d0_148 (fun h => False.elim (by revert h; decide)) (fun h148 => ?_)
      refine W.aload d0_151 rfl rfl ?_
      refine W.iload d0_153 rfl ?_
      refine W.iconst 1 d0_155 rfl ?_
      refine W.iadd d0_156 ?_
      refine W.iload d0_157 rfl ?_
      refine W.i2b d0_159 ?_
      refine W.bastore (i := 2) d0_160 rfl ⟨by decide, by decide⟩ (by simp) ?_
      refine W.iload d0_161 rfl ?_
      refine W.iconst 2 d0_163 rfl ?_
      refine W.icmp_le d0_164 (fun h => False.elim (by revert h; decide)) (fun h164 => ?_)
      refine W.aload d0_167 rfl rfl ?_
      refine W.iload d0_169 rfl ?_
      refine W.iconst 2 d0_171 rfl ?_
      refine W.iadd d0_172 ?_
      refine W.iload d0_173 rfl ?_
      refine W.i2b d0_175 ?_
      refine W.bastore (i := 3) d0_176 rfl ⟨by decide, by decide⟩ (by simp) ?_
      show WB _ l Z n m0 177 [(.val (.long (a))), .second, (.val (.int (b))), (.val (.int (e))), (.val (.int (1))), (.val (.int (1 + 2))), (.val (.int ((((XT.ushrL a (8 * 0)).toInt32) &&& 255) ||| 128))), (.val (.int ((((XT.ushrL a (8 * 1)).toInt32) &&& 255) ||| 128))), (.val (.int ((((XT.ushrL a (8 * 2)).toInt32) &&& 255) &&& 127))), (.val (.int ((((XT.ushrL a (8 * 3)).toInt32) &&& 255) &&& 127))), (.val (.int ((((XT.ushrL a (8 * 4)).toInt32) &&& 255) &&& 127))), (.val (.ref 0)), .unset, .unset, .unset, .unset, .unset] [] [.inr (.byte, [(.int (e.toInt8.toInt32.toInt8.toInt32)), (.int ((((((XT.ushrL a (8 * 0)).toInt32) &&& 255) ||| 128).toInt8.toInt32).toInt8.toInt32)), (.int ((((((XT.ushrL a (8 * 1)).toInt32) &&& 255) ||| 128).toInt8.toInt32).toInt8.toInt32)), (.int ((((((XT.ushrL a (8 * 2)).toInt32) &&& 255) &&& 127).toInt8.toInt32).toInt8.toInt32)), (.int (e.toInt8.toInt32.toInt8.toInt32)), (.int (((XT.ushr e 8).toInt8.toInt32).toInt8.toInt32)), (.int (((XT.ushr e 16).toInt8.toInt32).toInt8.toInt32)), (.int (((XT.ushr e 24).toInt8.toInt32).toInt8.toInt32))])] _ _ _
      refine W.iload d0_177 rfl ?_
      refine W.iconst 3 d0_179 rfl ?_
      refine W.icmp_le d0_180 (fun h180 => ?_) (fun h => False.elim (by revert h; decide))
      refine W.iload d0_193 rfl ?_
      refine W.iconst 4 d0_195 rfl ?_
      refine W.icmp_le d0_196 (fun h196 => ?_) (fun h => False.elim (by revert h; decide))
      refine W.aload d0_209 rfl rfl ?_
      refine W.iload d0_211 rfl ?_
      refine W.iload d0_213 rfl ?_
      refine W.iadd d0_215 ?_
      refine W.baload (i := 4) d0_216 rfl ⟨by decide, by decide⟩ rfl ?_
      refine W.istore d0_217 rfl ?_
      refine W.iload d0_219 rfl ?_
      refine W.bipush 127 d0_221 rfl ?_
      refine W.iand d0_223 ?_
      refine W.istore d0_224 rfl ?_
      refine W.iload d0_226 rfl ?_
      refine W.iconst 1 d0_228 rfl ?_
      refine W.icmp_le d0_229 (fun h => False.elim (by revert h; decide)) (fun h229 => ?_)
      refine W.iload d0_232 rfl ?_
      refine W.iload d0_234 rfl ?_
      refine W.bipush 127 d0_236 rfl ?_
      refine W.iand d0_238 ?_
      refine W.sipush 128 d0_239 rfl ?_
      refine W.imul d0_242 ?_
      refine W.iadd d0_243 ?_
      refine W.istore d0_244 rfl ?_
      refine W.iload d0_246 rfl ?_
      refine W.iconst 2 d0_248 rfl ?_
      refine W.icmp_le d0_249 (fun h => False.elim (by revert h; decide)) (fun h249 => ?_)
      refine W.iload d0_252 rfl ?_
      refine W.iload d0_254 rfl ?_
      refine W.bipush 127 d0_256 rfl ?_
      refine W.iand d0_258 ?_
      refine W.sipush 16384 d0_259 rfl ?_
      refine W.imul d0_262 ?_
      refine W.iadd d0_263 ?_
      refine W.istore d0_264 rfl ?_
      show WB _ l Z n m0 266 [(.val (.long (a))), .second, (.val (.int (b))), (.val (.int (e))), (.val (.int (1))), (.val (.int (1 + 2))), (.val (.int ((((XT.ushrL a (8 * 0)).toInt32) &&& 255) ||| 128))), (.val (.int ((((XT.ushrL a (8 * 1)).toInt32) &&& 255) ||| 128))), (.val (.int ((((XT.ushrL a (8 * 2)).toInt32) &&& 255) &&& 127))), (.val (.int ((((XT.ushrL a (8 * 3)).toInt32) &&& 255) &&& 127))), (.val (.int ((((XT.ushrL a (8 * 4)).toInt32) &&& 255) &&& 127))), (.val (.ref 0)), (.val (.int (e.toInt8.toInt32.toInt8.toInt32))), (.val (.int (((((((XT.ushrL a (8 * 0)).toInt32) &&& 255) ||| 128) &&& 127) + ((((((XT.ushrL a (8 * 1)).toInt32) &&& 255) ||| 128) &&& 127) * 128)) + ((((((XT.ushrL a (8 * 2)).toInt32) &&& 255) &&& 127) &&& 127) * 16384)))), .unset, .unset, .unset] [] [.inr (.byte, [(.int (e.toInt8.toInt32.toInt8.toInt32)), (.int ((((((XT.ushrL a (8 * 0)).toInt32) &&& 255) ||| 128).toInt8.toInt32).toInt8.toInt32)), (.int ((((((XT.ushrL a (8 * 1)).toInt32) &&& 255) ||| 128).toInt8.toInt32).toInt8.toInt32)), (.int ((((((XT.ushrL a (8 * 2)).toInt32) &&& 255) &&& 127).toInt8.toInt32).toInt8.toInt32)), (.int (e.toInt8.toInt32.toInt8.toInt32)), (.int (((XT.ushr e 8).toInt8.toInt32).toInt8.toInt32)), (.int (((XT.ushr e 16).toInt8.toInt32).toInt8.toInt32)), (.int (((XT.ushr e 24).toInt8.toInt32).toInt8.toInt32))])] _ _ _
      refine W.iload d0_266 rfl ?_
      refine W.iconst 3 d0_268 rfl ?_
      refine W.icmp_le d0_269 (fun h269 => ?_) (fun h => False.elim (by revert h; decide))
      refine W.iload d0_285 rfl ?_
      refine W.iconst 4 d0_287 rfl ?_
      refine W.icmp_le d0_288 (fun h288 => ?_) (fun h => False.elim (by revert h; decide))
      refine W.new (N := 1) d0_304 (hw _ (wd 6 rfl)) (okc0 hw) rfl (by decide) (by decide) ?_
      refine W.dup d0_307 rfl ?_
      refine W.aload d0_308 rfl rfl ?_
      refine W.iload d0_310 rfl ?_
      refine W.initN (M' := m2) d0_312 rfl rfl (hw _ (wd 9 rfl)) (hw _ (wd 10 rfl)) (c2_8 hw e.toInt8.toInt32.toInt8.toInt32 ((((((XT.ushrL a (8 * 0)).toInt32) &&& 255) ||| 128).toInt8.toInt32).toInt8.toInt32) ((((((XT.ushrL a (8 * 1)).toInt32) &&& 255) ||| 128).toInt8.toInt32).toInt8.toInt32) ((((((XT.ushrL a (8 * 2)).toInt32) &&& 255) &&& 127).toInt8.toInt32).toInt8.toInt32) e.toInt8.toInt32.toInt8.toInt32 (((XT.ushr e 8).toInt8.toInt32).toInt8.toInt32) (((XT.ushr e 16).toInt8.toInt32).toInt8.toInt32) (((XT.ushr e 24).toInt8.toInt32).toInt8.toInt32)) (ok2 hw) rfl rfl rfl ?_
      refine W.astore d0_315 rfl rfl ?_
      refine W.aload d0_317 rfl rfl ?_
      refine W.callvV (M' := m4) d0_319 (hw _ (wd 19 rfl)) (hw _ (wd 20 rfl)) (hw _ (wd 21 rfl)) (hw _ (wd 22 rfl)) (c4_29 hw e.toInt8.toInt32.toInt8.toInt32 ((((((XT.ushrL a (8 * 0)).toInt32) &&& 255) ||| 128).toInt8.toInt32).toInt8.toInt32) ((((((XT.ushrL a (8 * 1)).toInt32) &&& 255) ||| 128).toInt8.toInt32).toInt8.toInt32) ((((((XT.ushrL a (8 * 2)).toInt32) &&& 255) &&& 127).toInt8.toInt32).toInt8.toInt32) e.toInt8.toInt32.toInt8.toInt32 (((XT.ushr e 8).toInt8.toInt32).toInt8.toInt32) (((XT.ushr e 16).toInt8.toInt32).toInt8.toInt32) (((XT.ushr e 24).toInt8.toInt32).toInt8.toInt32) (own_neg _) (own_neg _) (own_pos _)) (ok4 hw) rfl rfl rfl rfl ?_
      refine W.istore d0_322 rfl ?_
      refine W.aload d0_324 rfl rfl ?_
      refine W.callvV (M' := m5) d0_326 (hw _ (wd 24 rfl)) (hw _ (wd 25 rfl)) (hw _ (wd 26 rfl)) (hw _ (wd 27 rfl)) (c5_22 hw e.toInt8.toInt32.toInt8.toInt32 ((((((XT.ushrL a (8 * 0)).toInt32) &&& 255) ||| 128).toInt8.toInt32).toInt8.toInt32) ((((((XT.ushrL a (8 * 1)).toInt32) &&& 255) ||| 128).toInt8.toInt32).toInt8.toInt32) ((((((XT.ushrL a (8 * 2)).toInt32) &&& 255) &&& 127).toInt8.toInt32).toInt8.toInt32) e.toInt8.toInt32.toInt8.toInt32 (((XT.ushr e 8).toInt8.toInt32).toInt8.toInt32) (((XT.ushr e 16).toInt8.toInt32).toInt8.toInt32) (((XT.ushr e 24).toInt8.toInt32).toInt8.toInt32)) (ok5 hw) rfl rfl rfl rfl ?_
      refine W.istore d0_329 rfl ?_
      show WB _ l Z n m0 331 [(.val (.long (a))), .second, (.val (.int (b))), (.val (.int (e))), (.val (.int (1))), (.val (.int (1 + 2))), (.val (.int ((((XT.ushrL a (8 * 0)).toInt32) &&& 255) ||| 128))), (.val (.int ((((XT.ushrL a (8 * 1)).toInt32) &&& 255) ||| 128))), (.val (.int ((((XT.ushrL a (8 * 2)).toInt32) &&& 255) &&& 127))), (.val (.int ((((XT.ushrL a (8 * 3)).toInt32) &&& 255) &&& 127))), (.val (.int ((((XT.ushrL a (8 * 4)).toInt32) &&& 255) &&& 127))), (.val (.ref 0)), (.val (.int (e.toInt8.toInt32.toInt8.toInt32))), (.val (.int (((((((XT.ushrL a (8 * 0)).toInt32) &&& 255) ||| 128) &&& 127) + ((((((XT.ushrL a (8 * 1)).toInt32) &&& 255) ||| 128) &&& 127) * 128)) + ((((((XT.ushrL a (8 * 2)).toInt32) &&& 255) &&& 127) &&& 127) * 16384)))), (.val (.ref 1)), (.val (.int ((((0 : Int32) ||| ((((((((XT.ushrL a (8 * 0)).toInt32) &&& 255) ||| 128).toInt8.toInt32).toInt8.toInt32) &&& 127) <<< ((0 : Int32) &&& 31))) ||| ((((((((XT.ushrL a (8 * 1)).toInt32) &&& 255) ||| 128).toInt8.toInt32).toInt8.toInt32) &&& 127) <<< ((0 + 7) &&& 31))) ||| ((((((((XT.ushrL a (8 * 2)).toInt32) &&& 255) &&& 127).toInt8.toInt32).toInt8.toInt32) &&& 127) <<< (((0 + 7) + 7) &&& 31))))), (.val (.int (nar .byte e.toInt8.toInt32.toInt8.toInt32)))] [] [.inr (.byte, [(.int (e.toInt8.toInt32.toInt8.toInt32)), (.int (((((((XT.ushrL a (8 * 0)).toInt32) &&& 255) ||| 128).toInt8.toInt32).toInt8.toInt32))), (.int (((((((XT.ushrL a (8 * 1)).toInt32) &&& 255) ||| 128).toInt8.toInt32).toInt8.toInt32))), (.int (((((((XT.ushrL a (8 * 2)).toInt32) &&& 255) &&& 127).toInt8.toInt32).toInt8.toInt32))), (.int (e.toInt8.toInt32.toInt8.toInt32)), (.int ((((XT.ushr e 8).toInt8.toInt32).toInt8.toInt32))), (.int ((((XT.ushr e 16).toInt8.toInt32).toInt8.toInt32))), (.int ((((XT.ushr e 24).toInt8.toInt32).toInt8.toInt32)))]), .inl ("com/example/quiverstore/quiverstore/ByteReader", [(("com/example/quiverstore/quiverstore/ByteReader", "bytes", "[B"), (.ref 0)), (("com/example/quiverstore/quiverstore/ByteReader", "position", "I"), (.int (4 + 1)))])] _ _ _
      refine W.iload d0_331 rfl ?_
      refine W.iload d0_333 rfl ?_
      refine W.icmp_ne d0_335 (fun h => False.elim (h (own_sum3 _ _ _))) (fun h335 => ?_)
      refine W.iload d0_338 rfl ?_
      refine W.iload d0_340 rfl ?_
      refine W.icmp_ne d0_342 (fun h => False.elim (h (nar_byte _))) (fun h342 => ?_)
      refine W.iconst 1 d0_345 rfl ?_
      refine W.goto d0_346 ?_
      exact W.nreturn .boolean d0_350 rfl (by simp) (by decide) (by decide) (rfl)
    · rw [q137]
      refine W.aload d0_137 rfl rfl ?_
      refine W.iload d0_139 rfl ?_
      refine W.iload d0_141 rfl ?_
      refine W.i2b d0_143 ?_
      refine W.bastore (i := 2) d0_144 rfl ⟨by decide, by decide⟩ (by simp) ?_
      refine W.iload d0_145 rfl ?_
      refine W.iconst 1 d0_147 rfl ?_
      refine W.icmp_le d0_148 (fun h => False.elim (by revert h; decide)) (fun h148 => ?_)
      refine W.aload d0_151 rfl rfl ?_
      refine W.iload d0_153 rfl ?_
      refine W.iconst 1 d0_155 rfl ?_
      refine W.iadd d0_156 ?_
      refine W.iload d0_157 rfl ?_
      refine W.i2b d0_159 ?_
      refine W.bastore (i := 3) d0_160 rfl ⟨by decide, by decide⟩ (by simp) ?_
      refine W.iload d0_161 rfl ?_
      refine W.iconst 2 d0_163 rfl ?_
      refine W.icmp_le d0_164 (fun h => False.elim (by revert h; decide)) (fun h164 => ?_)
      refine W.aload d0_167 rfl rfl ?_
      refine W.iload d0_169 rfl ?_
      refine W.iconst 2 d0_171 rfl ?_
      refine W.iadd d0_172 ?_
      refine W.iload d0_173 rfl ?_
      refine W.i2b d0_175 ?_
      refine W.bastore (i := 4) d0_176 rfl ⟨by decide, by decide⟩ (by simp) ?_
      show WB _ l Z n m0 177 [(.val (.long (a))), .second, (.val (.int (b))), (.val (.int (e))), (.val (.int (2))), (.val (.int (1 + 2))), (.val (.int ((((XT.ushrL a (8 * 0)).toInt32) &&& 255) ||| 128))), (.val (.int ((((XT.ushrL a (8 * 1)).toInt32) &&& 255) ||| 128))), (.val (.int ((((XT.ushrL a (8 * 2)).toInt32) &&& 255) &&& 127))), (.val (.int ((((XT.ushrL a (8 * 3)).toInt32) &&& 255) &&& 127))), (.val (.int ((((XT.ushrL a (8 * 4)).toInt32) &&& 255) &&& 127))), (.val (.ref 0)), .unset, .unset, .unset, .unset, .unset] [] [.inr (.byte, [(.int (e.toInt8.toInt32.toInt8.toInt32)), (.int (((XT.ushr e 8).toInt8.toInt32).toInt8.toInt32)), (.int ((((((XT.ushrL a (8 * 0)).toInt32) &&& 255) ||| 128).toInt8.toInt32).toInt8.toInt32)), (.int ((((((XT.ushrL a (8 * 1)).toInt32) &&& 255) ||| 128).toInt8.toInt32).toInt8.toInt32)), (.int ((((((XT.ushrL a (8 * 2)).toInt32) &&& 255) &&& 127).toInt8.toInt32).toInt8.toInt32)), (.int (((XT.ushr e 8).toInt8.toInt32).toInt8.toInt32)), (.int (((XT.ushr e 16).toInt8.toInt32).toInt8.toInt32)), (.int (((XT.ushr e 24).toInt8.toInt32).toInt8.toInt32))])] _ _ _
      refine W.iload d0_177 rfl ?_
      refine W.iconst 3 d0_179 rfl ?_
      refine W.icmp_le d0_180 (fun h180 => ?_) (fun h => False.elim (by revert h; decide))
      refine W.iload d0_193 rfl ?_
      refine W.iconst 4 d0_195 rfl ?_
      refine W.icmp_le d0_196 (fun h196 => ?_) (fun h => False.elim (by revert h; decide))
      refine W.aload d0_209 rfl rfl ?_
      refine W.iload d0_211 rfl ?_
      refine W.iload d0_213 rfl ?_
      refine W.iadd d0_215 ?_
      refine W.baload (i := 5) d0_216 rfl ⟨by decide, by decide⟩ rfl ?_
      refine W.istore d0_217 rfl ?_
      refine W.iload d0_219 rfl ?_
      refine W.bipush 127 d0_221 rfl ?_
      refine W.iand d0_223 ?_
      refine W.istore d0_224 rfl ?_
      refine W.iload d0_226 rfl ?_
      refine W.iconst 1 d0_228 rfl ?_
      refine W.icmp_le d0_229 (fun h => False.elim (by revert h; decide)) (fun h229 => ?_)
      refine W.iload d0_232 rfl ?_
      refine W.iload d0_234 rfl ?_
      refine W.bipush 127 d0_236 rfl ?_
      refine W.iand d0_238 ?_
      refine W.sipush 128 d0_239 rfl ?_
      refine W.imul d0_242 ?_
      refine W.iadd d0_243 ?_
      refine W.istore d0_244 rfl ?_
      refine W.iload d0_246 rfl ?_
      refine W.iconst 2 d0_248 rfl ?_
      refine W.icmp_le d0_249 (fun h => False.elim (by revert h; decide)) (fun h249 => ?_)
      refine W.iload d0_252 rfl ?_
      refine W.iload d0_254 rfl ?_
      refine W.bipush 127 d0_256 rfl ?_
      refine W.iand d0_258 ?_
      refine W.sipush 16384 d0_259 rfl ?_
      refine W.imul d0_262 ?_
      refine W.iadd d0_263 ?_
      refine W.istore d0_264 rfl ?_
      show WB _ l Z n m0 266 [(.val (.long (a))), .second, (.val (.int (b))), (.val (.int (e))), (.val (.int (2))), (.val (.int (1 + 2))), (.val (.int ((((XT.ushrL a (8 * 0)).toInt32) &&& 255) ||| 128))), (.val (.int ((((XT.ushrL a (8 * 1)).toInt32) &&& 255) ||| 128))), (.val (.int ((((XT.ushrL a (8 * 2)).toInt32) &&& 255) &&& 127))), (.val (.int ((((XT.ushrL a (8 * 3)).toInt32) &&& 255) &&& 127))), (.val (.int ((((XT.ushrL a (8 * 4)).toInt32) &&& 255) &&& 127))), (.val (.ref 0)), (.val (.int (((XT.ushr e 8).toInt8.toInt32).toInt8.toInt32))), (.val (.int (((((((XT.ushrL a (8 * 0)).toInt32) &&& 255) ||| 128) &&& 127) + ((((((XT.ushrL a (8 * 1)).toInt32) &&& 255) ||| 128) &&& 127) * 128)) + ((((((XT.ushrL a (8 * 2)).toInt32) &&& 255) &&& 127) &&& 127) * 16384)))), .unset, .unset, .unset] [] [.inr (.byte, [(.int (e.toInt8.toInt32.toInt8.toInt32)), (.int (((XT.ushr e 8).toInt8.toInt32).toInt8.toInt32)), (.int ((((((XT.ushrL a (8 * 0)).toInt32) &&& 255) ||| 128).toInt8.toInt32).toInt8.toInt32)), (.int ((((((XT.ushrL a (8 * 1)).toInt32) &&& 255) ||| 128).toInt8.toInt32).toInt8.toInt32)), (.int ((((((XT.ushrL a (8 * 2)).toInt32) &&& 255) &&& 127).toInt8.toInt32).toInt8.toInt32)), (.int (((XT.ushr e 8).toInt8.toInt32).toInt8.toInt32)), (.int (((XT.ushr e 16).toInt8.toInt32).toInt8.toInt32)), (.int (((XT.ushr e 24).toInt8.toInt32).toInt8.toInt32))])] _ _ _
      refine W.iload d0_266 rfl ?_
      refine W.iconst 3 d0_268 rfl ?_
      refine W.icmp_le d0_269 (fun h269 => ?_) (fun h => False.elim (by revert h; decide))
      refine W.iload d0_285 rfl ?_
      refine W.iconst 4 d0_287 rfl ?_
      refine W.icmp_le d0_288 (fun h288 => ?_) (fun h => False.elim (by revert h; decide))
      refine W.new (N := 1) d0_304 (hw _ (wd 6 rfl)) (okc0 hw) rfl (by decide) (by decide) ?_
      refine W.dup d0_307 rfl ?_
      refine W.aload d0_308 rfl rfl ?_
      refine W.iload d0_310 rfl ?_
      refine W.initN (M' := m2) d0_312 rfl rfl (hw _ (wd 9 rfl)) (hw _ (wd 10 rfl)) (c2_11 hw e.toInt8.toInt32.toInt8.toInt32 (((XT.ushr e 8).toInt8.toInt32).toInt8.toInt32) ((((((XT.ushrL a (8 * 0)).toInt32) &&& 255) ||| 128).toInt8.toInt32).toInt8.toInt32) ((((((XT.ushrL a (8 * 1)).toInt32) &&& 255) ||| 128).toInt8.toInt32).toInt8.toInt32) ((((((XT.ushrL a (8 * 2)).toInt32) &&& 255) &&& 127).toInt8.toInt32).toInt8.toInt32) (((XT.ushr e 8).toInt8.toInt32).toInt8.toInt32) (((XT.ushr e 16).toInt8.toInt32).toInt8.toInt32) (((XT.ushr e 24).toInt8.toInt32).toInt8.toInt32)) (ok2 hw) rfl rfl rfl ?_
      refine W.astore d0_315 rfl rfl ?_
      refine W.aload d0_317 rfl rfl ?_
      refine W.callvV (M' := m4) d0_319 (hw _ (wd 19 rfl)) (hw _ (wd 20 rfl)) (hw _ (wd 21 rfl)) (hw _ (wd 22 rfl)) (c4_30 hw e.toInt8.toInt32.toInt8.toInt32 (((XT.ushr e 8).toInt8.toInt32).toInt8.toInt32) ((((((XT.ushrL a (8 * 0)).toInt32) &&& 255) ||| 128).toInt8.toInt32).toInt8.toInt32) ((((((XT.ushrL a (8 * 1)).toInt32) &&& 255) ||| 128).toInt8.toInt32).toInt8.toInt32) ((((((XT.ushrL a (8 * 2)).toInt32) &&& 255) &&& 127).toInt8.toInt32).toInt8.toInt32) (((XT.ushr e 8).toInt8.toInt32).toInt8.toInt32) (((XT.ushr e 16).toInt8.toInt32).toInt8.toInt32) (((XT.ushr e 24).toInt8.toInt32).toInt8.toInt32) (own_neg _) (own_neg _) (own_pos _)) (ok4 hw) rfl rfl rfl rfl ?_
      refine W.istore d0_322 rfl ?_
      refine W.aload d0_324 rfl rfl ?_
      refine W.callvV (M' := m5) d0_326 (hw _ (wd 24 rfl)) (hw _ (wd 25 rfl)) (hw _ (wd 26 rfl)) (hw _ (wd 27 rfl)) (c5_31 hw e.toInt8.toInt32.toInt8.toInt32 (((XT.ushr e 8).toInt8.toInt32).toInt8.toInt32) ((((((XT.ushrL a (8 * 0)).toInt32) &&& 255) ||| 128).toInt8.toInt32).toInt8.toInt32) ((((((XT.ushrL a (8 * 1)).toInt32) &&& 255) ||| 128).toInt8.toInt32).toInt8.toInt32) ((((((XT.ushrL a (8 * 2)).toInt32) &&& 255) &&& 127).toInt8.toInt32).toInt8.toInt32) (((XT.ushr e 8).toInt8.toInt32).toInt8.toInt32) (((XT.ushr e 16).toInt8.toInt32).toInt8.toInt32) (((XT.ushr e 24).toInt8.toInt32).toInt8.toInt32)) (ok5 hw) rfl rfl rfl rfl ?_
      refine W.istore d0_329 rfl ?_
      show WB _ l Z n m0 331 [(.val (.long (a))), .second, (.val (.int (b))), (.val (.int (e))), (.val (.int (2))), (.val (.int (1 + 2))), (.val (.int ((((XT.ushrL a (8 * 0)).toInt32) &&& 255) ||| 128))), (.val (.int ((((XT.ushrL a (8 * 1)).toInt32) &&& 255) ||| 128))), (.val (.int ((((XT.ushrL a (8 * 2)).toInt32) &&& 255) &&& 127))), (.val (.int ((((XT.ushrL a (8 * 3)).toInt32) &&& 255) &&& 127))), (.val (.int ((((XT.ushrL a (8 * 4)).toInt32) &&& 255) &&& 127))), (.val (.ref 0)), (.val (.int (((XT.ushr e 8).toInt8.toInt32).toInt8.toInt32))), (.val (.int (((((((XT.ushrL a (8 * 0)).toInt32) &&& 255) ||| 128) &&& 127) + ((((((XT.ushrL a (8 * 1)).toInt32) &&& 255) ||| 128) &&& 127) * 128)) + ((((((XT.ushrL a (8 * 2)).toInt32) &&& 255) &&& 127) &&& 127) * 16384)))), (.val (.ref 1)), (.val (.int ((((0 : Int32) ||| ((((((((XT.ushrL a (8 * 0)).toInt32) &&& 255) ||| 128).toInt8.toInt32).toInt8.toInt32) &&& 127) <<< ((0 : Int32) &&& 31))) ||| ((((((((XT.ushrL a (8 * 1)).toInt32) &&& 255) ||| 128).toInt8.toInt32).toInt8.toInt32) &&& 127) <<< ((0 + 7) &&& 31))) ||| ((((((((XT.ushrL a (8 * 2)).toInt32) &&& 255) &&& 127).toInt8.toInt32).toInt8.toInt32) &&& 127) <<< (((0 + 7) + 7) &&& 31))))), (.val (.int (nar .byte (((XT.ushr e 8).toInt8.toInt32).toInt8.toInt32))))] [] [.inr (.byte, [(.int (e.toInt8.toInt32.toInt8.toInt32)), (.int ((((XT.ushr e 8).toInt8.toInt32).toInt8.toInt32))), (.int (((((((XT.ushrL a (8 * 0)).toInt32) &&& 255) ||| 128).toInt8.toInt32).toInt8.toInt32))), (.int (((((((XT.ushrL a (8 * 1)).toInt32) &&& 255) ||| 128).toInt8.toInt32).toInt8.toInt32))), (.int (((((((XT.ushrL a (8 * 2)).toInt32) &&& 255) &&& 127).toInt8.toInt32).toInt8.toInt32))), (.int ((((XT.ushr e 8).toInt8.toInt32).toInt8.toInt32))), (.int ((((XT.ushr e 16).toInt8.toInt32).toInt8.toInt32))), (.int ((((XT.ushr e 24).toInt8.toInt32).toInt8.toInt32)))]), .inl ("com/example/quiverstore/quiverstore/ByteReader", [(("com/example/quiverstore/quiverstore/ByteReader", "bytes", "[B"), (.ref 0)), (("com/example/quiverstore/quiverstore/ByteReader", "position", "I"), (.int (5 + 1)))])] _ _ _
      refine W.iload d0_331 rfl ?_
      refine W.iload d0_333 rfl ?_
      refine W.icmp_ne d0_335 (fun h => False.elim (h (own_sum3 _ _ _))) (fun h335 => ?_)
      refine W.iload d0_338 rfl ?_
      refine W.iload d0_340 rfl ?_
      refine W.icmp_ne d0_342 (fun h => False.elim (h (nar_byte _))) (fun h342 => ?_)
      refine W.iconst 1 d0_345 rfl ?_
      refine W.goto d0_346 ?_
      exact W.nreturn .boolean d0_350 rfl (by simp) (by decide) (by decide) (rfl)
  · rw [q15]
    refine W.iadd d0_15 ?_
    refine W.istore d0_16 rfl ?_
    refine W.lloadN d0_18 rfl ?_
    refine W.iconst 0 d0_19 rfl ?_
    refine W.iload d0_20 rfl ?_
    refine W.callsV (M' := m1) d0_22 (hw _ (wd 1 rfl)) (hw _ (wd 2 rfl)) (c1_32 hw a) (ok1 hw) rfl rfl rfl ?_
    refine W.istore d0_25 rfl ?_
    refine W.lloadN d0_27 rfl ?_
    refine W.iconst 1 d0_28 rfl ?_
    refine W.iload d0_29 rfl ?_
    refine W.callsV (M' := m1) d0_31 (hw _ (wd 1 rfl)) (hw _ (wd 2 rfl)) (c1_33 hw a) (ok1 hw) rfl rfl rfl ?_
    refine W.istore d0_34 rfl ?_
    show WB _ l Z n m0 36 [(.val (.long (a))), .second, (.val (.int (b))), (.val (.int (e))), (.val (.int ((b &&& 2147483647) % 3))), (.val (.int (1 + 3))), (.val (.int ((((XT.ushrL a (8 * 0)).toInt32) &&& 255) ||| 128))), (.val (.int ((((XT.ushrL a (8 * 1)).toInt32) &&& 255) ||| 128))), .unset, .unset, .unset, .unset, .unset, .unset, .unset, .unset, .unset] [] [] _ _ _
    refine W.lloadN d0_36 rfl ?_
    refine W.iconst 2 d0_37 rfl ?_
    refine W.iload d0_38 rfl ?_
    refine W.callsV (M' := m1) d0_40 (hw _ (wd 1 rfl)) (hw _ (wd 2 rfl)) (c1_34 hw a) (ok1 hw) rfl rfl rfl ?_
    refine W.istore d0_43 rfl ?_
    refine W.lloadN d0_45 rfl ?_
    refine W.iconst 3 d0_46 rfl ?_
    refine W.iload d0_47 rfl ?_
    refine W.callsV (M' := m1) d0_49 (hw _ (wd 1 rfl)) (hw _ (wd 2 rfl)) (c1_35 hw a) (ok1 hw) rfl rfl rfl ?_
    refine W.istore d0_52 rfl ?_
    refine W.lloadN d0_54 rfl ?_
    refine W.iconst 4 d0_55 rfl ?_
    refine W.iload d0_56 rfl ?_
    refine W.callsV (M' := m1) d0_58 (hw _ (wd 1 rfl)) (hw _ (wd 2 rfl)) (c1_36 hw a) (ok1 hw) rfl rfl rfl ?_
    refine W.istore d0_61 rfl ?_
    refine W.bipush 8 d0_63 rfl ?_
    refine W.newarray (N := 0) (cnt := 8) (cap := 8) d0_65 (hw _ (wd 5 rfl)) ⟨by decide, by decide⟩ rfl (Nat.le_refl _) (by decide) (by decide) (by decide) ?_
    show WB _ l Z n m0 67 [(.val (.long (a))), .second, (.val (.int (b))), (.val (.int (e))), (.val (.int ((b &&& 2147483647) % 3))), (.val (.int (1 + 3))), (.val (.int ((((XT.ushrL a (8 * 0)).toInt32) &&& 255) ||| 128))), (.val (.int ((((XT.ushrL a (8 * 1)).toInt32) &&& 255) ||| 128))), (.val (.int ((((XT.ushrL a (8 * 2)).toInt32) &&& 255) ||| 128))), (.val (.int ((((XT.ushrL a (8 * 3)).toInt32) &&& 255) &&& 127))), (.val (.int ((((XT.ushrL a (8 * 4)).toInt32) &&& 255) &&& 127))), .unset, .unset, .unset, .unset, .unset, .unset] [(.ref 0)] [.inr (.byte, [(.int (0)), (.int (0)), (.int (0)), (.int (0)), (.int (0)), (.int (0)), (.int (0)), (.int (0))])] _ _ _
    refine W.astore d0_67 rfl rfl ?_
    refine W.aload d0_69 rfl rfl ?_
    refine W.iconst 0 d0_71 rfl ?_
    refine W.iloadN d0_72 rfl ?_
    refine W.i2b d0_73 ?_
    refine W.bastore (i := 0) d0_74 rfl ⟨by decide, by decide⟩ (by simp) ?_
    refine W.aload d0_75 rfl rfl ?_
    refine W.iconst 1 d0_77 rfl ?_
    refine W.iloadN d0_78 rfl ?_
    refine W.bipush 8 d0_79 rfl ?_
    refine W.iushr d0_81 ?_
    refine W.i2b d0_82 ?_
    refine W.bastore (i := 1) d0_83 rfl ⟨by decide, by decide⟩ (by simp) ?_
    refine W.aload d0_84 rfl rfl ?_
    refine W.iconst 2 d0_86 rfl ?_
    refine W.iloadN d0_87 rfl ?_
    refine W.bipush 16 d0_88 rfl ?_
    refine W.iushr d0_90 ?_
    refine W.i2b d0_91 ?_
    refine W.bastore (i := 2) d0_92 rfl ⟨by decide, by decide⟩ (by simp) ?_
    show WB _ l Z n m0 93 [(.val (.long (a))), .second, (.val (.int (b))), (.val (.int (e))), (.val (.int ((b &&& 2147483647) % 3))), (.val (.int (1 + 3))), (.val (.int ((((XT.ushrL a (8 * 0)).toInt32) &&& 255) ||| 128))), (.val (.int ((((XT.ushrL a (8 * 1)).toInt32) &&& 255) ||| 128))), (.val (.int ((((XT.ushrL a (8 * 2)).toInt32) &&& 255) ||| 128))), (.val (.int ((((XT.ushrL a (8 * 3)).toInt32) &&& 255) &&& 127))), (.val (.int ((((XT.ushrL a (8 * 4)).toInt32) &&& 255) &&& 127))), (.val (.ref 0)), .unset, .unset, .unset, .unset, .unset] [] [.inr (.byte, [(.int (e.toInt8.toInt32.toInt8.toInt32)), (.int (((XT.ushr e 8).toInt8.toInt32).toInt8.toInt32)), (.int (((XT.ushr e 16).toInt8.toInt32).toInt8.toInt32)), (.int (0)), (.int (0)), (.int (0)), (.int (0)), (.int (0))])] _ _ _
    refine W.aload d0_93 rfl rfl ?_
    refine W.iconst 3 d0_95 rfl ?_
    refine W.iloadN d0_96 rfl ?_
    refine W.bipush 24 d0_97 rfl ?_
    refine W.iushr d0_99 ?_
    refine W.i2b d0_100 ?_
    refine W.bastore (i := 3) d0_101 rfl ⟨by decide, by decide⟩ (by simp) ?_
    refine W.aload d0_102 rfl rfl ?_
    refine W.iconst 4 d0_104 rfl ?_
    refine W.iloadN d0_105 rfl ?_
    refine W.i2b d0_106 ?_
    refine W.bastore (i := 4) d0_107 rfl ⟨by decide, by decide⟩ (by simp) ?_
    refine W.aload d0_108 rfl rfl ?_
    refine W.iconst 5 d0_110 rfl ?_
    refine W.iloadN d0_111 rfl ?_
    refine W.bipush 8 d0_112 rfl ?_
    refine W.iushr d0_114 ?_
    refine W.i2b d0_115 ?_
    refine W.bastore (i := 5) d0_116 rfl ⟨by decide, by decide⟩ (by simp) ?_
    refine W.aload d0_117 rfl rfl ?_
    refine W.bipush 6 d0_119 rfl ?_
    refine W.iloadN d0_121 rfl ?_
    refine W.bipush 16 d0_122 rfl ?_
    refine W.iushr d0_124 ?_
    refine W.i2b d0_125 ?_
    refine W.bastore (i := 6) d0_126 rfl ⟨by decide, by decide⟩ (by simp) ?_
    show WB _ l Z n m0 127 [(.val (.long (a))), .second, (.val (.int (b))), (.val (.int (e))), (.val (.int ((b &&& 2147483647) % 3))), (.val (.int (1 + 3))), (.val (.int ((((XT.ushrL a (8 * 0)).toInt32) &&& 255) ||| 128))), (.val (.int ((((XT.ushrL a (8 * 1)).toInt32) &&& 255) ||| 128))), (.val (.int ((((XT.ushrL a (8 * 2)).toInt32) &&& 255) ||| 128))), (.val (.int ((((XT.ushrL a (8 * 3)).toInt32) &&& 255) &&& 127))), (.val (.int ((((XT.ushrL a (8 * 4)).toInt32) &&& 255) &&& 127))), (.val (.ref 0)), .unset, .unset, .unset, .unset, .unset] [] [.inr (.byte, [(.int (e.toInt8.toInt32.toInt8.toInt32)), (.int (((XT.ushr e 8).toInt8.toInt32).toInt8.toInt32)), (.int (((XT.ushr e 16).toInt8.toInt32).toInt8.toInt32)), (.int (((XT.ushr e 24).toInt8.toInt32).toInt8.toInt32)), (.int (e.toInt8.toInt32.toInt8.toInt32)), (.int (((XT.ushr e 8).toInt8.toInt32).toInt8.toInt32)), (.int (((XT.ushr e 16).toInt8.toInt32).toInt8.toInt32)), (.int (0))])] _ _ _
    refine W.aload d0_127 rfl rfl ?_
    refine W.bipush 7 d0_129 rfl ?_
    refine W.iloadN d0_131 rfl ?_
    refine W.bipush 24 d0_132 rfl ?_
    refine W.iushr d0_134 ?_
    refine W.i2b d0_135 ?_
    refine W.bastore (i := 7) d0_136 rfl ⟨by decide, by decide⟩ (by simp) ?_
    rcases own_p b with q137 | q137 | q137
    · rw [q137]
      refine W.aload d0_137 rfl rfl ?_
      refine W.iload d0_139 rfl ?_
      refine W.iload d0_141 rfl ?_
      refine W.i2b d0_143 ?_
      refine W.bastore (i := 0) d0_144 rfl ⟨by decide, by decide⟩ (by simp) ?_
      refine W.iload d0_145 rfl ?_
      refine W.iconst 1 d0_147 rfl ?_
      refine W.icmp_le d0_148 (fun h => False.elim (by revert h; decide)) (fun h148 => ?_)
      refine W.aload d0_151 rfl rfl ?_
      refine W.iload d0_153 rfl ?_
      refine W.iconst 1 d0_155 rfl ?_
      refine W.iadd d0_156 ?_
      refine W.iload d0_157 rfl ?_
      refine W.i2b d0_159 ?_
      refine W.bastore (i := 1) d0_160 rfl ⟨by decide, by decide⟩ (by simp) ?_
      refine W.iload d0_161 rfl ?_
      refine W.iconst 2 d0_163 rfl ?_
      refine W.icmp_le d0_164 (fun h => False.elim (by revert h; decide)) (fun h164 => ?_)
      refine W.aload d0_167 rfl rfl ?_
      refine W.iload d0_169 rfl ?_
      refine W.iconst 2 d0_171 rfl ?_
      refine W.iadd d0_172 ?_
      refine W.iload d0_173 rfl ?_
      refine W.i2b d0_175 ?_
      refine W.bastore (i := 2) d0_176 rfl ⟨by decide, by decide⟩ (by simp) ?_
      show WB _ l Z n m0 177 [(.val (.long (a))), .second, (.val (.int (b))), (.val (.int (e))), (.val (.int (0))), (.val (.int (1 + 3))), (.val (.int ((((XT.ushrL a (8 * 0)).toInt32) &&& 255) ||| 128))), (.val (.int ((((XT.ushrL a (8 * 1)).toInt32) &&& 255) ||| 128))), (.val (.int ((((XT.ushrL a (8 * 2)).toInt32) &&& 255) ||| 128))), (.val (.int ((((XT.ushrL a (8 * 3)).toInt32) &&& 255) &&& 127))), (.val (.int ((((XT.ushrL a (8 * 4)).toInt32) &&& 255) &&& 127))), (.val (.ref 0)), .unset, .unset, .unset, .unset, .unset] [] [.inr (.byte, [(.int ((((((XT.ushrL a (8 * 0)).toInt32) &&& 255) ||| 128).toInt8.toInt32).toInt8.toInt32)), (.int ((((((XT.ushrL a (8 * 1)).toInt32) &&& 255) ||| 128).toInt8.toInt32).toInt8.toInt32)), (.int ((((((XT.ushrL a (8 * 2)).toInt32) &&& 255) ||| 128).toInt8.toInt32).toInt8.toInt32)), (.int (((XT.ushr e 24).toInt8.toInt32).toInt8.toInt32)), (.int (e.toInt8.toInt32.toInt8.toInt32)), (.int (((XT.ushr e 8).toInt8.toInt32).toInt8.toInt32)), (.int (((XT.ushr e 16).toInt8.toInt32).toInt8.toInt32)), (.int (((XT.ushr e 24).toInt8.toInt32).toInt8.toInt32))])] _ _ _
      refine W.iload d0_177 rfl ?_
      refine W.iconst 3 d0_179 rfl ?_
      refine W.icmp_le d0_180 (fun h => False.elim (by revert h; decide)) (fun h180 => ?_)
      refine W.aload d0_183 rfl rfl ?_
      refine W.iload d0_185 rfl ?_
      refine W.iconst 3 d0_187 rfl ?_
      refine W.iadd d0_188 ?_
      refine W.iload d0_189 rfl ?_
      refine W.i2b d0_191 ?_
      refine W.bastore (i := 3) d0_192 rfl ⟨by decide, by decide⟩ (by simp) ?_
      refine W.iload d0_193 rfl ?_
      refine W.iconst 4 d0_195 rfl ?_
      refine W.icmp_le d0_196 (fun h196 => ?_) (fun h => False.elim (by revert h; decide))
      refine W.aload d0_209 rfl rfl ?_
      refine W.iload d0_211 rfl ?_
      refine W.iload d0_213 rfl ?_
      refine W.iadd d0_215 ?_
      refine W.baload (i := 4) d0_216 rfl ⟨by decide, by decide⟩ rfl ?_
      refine W.istore d0_217 rfl ?_
      refine W.iload d0_219 rfl ?_
      refine W.bipush 127 d0_221 rfl ?_
      refine W.iand d0_223 ?_
      refine W.istore d0_224 rfl ?_
      refine W.iload d0_226 rfl ?_
      refine W.iconst 1 d0_228 rfl ?_
      refine W.icmp_le d0_229 (fun h => False.elim (by revert h; decide)) (fun h229 => ?_)
      refine W.iload d0_232 rfl ?_
      refine W.iload d0_234 rfl ?_
      refine W.bipush 127 d0_236 rfl ?_
      refine W.iand d0_238 ?_
      refine W.sipush 128 d0_239 rfl ?_
      refine W.imul d0_242 ?_
      refine W.iadd d0_243 ?_
      refine W.istore d0_244 rfl ?_
      show WB _ l Z n m0 246 [(.val (.long (a))), .second, (.val (.int (b))), (.val (.int (e))), (.val (.int (0))), (.val (.int (1 + 3))), (.val (.int ((((XT.ushrL a (8 * 0)).toInt32) &&& 255) ||| 128))), (.val (.int ((((XT.ushrL a (8 * 1)).toInt32) &&& 255) ||| 128))), (.val (.int ((((XT.ushrL a (8 * 2)).toInt32) &&& 255) ||| 128))), (.val (.int ((((XT.ushrL a (8 * 3)).toInt32) &&& 255) &&& 127))), (.val (.int ((((XT.ushrL a (8 * 4)).toInt32) &&& 255) &&& 127))), (.val (.ref 0)), (.val (.int (e.toInt8.toInt32.toInt8.toInt32))), (.val (.int ((((((XT.ushrL a (8 * 0)).toInt32) &&& 255) ||| 128) &&& 127) + ((((((XT.ushrL a (8 * 1)).toInt32) &&& 255) ||| 128) &&& 127) * 128)))), .unset, .unset, .unset] [] [.inr (.byte, [(.int ((((((XT.ushrL a (8 * 0)).toInt32) &&& 255) ||| 128).toInt8.toInt32).toInt8.toInt32)), (.int ((((((XT.ushrL a (8 * 1)).toInt32) &&& 255) ||| 128).toInt8.toInt32).toInt8.toInt32)), (.int ((((((XT.ushrL a (8 * 2)).toInt32) &&& 255) ||| 128).toInt8.toInt32).toInt8.toInt32)), (.int ((((((XT.ushrL a (8 * 3)).toInt32) &&& 255) &&& 127).toInt8.toInt32).toInt8.toInt32)), (.int (e.toInt8.toInt32.toInt8.toInt32)), (.int (((XT.ushr e 8).toInt8.toInt32).toInt8.toInt32)), (.int (((XT.ushr e 16).toInt8.toInt32).toInt8.toInt32)), (.int (((XT.ushr e 24).toInt8.toInt32).toInt8.toInt32))])] _ _ _
      refine W.iload d0_246 rfl ?_
      refine W.iconst 2 d0_248 rfl ?_
      refine W.icmp_le d0_249 (fun h => False.elim (by revert h; decide)) (fun h249 => ?_)
      refine W.iload d0_252 rfl ?_
      refine W.iload d0_254 rfl ?_
      refine W.bipush 127 d0_256 rfl ?_
      refine W.iand d0_258 ?_
      refine W.sipush 16384 d0_259 rfl ?_
      refine W.imul d0_262 ?_
      refine W.iadd d0_263 ?_
      refine W.istore d0_264 rfl ?_
      refine W.iload d0_266 rfl ?_
      refine W.iconst 3 d0_268 rfl ?_
      refine W.icmp_le d0_269 (fun h => False.elim (by revert h; decide)) (fun h269 => ?_)
      refine W.iload d0_272 rfl ?_
      refine W.iload d0_274 rfl ?_
      refine W.bipush 127 d0_276 rfl ?_
      refine W.iand d0_278 ?_
      refine W.ldc d0_279 (hw _ (wd 29 rfl)) ?_
      refine W.imul d0_281 ?_
      refine W.iadd d0_282 ?_
      refine W.istore d0_283 rfl ?_
      refine W.iload d0_285 rfl ?_
      refine W.iconst 4 d0_287 rfl ?_
      refine W.icmp_le d0_288 (fun h288 => ?_) (fun h => False.elim (by revert h; decide))
      refine W.new (N := 1) d0_304 (hw _ (wd 6 rfl)) (okc0 hw) rfl (by decide) (by decide) ?_
      refine W.dup d0_307 rfl ?_
      refine W.aload d0_308 rfl rfl ?_
      refine W.iload d0_310 rfl ?_
      refine W.initN (M' := m2) d0_312 rfl rfl (hw _ (wd 9 rfl)) (hw _ (wd 10 rfl)) (c2_5 hw ((((((XT.ushrL a (8 * 0)).toInt32) &&& 255) ||| 128).toInt8.toInt32).toInt8.toInt32) ((((((XT.ushrL a (8 * 1)).toInt32) &&& 255) ||| 128).toInt8.toInt32).toInt8.toInt32) ((((((XT.ushrL a (8 * 2)).toInt32) &&& 255) ||| 128).toInt8.toInt32).toInt8.toInt32) ((((((XT.ushrL a (8 * 3)).toInt32) &&& 255) &&& 127).toInt8.toInt32).toInt8.toInt32) e.toInt8.toInt32.toInt8.toInt32 (((XT.ushr e 8).toInt8.toInt32).toInt8.toInt32) (((XT.ushr e 16).toInt8.toInt32).toInt8.toInt32) (((XT.ushr e 24).toInt8.toInt32).toInt8.toInt32)) (ok2 hw) rfl rfl rfl ?_
      refine W.astore d0_315 rfl rfl ?_
      show WB _ l Z n m0 317 [(.val (.long (a))), .second, (.val (.int (b))), (.val (.int (e))), (.val (.int (0))), (.val (.int (1 + 3))), (.val (.int ((((XT.ushrL a (8 * 0)).toInt32) &&& 255) ||| 128))), (.val (.int ((((XT.ushrL a (8 * 1)).toInt32) &&& 255) ||| 128))), (.val (.int ((((XT.ushrL a (8 * 2)).toInt32) &&& 255) ||| 128))), (.val (.int ((((XT.ushrL a (8 * 3)).toInt32) &&& 255) &&& 127))), (.val (.int ((((XT.ushrL a (8 * 4)).toInt32) &&& 255) &&& 127))), (.val (.ref 0)), (.val (.int (e.toInt8.toInt32.toInt8.toInt32))), (.val (.int ((((((((XT.ushrL a (8 * 0)).toInt32) &&& 255) ||| 128) &&& 127) + ((((((XT.ushrL a (8 * 1)).toInt32) &&& 255) ||| 128) &&& 127) * 128)) + ((((((XT.ushrL a (8 * 2)).toInt32) &&& 255) ||| 128) &&& 127) * 16384)) + ((((((XT.ushrL a (8 * 3)).toInt32) &&& 255) &&& 127) &&& 127) * 2097152)))), (.val (.ref 1)), .unset, .unset] [] [.inr (.byte, [(.int (((((((XT.ushrL a (8 * 0)).toInt32) &&& 255) ||| 128).toInt8.toInt32).toInt8.toInt32))), (.int (((((((XT.ushrL a (8 * 1)).toInt32) &&& 255) ||| 128).toInt8.toInt32).toInt8.toInt32))), (.int (((((((XT.ushrL a (8 * 2)).toInt32) &&& 255) ||| 128).toInt8.toInt32).toInt8.toInt32))), (.int (((((((XT.ushrL a (8 * 3)).toInt32) &&& 255) &&& 127).toInt8.toInt32).toInt8.toInt32))), (.int (e.toInt8.toInt32.toInt8.toInt32)), (.int ((((XT.ushr e 8).toInt8.toInt32).toInt8.toInt32))), (.int ((((XT.ushr e 16).toInt8.toInt32).toInt8.toInt32))), (.int ((((XT.ushr e 24).toInt8.toInt32).toInt8.toInt32)))]), .inl ("com/example/quiverstore/quiverstore/ByteReader", [(("com/example/quiverstore/quiverstore/ByteReader", "bytes", "[B"), (.ref 0)), (("com/example/quiverstore/quiverstore/ByteReader", "position", "I"), (.int (0)))])] _ _ _
      refine W.aload d0_317 rfl rfl ?_
      refine W.callvV (M' := m4) d0_319 (hw _ (wd 19 rfl)) (hw _ (wd 20 rfl)) (hw _ (wd 21 rfl)) (hw _ (wd 22 rfl)) (c4_37 hw ((((((XT.ushrL a (8 * 0)).toInt32) &&& 255) ||| 128).toInt8.toInt32).toInt8.toInt32) ((((((XT.ushrL a (8 * 1)).toInt32) &&& 255) ||| 128).toInt8.toInt32).toInt8.toInt32) ((((((XT.ushrL a (8 * 2)).toInt32) &&& 255) ||| 128).toInt8.toInt32).toInt8.toInt32) ((((((XT.ushrL a (8 * 3)).toInt32) &&& 255) &&& 127).toInt8.toInt32).toInt8.toInt32) e.toInt8.toInt32.toInt8.toInt32 (((XT.ushr e 8).toInt8.toInt32).toInt8.toInt32) (((XT.ushr e 16).toInt8.toInt32).toInt8.toInt32) (((XT.ushr e 24).toInt8.toInt32).toInt8.toInt32) (own_neg _) (own_neg _) (own_neg _) (own_pos _)) (ok4 hw) rfl rfl rfl rfl ?_
      refine W.istore d0_322 rfl ?_
      refine W.aload d0_324 rfl rfl ?_
      refine W.callvV (M' := m5) d0_326 (hw _ (wd 24 rfl)) (hw _ (wd 25 rfl)) (hw _ (wd 26 rfl)) (hw _ (wd 27 rfl)) (c5_22 hw ((((((XT.ushrL a (8 * 0)).toInt32) &&& 255) ||| 128).toInt8.toInt32).toInt8.toInt32) ((((((XT.ushrL a (8 * 1)).toInt32) &&& 255) ||| 128).toInt8.toInt32).toInt8.toInt32) ((((((XT.ushrL a (8 * 2)).toInt32) &&& 255) ||| 128).toInt8.toInt32).toInt8.toInt32) ((((((XT.ushrL a (8 * 3)).toInt32) &&& 255) &&& 127).toInt8.toInt32).toInt8.toInt32) e.toInt8.toInt32.toInt8.toInt32 (((XT.ushr e 8).toInt8.toInt32).toInt8.toInt32) (((XT.ushr e 16).toInt8.toInt32).toInt8.toInt32) (((XT.ushr e 24).toInt8.toInt32).toInt8.toInt32)) (ok5 hw) rfl rfl rfl rfl ?_
      refine W.istore d0_329 rfl ?_
      refine W.iload d0_331 rfl ?_
      refine W.iload d0_333 rfl ?_
      refine W.icmp_ne d0_335 (fun h => False.elim (h (own_sum4 _ _ _ _))) (fun h335 => ?_)
      refine W.iload d0_338 rfl ?_
      refine W.iload d0_340 rfl ?_
      refine W.icmp_ne d0_342 (fun h => False.elim (h (nar_byte _))) (fun h342 => ?_)
      refine W.iconst 1 d0_345 rfl ?_
      refine W.goto d0_346 ?_
      exact W.nreturn .boolean d0_350 rfl (by simp) (by decide) (by decide) (rfl)
    · rw [q137]
      refine W.aload d0_137 rfl rfl ?_
      refine W.iload d0_139 rfl ?_
      refine W.iload d0_141 rfl ?_
      refine W.i2b d0_143 ?_
      refine W.bastore (i := 1) d0_144 rfl ⟨by decide, by decide⟩ (by simp) ?_
      refine W.iload d0_145 rfl ?_
      refine W.iconst 1 d0_147 rfl ?_
      refine W.icmp_le d0_148 (fun h => False.elim (by revert h; decide)) (fun h148 => ?_)
      refine W.aload d0_151 rfl rfl ?_
      refine W.iload d0_153 rfl ?_
      refine W.iconst 1 d0_155 rfl ?_
      refine W.iadd d0_156 ?_
      refine W.iload d0_157 rfl ?_
      refine W.i2b d0_159 ?_
      refine W.bastore (i := 2) d0_160 rfl ⟨by decide, by decide⟩ (by simp) ?_
      refine W.iload d0_161 rfl ?_
      refine W.iconst 2 d0_163 rfl ?_
      refine W.icmp_le d0_164 (fun h => False.elim (by revert h; decide)) (fun h164 => ?_)
      refine W.aload d0_167 rfl rfl ?_
      refine W.iload d0_169 rfl ?_
      refine W.iconst 2 d0_171 rfl ?_
      refine W.iadd d0_172 ?_
      refine W.iload d0_173 rfl ?_
      refine W.i2b d0_175 ?_
      refine W.bastore (i := 3) d0_176 rfl ⟨by decide, by decide⟩ (by simp) ?_
      show WB _ l Z n m0 177 [(.val (.long (a))), .second, (.val (.int (b))), (.val (.int (e))), (.val (.int (1))), (.val (.int (1 + 3))), (.val (.int ((((XT.ushrL a (8 * 0)).toInt32) &&& 255) ||| 128))), (.val (.int ((((XT.ushrL a (8 * 1)).toInt32) &&& 255) ||| 128))), (.val (.int ((((XT.ushrL a (8 * 2)).toInt32) &&& 255) ||| 128))), (.val (.int ((((XT.ushrL a (8 * 3)).toInt32) &&& 255) &&& 127))), (.val (.int ((((XT.ushrL a (8 * 4)).toInt32) &&& 255) &&& 127))), (.val (.ref 0)), .unset, .unset, .unset, .unset, .unset] [] [.inr (.byte, [(.int (e.toInt8.toInt32.toInt8.toInt32)), (.int ((((((XT.ushrL a (8 * 0)).toInt32) &&& 255) ||| 128).toInt8.toInt32).toInt8.toInt32)), (.int ((((((XT.ushrL a (8 * 1)).toInt32) &&& 255) ||| 128).toInt8.toInt32).toInt8.toInt32)), (.int ((((((XT.ushrL a (8 * 2)).toInt32) &&& 255) ||| 128).toInt8.toInt32).toInt8.toInt32)), (.int (e.toInt8.toInt32.toInt8.toInt32)), (.int (((XT.ushr e 8).toInt8.toInt32).toInt8.toInt32)), (.int (((XT.ushr e 16).toInt8.toInt32).toInt8.toInt32)), (.int (((XT.ushr e 24).toInt8.toInt32).toInt8.toInt32))])] _ _ _
      refine W.iload d0_177 rfl ?_
      refine W.iconst 3 d0_179 rfl ?_
      refine W.icmp_le d0_180 (fun h => False.elim (by revert h; decide)) (fun h180 => ?_)
      refine W.aload d0_183 rfl rfl ?_
      refine W.iload d0_185 rfl ?_
      refine W.iconst 3 d0_187 rfl ?_
      refine W.iadd d0_188 ?_
      refine W.iload d0_189 rfl ?_
      refine W.i2b d0_191 ?_
      refine W.bastore (i := 4) d0_192 rfl ⟨by decide, by decide⟩ (by simp) ?_
      refine W.iload d0_193 rfl ?_
      refine W.iconst 4 d0_195 rfl ?_
      refine W.icmp_le d0_196 (fun h196 => ?_) (fun h => False.elim (by revert h; decide))
      refine W.aload d0_209 rfl rfl ?_
      refine W.iload d0_211 rfl ?_
      refine W.iload d0_213 rfl ?_
      refine W.iadd d0_215 ?_
      refine W.baload (i := 5) d0_216 rfl ⟨by decide, by decide⟩ rfl ?_
      refine W.istore d0_217 rfl ?_
      refine W.iload d0_219 rfl ?_
      refine W.bipush 127 d0_221 rfl ?_
      refine W.iand d0_223 ?_
      refine W.istore d0_224 rfl ?_
      refine W.iload d0_226 rfl ?_
      refine W.iconst 1 d0_228 rfl ?_
      refine W.icmp_le d0_229 (fun h => False.elim (by revert h; decide)) (fun h229 => ?_)
      refine W.iload d0_232 rfl ?_
      refine W.iload d0_234 rfl ?_
      refine W.bipush 127 d0_236 rfl ?_
      refine W.iand d0_238 ?_
      refine W.sipush 128 d0_239 rfl ?_
      refine W.imul d0_242 ?_
      refine W.iadd d0_243 ?_
      refine W.istore d0_244 rfl ?_
      show WB _ l Z n m0 246 [(.val (.long (a))), .second, (.val (.int (b))), (.val (.int (e))), (.val (.int (1))), (.val (.int (1 + 3))), (.val (.int ((((XT.ushrL a (8 * 0)).toInt32) &&& 255) ||| 128))), (.val (.int ((((XT.ushrL a (8 * 1)).toInt32) &&& 255) ||| 128))), (.val (.int ((((XT.ushrL a (8 * 2)).toInt32) &&& 255) ||| 128))), (.val (.int ((((XT.ushrL a (8 * 3)).toInt32) &&& 255) &&& 127))), (.val (.int ((((XT.ushrL a (8 * 4)).toInt32) &&& 255) &&& 127))), (.val (.ref 0)), (.val (.int (((XT.ushr e 8).toInt8.toInt32).toInt8.toInt32))), (.val (.int ((((((XT.ushrL a (8 * 0)).toInt32) &&& 255) ||| 128) &&& 127) + ((((((XT.ushrL a (8 * 1)).toInt32) &&& 255) ||| 128) &&& 127) * 128)))), .unset, .unset, .unset] [] [.inr (.byte, [(.int (e.toInt8.toInt32.toInt8.toInt32)), (.int ((((((XT.ushrL a (8 * 0)).toInt32) &&& 255) ||| 128).toInt8.toInt32).toInt8.toInt32)), (.int ((((((XT.ushrL a (8 * 1)).toInt32) &&& 255) ||| 128).toInt8.toInt32).toInt8.toInt32)), (.int ((((((XT.ushrL a (8 * 2)).toInt32) &&& 255) ||| 128).toInt8.toInt32).toInt8.toInt32)), (.int ((((((XT.ushrL a (8 * 3)).toInt32) &&& 255) &&& 127).toInt8.toInt32).toInt8.toInt32)), (.int (((XT.ushr e 8).toInt8.toInt32).toInt8.toInt32)), (.int (((XT.ushr e 16).toInt8.toInt32).toInt8.toInt32)), (.int (((XT.ushr e 24).toInt8.toInt32).toInt8.toInt32))])] _ _ _
      refine W.iload d0_246 rfl ?_
      refine W.iconst 2 d0_248 rfl ?_
      refine W.icmp_le d0_249 (fun h => False.elim (by revert h; decide)) (fun h249 => ?_)
      refine W.iload d0_252 rfl ?_
      refine W.iload d0_254 rfl ?_
      refine W.bipush 127 d0_256 rfl ?_
      refine W.iand d0_258 ?_
      refine W.sipush 16384 d0_259 rfl ?_
      refine W.imul d0_262 ?_
      refine W.iadd d0_263 ?_
      refine W.istore d0_264 rfl ?_
      refine W.iload d0_266 rfl ?_
      refine W.iconst 3 d0_268 rfl ?_
      refine W.icmp_le d0_269 (fun h => False.elim (by revert h; decide)) (fun h269 => ?_)
      refine W.iload d0_272 rfl ?_
      refine W.iload d0_274 rfl ?_
      refine W.bipush 127 d0_276 rfl ?_
      refine W.iand d0_278 ?_
      refine W.ldc d0_279 (hw _ (wd 29 rfl)) ?_
      refine W.imul d0_281 ?_
      refine W.iadd d0_282 ?_
      refine W.istore d0_283 rfl ?_
      refine W.iload d0_285 rfl ?_
      refine W.iconst 4 d0_287 rfl ?_
      refine W.icmp_le d0_288 (fun h288 => ?_) (fun h => False.elim (by revert h; decide))
      refine W.new (N := 1) d0_304 (hw _ (wd 6 rfl)) (okc0 hw) rfl (by decide) (by decide) ?_
      refine W.dup d0_307 rfl ?_
      refine W.aload d0_308 rfl rfl ?_
      refine W.iload d0_310 rfl ?_
      refine W.initN (M' := m2) d0_312 rfl rfl (hw _ (wd 9 rfl)) (hw _ (wd 10 rfl)) (c2_8 hw e.toInt8.toInt32.toInt8.toInt32 ((((((XT.ushrL a (8 * 0)).toInt32) &&& 255) ||| 128).toInt8.toInt32).toInt8.toInt32) ((((((XT.ushrL a (8 * 1)).toInt32) &&& 255) ||| 128).toInt8.toInt32).toInt8.toInt32) ((((((XT.ushrL a (8 * 2)).toInt32) &&& 255) ||| 128).toInt8.toInt32).toInt8.toInt32) ((((((XT.ushrL a (8 * 3)).toInt32) &&& 255) &&& 127).toInt8.toInt32).toInt8.toInt32) (((XT.ushr e 8).toInt8.toInt32).toInt8.toInt32) (((XT.ushr e 16).toInt8.toInt32).toInt8.toInt32) (((XT.ushr e 24).toInt8.toInt32).toInt8.toInt32)) (ok2 hw) rfl rfl rfl ?_
      refine W.astore d0_315 rfl rfl ?_
      show WB _ l Z n m0 317 [(.val (.long (a))), .second, (.val (.int (b))), (.val (.int (e))), (.val (.int (1))), (.val (.int (1 + 3))), (.val (.int ((((XT.ushrL a (8 * 0)).toInt32) &&& 255) ||| 128))), (.val (.int ((((XT.ushrL a (8 * 1)).toInt32) &&& 255) ||| 128))), (.val (.int ((((XT.ushrL a (8 * 2)).toInt32) &&& 255) ||| 128))), (.val (.int ((((XT.ushrL a (8 * 3)).toInt32) &&& 255) &&& 127))), (.val (.int ((((XT.ushrL a (8 * 4)).toInt32) &&& 255) &&& 127))), (.val (.ref 0)), (.val (.int (((XT.ushr e 8).toInt8.toInt32).toInt8.toInt32))), (.val (.int ((((((((XT.ushrL a (8 * 0)).toInt32) &&& 255) ||| 128) &&& 127) + ((((((XT.ushrL a (8 * 1)).toInt32) &&& 255) ||| 128) &&& 127) * 128)) + ((((((XT.ushrL a (8 * 2)).toInt32) &&& 255) ||| 128) &&& 127) * 16384)) + ((((((XT.ushrL a (8 * 3)).toInt32) &&& 255) &&& 127) &&& 127) * 2097152)))), (.val (.ref 1)), .unset, .unset] [] [.inr (.byte, [(.int (e.toInt8.toInt32.toInt8.toInt32)), (.int (((((((XT.ushrL a (8 * 0)).toInt32) &&& 255) ||| 128).toInt8.toInt32).toInt8.toInt32))), (.int (((((((XT.ushrL a (8 * 1)).toInt32) &&& 255) ||| 128).toInt8.toInt32).toInt8.toInt32))), (.int (((((((XT.ushrL a (8 * 2)).toInt32) &&& 255) ||| 128).toInt8.toInt32).toInt8.toInt32))), (.int (((((((XT.ushrL a (8 * 3)).toInt32) &&& 255) &&& 127).toInt8.toInt32).toInt8.toInt32))), (.int ((((XT.ushr e 8).toInt8.toInt32).toInt8.toInt32))), (.int ((((XT.ushr e 16).toInt8.toInt32).toInt8.toInt32))), (.int ((((XT.ushr e 24).toInt8.toInt32).toInt8.toInt32)))]), .inl ("com/example/quiverstore/quiverstore/ByteReader", [(("com/example/quiverstore/quiverstore/ByteReader", "bytes", "[B"), (.ref 0)), (("com/example/quiverstore/quiverstore/ByteReader", "position", "I"), (.int (1)))])] _ _ _
      refine W.aload d0_317 rfl rfl ?_
      refine W.callvV (M' := m4) d0_319 (hw _ (wd 19 rfl)) (hw _ (wd 20 rfl)) (hw _ (wd 21 rfl)) (hw _ (wd 22 rfl)) (c4_38 hw e.toInt8.toInt32.toInt8.toInt32 ((((((XT.ushrL a (8 * 0)).toInt32) &&& 255) ||| 128).toInt8.toInt32).toInt8.toInt32) ((((((XT.ushrL a (8 * 1)).toInt32) &&& 255) ||| 128).toInt8.toInt32).toInt8.toInt32) ((((((XT.ushrL a (8 * 2)).toInt32) &&& 255) ||| 128).toInt8.toInt32).toInt8.toInt32) ((((((XT.ushrL a (8 * 3)).toInt32) &&& 255) &&& 127).toInt8.toInt32).toInt8.toInt32) (((XT.ushr e 8).toInt8.toInt32).toInt8.toInt32) (((XT.ushr e 16).toInt8.toInt32).toInt8.toInt32) (((XT.ushr e 24).toInt8.toInt32).toInt8.toInt32) (own_neg _) (own_neg _) (own_neg _) (own_pos _)) (ok4 hw) rfl rfl rfl rfl ?_
      refine W.istore d0_322 rfl ?_
      refine W.aload d0_324 rfl rfl ?_
      refine W.callvV (M' := m5) d0_326 (hw _ (wd 24 rfl)) (hw _ (wd 25 rfl)) (hw _ (wd 26 rfl)) (hw _ (wd 27 rfl)) (c5_31 hw e.toInt8.toInt32.toInt8.toInt32 ((((((XT.ushrL a (8 * 0)).toInt32) &&& 255) ||| 128).toInt8.toInt32).toInt8.toInt32) ((((((XT.ushrL a (8 * 1)).toInt32) &&& 255) ||| 128).toInt8.toInt32).toInt8.toInt32) ((((((XT.ushrL a (8 * 2)).toInt32) &&& 255) ||| 128).toInt8.toInt32).toInt8.toInt32) ((((((XT.ushrL a (8 * 3)).toInt32) &&& 255) &&& 127).toInt8.toInt32).toInt8.toInt32) (((XT.ushr e 8).toInt8.toInt32).toInt8.toInt32) (((XT.ushr e 16).toInt8.toInt32).toInt8.toInt32) (((XT.ushr e 24).toInt8.toInt32).toInt8.toInt32)) (ok5 hw) rfl rfl rfl rfl ?_
      refine W.istore d0_329 rfl ?_
      refine W.iload d0_331 rfl ?_
      refine W.iload d0_333 rfl ?_
      refine W.icmp_ne d0_335 (fun h => False.elim (h (own_sum4 _ _ _ _))) (fun h335 => ?_)
      refine W.iload d0_338 rfl ?_
      refine W.iload d0_340 rfl ?_
      refine W.icmp_ne d0_342 (fun h => False.elim (h (nar_byte _))) (fun h342 => ?_)
      refine W.iconst 1 d0_345 rfl ?_
      refine W.goto d0_346 ?_
      exact W.nreturn .boolean d0_350 rfl (by simp) (by decide) (by decide) (rfl)
    · rw [q137]
      refine W.aload d0_137 rfl rfl ?_
      refine W.iload d0_139 rfl ?_
      refine W.iload d0_141 rfl ?_
      refine W.i2b d0_143 ?_
      refine W.bastore (i := 2) d0_144 rfl ⟨by decide, by decide⟩ (by simp) ?_
      refine W.iload d0_145 rfl ?_
      refine W.iconst 1 d0_147 rfl ?_
      refine W.icmp_le d0_148 (fun h => False.elim (by revert h; decide)) (fun h148 => ?_)
      refine W.aload d0_151 rfl rfl ?_
      refine W.iload d0_153 rfl ?_
      refine W.iconst 1 d0_155 rfl ?_
      refine W.iadd d0_156 ?_
      refine W.iload d0_157 rfl ?_
      refine W.i2b d0_159 ?_
      refine W.bastore (i := 3) d0_160 rfl ⟨by decide, by decide⟩ (by simp) ?_
      refine W.iload d0_161 rfl ?_
      refine W.iconst 2 d0_163 rfl ?_
      refine W.icmp_le d0_164 (fun h => False.elim (by revert h; decide)) (fun h164 => ?_)
      refine W.aload d0_167 rfl rfl ?_
      refine W.iload d0_169 rfl ?_
      refine W.iconst 2 d0_171 rfl ?_
      refine W.iadd d0_172 ?_
      refine W.iload d0_173 rfl ?_
      refine W.i2b d0_175 ?_
      refine W.bastore (i := 4) d0_176 rfl ⟨by decide, by decide⟩ (by simp) ?_
      show WB _ l Z n m0 177 [(.val (.long (a))), .second, (.val (.int (b))), (.val (.int (e))), (.val (.int (2))), (.val (.int (1 + 3))), (.val (.int ((((XT.ushrL a (8 * 0)).toInt32) &&& 255) ||| 128))), (.val (.int ((((XT.ushrL a (8 * 1)).toInt32) &&& 255) ||| 128))), (.val (.int ((((XT.ushrL a (8 * 2)).toInt32) &&& 255) ||| 128))), (.val (.int ((((XT.ushrL a (8 * 3)).toInt32) &&& 255) &&& 127))), (.val (.int ((((XT.ushrL a (8 * 4)).toInt32) &&& 255) &&& 127))), (.val (.ref 0)), .unset, .unset, .unset, .unset, .unset] [] [.inr (.byte, [(.int (e.toInt8.toInt32.toInt8.toInt32)), (.int (((XT.ushr e 8).toInt8.toInt32).toInt8.toInt32)), (.int ((((((XT.ushrL a (8 * 0)).toInt32) &&& 255) ||| 128).toInt8.toInt32).toInt8.toInt32)), (.int ((((((XT.ushrL a (8 * 1)).toInt32) &&& 255) ||| 128).toInt8.toInt32).toInt8.toInt32)), (.int ((((((XT.ushrL a (8 * 2)).toInt32) &&& 255) ||| 128).toInt8.toInt32).toInt8.toInt32)), (.int (((XT.ushr e 8).toInt8.toInt32).toInt8.toInt32)), (.int (((XT.ushr e 16).toInt8.toInt32).toInt8.toInt32)), (.int (((XT.ushr e 24).toInt8.toInt32).toInt8.toInt32))])] _ _ _
      refine W.iload d0_177 rfl ?_
      refine W.iconst 3 d0_179 rfl ?_
      refine W.icmp_le d0_180 (fun h => False.elim (by revert h; decide)) (fun h180 => ?_)
      refine W.aload d0_183 rfl rfl ?_
      refine W.iload d0_185 rfl ?_
      refine W.iconst 3 d0_187 rfl ?_
      refine W.iadd d0_188 ?_
      refine W.iload d0_189 rfl ?_
      refine W.i2b d0_191 ?_
      refine W.bastore (i := 5) d0_192 rfl ⟨by decide, by decide⟩ (by simp) ?_
      refine W.iload d0_193 rfl ?_
      refine W.iconst 4 d0_195 rfl ?_
      refine W.icmp_le d0_196 (fun h196 => ?_) (fun h => False.elim (by revert h; decide))
      refine W.aload d0_209 rfl rfl ?_
      refine W.iload d0_211 rfl ?_
      refine W.iload d0_213 rfl ?_
      refine W.iadd d0_215 ?_
      refine W.baload (i := 6) d0_216 rfl ⟨by decide, by decide⟩ rfl ?_
      refine W.istore d0_217 rfl ?_
      refine W.iload d0_219 rfl ?_
      refine W.bipush 127 d0_221 rfl ?_
      refine W.iand d0_223 ?_
      refine W.istore d0_224 rfl ?_
      refine W.iload d0_226 rfl ?_
      refine W.iconst 1 d0_228 rfl ?_
      refine W.icmp_le d0_229 (fun h => False.elim (by revert h; decide)) (fun h229 => ?_)
      refine W.iload d0_232 rfl ?_
      refine W.iload d0_234 rfl ?_
      refine W.bipush 127 d0_236 rfl ?_
      refine W.iand d0_238 ?_
      refine W.sipush 128 d0_239 rfl ?_
      refine W.imul d0_242 ?_
      refine W.iadd d0_243 ?_
      refine W.istore d0_244 rfl ?_
      show WB _ l Z n m0 246 [(.val (.long (a))), .second, (.val (.int (b))), (.val (.int (e))), (.val (.int (2))), (.val (.int (1 + 3))), (.val (.int ((((XT.ushrL a (8 * 0)).toInt32) &&& 255) ||| 128))), (.val (.int ((((XT.ushrL a (8 * 1)).toInt32) &&& 255) ||| 128))), (.val (.int ((((XT.ushrL a (8 * 2)).toInt32) &&& 255) ||| 128))), (.val (.int ((((XT.ushrL a (8 * 3)).toInt32) &&& 255) &&& 127))), (.val (.int ((((XT.ushrL a (8 * 4)).toInt32) &&& 255) &&& 127))), (.val (.ref 0)), (.val (.int (((XT.ushr e 16).toInt8.toInt32).toInt8.toInt32))), (.val (.int ((((((XT.ushrL a (8 * 0)).toInt32) &&& 255) ||| 128) &&& 127) + ((((((XT.ushrL a (8 * 1)).toInt32) &&& 255) ||| 128) &&& 127) * 128)))), .unset, .unset, .unset] [] [.inr (.byte, [(.int (e.toInt8.toInt32.toInt8.toInt32)), (.int (((XT.ushr e 8).toInt8.toInt32).toInt8.toInt32)), (.int ((((((XT.ushrL a (8 * 0)).toInt32) &&& 255) ||| 128).toInt8.toInt32).toInt8.toInt32)), (.int ((((((XT.ushrL a (8 * 1)).toInt32) &&& 255) ||| 128).toInt8.toInt32).toInt8.toInt32)), (.int ((((((XT.ushrL a (8 * 2)).toInt32) &&& 255) ||| 128).toInt8.toInt32).toInt8.toInt32)), (.int ((((((XT.ushrL a (8 * 3)).toInt32) &&& 255) &&& 127).toInt8.toInt32).toInt8.toInt32)), (.int (((XT.ushr e 16).toInt8.toInt32).toInt8.toInt32)), (.int (((XT.ushr e 24).toInt8.toInt32).toInt8.toInt32))])] _ _ _
      refine W.iload d0_246 rfl ?_
      refine W.iconst 2 d0_248 rfl ?_
      refine W.icmp_le d0_249 (fun h => False.elim (by revert h; decide)) (fun h249 => ?_)
      refine W.iload d0_252 rfl ?_
      refine W.iload d0_254 rfl ?_
      refine W.bipush 127 d0_256 rfl ?_
      refine W.iand d0_258 ?_
      refine W.sipush 16384 d0_259 rfl ?_
      refine W.imul d0_262 ?_
      refine W.iadd d0_263 ?_
      refine W.istore d0_264 rfl ?_
      refine W.iload d0_266 rfl ?_
      refine W.iconst 3 d0_268 rfl ?_
      refine W.icmp_le d0_269 (fun h => False.elim (by revert h; decide)) (fun h269 => ?_)
      refine W.iload d0_272 rfl ?_
      refine W.iload d0_274 rfl ?_
      refine W.bipush 127 d0_276 rfl ?_
      refine W.iand d0_278 ?_
      refine W.ldc d0_279 (hw _ (wd 29 rfl)) ?_
      refine W.imul d0_281 ?_
      refine W.iadd d0_282 ?_
      refine W.istore d0_283 rfl ?_
      refine W.iload d0_285 rfl ?_
      refine W.iconst 4 d0_287 rfl ?_
      refine W.icmp_le d0_288 (fun h288 => ?_) (fun h => False.elim (by revert h; decide))
      refine W.new (N := 1) d0_304 (hw _ (wd 6 rfl)) (okc0 hw) rfl (by decide) (by decide) ?_
      refine W.dup d0_307 rfl ?_
      refine W.aload d0_308 rfl rfl ?_
      refine W.iload d0_310 rfl ?_
      refine W.initN (M' := m2) d0_312 rfl rfl (hw _ (wd 9 rfl)) (hw _ (wd 10 rfl)) (c2_11 hw e.toInt8.toInt32.toInt8.toInt32 (((XT.ushr e 8).toInt8.toInt32).toInt8.toInt32) ((((((XT.ushrL a (8 * 0)).toInt32) &&& 255) ||| 128).toInt8.toInt32).toInt8.toInt32) ((((((XT.ushrL a (8 * 1)).toInt32) &&& 255) ||| 128).toInt8.toInt32).toInt8.toInt32) ((((((XT.ushrL a (8 * 2)).toInt32) &&& 255) ||| 128).toInt8.toInt32).toInt8.toInt32) ((((((XT.ushrL a (8 * 3)).toInt32) &&& 255) &&& 127).toInt8.toInt32).toInt8.toInt32) (((XT.ushr e 16).toInt8.toInt32).toInt8.toInt32) (((XT.ushr e 24).toInt8.toInt32).toInt8.toInt32)) (ok2 hw) rfl rfl rfl ?_
      refine W.astore d0_315 rfl rfl ?_
      show WB _ l Z n m0 317 [(.val (.long (a))), .second, (.val (.int (b))), (.val (.int (e))), (.val (.int (2))), (.val (.int (1 + 3))), (.val (.int ((((XT.ushrL a (8 * 0)).toInt32) &&& 255) ||| 128))), (.val (.int ((((XT.ushrL a (8 * 1)).toInt32) &&& 255) ||| 128))), (.val (.int ((((XT.ushrL a (8 * 2)).toInt32) &&& 255) ||| 128))), (.val (.int ((((XT.ushrL a (8 * 3)).toInt32) &&& 255) &&& 127))), (.val (.int ((((XT.ushrL a (8 * 4)).toInt32) &&& 255) &&& 127))), (.val (.ref 0)), (.val (.int (((XT.ushr e 16).toInt8.toInt32).toInt8.toInt32))), (.val (.int ((((((((XT.ushrL a (8 * 0)).toInt32) &&& 255) ||| 128) &&& 127) + ((((((XT.ushrL a (8 * 1)).toInt32) &&& 255) ||| 128) &&& 127) * 128)) + ((((((XT.ushrL a (8 * 2)).toInt32) &&& 255) ||| 128) &&& 127) * 16384)) + ((((((XT.ushrL a (8 * 3)).toInt32) &&& 255) &&& 127) &&& 127) * 2097152)))), (.val (.ref 1)), .unset, .unset] [] [.inr (.byte, [(.int (e.toInt8.toInt32.toInt8.toInt32)), (.int ((((XT.ushr e 8).toInt8.toInt32).toInt8.toInt32))), (.int (((((((XT.ushrL a (8 * 0)).toInt32) &&& 255) ||| 128).toInt8.toInt32).toInt8.toInt32))), (.int (((((((XT.ushrL a (8 * 1)).toInt32) &&& 255) ||| 128).toInt8.toInt32).toInt8.toInt32))), (.int (((((((XT.ushrL a (8 * 2)).toInt32) &&& 255) ||| 128).toInt8.toInt32).toInt8.toInt32))), (.int (((((((XT.ushrL a (8 * 3)).toInt32) &&& 255) &&& 127).toInt8.toInt32).toInt8.toInt32))), (.int ((((XT.ushr e 16).toInt8.toInt32).toInt8.toInt32))), (.int ((((XT.ushr e 24).toInt8.toInt32).toInt8.toInt32)))]), .inl ("com/example/quiverstore/quiverstore/ByteReader", [(("com/example/quiverstore/quiverstore/ByteReader", "bytes", "[B"), (.ref 0)), (("com/example/quiverstore/quiverstore/ByteReader", "position", "I"), (.int (2)))])] _ _ _
      refine W.aload d0_317 rfl rfl ?_
      refine W.callvV (M' := m4) d0_319 (hw _ (wd 19 rfl)) (hw _ (wd 20 rfl)) (hw _ (wd 21 rfl)) (hw _ (wd 22 rfl)) (c4_39 hw e.toInt8.toInt32.toInt8.toInt32 (((XT.ushr e 8).toInt8.toInt32).toInt8.toInt32) ((((((XT.ushrL a (8 * 0)).toInt32) &&& 255) ||| 128).toInt8.toInt32).toInt8.toInt32) ((((((XT.ushrL a (8 * 1)).toInt32) &&& 255) ||| 128).toInt8.toInt32).toInt8.toInt32) ((((((XT.ushrL a (8 * 2)).toInt32) &&& 255) ||| 128).toInt8.toInt32).toInt8.toInt32) ((((((XT.ushrL a (8 * 3)).toInt32) &&& 255) &&& 127).toInt8.toInt32).toInt8.toInt32) (((XT.ushr e 16).toInt8.toInt32).toInt8.toInt32) (((XT.ushr e 24).toInt8.toInt32).toInt8.toInt32) (own_neg _) (own_neg _) (own_neg _) (own_pos _)) (ok4 hw) rfl rfl rfl rfl ?_
      refine W.istore d0_322 rfl ?_
      refine W.aload d0_324 rfl rfl ?_
      refine W.callvV (M' := m5) d0_326 (hw _ (wd 24 rfl)) (hw _ (wd 25 rfl)) (hw _ (wd 26 rfl)) (hw _ (wd 27 rfl)) (c5_40 hw e.toInt8.toInt32.toInt8.toInt32 (((XT.ushr e 8).toInt8.toInt32).toInt8.toInt32) ((((((XT.ushrL a (8 * 0)).toInt32) &&& 255) ||| 128).toInt8.toInt32).toInt8.toInt32) ((((((XT.ushrL a (8 * 1)).toInt32) &&& 255) ||| 128).toInt8.toInt32).toInt8.toInt32) ((((((XT.ushrL a (8 * 2)).toInt32) &&& 255) ||| 128).toInt8.toInt32).toInt8.toInt32) ((((((XT.ushrL a (8 * 3)).toInt32) &&& 255) &&& 127).toInt8.toInt32).toInt8.toInt32) (((XT.ushr e 16).toInt8.toInt32).toInt8.toInt32) (((XT.ushr e 24).toInt8.toInt32).toInt8.toInt32)) (ok5 hw) rfl rfl rfl rfl ?_
      refine W.istore d0_329 rfl ?_
      refine W.iload d0_331 rfl ?_
      refine W.iload d0_333 rfl ?_
      refine W.icmp_ne d0_335 (fun h => False.elim (h (own_sum4 _ _ _ _))) (fun h335 => ?_)
      refine W.iload d0_338 rfl ?_
      refine W.iload d0_340 rfl ?_
      refine W.icmp_ne d0_342 (fun h => False.elim (h (nar_byte _))) (fun h342 => ?_)
      refine W.iconst 1 d0_345 rfl ?_
      refine W.goto d0_346 ?_
      exact W.nreturn .boolean d0_350 rfl (by simp) (by decide) (by decide) (rfl)
  · rw [q15]
    refine W.iadd d0_15 ?_
    refine W.istore d0_16 rfl ?_
    refine W.lloadN d0_18 rfl ?_
    refine W.iconst 0 d0_19 rfl ?_
    refine W.iload d0_20 rfl ?_
    refine W.callsV (M' := m1) d0_22 (hw _ (wd 1 rfl)) (hw _ (wd 2 rfl)) (c1_41 hw a) (ok1 hw) rfl rfl rfl ?_
    refine W.istore d0_25 rfl ?_
    refine W.lloadN d0_27 rfl ?_
    refine W.iconst 1 d0_28 rfl ?_
    refine W.iload d0_29 rfl ?_
    refine W.callsV (M' := m1) d0_31 (hw _ (wd 1 rfl)) (hw _ (wd 2 rfl)) (c1_42 hw a) (ok1 hw) rfl rfl rfl ?_
    refine W.istore d0_34 rfl ?_
    show WB _ l Z n m0 36 [(.val (.long (a))), .second, (.val (.int (b))), (.val (.int (e))), (.val (.int ((b &&& 2147483647) % 3))), (.val (.int (1 + 4))), (.val (.int ((((XT.ushrL a (8 * 0)).toInt32) &&& 255) ||| 128))), (.val (.int ((((XT.ushrL a (8 * 1)).toInt32) &&& 255) ||| 128))), .unset, .unset, .unset, .unset, .unset, .unset, .unset, .unset, .unset] [] [] _ _ _
    refine W.lloadN d0_36 rfl ?_
    refine W.iconst 2 d0_37 rfl ?_
    refine W.iload d0_38 rfl ?_
    refine W.callsV (M' := m1) d0_40 (hw _ (wd 1 rfl)) (hw _ (wd 2 rfl)) (c1_43 hw a) (ok1 hw) rfl rfl rfl ?_
    refine W.istore d0_43 rfl ?_
    refine W.lloadN d0_45 rfl ?_
    refine W.iconst 3 d0_46 rfl ?_
    refine W.iload d0_47 rfl ?_
    refine W.callsV (M' := m1) d0_49 (hw _ (wd 1 rfl)) (hw _ (wd 2 rfl)) (c1_44 hw a) (ok1 hw) rfl rfl rfl ?_
    refine W.istore d0_52 rfl ?_
    refine W.lloadN d0_54 rfl ?_
    refine W.iconst 4 d0_55 rfl ?_
    refine W.iload d0_56 rfl ?_
    refine W.callsV (M' := m1) d0_58 (hw _ (wd 1 rfl)) (hw _ (wd 2 rfl)) (c1_45 hw a) (ok1 hw) rfl rfl rfl ?_
    refine W.istore d0_61 rfl ?_
    refine W.bipush 8 d0_63 rfl ?_
    refine W.newarray (N := 0) (cnt := 8) (cap := 8) d0_65 (hw _ (wd 5 rfl)) ⟨by decide, by decide⟩ rfl (Nat.le_refl _) (by decide) (by decide) (by decide) ?_
    show WB _ l Z n m0 67 [(.val (.long (a))), .second, (.val (.int (b))), (.val (.int (e))), (.val (.int ((b &&& 2147483647) % 3))), (.val (.int (1 + 4))), (.val (.int ((((XT.ushrL a (8 * 0)).toInt32) &&& 255) ||| 128))), (.val (.int ((((XT.ushrL a (8 * 1)).toInt32) &&& 255) ||| 128))), (.val (.int ((((XT.ushrL a (8 * 2)).toInt32) &&& 255) ||| 128))), (.val (.int ((((XT.ushrL a (8 * 3)).toInt32) &&& 255) ||| 128))), (.val (.int ((((XT.ushrL a (8 * 4)).toInt32) &&& 255) &&& 127))), .unset, .unset, .unset, .unset, .unset, .unset] [(.ref 0)] [.inr (.byte, [(.int (0)), (.int (0)), (.int (0)), (.int (0)), (.int (0)), (.int (0)), (.int (0)), (.int (0))])] _ _ _
    refine W.astore d0_67 rfl rfl ?_
    refine W.aload d0_69 rfl rfl ?_
    refine W.iconst 0 d0_71 rfl ?_
    refine W.iloadN d0_72 rfl ?_
    refine W.i2b d0_73 ?_
    refine W.bastore (i := 0) d0_74 rfl ⟨by decide, by decide⟩ (by simp) ?_
    refine W.aload d0_75 rfl rfl ?_
    refine W.iconst 1 d0_77 rfl ?_
    refine W.iloadN d0_78 rfl ?_
    refine W.bipush 8 d0_79 rfl ?_
    refine W.iushr d0_81 ?_
    refine W.i2b d0_82 ?_
    refine W.bastore (i := 1) d0_83 rfl ⟨by decide, by decide⟩ (by simp) ?_
    refine W.aload d0_84 rfl rfl ?_
    refine W.iconst 2 d0_86 rfl ?_
    refine W.iloadN d0_87 rfl ?_
    refine W.bipush 16 d0_88 rfl ?_
    refine W.iushr d0_90 ?_
    refine W.i2b d0_91 ?_
    refine W.bastore (i := 2) d0_92 rfl ⟨by decide, by decide⟩ (by simp) ?_
    show WB _ l Z n m0 93 [(.val (.long (a))), .second, (.val (.int (b))), (.val (.int (e))), (.val (.int ((b &&& 2147483647) % 3))), (.val (.int (1 + 4))), (.val (.int ((((XT.ushrL a (8 * 0)).toInt32) &&& 255) ||| 128))), (.val (.int ((((XT.ushrL a (8 * 1)).toInt32) &&& 255) ||| 128))), (.val (.int ((((XT.ushrL a (8 * 2)).toInt32) &&& 255) ||| 128))), (.val (.int ((((XT.ushrL a (8 * 3)).toInt32) &&& 255) ||| 128))), (.val (.int ((((XT.ushrL a (8 * 4)).toInt32) &&& 255) &&& 127))), (.val (.ref 0)), .unset, .unset, .unset, .unset, .unset] [] [.inr (.byte, [(.int (e.toInt8.toInt32.toInt8.toInt32)), (.int (((XT.ushr e 8).toInt8.toInt32).toInt8.toInt32)), (.int (((XT.ushr e 16).toInt8.toInt32).toInt8.toInt32)), (.int (0)), (.int (0)), (.int (0)), (.int (0)), (.int (0))])] _ _ _
    refine W.aload d0_93 rfl rfl ?_
    refine W.iconst 3 d0_95 rfl ?_
    refine W.iloadN d0_96 rfl ?_
    refine W.bipush 24 d0_97 rfl ?_
    refine W.iushr d0_99 ?_
    refine W.i2b d0_100 ?_
    refine W.bastore (i := 3) d0_101 rfl ⟨by decide, by decide⟩ (by simp) ?_
    refine W.aload d0_102 rfl rfl ?_
    refine W.iconst 4 d0_104 rfl ?_
    refine W.iloadN d0_105 rfl ?_
    refine W.i2b d0_106 ?_
    refine W.bastore (i := 4) d0_107 rfl ⟨by decide, by decide⟩ (by simp) ?_
    refine W.aload d0_108 rfl rfl ?_
    refine W.iconst 5 d0_110 rfl ?_
    refine W.iloadN d0_111 rfl ?_
    refine W.bipush 8 d0_112 rfl ?_
    refine W.iushr d0_114 ?_
    refine W.i2b d0_115 ?_
    refine W.bastore (i := 5) d0_116 rfl ⟨by decide, by decide⟩ (by simp) ?_
    refine W.aload d0_117 rfl rfl ?_
    refine W.bipush 6 d0_119 rfl ?_
    refine W.iloadN d0_121 rfl ?_
    refine W.bipush 16 d0_122 rfl ?_
    refine W.iushr d0_124 ?_
    refine W.i2b d0_125 ?_
    refine W.bastore (i := 6) d0_126 rfl ⟨by decide, by decide⟩ (by simp) ?_
    show WB _ l Z n m0 127 [(.val (.long (a))), .second, (.val (.int (b))), (.val (.int (e))), (.val (.int ((b &&& 2147483647) % 3))), (.val (.int (1 + 4))), (.val (.int ((((XT.ushrL a (8 * 0)).toInt32) &&& 255) ||| 128))), (.val (.int ((((XT.ushrL a (8 * 1)).toInt32) &&& 255) ||| 128))), (.val (.int ((((XT.ushrL a (8 * 2)).toInt32) &&& 255) ||| 128))), (.val (.int ((((XT.ushrL a (8 * 3)).toInt32) &&& 255) ||| 128))), (.val (.int ((((XT.ushrL a (8 * 4)).toInt32) &&& 255) &&& 127))), (.val (.ref 0)), .unset, .unset, .unset, .unset, .unset] [] [.inr (.byte, [(.int (e.toInt8.toInt32.toInt8.toInt32)), (.int (((XT.ushr e 8).toInt8.toInt32).toInt8.toInt32)), (.int (((XT.ushr e 16).toInt8.toInt32).toInt8.toInt32)), (.int (((XT.ushr e 24).toInt8.toInt32).toInt8.toInt32)), (.int (e.toInt8.toInt32.toInt8.toInt32)), (.int (((XT.ushr e 8).toInt8.toInt32).toInt8.toInt32)), (.int (((XT.ushr e 16).toInt8.toInt32).toInt8.toInt32)), (.int (0))])] _ _ _
    refine W.aload d0_127 rfl rfl ?_
    refine W.bipush 7 d0_129 rfl ?_
    refine W.iloadN d0_131 rfl ?_
    refine W.bipush 24 d0_132 rfl ?_
    refine W.iushr d0_134 ?_
    refine W.i2b d0_135 ?_
    refine W.bastore (i := 7) d0_136 rfl ⟨by decide, by decide⟩ (by simp) ?_
    rcases own_p b with q137 | q137 | q137
    · rw [q137]
      refine W.aload d0_137 rfl rfl ?_
      refine W.iload d0_139 rfl ?_
      refine W.iload d0_141 rfl ?_
      refine W.i2b d0_143 ?_
      refine W.bastore (i := 0) d0_144 rfl ⟨by decide, by decide⟩ (by simp) ?_
      refine W.iload d0_145 rfl ?_
      refine W.iconst 1 d0_147 rfl ?_
      refine W.icmp_le d0_148 (fun h => False.elim (by revert h; decide)) (fun h148 => ?_)
      refine W.aload d0_151 rfl rfl ?_
      refine W.iload d0_153 rfl ?_
      refine W.iconst 1 d0_155 rfl ?_
      refine W.iadd d0_156 ?_
      refine W.iload d0_157 rfl ?_
      refine W.i2b d0_159 ?_
      refine W.bastore (i := 1) d0_160 rfl ⟨by decide, by decide⟩ (by simp) ?_
      refine W.iload d0_161 rfl ?_
      refine W.iconst 2 d0_163 rfl ?_
      refine W.icmp_le d0_164 (fun h => False.elim (by revert h; decide)) (fun h164 => ?_)
      refine W.aload d0_167 rfl rfl ?_
      refine W.iload d0_169 rfl ?_
      refine W.iconst 2 d0_171 rfl ?_
      refine W.iadd d0_172 ?_
      refine W.iload d0_173 rfl ?_
      refine W.i2b d0_175 ?_
      refine W.bastore (i := 2) d0_176 rfl ⟨by decide, by decide⟩ (by simp) ?_
      show WB _ l Z n m0 177 [(.val (.long (a))), .second, (.val (.int (b))), (.val (.int (e))), (.val (.int (0))), (.val (.int (1 + 4))), (.val (.int ((((XT.ushrL a (8 * 0)).toInt32) &&& 255) ||| 128))), (.val (.int ((((XT.ushrL a (8 * 1)).toInt32) &&& 255) ||| 128))), (.val (.int ((((XT.ushrL a (8 * 2)).toInt32) &&& 255) ||| 128))), (.val (.int ((((XT.ushrL a (8 * 3)).toInt32) &&& 255) ||| 128))), (.val (.int ((((XT.ushrL a (8 * 4)).toInt32) &&& 255) &&& 127))), (.val (.ref 0)), .unset, .unset, .unset, .unset, .unset] [] [.inr (.byte, [(.int ((((((XT.ushrL a (8 * 0)).toInt32) &&& 255) ||| 128).toInt8.toInt32).toInt8.toInt32)), (.int ((((((XT.ushrL a (8 * 1)).toInt32) &&& 255) ||| 128).toInt8.toInt32).toInt8.toInt32)), (.int ((((((XT.ushrL a (8 * 2)).toInt32) &&& 255) ||| 128).toInt8.toInt32).toInt8.toInt32)), (.int (((XT.ushr e 24).toInt8.toInt32).toInt8.toInt32)), (.int (e.toInt8.toInt32.toInt8.toInt32)), (.int (((XT.ushr e 8).toInt8.toInt32).toInt8.toInt32)), (.int (((XT.ushr e 16).toInt8.toInt32).toInt8.toInt32)), (.int (((XT.ushr e 24).toInt8.toInt32).toInt8.toInt32))])] _ _ _
      refine W.iload d0_177 rfl ?_
      refine W.iconst 3 d0_179 rfl ?_
      refine W.icmp_le d0_180 (fun h => False.elim (by revert h; decide)) (fun h180 => ?_)
      refine W.aload d0_183 rfl rfl ?_
      refine W.iload d0_185 rfl ?_
      refine W.iconst 3 d0_187 rfl ?_
      refine W.iadd d0_188 ?_
      refine W.iload d0_189 rfl ?_
      refine W.i2b d0_191 ?_
      refine W.bastore (i := 3) d0_192 rfl ⟨by decide, by decide⟩ (by simp) ?_
      refine W.iload d0_193 rfl ?_
      refine W.iconst 4 d0_195 rfl ?_
      refine W.icmp_le d0_196 (fun h => False.elim (by revert h; decide)) (fun h196 => ?_)
      refine W.aload d0_199 rfl rfl ?_
      refine W.iload d0_201 rfl ?_
      refine W.iconst 4 d0_203 rfl ?_
      refine W.iadd d0_204 ?_
      refine W.iload d0_205 rfl ?_
      refine W.i2b d0_207 ?_
      refine W.bastore (i := 4) d0_208 rfl ⟨by decide, by decide⟩ (by simp) ?_
      refine W.aload d0_209 rfl rfl ?_
      refine W.iload d0_211 rfl ?_
      refine W.iload d0_213 rfl ?_
      refine W.iadd d0_215 ?_
      refine W.baload (i := 5) d0_216 rfl ⟨by decide, by decide⟩ rfl ?_
      refine W.istore d0_217 rfl ?_
      refine W.iload d0_219 rfl ?_
      refine W.bipush 127 d0_221 rfl ?_
      refine W.iand d0_223 ?_
      refine W.istore d0_224 rfl ?_
      show WB _ l Z n m0 226 [(.val (.long (a))), .second, (.val (.int (b))), (.val (.int (e))), (.val (.int (0))), (.val (.int (1 + 4))), (.val (.int ((((XT.ushrL a (8 * 0)).toInt32) &&& 255) ||| 128))), (.val (.int ((((XT.ushrL a (8 * 1)).toInt32) &&& 255) ||| 128))), (.val (.int ((((XT.ushrL a (8 * 2)).toInt32) &&& 255) ||| 128))), (.val (.int ((((XT.ushrL a (8 * 3)).toInt32) &&& 255) ||| 128))), (.val (.int ((((XT.ushrL a (8 * 4)).toInt32) &&& 255) &&& 127))), (.val (.ref 0)), (.val (.int (((XT.ushr e 8).toInt8.toInt32).toInt8.toInt32))), (.val (.int (((((XT.ushrL a (8 * 0)).toInt32) &&& 255) ||| 128) &&& 127))), .unset, .unset, .unset] [] [.inr (.byte, [(.int ((((((XT.ushrL a (8 * 0)).toInt32) &&& 255) ||| 128).toInt8.toInt32).toInt8.toInt32)), (.int ((((((XT.ushrL a (8 * 1)).toInt32) &&& 255) ||| 128).toInt8.toInt32).toInt8.toInt32)), (.int ((((((XT.ushrL a (8 * 2)).toInt32) &&& 255) ||| 128).toInt8.toInt32).toInt8.toInt32)), (.int ((((((XT.ushrL a (8 * 3)).toInt32) &&& 255) ||| 128).toInt8.toInt32).toInt8.toInt32)), (.int ((((((XT.ushrL a (8 * 4)).toInt32) &&& 255) &&& 127).toInt8.toInt32).toInt8.toInt32)), (.int (((XT.ushr e 8).toInt8.toInt32).toInt8.toInt32)), (.int (((XT.ushr e 16).toInt8.toInt32).toInt8.toInt32)), (.int (((XT.ushr e 24).toInt8.toInt32).toInt8.toInt32))])] _ _ _
      refine W.iload d0_226 rfl ?_
      refine W.iconst 1 d0_228 rfl ?_
      refine W.icmp_le d0_229 (fun h => False.elim (by revert h; decide)) (fun h229 => ?_)
      refine W.iload d0_232 rfl ?_
      refine W.iload d0_234 rfl ?_
      refine W.bipush 127 d0_236 rfl ?_
      refine W.iand d0_238 ?_
      refine W.sipush 128 d0_239 rfl ?_
      refine W.imul d0_242 ?_
      refine W.iadd d0_243 ?_
      refine W.istore d0_244 rfl ?_
      refine W.iload d0_246 rfl ?_
      refine W.iconst 2 d0_248 rfl ?_
      refine W.icmp_le d0_249 (fun h => False.elim (by revert h; decide)) (fun h249 => ?_)
      refine W.iload d0_252 rfl ?_
      refine W.iload d0_254 rfl ?_
      refine W.bipush 127 d0_256 rfl ?_
      refine W.iand d0_258 ?_
      refine W.sipush 16384 d0_259 rfl ?_
      refine W.imul d0_262 ?_
      refine W.iadd d0_263 ?_
      refine W.istore d0_264 rfl ?_
      refine W.iload d0_266 rfl ?_
      refine W.iconst 3 d0_268 rfl ?_
      refine W.icmp_le d0_269 (fun h => False.elim (by revert h; decide)) (fun h269 => ?_)
      refine W.iload d0_272 rfl ?_
      refine W.iload d0_274 rfl ?_
      refine W.bipush 127 d0_276 rfl ?_
      refine W.iand d0_278 ?_
      refine W.ldc d0_279 (hw _ (wd 29 rfl)) ?_
      refine W.imul d0_281 ?_
      refine W.iadd d0_282 ?_
      refine W.istore d0_283 rfl ?_
      refine W.iload d0_285 rfl ?_
      refine W.iconst 4 d0_287 rfl ?_
      refine W.icmp_le d0_288 (fun h => False.elim (by revert h; decide)) (fun h288 => ?_)
      refine W.iload d0_291 rfl ?_
      refine W.iload d0_293 rfl ?_
      refine W.bipush 127 d0_295 rfl ?_
      refine W.iand d0_297 ?_
      refine W.ldc d0_298 (hw _ (wd 30 rfl)) ?_
      refine W.imul d0_300 ?_
      refine W.iadd d0_301 ?_
      refine W.istore d0_302 rfl ?_
      show WB _ l Z n m0 304 [(.val (.long (a))), .second, (.val (.int (b))), (.val (.int (e))), (.val (.int (0))), (.val (.int (1 + 4))), (.val (.int ((((XT.ushrL a (8 * 0)).toInt32) &&& 255) ||| 128))), (.val (.int ((((XT.ushrL a (8 * 1)).toInt32) &&& 255) ||| 128))), (.val (.int ((((XT.ushrL a (8 * 2)).toInt32) &&& 255) ||| 128))), (.val (.int ((((XT.ushrL a (8 * 3)).toInt32) &&& 255) ||| 128))), (.val (.int ((((XT.ushrL a (8 * 4)).toInt32) &&& 255) &&& 127))), (.val (.ref 0)), (.val (.int (((XT.ushr e 8).toInt8.toInt32).toInt8.toInt32))), (.val (.int (((((((((XT.ushrL a (8 * 0)).toInt32) &&& 255) ||| 128) &&& 127) + ((((((XT.ushrL a (8 * 1)).toInt32) &&& 255) ||| 128) &&& 127) * 128)) + ((((((XT.ushrL a (8 * 2)).toInt32) &&& 255) ||| 128) &&& 127) * 16384)) + ((((((XT.ushrL a (8 * 3)).toInt32) &&& 255) ||| 128) &&& 127) * 2097152)) + ((((((XT.ushrL a (8 * 4)).toInt32) &&& 255) &&& 127) &&& 127) * 268435456)))), .unset, .unset, .unset] [] [.inr (.byte, [(.int ((((((XT.ushrL a (8 * 0)).toInt32) &&& 255) ||| 128).toInt8.toInt32).toInt8.toInt32)), (.int ((((((XT.ushrL a (8 * 1)).toInt32) &&& 255) ||| 128).toInt8.toInt32).toInt8.toInt32)), (.int ((((((XT.ushrL a (8 * 2)).toInt32) &&& 255) ||| 128).toInt8.toInt32).toInt8.toInt32)), (.int ((((((XT.ushrL a (8 * 3)).toInt32) &&& 255) ||| 128).toInt8.toInt32).toInt8.toInt32)), (.int ((((((XT.ushrL a (8 * 4)).toInt32) &&& 255) &&& 127).toInt8.toInt32).toInt8.toInt32)), (.int (((XT.ushr e 8).toInt8.toInt32).toInt8.toInt32)), (.int (((XT.ushr e 16).toInt8.toInt32).toInt8.toInt32)), (.int (((XT.ushr e 24).toInt8.toInt32).toInt8.toInt32))])] _ _ _
      refine W.new (N := 1) d0_304 (hw _ (wd 6 rfl)) (okc0 hw) rfl (by decide) (by decide) ?_
      refine W.dup d0_307 rfl ?_
      refine W.aload d0_308 rfl rfl ?_
      refine W.iload d0_310 rfl ?_
      refine W.initN (M' := m2) d0_312 rfl rfl (hw _ (wd 9 rfl)) (hw _ (wd 10 rfl)) (c2_5 hw ((((((XT.ushrL a (8 * 0)).toInt32) &&& 255) ||| 128).toInt8.toInt32).toInt8.toInt32) ((((((XT.ushrL a (8 * 1)).toInt32) &&& 255) ||| 128).toInt8.toInt32).toInt8.toInt32) ((((((XT.ushrL a (8 * 2)).toInt32) &&& 255) ||| 128).toInt8.toInt32).toInt8.toInt32) ((((((XT.ushrL a (8 * 3)).toInt32) &&& 255) ||| 128).toInt8.toInt32).toInt8.toInt32) ((((((XT.ushrL a (8 * 4)).toInt32) &&& 255) &&& 127).toInt8.toInt32).toInt8.toInt32) (((XT.ushr e 8).toInt8.toInt32).toInt8.toInt32) (((XT.ushr e 16).toInt8.toInt32).toInt8.toInt32) (((XT.ushr e 24).toInt8.toInt32).toInt8.toInt32)) (ok2 hw) rfl rfl rfl ?_
      refine W.astore d0_315 rfl rfl ?_
      refine W.aload d0_317 rfl rfl ?_
      refine W.callvV (M' := m4) d0_319 (hw _ (wd 19 rfl)) (hw _ (wd 20 rfl)) (hw _ (wd 21 rfl)) (hw _ (wd 22 rfl)) (c4_46 hw ((((((XT.ushrL a (8 * 0)).toInt32) &&& 255) ||| 128).toInt8.toInt32).toInt8.toInt32) ((((((XT.ushrL a (8 * 1)).toInt32) &&& 255) ||| 128).toInt8.toInt32).toInt8.toInt32) ((((((XT.ushrL a (8 * 2)).toInt32) &&& 255) ||| 128).toInt8.toInt32).toInt8.toInt32) ((((((XT.ushrL a (8 * 3)).toInt32) &&& 255) ||| 128).toInt8.toInt32).toInt8.toInt32) ((((((XT.ushrL a (8 * 4)).toInt32) &&& 255) &&& 127).toInt8.toInt32).toInt8.toInt32) (((XT.ushr e 8).toInt8.toInt32).toInt8.toInt32) (((XT.ushr e 16).toInt8.toInt32).toInt8.toInt32) (((XT.ushr e 24).toInt8.toInt32).toInt8.toInt32) (own_neg _) (own_neg _) (own_neg _) (own_neg _) (own_pos _)) (ok4 hw) rfl rfl rfl rfl ?_
      refine W.istore d0_322 rfl ?_
      refine W.aload d0_324 rfl rfl ?_
      refine W.callvV (M' := m5) d0_326 (hw _ (wd 24 rfl)) (hw _ (wd 25 rfl)) (hw _ (wd 26 rfl)) (hw _ (wd 27 rfl)) (c5_31 hw ((((((XT.ushrL a (8 * 0)).toInt32) &&& 255) ||| 128).toInt8.toInt32).toInt8.toInt32) ((((((XT.ushrL a (8 * 1)).toInt32) &&& 255) ||| 128).toInt8.toInt32).toInt8.toInt32) ((((((XT.ushrL a (8 * 2)).toInt32) &&& 255) ||| 128).toInt8.toInt32).toInt8.toInt32) ((((((XT.ushrL a (8 * 3)).toInt32) &&& 255) ||| 128).toInt8.toInt32).toInt8.toInt32) ((((((XT.ushrL a (8 * 4)).toInt32) &&& 255) &&& 127).toInt8.toInt32).toInt8.toInt32) (((XT.ushr e 8).toInt8.toInt32).toInt8.toInt32) (((XT.ushr e 16).toInt8.toInt32).toInt8.toInt32) (((XT.ushr e 24).toInt8.toInt32).toInt8.toInt32)) (ok5 hw) rfl rfl rfl rfl ?_
      refine W.istore d0_329 rfl ?_
      show WB _ l Z n m0 331 [(.val (.long (a))), .second, (.val (.int (b))), (.val (.int (e))), (.val (.int (0))), (.val (.int (1 + 4))), (.val (.int ((((XT.ushrL a (8 * 0)).toInt32) &&& 255) ||| 128))), (.val (.int ((((XT.ushrL a (8 * 1)).toInt32) &&& 255) ||| 128))), (.val (.int ((((XT.ushrL a (8 * 2)).toInt32) &&& 255) ||| 128))), (.val (.int ((((XT.ushrL a (8 * 3)).toInt32) &&& 255) ||| 128))), (.val (.int ((((XT.ushrL a (8 * 4)).toInt32) &&& 255) &&& 127))), (.val (.ref 0)), (.val (.int (((XT.ushr e 8).toInt8.toInt32).toInt8.toInt32))), (.val (.int (((((((((XT.ushrL a (8 * 0)).toInt32) &&& 255) ||| 128) &&& 127) + ((((((XT.ushrL a (8 * 1)).toInt32) &&& 255) ||| 128) &&& 127) * 128)) + ((((((XT.ushrL a (8 * 2)).toInt32) &&& 255) ||| 128) &&& 127) * 16384)) + ((((((XT.ushrL a (8 * 3)).toInt32) &&& 255) ||| 128) &&& 127) * 2097152)) + ((((((XT.ushrL a (8 * 4)).toInt32) &&& 255) &&& 127) &&& 127) * 268435456)))), (.val (.ref 1)), (.val (.int ((((((0 : Int32) ||| ((((((((XT.ushrL a (8 * 0)).toInt32) &&& 255) ||| 128).toInt8.toInt32).toInt8.toInt32) &&& 127) <<< ((0 : Int32) &&& 31))) ||| ((((((((XT.ushrL a (8 * 1)).toInt32) &&& 255) ||| 128).toInt8.toInt32).toInt8.toInt32) &&& 127) <<< ((0 + 7) &&& 31))) ||| ((((((((XT.ushrL a (8 * 2)).toInt32) &&& 255) ||| 128).toInt8.toInt32).toInt8.toInt32) &&& 127) <<< (((0 + 7) + 7) &&& 31))) ||| ((((((((XT.ushrL a (8 * 3)).toInt32) &&& 255) ||| 128).toInt8.toInt32).toInt8.toInt32) &&& 127) <<< ((((0 + 7) + 7) + 7) &&& 31))) ||| ((((((((XT.ushrL a (8 * 4)).toInt32) &&& 255) &&& 127).toInt8.toInt32).toInt8.toInt32) &&& 127) <<< (((((0 + 7) + 7) + 7) + 7) &&& 31))))), (.val (.int (nar .byte (((XT.ushr e 8).toInt8.toInt32).toInt8.toInt32))))] [] [.inr (.byte, [(.int (((((((XT.ushrL a (8 * 0)).toInt32) &&& 255) ||| 128).toInt8.toInt32).toInt8.toInt32))), (.int (((((((XT.ushrL a (8 * 1)).toInt32) &&& 255) ||| 128).toInt8.toInt32).toInt8.toInt32))), (.int (((((((XT.ushrL a (8 * 2)).toInt32) &&& 255) ||| 128).toInt8.toInt32).toInt8.toInt32))), (.int (((((((XT.ushrL a (8 * 3)).toInt32) &&& 255) ||| 128).toInt8.toInt32).toInt8.toInt32))), (.int (((((((XT.ushrL a (8 * 4)).toInt32) &&& 255) &&& 127).toInt8.toInt32).toInt8.toInt32))), (.int ((((XT.ushr e 8).toInt8.toInt32).toInt8.toInt32))), (.int ((((XT.ushr e 16).toInt8.toInt32).toInt8.toInt32))), (.int ((((XT.ushr e 24).toInt8.toInt32).toInt8.toInt32)))]), .inl ("com/example/quiverstore/quiverstore/ByteReader", [(("com/example/quiverstore/quiverstore/ByteReader", "bytes", "[B"), (.ref 0)), (("com/example/quiverstore/quiverstore/ByteReader", "position", "I"), (.int (5 + 1)))])] _ _ _
      refine W.iload d0_331 rfl ?_
      refine W.iload d0_333 rfl ?_
      refine W.icmp_ne d0_335 (fun h => False.elim (h (own_sum5 _ _ _ _ _))) (fun h335 => ?_)
      refine W.iload d0_338 rfl ?_
      refine W.iload d0_340 rfl ?_
      refine W.icmp_ne d0_342 (fun h => False.elim (h (nar_byte _))) (fun h342 => ?_)
      refine W.iconst 1 d0_345 rfl ?_
      refine W.goto d0_346 ?_
      exact W.nreturn .boolean d0_350 rfl (by simp) (by decide) (by decide) (rfl)
    · rw [q137]
      refine W.aload d0_137 rfl rfl ?_
      refine W.iload d0_139 rfl ?_
      refine W.iload d0_141 rfl ?_
      refine W.i2b d0_143 ?_
      refine W.bastore (i := 1) d0_144 rfl ⟨by decide, by decide⟩ (by simp) ?_
      refine W.iload d0_145 rfl ?_
      refine W.iconst 1 d0_147 rfl ?_
      refine W.icmp_le d0_148 (fun h => False.elim (by revert h; decide)) (fun h148 => ?_)
      refine W.aload d0_151 rfl rfl ?_
      refine W.iload d0_153 rfl ?_
      refine W.iconst 1 d0_155 rfl ?_
      refine W.iadd d0_156 ?_
      refine W.iload d0_157 rfl ?_
      refine W.i2b d0_159 ?_
      refine W.bastore (i := 2) d0_160 rfl ⟨by decide, by decide⟩ (by simp) ?_
      refine W.iload d0_161 rfl ?_
      refine W.iconst 2 d0_163 rfl ?_
      refine W.icmp_le d0_164 (fun h => False.elim (by revert h; decide)) (fun h164 => ?_)
      refine W.aload d0_167 rfl rfl ?_
      refine W.iload d0_169 rfl ?_
      refine W.iconst 2 d0_171 rfl ?_
      refine W.iadd d0_172 ?_
      refine W.iload d0_173 rfl ?_
      refine W.i2b d0_175 ?_
      refine W.bastore (i := 3) d0_176 rfl ⟨by decide, by decide⟩ (by simp) ?_
      show WB _ l Z n m0 177 [(.val (.long (a))), .second, (.val (.int (b))), (.val (.int (e))), (.val (.int (1))), (.val (.int (1 + 4))), (.val (.int ((((XT.ushrL a (8 * 0)).toInt32) &&& 255) ||| 128))), (.val (.int ((((XT.ushrL a (8 * 1)).toInt32) &&& 255) ||| 128))), (.val (.int ((((XT.ushrL a (8 * 2)).toInt32) &&& 255) ||| 128))), (.val (.int ((((XT.ushrL a (8 * 3)).toInt32) &&& 255) ||| 128))), (.val (.int ((((XT.ushrL a (8 * 4)).toInt32) &&& 255) &&& 127))), (.val (.ref 0)), .unset, .unset, .unset, .unset, .unset] [] [.inr (.byte, [(.int (e.toInt8.toInt32.toInt8.toInt32)), (.int ((((((XT.ushrL a (8 * 0)).toInt32) &&& 255) ||| 128).toInt8.toInt32).toInt8.toInt32)), (.int ((((((XT.ushrL a (8 * 1)).toInt32) &&& 255) ||| 128).toInt8.toInt32).toInt8.toInt32)), (.int ((((((XT.ushrL a (8 * 2)).toInt32) &&& 255) ||| 128).toInt8.toInt32).toInt8.toInt32)), (.int (e.toInt8.toInt32.toInt8.toInt32)), (.int (((XT.ushr e 8).toInt8.toInt32).toInt8.toInt32)), (.int (((XT.ushr e 16).toInt8.toInt32).toInt8.toInt32)), (.int (((XT.ushr e 24).toInt8.toInt32).toInt8.toInt32))])] _ _ _
      refine W.iload d0_177 rfl ?_
      refine W.iconst 3 d0_179 rfl ?_
      refine W.icmp_le d0_180 (fun h => False.elim (by revert h; decide)) (fun h180 => ?_)
      refine W.aload d0_183 rfl rfl ?_
      refine W.iload d0_185 rfl ?_
      refine W.iconst 3 d0_187 rfl ?_
      refine W.iadd d0_188 ?_
      refine W.iload d0_189 rfl ?_
      refine W.i2b d0_191 ?_
      refine W.bastore (i := 4) d0_192 rfl ⟨by decide, by decide⟩ (by simp) ?_
      refine W.iload d0_193 rfl ?_
      refine W.iconst 4 d0_195 rfl ?_
      refine W.icmp_le d0_196 (fun h => False.elim (by revert h; decide)) (fun h196 => ?_)
      refine W.aload d0_199 rfl rfl ?_
      refine W.iload d0_201 rfl ?_
      refine W.iconst 4 d0_203 rfl ?_
      refine W.iadd d0_204 ?_
      refine W.iload d0_205 rfl ?_
      refine W.i2b d0_207 ?_
      refine W.bastore (i := 5) d0_208 rfl ⟨by decide, by decide⟩ (by simp) ?_
      refine W.aload d0_209 rfl rfl ?_
      refine W.iload d0_211 rfl ?_
      refine W.iload d0_213 rfl ?_
      refine W.iadd d0_215 ?_
      refine W.baload (i := 6) d0_216 rfl ⟨by decide, by decide⟩ rfl ?_
      refine W.istore d0_217 rfl ?_
      refine W.iload d0_219 rfl ?_
      refine W.bipush 127 d0_221 rfl ?_
      refine W.iand d0_223 ?_
      refine W.istore d0_224 rfl ?_
      show WB _ l Z n m0 226 [(.val (.long (a))), .second, (.val (.int (b))), (.val (.int (e))), (.val (.int (1))), (.val (.int (1 + 4))), (.val (.int ((((XT.ushrL a (8 * 0)).toInt32) &&& 255) ||| 128))), (.val (.int ((((XT.ushrL a (8 * 1)).toInt32) &&& 255) ||| 128))), (.val (.int ((((XT.ushrL a (8 * 2)).toInt32) &&& 255) ||| 128))), (.val (.int ((((XT.ushrL a (8 * 3)).toInt32) &&& 255) ||| 128))), (.val (.int ((((XT.ushrL a (8 * 4)).toInt32) &&& 255) &&& 127))), (.val (.ref 0)), (.val (.int (((XT.ushr e 16).toInt8.toInt32).toInt8.toInt32))), (.val (.int (((((XT.ushrL a (8 * 0)).toInt32) &&& 255) ||| 128) &&& 127))), .unset, .unset, .unset] [] [.inr (.byte, [(.int (e.toInt8.toInt32.toInt8.toInt32)), (.int ((((((XT.ushrL a (8 * 0)).toInt32) &&& 255) ||| 128).toInt8.toInt32).toInt8.toInt32)), (.int ((((((XT.ushrL a (8 * 1)).toInt32) &&& 255) ||| 128).toInt8.toInt32).toInt8.toInt32)), (.int ((((((XT.ushrL a (8 * 2)).toInt32) &&& 255) ||| 128).toInt8.toInt32).toInt8.toInt32)), (.int ((((((XT.ushrL a (8 * 3)).toInt32) &&& 255) ||| 128).toInt8.toInt32).toInt8.toInt32)), (.int ((((((XT.ushrL a (8 * 4)).toInt32) &&& 255) &&& 127).toInt8.toInt32).toInt8.toInt32)), (.int (((XT.ushr e 16).toInt8.toInt32).toInt8.toInt32)), (.int (((XT.ushr e 24).toInt8.toInt32).toInt8.toInt32))])] _ _ _
      refine W.iload d0_226 rfl ?_
      refine W.iconst 1 d0_228 rfl ?_
      refine W.icmp_le d0_229 (fun h => False.elim (by revert h; decide)) (fun h229 => ?_)
      refine W.iload d0_232 rfl ?_
      refine W.iload d0_234 rfl ?_
      refine W.bipush 127 d0_236 rfl ?_
      refine W.iand d0_238 ?_
      refine W.sipush 128 d0_239 rfl ?_
      refine W.imul d0_242 ?_
      refine W.iadd d0_243 ?_
      refine W.istore d0_244 rfl ?_
      refine W.iload d0_246 rfl ?_
      refine W.iconst 2 d0_248 rfl ?_
      refine W.icmp_le d0_249 (fun h => False.elim (by revert h; decide)) (fun h249 => ?_)
      refine W.iload d0_252 rfl ?_
      refine W.iload d0_254 rfl ?_
      refine W.bipush 127 d0_256 rfl ?_
      refine W.iand d0_258 ?_
      refine W.sipush 16384 d0_259 rfl ?_
      refine W.imul d0_262 ?_
      refine W.iadd d0_263 ?_
      refine W.istore d0_264 rfl ?_
      refine W.iload d0_266 rfl ?_
      refine W.iconst 3 d0_268 rfl ?_
      refine W.icmp_le d0_269 (fun h => False.elim (by revert h; decide)) (fun h269 => ?_)
      refine W.iload d0_272 rfl ?_
      refine W.iload d0_274 rfl ?_
      refine W.bipush 127 d0_276 rfl ?_
      refine W.iand d0_278 ?_
      refine W.ldc d0_279 (hw _ (wd 29 rfl)) ?_
      refine W.imul d0_281 ?_
      refine W.iadd d0_282 ?_
      refine W.istore d0_283 rfl ?_
      refine W.iload d0_285 rfl ?_
      refine W.iconst 4 d0_287 rfl ?_
      refine W.icmp_le d0_288 (fun h => False.elim (by revert h; decide)) (fun h288 => ?_)
      refine W.iload d0_291 rfl ?_
      refine W.iload d0_293 rfl ?_
      refine W.bipush 127 d0_295 rfl ?_
      refine W.iand d0_297 ?_
      refine W.ldc d0_298 (hw _ (wd 30 rfl)) ?_
      refine W.imul d0_300 ?_
      refine W.iadd d0_301 ?_
      refine W.istore d0_302 rfl ?_
      show WB _ l Z n m0 304 [(.val (.long (a))), .second, (.val (.int (b))), (.val (.int (e))), (.val (.int (1))), (.val (.int (1 + 4))), (.val (.int ((((XT.ushrL a (8 * 0)).toInt32) &&& 255) ||| 128))), (.val (.int ((((XT.ushrL a (8 * 1)).toInt32) &&& 255) ||| 128))), (.val (.int ((((XT.ushrL a (8 * 2)).toInt32) &&& 255) ||| 128))), (.val (.int ((((XT.ushrL a (8 * 3)).toInt32) &&& 255) ||| 128))), (.val (.int ((((XT.ushrL a (8 * 4)).toInt32) &&& 255) &&& 127))), (.val (.ref 0)), (.val (.int (((XT.ushr e 16).toInt8.toInt32).toInt8.toInt32))), (.val (.int (((((((((XT.ushrL a (8 * 0)).toInt32) &&& 255) ||| 128) &&& 127) + ((((((XT.ushrL a (8 * 1)).toInt32) &&& 255) ||| 128) &&& 127) * 128)) + ((((((XT.ushrL a (8 * 2)).toInt32) &&& 255) ||| 128) &&& 127) * 16384)) + ((((((XT.ushrL a (8 * 3)).toInt32) &&& 255) ||| 128) &&& 127) * 2097152)) + ((((((XT.ushrL a (8 * 4)).toInt32) &&& 255) &&& 127) &&& 127) * 268435456)))), .unset, .unset, .unset] [] [.inr (.byte, [(.int (e.toInt8.toInt32.toInt8.toInt32)), (.int ((((((XT.ushrL a (8 * 0)).toInt32) &&& 255) ||| 128).toInt8.toInt32).toInt8.toInt32)), (.int ((((((XT.ushrL a (8 * 1)).toInt32) &&& 255) ||| 128).toInt8.toInt32).toInt8.toInt32)), (.int ((((((XT.ushrL a (8 * 2)).toInt32) &&& 255) ||| 128).toInt8.toInt32).toInt8.toInt32)), (.int ((((((XT.ushrL a (8 * 3)).toInt32) &&& 255) ||| 128).toInt8.toInt32).toInt8.toInt32)), (.int ((((((XT.ushrL a (8 * 4)).toInt32) &&& 255) &&& 127).toInt8.toInt32).toInt8.toInt32)), (.int (((XT.ushr e 16).toInt8.toInt32).toInt8.toInt32)), (.int (((XT.ushr e 24).toInt8.toInt32).toInt8.toInt32))])] _ _ _
      refine W.new (N := 1) d0_304 (hw _ (wd 6 rfl)) (okc0 hw) rfl (by decide) (by decide) ?_
      refine W.dup d0_307 rfl ?_
      refine W.aload d0_308 rfl rfl ?_
      refine W.iload d0_310 rfl ?_
      refine W.initN (M' := m2) d0_312 rfl rfl (hw _ (wd 9 rfl)) (hw _ (wd 10 rfl)) (c2_8 hw e.toInt8.toInt32.toInt8.toInt32 ((((((XT.ushrL a (8 * 0)).toInt32) &&& 255) ||| 128).toInt8.toInt32).toInt8.toInt32) ((((((XT.ushrL a (8 * 1)).toInt32) &&& 255) ||| 128).toInt8.toInt32).toInt8.toInt32) ((((((XT.ushrL a (8 * 2)).toInt32) &&& 255) ||| 128).toInt8.toInt32).toInt8.toInt32) ((((((XT.ushrL a (8 * 3)).toInt32) &&& 255) ||| 128).toInt8.toInt32).toInt8.toInt32) ((((((XT.ushrL a (8 * 4)).toInt32) &&& 255) &&& 127).toInt8.toInt32).toInt8.toInt32) (((XT.ushr e 16).toInt8.toInt32).toInt8.toInt32) (((XT.ushr e 24).toInt8.toInt32).toInt8.toInt32)) (ok2 hw) rfl rfl rfl ?_
      refine W.astore d0_315 rfl rfl ?_
      refine W.aload d0_317 rfl rfl ?_
      refine W.callvV (M' := m4) d0_319 (hw _ (wd 19 rfl)) (hw _ (wd 20 rfl)) (hw _ (wd 21 rfl)) (hw _ (wd 22 rfl)) (c4_47 hw e.toInt8.toInt32.toInt8.toInt32 ((((((XT.ushrL a (8 * 0)).toInt32) &&& 255) ||| 128).toInt8.toInt32).toInt8.toInt32) ((((((XT.ushrL a (8 * 1)).toInt32) &&& 255) ||| 128).toInt8.toInt32).toInt8.toInt32) ((((((XT.ushrL a (8 * 2)).toInt32) &&& 255) ||| 128).toInt8.toInt32).toInt8.toInt32) ((((((XT.ushrL a (8 * 3)).toInt32) &&& 255) ||| 128).toInt8.toInt32).toInt8.toInt32) ((((((XT.ushrL a (8 * 4)).toInt32) &&& 255) &&& 127).toInt8.toInt32).toInt8.toInt32) (((XT.ushr e 16).toInt8.toInt32).toInt8.toInt32) (((XT.ushr e 24).toInt8.toInt32).toInt8.toInt32) (own_neg _) (own_neg _) (own_neg _) (own_neg _) (own_pos _)) (ok4 hw) rfl rfl rfl rfl ?_
      refine W.istore d0_322 rfl ?_
      refine W.aload d0_324 rfl rfl ?_
      refine W.callvV (M' := m5) d0_326 (hw _ (wd 24 rfl)) (hw _ (wd 25 rfl)) (hw _ (wd 26 rfl)) (hw _ (wd 27 rfl)) (c5_40 hw e.toInt8.toInt32.toInt8.toInt32 ((((((XT.ushrL a (8 * 0)).toInt32) &&& 255) ||| 128).toInt8.toInt32).toInt8.toInt32) ((((((XT.ushrL a (8 * 1)).toInt32) &&& 255) ||| 128).toInt8.toInt32).toInt8.toInt32) ((((((XT.ushrL a (8 * 2)).toInt32) &&& 255) ||| 128).toInt8.toInt32).toInt8.toInt32) ((((((XT.ushrL a (8 * 3)).toInt32) &&& 255) ||| 128).toInt8.toInt32).toInt8.toInt32) ((((((XT.ushrL a (8 * 4)).toInt32) &&& 255) &&& 127).toInt8.toInt32).toInt8.toInt32) (((XT.ushr e 16).toInt8.toInt32).toInt8.toInt32) (((XT.ushr e 24).toInt8.toInt32).toInt8.toInt32)) (ok5 hw) rfl rfl rfl rfl ?_
      refine W.istore d0_329 rfl ?_
      show WB _ l Z n m0 331 [(.val (.long (a))), .second, (.val (.int (b))), (.val (.int (e))), (.val (.int (1))), (.val (.int (1 + 4))), (.val (.int ((((XT.ushrL a (8 * 0)).toInt32) &&& 255) ||| 128))), (.val (.int ((((XT.ushrL a (8 * 1)).toInt32) &&& 255) ||| 128))), (.val (.int ((((XT.ushrL a (8 * 2)).toInt32) &&& 255) ||| 128))), (.val (.int ((((XT.ushrL a (8 * 3)).toInt32) &&& 255) ||| 128))), (.val (.int ((((XT.ushrL a (8 * 4)).toInt32) &&& 255) &&& 127))), (.val (.ref 0)), (.val (.int (((XT.ushr e 16).toInt8.toInt32).toInt8.toInt32))), (.val (.int (((((((((XT.ushrL a (8 * 0)).toInt32) &&& 255) ||| 128) &&& 127) + ((((((XT.ushrL a (8 * 1)).toInt32) &&& 255) ||| 128) &&& 127) * 128)) + ((((((XT.ushrL a (8 * 2)).toInt32) &&& 255) ||| 128) &&& 127) * 16384)) + ((((((XT.ushrL a (8 * 3)).toInt32) &&& 255) ||| 128) &&& 127) * 2097152)) + ((((((XT.ushrL a (8 * 4)).toInt32) &&& 255) &&& 127) &&& 127) * 268435456)))), (.val (.ref 1)), (.val (.int ((((((0 : Int32) ||| ((((((((XT.ushrL a (8 * 0)).toInt32) &&& 255) ||| 128).toInt8.toInt32).toInt8.toInt32) &&& 127) <<< ((0 : Int32) &&& 31))) ||| ((((((((XT.ushrL a (8 * 1)).toInt32) &&& 255) ||| 128).toInt8.toInt32).toInt8.toInt32) &&& 127) <<< ((0 + 7) &&& 31))) ||| ((((((((XT.ushrL a (8 * 2)).toInt32) &&& 255) ||| 128).toInt8.toInt32).toInt8.toInt32) &&& 127) <<< (((0 + 7) + 7) &&& 31))) ||| ((((((((XT.ushrL a (8 * 3)).toInt32) &&& 255) ||| 128).toInt8.toInt32).toInt8.toInt32) &&& 127) <<< ((((0 + 7) + 7) + 7) &&& 31))) ||| ((((((((XT.ushrL a (8 * 4)).toInt32) &&& 255) &&& 127).toInt8.toInt32).toInt8.toInt32) &&& 127) <<< (((((0 + 7) + 7) + 7) + 7) &&& 31))))), (.val (.int (nar .byte (((XT.ushr e 16).toInt8.toInt32).toInt8.toInt32))))] [] [.inr (.byte, [(.int (e.toInt8.toInt32.toInt8.toInt32)), (.int (((((((XT.ushrL a (8 * 0)).toInt32) &&& 255) ||| 128).toInt8.toInt32).toInt8.toInt32))), (.int (((((((XT.ushrL a (8 * 1)).toInt32) &&& 255) ||| 128).toInt8.toInt32).toInt8.toInt32))), (.int (((((((XT.ushrL a (8 * 2)).toInt32) &&& 255) ||| 128).toInt8.toInt32).toInt8.toInt32))), (.int (((((((XT.ushrL a (8 * 3)).toInt32) &&& 255) ||| 128).toInt8.toInt32).toInt8.toInt32))), (.int (((((((XT.ushrL a (8 * 4)).toInt32) &&& 255) &&& 127).toInt8.toInt32).toInt8.toInt32))), (.int ((((XT.ushr e 16).toInt8.toInt32).toInt8.toInt32))), (.int ((((XT.ushr e 24).toInt8.toInt32).toInt8.toInt32)))]), .inl ("com/example/quiverstore/quiverstore/ByteReader", [(("com/example/quiverstore/quiverstore/ByteReader", "bytes", "[B"), (.ref 0)), (("com/example/quiverstore/quiverstore/ByteReader", "position", "I"), (.int (6 + 1)))])] _ _ _
      refine W.iload d0_331 rfl ?_
      refine W.iload d0_333 rfl ?_
      refine W.icmp_ne d0_335 (fun h => False.elim (h (own_sum5 _ _ _ _ _))) (fun h335 => ?_)
      refine W.iload d0_338 rfl ?_
      refine W.iload d0_340 rfl ?_
      refine W.icmp_ne d0_342 (fun h => False.elim (h (nar_byte _))) (fun h342 => ?_)
      refine W.iconst 1 d0_345 rfl ?_
      refine W.goto d0_346 ?_
      exact W.nreturn .boolean d0_350 rfl (by simp) (by decide) (by decide) (rfl)
    · rw [q137]
      refine W.aload d0_137 rfl rfl ?_
      refine W.iload d0_139 rfl ?_
      refine W.iload d0_141 rfl ?_
      refine W.i2b d0_143 ?_
      refine W.bastore (i := 2) d0_144 rfl ⟨by decide, by decide⟩ (by simp) ?_
      refine W.iload d0_145 rfl ?_
      refine W.iconst 1 d0_147 rfl ?_
      refine W.icmp_le d0_148 (fun h => False.elim (by revert h; decide)) (fun h148 => ?_)
      refine W.aload d0_151 rfl rfl ?_
      refine W.iload d0_153 rfl ?_
      refine W.iconst 1 d0_155 rfl ?_
      refine W.iadd d0_156 ?_
      refine W.iload d0_157 rfl ?_
      refine W.i2b d0_159 ?_
      refine W.bastore (i := 3) d0_160 rfl ⟨by decide, by decide⟩ (by simp) ?_
      refine W.iload d0_161 rfl ?_
      refine W.iconst 2 d0_163 rfl ?_
      refine W.icmp_le d0_164 (fun h => False.elim (by revert h; decide)) (fun h164 => ?_)
      refine W.aload d0_167 rfl rfl ?_
      refine W.iload d0_169 rfl ?_
      refine W.iconst 2 d0_171 rfl ?_
      refine W.iadd d0_172 ?_
      refine W.iload d0_173 rfl ?_
      refine W.i2b d0_175 ?_
      refine W.bastore (i := 4) d0_176 rfl ⟨by decide, by decide⟩ (by simp) ?_
      show WB _ l Z n m0 177 [(.val (.long (a))), .second, (.val (.int (b))), (.val (.int (e))), (.val (.int (2))), (.val (.int (1 + 4))), (.val (.int ((((XT.ushrL a (8 * 0)).toInt32) &&& 255) ||| 128))), (.val (.int ((((XT.ushrL a (8 * 1)).toInt32) &&& 255) ||| 128))), (.val (.int ((((XT.ushrL a (8 * 2)).toInt32) &&& 255) ||| 128))), (.val (.int ((((XT.ushrL a (8 * 3)).toInt32) &&& 255) ||| 128))), (.val (.int ((((XT.ushrL a (8 * 4)).toInt32) &&& 255) &&& 127))), (.val (.ref 0)), .unset, .unset, .unset, .unset, .unset] [] [.inr (.byte, [(.int (e.toInt8.toInt32.toInt8.toInt32)), (.int (((XT.ushr e 8).toInt8.toInt32).toInt8.toInt32)), (.int ((((((XT.ushrL a (8 * 0)).toInt32) &&& 255) ||| 128).toInt8.toInt32).toInt8.toInt32)), (.int ((((((XT.ushrL a (8 * 1)).toInt32) &&& 255) ||| 128).toInt8.toInt32).toInt8.toInt32)), (.int ((((((XT.ushrL a (8 * 2)).toInt32) &&& 255) ||| 128).toInt8.toInt32).toInt8.toInt32)), (.int (((XT.ushr e 8).toInt8.toInt32).toInt8.toInt32)), (.int (((XT.ushr e 16).toInt8.toInt32).toInt8.toInt32)), (.int (((XT.ushr e 24).toInt8.toInt32).toInt8.toInt32))])] _ _ _
      refine W.iload d0_177 rfl ?_
      refine W.iconst 3 d0_179 rfl ?_
      refine W.icmp_le d0_180 (fun h => False.elim (by revert h; decide)) (fun h180 => ?_)
      refine W.aload d0_183 rfl rfl ?_
      refine W.iload d0_185 rfl ?_
      refine W.iconst 3 d0_187 rfl ?_
      refine W.iadd d0_188 ?_
      refine W.iload d0_189 rfl ?_
      refine W.i2b d0_191 ?_
      refine W.bastore (i := 5) d0_192 rfl ⟨by decide, by decide⟩ (by simp) ?_
      refine W.iload d0_193 rfl ?_
      refine W.iconst 4 d0_195 rfl ?_
      refine W.icmp_le d0_196 (fun h => False.elim (by revert h; decide)) (fun h196 => ?_)
      refine W.aload d0_199 rfl rfl ?_
      refine W.iload d0_201 rfl ?_
      refine W.iconst 4 d0_203 rfl ?_
      refine W.iadd d0_204 ?_
      refine W.iload d0_205 rfl ?_
      refine W.i2b d0_207 ?_
      refine W.bastore (i := 6) d0_208 rfl ⟨by decide, by decide⟩ (by simp) ?_
      refine W.aload d0_209 rfl rfl ?_
      refine W.iload d0_211 rfl ?_
      refine W.iload d0_213 rfl ?_
      refine W.iadd d0_215 ?_
      refine W.baload (i := 7) d0_216 rfl ⟨by decide, by decide⟩ rfl ?_
      refine W.istore d0_217 rfl ?_
      refine W.iload d0_219 rfl ?_
      refine W.bipush 127 d0_221 rfl ?_
      refine W.iand d0_223 ?_
      refine W.istore d0_224 rfl ?_
      show WB _ l Z n m0 226 [(.val (.long (a))), .second, (.val (.int (b))), (.val (.int (e))), (.val (.int (2))), (.val (.int (1 + 4))), (.val (.int ((((XT.ushrL a (8 * 0)).toInt32) &&& 255) ||| 128))), (.val (.int ((((XT.ushrL a (8 * 1)).toInt32) &&& 255) ||| 128))), (.val (.int ((((XT.ushrL a (8 * 2)).toInt32) &&& 255) ||| 128))), (.val (.int ((((XT.ushrL a (8 * 3)).toInt32) &&& 255) ||| 128))), (.val (.int ((((XT.ushrL a (8 * 4)).toInt32) &&& 255) &&& 127))), (.val (.ref 0)), (.val (.int (((XT.ushr e 24).toInt8.toInt32).toInt8.toInt32))), (.val (.int (((((XT.ushrL a (8 * 0)).toInt32) &&& 255) ||| 128) &&& 127))), .unset, .unset, .unset] [] [.inr (.byte, [(.int (e.toInt8.toInt32.toInt8.toInt32)), (.int (((XT.ushr e 8).toInt8.toInt32).toInt8.toInt32)), (.int ((((((XT.ushrL a (8 * 0)).toInt32) &&& 255) ||| 128).toInt8.toInt32).toInt8.toInt32)), (.int ((((((XT.ushrL a (8 * 1)).toInt32) &&& 255) ||| 128).toInt8.toInt32).toInt8.toInt32)), (.int ((((((XT.ushrL a (8 * 2)).toInt32) &&& 255) ||| 128).toInt8.toInt32).toInt8.toInt32)), (.int ((((((XT.ushrL a (8 * 3)).toInt32) &&& 255) ||| 128).toInt8.toInt32).toInt8.toInt32)), (.int ((((((XT.ushrL a (8 * 4)).toInt32) &&& 255) &&& 127).toInt8.toInt32).toInt8.toInt32)), (.int (((XT.ushr e 24).toInt8.toInt32).toInt8.toInt32))])] _ _ _
      refine W.iload d0_226 rfl ?_
      refine W.iconst 1 d0_228 rfl ?_
      refine W.icmp_le d0_229 (fun h => False.elim (by revert h; decide)) (fun h229 => ?_)
      refine W.iload d0_232 rfl ?_
      refine W.iload d0_234 rfl ?_
      refine W.bipush 127 d0_236 rfl ?_
      refine W.iand d0_238 ?_
      refine W.sipush 128 d0_239 rfl ?_
      refine W.imul d0_242 ?_
      refine W.iadd d0_243 ?_
      refine W.istore d0_244 rfl ?_
      refine W.iload d0_246 rfl ?_
      refine W.iconst 2 d0_248 rfl ?_
      refine W.icmp_le d0_249 (fun h => False.elim (by revert h; decide)) (fun h249 => ?_)
      refine W.iload d0_252 rfl ?_
      refine W.iload d0_254 rfl ?_
      refine W.bipush 127 d0_256 rfl ?_
      refine W.iand d0_258 ?_
      refine W.sipush 16384 d0_259 rfl ?_
      refine W.imul d0_262 ?_
      refine W.iadd d0_263 ?_
      refine W.istore d0_264 rfl ?_
      refine W.iload d0_266 rfl ?_
      refine W.iconst 3 d0_268 rfl ?_
      refine W.icmp_le d0_269 (fun h => False.elim (by revert h; decide)) (fun h269 => ?_)
      refine W.iload d0_272 rfl ?_
      refine W.iload d0_274 rfl ?_
      refine W.bipush 127 d0_276 rfl ?_
      refine W.iand d0_278 ?_
      refine W.ldc d0_279 (hw _ (wd 29 rfl)) ?_
      refine W.imul d0_281 ?_
      refine W.iadd d0_282 ?_
      refine W.istore d0_283 rfl ?_
      refine W.iload d0_285 rfl ?_
      refine W.iconst 4 d0_287 rfl ?_
      refine W.icmp_le d0_288 (fun h => False.elim (by revert h; decide)) (fun h288 => ?_)
      refine W.iload d0_291 rfl ?_
      refine W.iload d0_293 rfl ?_
      refine W.bipush 127 d0_295 rfl ?_
      refine W.iand d0_297 ?_
      refine W.ldc d0_298 (hw _ (wd 30 rfl)) ?_
      refine W.imul d0_300 ?_
      refine W.iadd d0_301 ?_
      refine W.istore d0_302 rfl ?_
      show WB _ l Z n m0 304 [(.val (.long (a))), .second, (.val (.int (b))), (.val (.int (e))), (.val (.int (2))), (.val (.int (1 + 4))), (.val (.int ((((XT.ushrL a (8 * 0)).toInt32) &&& 255) ||| 128))), (.val (.int ((((XT.ushrL a (8 * 1)).toInt32) &&& 255) ||| 128))), (.val (.int ((((XT.ushrL a (8 * 2)).toInt32) &&& 255) ||| 128))), (.val (.int ((((XT.ushrL a (8 * 3)).toInt32) &&& 255) ||| 128))), (.val (.int ((((XT.ushrL a (8 * 4)).toInt32) &&& 255) &&& 127))), (.val (.ref 0)), (.val (.int (((XT.ushr e 24).toInt8.toInt32).toInt8.toInt32))), (.val (.int (((((((((XT.ushrL a (8 * 0)).toInt32) &&& 255) ||| 128) &&& 127) + ((((((XT.ushrL a (8 * 1)).toInt32) &&& 255) ||| 128) &&& 127) * 128)) + ((((((XT.ushrL a (8 * 2)).toInt32) &&& 255) ||| 128) &&& 127) * 16384)) + ((((((XT.ushrL a (8 * 3)).toInt32) &&& 255) ||| 128) &&& 127) * 2097152)) + ((((((XT.ushrL a (8 * 4)).toInt32) &&& 255) &&& 127) &&& 127) * 268435456)))), .unset, .unset, .unset] [] [.inr (.byte, [(.int (e.toInt8.toInt32.toInt8.toInt32)), (.int (((XT.ushr e 8).toInt8.toInt32).toInt8.toInt32)), (.int ((((((XT.ushrL a (8 * 0)).toInt32) &&& 255) ||| 128).toInt8.toInt32).toInt8.toInt32)), (.int ((((((XT.ushrL a (8 * 1)).toInt32) &&& 255) ||| 128).toInt8.toInt32).toInt8.toInt32)), (.int ((((((XT.ushrL a (8 * 2)).toInt32) &&& 255) ||| 128).toInt8.toInt32).toInt8.toInt32)), (.int ((((((XT.ushrL a (8 * 3)).toInt32) &&& 255) ||| 128).toInt8.toInt32).toInt8.toInt32)), (.int ((((((XT.ushrL a (8 * 4)).toInt32) &&& 255) &&& 127).toInt8.toInt32).toInt8.toInt32)), (.int (((XT.ushr e 24).toInt8.toInt32).toInt8.toInt32))])] _ _ _
      refine W.new (N := 1) d0_304 (hw _ (wd 6 rfl)) (okc0 hw) rfl (by decide) (by decide) ?_
      refine W.dup d0_307 rfl ?_
      refine W.aload d0_308 rfl rfl ?_
      refine W.iload d0_310 rfl ?_
      refine W.initN (M' := m2) d0_312 rfl rfl (hw _ (wd 9 rfl)) (hw _ (wd 10 rfl)) (c2_11 hw e.toInt8.toInt32.toInt8.toInt32 (((XT.ushr e 8).toInt8.toInt32).toInt8.toInt32) ((((((XT.ushrL a (8 * 0)).toInt32) &&& 255) ||| 128).toInt8.toInt32).toInt8.toInt32) ((((((XT.ushrL a (8 * 1)).toInt32) &&& 255) ||| 128).toInt8.toInt32).toInt8.toInt32) ((((((XT.ushrL a (8 * 2)).toInt32) &&& 255) ||| 128).toInt8.toInt32).toInt8.toInt32) ((((((XT.ushrL a (8 * 3)).toInt32) &&& 255) ||| 128).toInt8.toInt32).toInt8.toInt32) ((((((XT.ushrL a (8 * 4)).toInt32) &&& 255) &&& 127).toInt8.toInt32).toInt8.toInt32) (((XT.ushr e 24).toInt8.toInt32).toInt8.toInt32)) (ok2 hw) rfl rfl rfl ?_
      refine W.astore d0_315 rfl rfl ?_
      refine W.aload d0_317 rfl rfl ?_
      refine W.callvV (M' := m4) d0_319 (hw _ (wd 19 rfl)) (hw _ (wd 20 rfl)) (hw _ (wd 21 rfl)) (hw _ (wd 22 rfl)) (c4_48 hw e.toInt8.toInt32.toInt8.toInt32 (((XT.ushr e 8).toInt8.toInt32).toInt8.toInt32) ((((((XT.ushrL a (8 * 0)).toInt32) &&& 255) ||| 128).toInt8.toInt32).toInt8.toInt32) ((((((XT.ushrL a (8 * 1)).toInt32) &&& 255) ||| 128).toInt8.toInt32).toInt8.toInt32) ((((((XT.ushrL a (8 * 2)).toInt32) &&& 255) ||| 128).toInt8.toInt32).toInt8.toInt32) ((((((XT.ushrL a (8 * 3)).toInt32) &&& 255) ||| 128).toInt8.toInt32).toInt8.toInt32) ((((((XT.ushrL a (8 * 4)).toInt32) &&& 255) &&& 127).toInt8.toInt32).toInt8.toInt32) (((XT.ushr e 24).toInt8.toInt32).toInt8.toInt32) (own_neg _) (own_neg _) (own_neg _) (own_neg _) (own_pos _)) (ok4 hw) rfl rfl rfl rfl ?_
      refine W.istore d0_322 rfl ?_
      refine W.aload d0_324 rfl rfl ?_
      refine W.callvV (M' := m5) d0_326 (hw _ (wd 24 rfl)) (hw _ (wd 25 rfl)) (hw _ (wd 26 rfl)) (hw _ (wd 27 rfl)) (c5_49 hw e.toInt8.toInt32.toInt8.toInt32 (((XT.ushr e 8).toInt8.toInt32).toInt8.toInt32) ((((((XT.ushrL a (8 * 0)).toInt32) &&& 255) ||| 128).toInt8.toInt32).toInt8.toInt32) ((((((XT.ushrL a (8 * 1)).toInt32) &&& 255) ||| 128).toInt8.toInt32).toInt8.toInt32) ((((((XT.ushrL a (8 * 2)).toInt32) &&& 255) ||| 128).toInt8.toInt32).toInt8.toInt32) ((((((XT.ushrL a (8 * 3)).toInt32) &&& 255) ||| 128).toInt8.toInt32).toInt8.toInt32) ((((((XT.ushrL a (8 * 4)).toInt32) &&& 255) &&& 127).toInt8.toInt32).toInt8.toInt32) (((XT.ushr e 24).toInt8.toInt32).toInt8.toInt32)) (ok5 hw) rfl rfl rfl rfl ?_
      refine W.istore d0_329 rfl ?_
      show WB _ l Z n m0 331 [(.val (.long (a))), .second, (.val (.int (b))), (.val (.int (e))), (.val (.int (2))), (.val (.int (1 + 4))), (.val (.int ((((XT.ushrL a (8 * 0)).toInt32) &&& 255) ||| 128))), (.val (.int ((((XT.ushrL a (8 * 1)).toInt32) &&& 255) ||| 128))), (.val (.int ((((XT.ushrL a (8 * 2)).toInt32) &&& 255) ||| 128))), (.val (.int ((((XT.ushrL a (8 * 3)).toInt32) &&& 255) ||| 128))), (.val (.int ((((XT.ushrL a (8 * 4)).toInt32) &&& 255) &&& 127))), (.val (.ref 0)), (.val (.int (((XT.ushr e 24).toInt8.toInt32).toInt8.toInt32))), (.val (.int (((((((((XT.ushrL a (8 * 0)).toInt32) &&& 255) ||| 128) &&& 127) + ((((((XT.ushrL a (8 * 1)).toInt32) &&& 255) ||| 128) &&& 127) * 128)) + ((((((XT.ushrL a (8 * 2)).toInt32) &&& 255) ||| 128) &&& 127) * 16384)) + ((((((XT.ushrL a (8 * 3)).toInt32) &&& 255) ||| 128) &&& 127) * 2097152)) + ((((((XT.ushrL a (8 * 4)).toInt32) &&& 255) &&& 127) &&& 127) * 268435456)))), (.val (.ref 1)), (.val (.int ((((((0 : Int32) ||| ((((((((XT.ushrL a (8 * 0)).toInt32) &&& 255) ||| 128).toInt8.toInt32).toInt8.toInt32) &&& 127) <<< ((0 : Int32) &&& 31))) ||| ((((((((XT.ushrL a (8 * 1)).toInt32) &&& 255) ||| 128).toInt8.toInt32).toInt8.toInt32) &&& 127) <<< ((0 + 7) &&& 31))) ||| ((((((((XT.ushrL a (8 * 2)).toInt32) &&& 255) ||| 128).toInt8.toInt32).toInt8.toInt32) &&& 127) <<< (((0 + 7) + 7) &&& 31))) ||| ((((((((XT.ushrL a (8 * 3)).toInt32) &&& 255) ||| 128).toInt8.toInt32).toInt8.toInt32) &&& 127) <<< ((((0 + 7) + 7) + 7) &&& 31))) ||| ((((((((XT.ushrL a (8 * 4)).toInt32) &&& 255) &&& 127).toInt8.toInt32).toInt8.toInt32) &&& 127) <<< (((((0 + 7) + 7) + 7) + 7) &&& 31))))), (.val (.int (nar .byte (((XT.ushr e 24).toInt8.toInt32).toInt8.toInt32))))] [] [.inr (.byte, [(.int (e.toInt8.toInt32.toInt8.toInt32)), (.int ((((XT.ushr e 8).toInt8.toInt32).toInt8.toInt32))), (.int (((((((XT.ushrL a (8 * 0)).toInt32) &&& 255) ||| 128).toInt8.toInt32).toInt8.toInt32))), (.int (((((((XT.ushrL a (8 * 1)).toInt32) &&& 255) ||| 128).toInt8.toInt32).toInt8.toInt32))), (.int (((((((XT.ushrL a (8 * 2)).toInt32) &&& 255) ||| 128).toInt8.toInt32).toInt8.toInt32))), (.int (((((((XT.ushrL a (8 * 3)).toInt32) &&& 255) ||| 128).toInt8.toInt32).toInt8.toInt32))), (.int (((((((XT.ushrL a (8 * 4)).toInt32) &&& 255) &&& 127).toInt8.toInt32).toInt8.toInt32))), (.int ((((XT.ushr e 24).toInt8.toInt32).toInt8.toInt32)))]), .inl ("com/example/quiverstore/quiverstore/ByteReader", [(("com/example/quiverstore/quiverstore/ByteReader", "bytes", "[B"), (.ref 0)), (("com/example/quiverstore/quiverstore/ByteReader", "position", "I"), (.int (7 + 1)))])] _ _ _
      refine W.iload d0_331 rfl ?_
      refine W.iload d0_333 rfl ?_
      refine W.icmp_ne d0_335 (fun h => False.elim (h (own_sum5 _ _ _ _ _))) (fun h335 => ?_)
      refine W.iload d0_338 rfl ?_
      refine W.iload d0_340 rfl ?_
      refine W.icmp_ne d0_342 (fun h => False.elim (h (nar_byte _))) (fun h342 => ?_)
      refine W.iconst 1 d0_345 rfl ?_
      refine W.goto d0_346 ?_
      exact W.nreturn .boolean d0_350 rfl (by simp) (by decide) (by decide) (rfl)
set_option maxRecDepth 65536 in
set_option maxHeartbeats 40000000 in
theorem comes_1 {Post : Tables → Env → Array Value → State → Outcome → State → Prop} (hpost : ∀ tb e args s v u, (limb_1_1.after args s (.returned v) u = true ∧ limb_1_2.after args s (.returned v) u = true ∧ True) → FrameEnd s (.returned v) u (Jvm.fieldLocs frame_1_writes args s ++ Jvm.arrayLocs frame_1_arrays args s ++ Jvm.staticLocs frame_1_statics s) 16 128 → Post tb e args s (.returned v) u) :
    ArmFor flags0 classFile x code maxLocals ret World_1 tables_1 room_1 Calls_1 rest_1 Pre_1 Post := by
  intro l hfl _ _ p e ha hc hk s m args below hf hA hF happ hP
  obtain ⟨hcalls, hrest, hpre⟩ := hP
  obtain ⟨-, -, -, hnamed, -, -, -, hat⟩ := (Spec.applies_iff hf).mp happ
  obtain ⟨hg, hn⟩ := and_e (Cond.before_iff.mp (show (Jvm.Cond.and given_1 narrow_1).before args s = true from hpre))
  obtain ⟨hcnt, g0⟩ := and_e hg
  obtain ⟨q0, g1⟩ := and_e g0
  obtain ⟨q1, g2⟩ := and_e g1
  obtain ⟨w0, w1, w2, rfl⟩ : ∃ w0 w1 w2 : Value, args = #[w0, w1, w2] := by
    have hs : args.size = 3 := by simpa [Cond.value, given_1] using hcnt
    obtain ⟨L⟩ := args
    match L, hs with
    | [w0, w1, w2], _ => exact ⟨w0, w1, w2, rfl⟩
  have hw := fun d (hd : d ∈ tables_1) => atoms_spec (ws := Jvm.Cond.code x code maxLocals ret :: tables_1) hat d (List.mem_cons_of_mem _ hd)
  obtain ⟨i0, ei0⟩ := isL_v q0
  obtain rfl : w0 = (.long i0) := Option.some.inj ei0
  obtain ⟨i1, ei1⟩ := is_v q1
  obtain rfl : w1 = (.int i1) := Option.some.inj ei1
  obtain ⟨i2, ei2⟩ := is_v g2
  obtain rfl : w2 = (.int i2) := Option.some.inj ei2
  obtain ⟨n, o, h1, h2, h3, _, L, rfl, ⟨v0, H', rfl, rfl, hH, N⟩, hq⟩ := W.start (M := m0) (w_law (l := l) hw i0 i1 i2) pn0 tables_1 p e ha hc hk s m _ below hf ((Spec.applies_iff_loose hf).mp happ).1 ⟨rfl, State.Warmed39.refl s, rfl⟩ trivial
  refine ⟨n, _, h1, h2, h3, hpost _ _ _ _ _ _ ⟨Cond.after_iff.mpr rfl, Cond.after_iff.mpr (eq_i res_at (Term.int_eval (1)) rfl), trivial⟩ ⟨hq.1, hq.2.1, (hq.2.2.sift fun y hy => Or.inr (N y hy)).mono (by decide) (by decide)⟩⟩
theorem main_1_1 : Claimed_1_1 := comes_1 fun _ _ _ _ _ _ h hF => ⟨h.1, hF⟩
theorem main_1_2 : Claimed_1_2 := comes_1 fun _ _ _ _ _ _ h hF => ⟨h.2.1, hF⟩
end Jvm.Pilot.@@N@@
namespace Jvm.Pilot.@@N@@
open Jvm Jvm.ClassFile Sem Op Lib Jvm.Free Jvm.Stand Jvm.Pilot.@@N@@.Jvm.D
/-! MADE BY PROGRAM (witnessworld.py) out of the Statement's table words and the real class files: 9 classes; the members and pool entries that the words name. The judged class is class 1, her method 2. -/
namespace start1
open Jvm.ClassFile
def u (s : String) : CpInfo := .utf8 (stringToUtf16 s)
/-- a pool by its gaps: so many unusable entries, then the entry; so many at the end -/
def gap : Nat → List CpInfo → List CpInfo
  | 0, r => r
  | n + 1, r => .unusable :: gap n r
def poolList (es : List (Nat × CpInfo)) (last : Nat) : List CpInfo := es.foldr (fun e r => gap e.1 (e.2 :: r)) (gap last [])
def pool (es : List (Nat × CpInfo)) (last : Nat) : Array CpInfo := ⟨poolList es last⟩
def fileOf (pool : Array CpInfo) (this : Nat) (attrs : Array Attribute := #[]) (ms : Array MethodInfo := #[]) (fl : Nat := 33) (sup : Nat := 0) (ifs : Array Nat := #[]) (fds : Array FieldInfo := #[]) : ClassFile where
  minorVersion := 0
  majorVersion := 65
  constantPool := pool
  accessFlags := fl
  thisClass := this
  superClass := sup
  interfaces := ifs
  fields := fds
  methods := ms
  attributes := attrs
def plain (name : String) (sup : Option ClassId) : Class where
  name := name
  kind := .ordinary
  loader := none
  accessFlags := 33
  super := sup
  interfaces := #[]
  cf := none
  fields := #[]
  methods := #[]
  instanceTypes := #[]
  staticTypes := #[]
  resolved := #[]
  callSites := []
  init := .initialized
  statics := none
  mirror := none

def pool0 : Array CpInfo := pool [(5, u "<init>"), (0, u "()V"), (1, .class_ 10), (1, u "java/lang/Object")] 113

def k0c0 : Code := { maxStack := 0, maxLocals := 1, code := object_method_1_code, exceptionTable := #[], attributes := #[] }
def k0m0 : Method := { name := "<init>", desc := "()V", sig := { parameters := [], returnType := none }, accessFlags := 1, code := some k0c0 }
/-- java/lang/Object -/
def k0 : Class := { plain "java/lang/Object" none with
  accessFlags := 33
  interfaces := #[]
  cf := some (fileOf pool0 8 #[] #[{ accessFlags := 1, nameIndex := 5, descriptorIndex := 6, attributes := #[] }] 33 0 #[] #[])
  fields := #[]
  methods := #[k0m0]
  instanceTypes := #[]
  staticTypes := #[]
  resolved := Array.replicate 124 none
  statics := none }

def pool1 : Array CpInfo := pool [(2, .class_ 4), (1, u "java/lang/Object"), (0, u "<init>"), (0, u "()V"), (0, .integer 2147483647), (0, .methodref 9 10), (0, .class_ 11), (0, .nameAndType 12 13), (0, u "com/example/quiverstore/quiverstore/ByteReaderGetLengthPinLaw"), (0, u "dataByte"), (0, u "(JII)I"), (0, .integer 2097152), (0, .integer 268435456), (0, .class_ 17), (0, u "com/example/quiverstore/quiverstore/ByteReader"), (0, .methodref 16 19), (0, .nameAndType 5 20), (0, u "([BI)V"), (0, .methodref 16 22), (0, .nameAndType 23 24), (0, u "getLength"), (0, u "()I"), (0, .methodref 16 26), (0, .nameAndType 27 28), (0, u "get"), (0, u "()B"), (3, u "law"), (0, u "(JII)Z")] 4

def k1m0 : Method := { name := "<init>", desc := "()V", sig := { parameters := [], returnType := none }, accessFlags := 1, code := none }
def k1c1 : Code := { maxStack := 4, maxLocals := 5, code := method_2_code, exceptionTable := #[], attributes := #[] }
def k1m1 : Method := { name := "dataByte", desc := "(JII)I", sig := { parameters := [.long, .int, .int], returnType := some .int }, accessFlags := 10, code := some k1c1 }
def k1c2 : Code := { maxStack := 4, maxLocals := 17, code := code, exceptionTable := #[], attributes := #[] }
def k1m2 : Method := { name := "law", desc := "(JII)Z", sig := { parameters := [.long, .int, .int], returnType := some .boolean }, accessFlags := 9, code := some k1c2 }
/-- com/example/quiverstore/quiverstore/ByteReaderGetLengthPinLaw -/
def k1 : Class := { plain "com/example/quiverstore/quiverstore/ByteReaderGetLengthPinLaw" (some 0) with
  accessFlags := 49
  interfaces := #[]
  cf := some (fileOf pool1 9 #[] #[{ accessFlags := 1, nameIndex := 5, descriptorIndex := 6, attributes := #[] }, { accessFlags := 10, nameIndex := 12, descriptorIndex := 13, attributes := #[] }, { accessFlags := 9, nameIndex := 32, descriptorIndex := 33, attributes := #[] }] 49 2 #[] #[])
  fields := #[]
  methods := #[k1m0, k1m1, k1m2]
  instanceTypes := #[]
  staticTypes := #[]
  resolved := Array.replicate 38 none
  statics := none }

def pool2 : Array CpInfo := pool [(2, .class_ 4), (1, u "com/example/quiverstore/quiverstore/ByteReader"), (0, u "<init>"), (0, u "([BI)V"), (0, .methodref 8 9), (0, .class_ 10), (0, .nameAndType 5 11), (0, u "java/lang/Object"), (0, u "()V"), (0, .fieldref 2 13), (0, .nameAndType 14 15), (0, u "bytes"), (0, u "[B"), (0, .fieldref 2 17), (0, .nameAndType 18 19), (0, u "position"), (0, u "I"), (8, u "getLength"), (0, u "()I"), (17, u "get"), (0, u "()B")] 10

def k2c0 : Code := { maxStack := 2, maxLocals := 3, code := prog_1_method_2_code, exceptionTable := #[], attributes := #[] }
def k2m0 : Method := { name := "<init>", desc := "([BI)V", sig := { parameters := [(.array .byte), .int], returnType := none }, accessFlags := 0, code := some k2c0 }
def k2c1 : Code := { maxStack := 5, maxLocals := 1, code := prog_1_method_4_code, exceptionTable := #[], attributes := #[] }
def k2m1 : Method := { name := "get", desc := "()B", sig := { parameters := [], returnType := some .byte }, accessFlags := 0, code := some k2c1 }
def k2c2 : Code := { maxStack := 5, maxLocals := 4, code := prog_1_method_7_code, exceptionTable := #[], attributes := #[] }
def k2m2 : Method := { name := "getLength", desc := "()I", sig := { parameters := [], returnType := some .int }, accessFlags := 0, code := some k2c2 }
/-- com/example/quiverstore/quiverstore/ByteReader -/
def k2 : Class := { plain "com/example/quiverstore/quiverstore/ByteReader" (some 0) with
  accessFlags := 48
  interfaces := #[]
  cf := some (fileOf pool2 2 #[] #[{ accessFlags := 0, nameIndex := 5, descriptorIndex := 6, attributes := #[] }, { accessFlags := 0, nameIndex := 47, descriptorIndex := 48, attributes := #[] }, { accessFlags := 0, nameIndex := 28, descriptorIndex := 29, attributes := #[] }] 48 8 #[] #[{ accessFlags := 18, nameIndex := 14, descriptorIndex := 15, attributes := #[] }, { accessFlags := 2, nameIndex := 18, descriptorIndex := 19, attributes := #[] }])
  fields := #[{ name := "bytes", type := (.array .byte), accessFlags := 18, slot := 0, constantValue := 0 }, { name := "position", type := .int, accessFlags := 2, slot := 1, constantValue := 0 }]
  methods := #[k2m0, k2m1, k2m2]
  instanceTypes := #[(.array .byte), .int]
  staticTypes := #[]
  resolved := Array.replicate 59 none
  statics := none }

def pool3 : Array CpInfo := pool [(1, u "java/lang/Cloneable"), (0, .class_ 1), (0, u "java/lang/Object"), (0, .class_ 3)] 3

/-- java/lang/Cloneable -/
def k3 : Class := { plain "java/lang/Cloneable" (some 0) with
  accessFlags := 1537
  interfaces := #[]
  cf := some (fileOf pool3 2 #[] #[] 1537 4 #[] #[])
  fields := #[]
  methods := #[]
  instanceTypes := #[]
  staticTypes := #[]
  resolved := Array.replicate 8 none
  statics := none }

def pool4 : Array CpInfo := pool [(1, u "java/io/Serializable"), (0, .class_ 1), (0, u "java/lang/Object"), (0, .class_ 3)] 3

/-- java/io/Serializable -/
def k4 : Class := { plain "java/io/Serializable" (some 0) with
  accessFlags := 1537
  interfaces := #[]
  cf := some (fileOf pool4 2 #[] #[] 1537 4 #[] #[])
  fields := #[]
  methods := #[]
  instanceTypes := #[]
  staticTypes := #[]
  resolved := Array.replicate 8 none
  statics := none }

/-- the primitive byte -/
def k5 : Class := { plain "byte" none with kind := .primitive 'B', accessFlags := 0x411 }
/-- [B -/
def k6 : Class := { plain "[B" (some 0) with kind := .array 5 .byte, interfaces := #[3, 4], accessFlags := 1041 }

/-- the primitive int -/
def k7 : Class := { plain "int" none with kind := .primitive 'I', accessFlags := 0x411 }
/-- [I -/
def k8 : Class := { plain "[I" (some 0) with kind := .array 7 .int, interfaces := #[3, 4], accessFlags := 1041 }

def heap : Heap := #[]
def classes : Array Class := #[k0, k1, k2, k3, k4, k5, k6, k7, k8]
def interned : List (Array UInt16 × Addr) := []
def slotsUsed : Nat := 0
def theMethod : MethodId := ⟨1, 2⟩
def args0 : Array Value := #[.long 5, .int 7, .int 9]
def aboutOver (below : List Frame) : State where
  vm := { classes := classes, interned := interned.toArray }
  heap := heap
  slotsUsed := slotsUsed
  threads := #[{ frames := .invoking theMethod args0 :: below }]
def below0 : List Frame := [.native { method := ⟨0, 0⟩, args := #[] }]
def about1 : State := aboutOver below0
def p0 : Program := .bare "" "" ""
def e0 : Env := launch0.env 0 0 0
theorem w_frames : about1.frames = Frame.invoking theMethod args0 :: below0 := rfl
set_option maxRecDepth 65536 in
theorem w_args : argsFit about1.vm theMethod args0 = true := by decide +kernel
set_option maxRecDepth 65536 in
theorem w_heap : heapFits about1 = true := by decide +kernel
set_option maxRecDepth 65536 in
theorem w_runnable : about1.curStatus? = some .runnable := by decide +kernel
set_option maxRecDepth 65536 in
theorem w_alone : about1.alone = true := by decide +kernel
set_option maxRecDepth 65536 in
theorem w_named : about1.methodNamed? x = some theMethod := by decide +kernel
set_option maxRecDepth 65536 in
theorem w_hears : about1.hears theMethod below0 = true := by decide +kernel
set_option maxRecDepth 65536 in
theorem w_ripe : about1.ripe theMethod args0 below0 = true := by decide +kernel
theorem w_running : about1.status = .running := rfl
set_option maxRecDepth 65536 in
theorem w_room : about1.hasRoom e0.platform room_1 = true :=
  launch0.hasRoom_least _ room_1 (by decide +kernel) (by decide +kernel) (by decide +kernel) (by decide +kernel) (by decide +kernel) (by decide +kernel)
theorem allAtoms_all (ts : List Jvm.Cond) (a : Array Jvm.Value) (st : Jvm.State) : (allAtoms ts).before a st = ts.all (fun c => c.before a st) := by
  induction ts with
  | nil => rfl
  | cons c t ih =>
    show (Jvm.Cond.and c (allAtoms t)).before a st = _
    rw [Jvm.Cond.before_and, ih, List.all_cons]
def words1 : List Jvm.Cond := Jvm.Cond.code x code maxLocals ret :: tables_1
/-- a 'code' word, met by the world's own term for the bytes: nothing is compared byte by byte -/
theorem code_word {y : MethodName} {bytes : ByteArray} {mx : Nat} {rt : Option FieldType} {a : Array Value} {s : State} {m : MethodId} {meth : Method} {c : Code} (h1 : s.methodNamed? y = some m) (h2 : s.vm.method? m = some meth) (h3 : meth.code = some c) (h4 : c.code = bytes)
    (h5 : (c.maxLocals == mx && c.exceptionTable.isEmpty && decide (c.maxStack ≤ mostOperands) && decide (meth.sig.returnType = rt) && !meth.locks && decide (parseMethodDescriptor y.desc = some meth.sig)) = true) : (Jvm.Cond.code y bytes mx rt).before a s = true := by
  simp only [Bool.and_eq_true, beq_iff_eq, Bool.not_eq_true', decide_eq_true_eq] at h5
  obtain ⟨⟨⟨⟨⟨g1, g2⟩, g3⟩, g4⟩, g5⟩, g6⟩ := h5
  simp [Cond.before, Cond.holds, Cond.value, h1, h2, h3, h4, g1, g2, g3, g4, g5, g6]
def isCode : Jvm.Cond → Bool
  | .code _ _ _ _ => true
  | _ => false
theorem all_split {L : List Jvm.Cond} {P : Jvm.Cond → Bool} (h1 : L.all (fun c => isCode c || P c) = true) (h2 : ∀ c ∈ L.filter isCode, P c = true) : L.all P = true := by
  refine List.all_eq_true.mpr fun c hc => ?_
  have h := List.all_eq_true.mp h1 c hc
  rcases Bool.eq_false_or_eq_true (isCode c) with hi | hi
  · exact h2 c (List.mem_filter.mpr ⟨hc, hi⟩)
  · simpa [hi] using h
set_option maxRecDepth 65536 in
theorem w_c0 : (Jvm.Cond.code x code maxLocals ret).before args0 about1 = true := code_word (m := ⟨1, 2⟩) (meth := k1m2) (c := k1c2) (by decide +kernel) rfl rfl rfl (by decide +kernel)
set_option maxRecDepth 65536 in
theorem w_c1 : (Jvm.Cond.code ({ cls := "com/example/quiverstore/quiverstore/ByteReaderGetLengthPinLaw", name := "dataByte", desc := "(JII)I" } : Jvm.MethodName) method_2_code (5 : Nat) (Option.some Jvm.ClassFile.FieldType.int)).before args0 about1 = true := code_word (m := ⟨1, 1⟩) (meth := k1m1) (c := k1c1) (by decide +kernel) rfl rfl rfl (by decide +kernel)
set_option maxRecDepth 65536 in
theorem w_c2 : (Jvm.Cond.code ({ cls := "com/example/quiverstore/quiverstore/ByteReader", name := "<init>", desc := "([BI)V" } : Jvm.MethodName) prog_1_method_2_code (3 : Nat) (Option.none : Option Jvm.ClassFile.FieldType)).before args0 about1 = true := code_word (m := ⟨2, 0⟩) (meth := k2m0) (c := k2c0) (by decide +kernel) rfl rfl rfl (by decide +kernel)
set_option maxRecDepth 65536 in
theorem w_c3 : (Jvm.Cond.code ({ cls := "java/lang/Object", name := "<init>", desc := "()V" } : Jvm.MethodName) object_method_1_code (1 : Nat) (Option.none : Option Jvm.ClassFile.FieldType)).before args0 about1 = true := code_word (m := ⟨0, 0⟩) (meth := k0m0) (c := k0c0) (by decide +kernel) rfl rfl rfl (by decide +kernel)
set_option maxRecDepth 65536 in
theorem w_c4 : (Jvm.Cond.code ({ cls := "com/example/quiverstore/quiverstore/ByteReader", name := "getLength", desc := "()I" } : Jvm.MethodName) prog_1_method_7_code (4 : Nat) (Option.some Jvm.ClassFile.FieldType.int)).before args0 about1 = true := code_word (m := ⟨2, 2⟩) (meth := k2m2) (c := k2c2) (by decide +kernel) rfl rfl rfl (by decide +kernel)
set_option maxRecDepth 65536 in
theorem w_c5 : (Jvm.Cond.code ({ cls := "com/example/quiverstore/quiverstore/ByteReader", name := "get", desc := "()B" } : Jvm.MethodName) prog_1_method_4_code (1 : Nat) (Option.some Jvm.ClassFile.FieldType.byte)).before args0 about1 = true := code_word (m := ⟨2, 1⟩) (meth := k2m1) (c := k2c1) (by decide +kernel) rfl rfl rfl (by decide +kernel)
def codes1 : List Jvm.Cond := [Jvm.Cond.code x code maxLocals ret, Jvm.Cond.code ({ cls := "com/example/quiverstore/quiverstore/ByteReaderGetLengthPinLaw", name := "dataByte", desc := "(JII)I" } : Jvm.MethodName) method_2_code (5 : Nat) (Option.some Jvm.ClassFile.FieldType.int), Jvm.Cond.code ({ cls := "com/example/quiverstore/quiverstore/ByteReader", name := "<init>", desc := "([BI)V" } : Jvm.MethodName) prog_1_method_2_code (3 : Nat) (Option.none : Option Jvm.ClassFile.FieldType), Jvm.Cond.code ({ cls := "java/lang/Object", name := "<init>", desc := "()V" } : Jvm.MethodName) object_method_1_code (1 : Nat) (Option.none : Option Jvm.ClassFile.FieldType), Jvm.Cond.code ({ cls := "com/example/quiverstore/quiverstore/ByteReader", name := "getLength", desc := "()I" } : Jvm.MethodName) prog_1_method_7_code (4 : Nat) (Option.some Jvm.ClassFile.FieldType.int), Jvm.Cond.code ({ cls := "com/example/quiverstore/quiverstore/ByteReader", name := "get", desc := "()B" } : Jvm.MethodName) prog_1_method_4_code (1 : Nat) (Option.some Jvm.ClassFile.FieldType.byte)]
set_option maxRecDepth 65536 in
theorem codes_eq : words1.filter isCode = codes1 := rfl
theorem w_codes : ∀ c ∈ words1.filter isCode, c.before args0 about1 = true := by
  rw [codes_eq]
  intro c hc
  simp only [codes1, List.mem_cons, List.not_mem_nil, or_false] at hc
  rcases hc with rfl | rfl | rfl | rfl | rfl | rfl
  · exact w_c0
  · exact w_c1
  · exact w_c2
  · exact w_c3
  · exact w_c4
  · exact w_c5
set_option maxRecDepth 65536 in
theorem w_t1 : (words1.take 24).all (fun c => isCode c || c.before args0 about1) = true := by decide +kernel
set_option maxRecDepth 65536 in
theorem w_t2 : (words1.drop 24).all (fun c => isCode c || c.before args0 about1) = true := by decide +kernel
theorem w_tables : (allAtoms (Jvm.Cond.code x code maxLocals ret :: tables_1)).before args0 about1 = true := by
  rw [allAtoms_all]
  show words1.all (fun c => c.before args0 about1) = true
  refine all_split ?_ w_codes
  rw [← List.take_append_drop 24 words1, List.all_append, w_t1, w_t2]
  rfl
set_option maxRecDepth 65536 in
theorem w_case : (Jvm.Cond.and given_1 narrow_1).before args0 about1 = true := by decide +kernel
theorem w_applies : (headSpec (Jvm.Cond.code x code maxLocals ret :: tables_1) room_1).applies x e0.platform about1 = true :=
  (Spec.applies_iff w_frames).mpr ⟨w_running, w_runnable, w_alone, w_named, w_hears, w_ripe, w_room, w_tables⟩
theorem atStart : AtStart classFile x code maxLocals ret World_1 tables_1 room_1 Calls_1 rest_1 Pre_1 launch0 p0 e0 about1 theMethod args0 below0 :=
  ⟨lists_1, trivial, launch0.admits_env _ _ _, launch0.least_env, fairChoices_fair.cas, fairChoices_fair.clock, w_frames, w_args, w_heap, w_applies, trivial, trivial, w_case⟩
end start1
theorem witness_1 : WitnessClaimed_1 := ⟨start1.p0, start1.e0, start1.about1, start1.theMethod, start1.args0, start1.below0, start1.atStart⟩
end Jvm.Pilot.@@N@@
