import JvmDerived
import JvmDerived.Pilot.@@N@@Statement
import JvmDerived.Pilot.@@N@@Code
set_option linter.unusedVariables false
set_option linter.unusedSimpArgs false
namespace Jvm.OwnW
open Sem ClassFile Op Lib Jvm.Stand Jvm.Free Jvm.LawKit Jvm.RoadKit
/-! A plain heap (objects made since the start, in order), values whose references count from the start's size; W: from here the method comes back, and Q holds of what it returns and leaves. -/
abbrev Key : Type := String × String × String
abbrev AObj : Type := (String × List (Key × Value)) ⊕ (FieldType × List Value)
abbrev AHeap : Type := List AObj
abbrev Meth : Type := MethodName × ByteArray × Nat × Option FieldType × Room
def up (n : Nat) : Value → Value
  | .ref k => .ref (n + k)
  | .retAddr a => .ref a
  | v => v
/-- a reference: null, an object of the plain heap, or one from elsewhere (written '.retAddr', which no method here makes) -/
def rfn : Value → Bool
  | .ref _ => true
  | .null => true
  | .retAddr _ => true
  | _ => false
def upS (n : Nat) : Slot → Slot
  | .val v => .val (up n v)
  | x => x
abbrev loc (n : Nat) (ls : List Slot) : Array Slot := (ls.map (upS n)).toArray
abbrev stk (n : Nat) (st : List Value) : List Value := st.map (up n)
def OR (Z : State) (n : Nat) (h : Heap) (a : Addr) : AObj → Prop
  | .inl x => Exa Z h a x.1 ∧ (∀ (i : Nat) (q : Key × Value), x.2[i]? = some q → Fld Z h a q.1.1 q.1.2.1 q.1.2.2 (up n q.2)) ∧ ∀ (i j : Nat) (q r : Key × Value), i ≠ j → x.2[i]? = some q → x.2[j]? = some r → RoadKit.slotOf Z q.1.1 q.1.2.1 q.1.2.2 ≠ RoadKit.slotOf Z r.1.1 r.1.2.1 r.1.2.2
  | .inr x => ∃ cl : Cell, Arr Z h a cl x.1 ∧ cl.slots = (x.2.map (up n)).toArray
/-- a cell of which nothing is said -/
def junk : AObj := .inr (.object "", [])
def isJ : AObj → Bool
  | .inl _ => false
  | .inr x => match x.1 with
    | .object c => c == ""
    | _ => false
def HR (Z : State) (n : Nat) (h : Heap) (H : AHeap) : Prop := h.size = n + H.length ∧ ∀ k o, H[k]? = some o → isJ o = false → OR Z n h (n + k) o
def Ctx (Z : State) (M : Meth) (p : Program) (s : State) (m : MethodId) (meth : Method) (c : Code) : Prop :=
  p.tables.exec = Jvm.exec ∧ Z.Warmed39 s.vm ∧ s.vm.findClass M.1.cls = some m.cls ∧ c.code = M.2.1 ∧ c.maxLocals = M.2.2.1 ∧ meth.sig.returnType = M.2.2.2.1 ∧ meth.locks = false ∧ meth.name = M.1.name
/-- the end's frame: the plain one, or (a String's constant may have been resolved) the wide one -/
def EndR (b : Bool) (s : State) (o : Outcome) (t : State) (L : List Loc) (k n : Nat) : Prop := match b with
  | false => FrameEnd s o t L k n
  | true => (∃ v : Option Value, o = Outcome.returned v) ∧ s.Warmed39 t.vm ∧ s.Booked t.vm t.heap.size ∧ s.sameButNew ({ t with vm := s.vm } : State) L k n
theorem EndR.of {b : Bool} {s : State} {o : Outcome} {t : State} {L : List Loc} {k n : Nat} (h : FrameEnd s o t L k n) : EndR b s o t L k n := by
  cases b
  · exact h
  · exact ⟨h.1, (h.2.1.since t.heap.size).1, (h.2.1.since t.heap.size).2, h.2.2⟩
def FinR (b : Bool) (Z : State) (n : Nat) (M : Meth) (Q : Option Value → AHeap → Prop) (p : Program) (e : Env) (below : List Frame) (s S : State) : Prop :=
  ∃ s₂ v L H', Steps p.tables e below S s₂ ∧ s₂.status = .running ∧ Ended s₂ below (.returned (v.map (up n))) ∧ Q v H' ∧ HR Z n s₂.heap H' ∧ Fr n L ∧ EndR b s (.returned (v.map (up n))) s₂ L M.2.2.2.2.cells M.2.2.2.2.slots
def WB (b : Bool) (l : Launch) (Z : State) (n : Nat) (M : Meth) (pc : Nat) (ls : List Slot) (st : List Value) (H : AHeap) (ce sl : Nat) (Q : Option Value → AHeap → Prop) : Prop :=
  ∀ (p : Program) (e : Env) (s : State) (m : MethodId) (args : Array Value) (below : List Frame) (meth : Method) (c : Code), Ctx Z M p s m meth c → ∀ (T : State) (locs : List Loc),
    Stand p l e M.2.2.2.2 s m args below meth c T locs ce sl → HR Z n T.heap H → Fr n locs → FinR b Z n M Q p e below s (T.setTop (mkF m pc (loc n ls) (stk n st)))
abbrev W (l : Launch) (Z : State) (n : Nat) (M : Meth) (pc : Nat) (ls : List Slot) (st : List Value) (H : AHeap) (ce sl : Nat) (Q : Option Value → AHeap → Prop) : Prop := WB false l Z n M pc ls st H ce sl Q
/-- the instruction at pc, its length, the pc behind -/
def D (M : Meth) (pc : Nat) (i : Instr) (len pc' : Nat) : Prop := decode M.2.1 pc = .ok (i, len) ∧ pc' = pc + len
/-- a branch: the pc behind, the target -/
def DB (M : Meth) (pc : Nat) (i : Instr) (o : Int) (pc' t : Nat) : Prop := decode M.2.1 pc = .ok (i, 3) ∧ pc' = pc + 3 ∧ 0 ≤ (pc : Int) + o ∧ ((pc : Int) + o).toNat = t

section Facts
variable {Z : State} {n : Nat} {h h' : Heap} {a b : Addr} {x : AObj} {H : AHeap} {sl k : Nat} {v : Value}
theorem up_cat (n : Nat) (v : Value) : (up n v).category = v.category := by cases v <;> rfl
theorem up_rfn (n : Nat) {v : Value} (h : rfn v = true) : (up n v).isRef = true := by cases v <;> first | rfl | (simp [rfn] at h)
theorem up_isRef (n : Nat) {v : Value} (h : v.isRef = true) : (up n v).isRef = true := by cases v <;> first | rfl | (simp [Value.isRef] at h)
theorem rfn_cat {v : Value} (h : rfn v = true) : v.category = 1 := by cases v <;> first | rfl | (simp [rfn] at h)
theorem up_default (n : Nat) (ty : FieldType) : up n (defaultValue ty) = defaultValue ty := by cases ty <;> rfl
theorem up_inj {n : Nat} {v w : Value} (hv : v.isRef = true) (hw : w.isRef = true) (e : up n v = up n w) : v = w := by
  cases v <;> cases w <;> simp_all [up, Value.isRef]
theorem OR.other (W : Wr h h' a sl v) (hne : b ≠ a) : ∀ {x : AObj}, OR Z n h b x → OR Z n h' b x
  | .inl x, o => ⟨o.1.wr W, fun i q hq => (o.2.1 i q hq).other W (Or.inl hne), o.2.2⟩
  | .inr x, ⟨cl, A, e⟩ => ⟨cl, A.other W hne, e⟩
theorem OR.ext (E : Ext h h') : ∀ {x : AObj}, OR Z n h b x → OR Z n h' b x
  | .inl x, o => ⟨o.1.ext E, fun i q hq => (o.2.1 i q hq).ext E, o.2.2⟩
  | .inr x, ⟨cl, A, e⟩ => ⟨cl, A.ext E, e⟩
theorem HR.put (hH : HR Z n h H) (W : Wr h h' (n + k) sl v) (hx : OR Z n h' (n + k) x) : HR Z n h' (H.set k x) := by
  refine ⟨by rw [W.size, List.length_set]; exact hH.1, fun j o hj hJ => ?_⟩
  rw [List.getElem?_set] at hj
  split at hj
  · rename_i e
    subst e
    split at hj
    · cases hj; exact hx
    · cases hj
  · rename_i e
    exact (hH.2 j o hj hJ).other W (fun q => e (Nat.add_left_cancel q).symm)
theorem HR.push (hH : HR Z n h H) (E : Ext h h') (hs : h'.size = h.size + 1) (hx : OR Z n h' h.size x) : HR Z n h' (H ++ [x]) := by
  refine ⟨by rw [hs, hH.1, List.length_append]; rfl, fun j o hj hJ => ?_⟩
  rw [List.getElem?_append] at hj
  split at hj
  · exact (hH.2 j o hj hJ).ext E
  · rename_i e
    have hj' := hj
    cases hq : j - H.length with
    | zero =>
      have hge : H.length ≤ j := Nat.le_of_not_lt e
      have hle : j ≤ H.length := Nat.sub_eq_zero_iff_le.mp hq
      have this : n + j = h.size := by rw [hH.1, Nat.le_antisymm hle hge]
      rw [hq] at hj
      cases hj
      rw [this]; exact hx
    | succ q => rw [hq] at hj; cases hj
theorem OR.field {C : String} {fs : List (Key × Value)} {j : Nat} {O nm d : String} {old w : Value} (o : OR Z n h a (.inl (C, fs))) (hj : fs[j]? = some ((O, nm, d), old)) (W : Wr h h' a (RoadKit.slotOf Z O nm d) (up n w)) : OR Z n h' a (.inl (C, fs.set j ((O, nm, d), w))) := by
  have key : ∀ i q, (fs.set j ((O, nm, d), w))[i]? = some q → ∃ q', fs[i]? = some q' ∧ q'.1 = q.1 ∧ (i = j → q = ((O, nm, d), w)) ∧ (i ≠ j → q' = q) := by
    intro i q hq
    rw [List.getElem?_set] at hq
    split at hq
    · rename_i e
      subst e
      split at hq
      · cases hq; exact ⟨_, hj, rfl, fun _ => rfl, fun q => absurd rfl q⟩
      · cases hq
    · rename_i e
      exact ⟨q, hq, rfl, fun q => absurd q.symm e, fun _ => rfl⟩
  obtain ⟨o1, o2, o3⟩ := o
  refine ⟨o1.wr W, fun i q hq => ?_, fun i i' q r hne hq hr => ?_⟩
  · obtain ⟨q', g1, g2, g3, g4⟩ := key i q hq
    by_cases e : i = j
    · rw [g3 e]
      subst e
      cases hj.symm.trans g1
      have o4 : Fld Z h a O nm d (up n old) := o2 i _ hj
      exact o4.same W
    · obtain rfl := g4 e
      have hne : RoadKit.slotOf Z q'.1.1 q'.1.2.1 q'.1.2.2 ≠ RoadKit.slotOf Z O nm d := o3 i j q' ((O, nm, d), old) e g1 hj
      exact (o2 i q' g1).other W (Or.inr hne)
  · obtain ⟨q', g1, g2, -⟩ := key i q hq
    obtain ⟨r', k1, k2, -⟩ := key i' r hr
    have := o3 i i' q' r' hne g1 k1
    rw [g2, k2] at this; exact this
theorem OR.elem {ty : FieldType} {vs : List Value} {i : Nat} {w : Value} (o : OR Z n h a (.inr (ty, vs))) (W : Wr h h' a i (up n w)) : OR Z n h' a (.inr (ty, vs.set i w)) := by
  obtain ⟨cl, A, e⟩ := o
  refine ⟨_, A.same W, ?_⟩
  show cl.slots.setIfInBounds i (up n w) = _
  rw [e, List.setIfInBounds_toArray, List.map_set]
end Facts

/-- a class as the sheet lays it: its words, its fields at their first values -/
def OkC (a0 : Array Value) (Z : State) (C : String) (k : Nat) (fs : List (Key × Value)) : Prop :=
  (Cond.instantiable C k).before a0 Z = true ∧ (Cond.initialized C).before a0 Z = true ∧ (∀ q ∈ fs, ∃ ty, Laid Z a0 C q.1.1 q.1.2.1 q.1.2.2 ∧ parseFieldDescriptor q.1.2.2 = some ty ∧ q.2 = defaultValue ty) ∧ fs.Pairwise (fun q r => q.1.2.1 ≠ r.1.2.1)
theorem OkC.slots {a0 : Array Value} {Z : State} {C : String} {k : Nat} {fs : List (Key × Value)} (K : OkC a0 Z C k fs) : ∀ (i j : Nat) (q r : Key × Value), i ≠ j → fs[i]? = some q → fs[j]? = some r → RoadKit.slotOf Z q.1.1 q.1.2.1 q.1.2.2 ≠ RoadKit.slotOf Z r.1.1 r.1.2.1 r.1.2.2 := by
  intro i j q r hne hq hr
  obtain ⟨t, L, p1, -⟩ := K.2.2.1 q (List.mem_of_getElem? hq)
  obtain ⟨t', L', p2, -⟩ := K.2.2.1 r (List.mem_of_getElem? hr)
  obtain ⟨hi, ei⟩ := List.getElem?_eq_some_iff.mp hq
  obtain ⟨hj, ej⟩ := List.getElem?_eq_some_iff.mp hr
  have P := List.pairwise_iff_getElem.mp K.2.2.2
  refine slot_ne L L' ?_ p1 p2
  rcases Nat.lt_or_gt_of_ne hne with g | g
  · have := P i j hi hj g; rw [ei, ej] at this; exact this
  · have := P j i hj hi g; rw [ei, ej] at this; exact Ne.symm this

section Locals
variable {n : Nat} {ls : List Slot} {i : Nat} {x : Slot} {v : Value}
theorem loc_get (hl : ls[i]? = some x) : (loc n ls)[i]? = some (upS n x) := by
  simp [loc, hl]
def one (ls : List Slot) (i : Nat) : Bool := match ls[i]? with
  | some .unset => true
  | some (.val w) => w.category == 1
  | _ => false
/-- a long may be stored at i: the two places are there, and no other long is cut in two -/
def two (ls : List Slot) (i : Nat) : Bool := match ls[i]?, ls[i + 1]? with
  | some .unset, some .unset => true
  | some .unset, some (.val w) => w.category == 1
  | some (.val u), some .unset => u.category == 1
  | some (.val u), some (.val w) => u.category == 1 && w.category == 1
  | some (.val u), some .second => u.category == 2
  | _, _ => false
theorem loc_set (n : Nat) (ls : List Slot) (i : Nat) (x : Slot) : (loc n ls).setIfInBounds i (upS n x) = loc n (ls.set i x) := by
  simp [loc, List.map_set]
theorem store_1 (ho : one ls i = true) (hv : v.category = 1) : storeLocals (loc n ls) i (up n v) = some (loc n (ls.set i (.val v))) := by
  have : ∃ o, ls[i]? = some o ∧ (o = .unset ∨ ∃ w, o = .val w ∧ w.category = 1) := by
    unfold one at ho
    split at ho
    · rename_i h; exact ⟨_, h, Or.inl rfl⟩
    · rename_i w h; exact ⟨_, h, Or.inr ⟨w, rfl, by simpa using ho⟩⟩
    · cases ho
  obtain ⟨o, h1, h2⟩ := this
  rw [XS.store1 (loc_get (n := n) h1) ?_ ((up_cat n v).trans hv)]
  · exact congrArg some (loc_set n ls i (.val v))
  · rcases h2 with rfl | ⟨w, rfl, hw⟩
    · exact Or.inl rfl
    · exact Or.inr ⟨up n w, rfl, (up_cat n w).trans hw⟩
theorem setAt_eq {l : Array Slot} {i : Nat} (x : Slot) (h : i < l.size) : setAt l i x = some (l.setIfInBounds i x) := by simp [setAt, h]
theorem store_2 {y : Int64} (ho : two ls i = true) : storeLocals (loc n ls) i (.long y) = some (loc n ((ls.set i (.val (.long y))).set (i + 1) .second)) := by
  have e2 : (loc n ls).setIfInBounds i (.val (.long y)) = loc n (ls.set i (.val (.long y))) := loc_set n ls i (.val (.long y))
  have e3 : (loc n (ls.set i (.val (.long y)))).setIfInBounds (i + 1) .second = loc n ((ls.set i (.val (.long y))).set (i + 1) .second) := loc_set n _ (i + 1) .second
  have key : ∀ a b, ls[i]? = some a → ls[i + 1]? = some b → i < (loc n ls).size ∧ i + 1 < (loc n ls).size ∧ (loc n ls)[i]? = some (upS n a) ∧ (loc n ls)[i + 1]? = some (upS n b) := by
    intro a b h1 h2
    have g1 := (List.getElem?_eq_some_iff.mp h1).1
    have g2 := (List.getElem?_eq_some_iff.mp h2).1
    exact ⟨by simpa [loc] using g1, by simpa [loc] using g2, loc_get h1, loc_get h2⟩
  unfold two at ho
  split at ho
  · rename_i h1 h2
    obtain ⟨s1, s2, g1, g2⟩ := key _ _ h1 h2
    have g3 : ((loc n ls).setIfInBounds i (.val (.long y)))[i + 1]? = some .unset := by rw [Array.getElem?_setIfInBounds_ne (by omega)]; exact g2
    simp only [storeLocals, storeSelf, g1, upS, setAt_eq _ s1, Option.bind_eq_bind, Option.bind_some, Value.category, if_true, g3]
    rw [setAt_eq _ (by simpa using s2), e2, e3]
  · rename_i w h1 h2
    obtain ⟨s1, s2, g1, g2⟩ := key _ _ h1 h2
    have g3 : ((loc n ls).setIfInBounds i (.val (.long y)))[i + 1]? = some (.val (up n w)) := by rw [Array.getElem?_setIfInBounds_ne (by omega)]; exact g2
    have hw : (up n w).category = 1 := (up_cat n w).trans (by simpa using ho)
    have hw2 : ¬ (up n w).category = 2 := by rw [hw]; decide
    simp only [storeLocals, storeSelf, g1, upS, setAt_eq _ s1, Option.bind_eq_bind, Option.bind_some, show (Value.long y).category = 2 from rfl, if_true, g3, if_neg hw2]
    rw [setAt_eq _ (by simpa using s2), e2, e3]
  · rename_i u h1 h2
    obtain ⟨s1, s2, g1, g2⟩ := key _ _ h1 h2
    have g3 : ((loc n ls).setIfInBounds i (.val (.long y)))[i + 1]? = some .unset := by rw [Array.getElem?_setIfInBounds_ne (by omega)]; exact g2
    have hu : (up n u).category = 1 := (up_cat n u).trans (by simpa using ho)
    simp only [storeLocals, storeSelf, g1, upS, setAt_eq _ s1, Option.bind_eq_bind, Option.bind_some, hu, show ((1 : Nat) = 2) = False from by simp, if_false, g3]
    simp only [Value.category, if_true]
    rw [setAt_eq _ (by simpa using s2), e2, e3]
  · rename_i u w h1 h2
    obtain ⟨s1, s2, g1, g2⟩ := key _ _ h1 h2
    simp only [Bool.and_eq_true, beq_iff_eq] at ho
    have g3 : ((loc n ls).setIfInBounds i (.val (.long y)))[i + 1]? = some (.val (up n w)) := by rw [Array.getElem?_setIfInBounds_ne (by omega)]; exact g2
    have hu : (up n u).category = 1 := (up_cat n u).trans ho.1
    have hw : (up n w).category = 1 := (up_cat n w).trans ho.2
    simp only [storeLocals, storeSelf, g1, upS, setAt_eq _ s1, Option.bind_eq_bind, Option.bind_some, hu, hw, show ((1 : Nat) = 2) = False from by simp, if_false, g3]
    simp only [Value.category, if_true]
    rw [setAt_eq _ (by simpa using s2), e2, e3]
  · rename_i u h1 h2
    obtain ⟨s1, s2, g1, g2⟩ := key _ _ h1 h2
    have hu : (up n u).category = 2 := (up_cat n u).trans (by simpa using ho)
    have s3 : i < ((loc n ls).setIfInBounds (i + 1) .unset).size := by simpa using s1
    have g3 : (((loc n ls).setIfInBounds (i + 1) .unset).setIfInBounds i (.val (.long y)))[i + 1]? = some .unset := by rw [Array.getElem?_setIfInBounds_ne (by omega)]; simp [show i + 1 < ls.length by simpa [loc] using s2]
    simp only [storeLocals, storeSelf, g1, upS, setAt_eq _ s2, setAt_eq _ s3, Option.bind_eq_bind, Option.bind_some, hu, if_true, g3]
    simp only [Value.category, if_true]
    rw [setAt_eq _ (by simpa using s2)]
    rw [← e3, ← e2]
    congr 1
    apply Array.ext_getElem?
    intro j
    simp only [Array.getElem?_setIfInBounds, Array.size_setIfInBounds]
    by_cases q : i + 1 = j
    · simp [q]
    · by_cases q2 : i = j <;> simp [q, q2]
  · cases ho
end Locals

section Rules
variable {b : Bool} {l : Launch} {Z : State} {n : Nat} {M : Meth} {pc pc' : Nat} {ls ls' : List Slot} {st st' : List Value} {H H' : AHeap} {ce sl ce' sl' : Nat} {Q : Option Value → AHeap → Prop} {a0 : Array Value}
theorem W.step (go : ∀ (p : Program) (e : Env) (s : State) (m : MethodId) (args : Array Value) (below : List Frame) (meth : Method) (c : Code), Ctx Z M p s m meth c → ∀ (T : State) (locs : List Loc), Stand p l e M.2.2.2.2 s m args below meth c T locs ce sl → HR Z n T.heap H → Fr n locs →
      ∃ T' locs', Stand p l e M.2.2.2.2 s m args below meth c T' locs' ce' sl' ∧ HR Z n T'.heap H' ∧ Fr n locs' ∧ ∀ target, Steps p.tables e below (T'.setTop (mkF m pc' (loc n ls') (stk n st'))) target → Steps p.tables e below (T.setTop (mkF m pc (loc n ls) (stk n st))) target)
    (k : WB b l Z n M pc' ls' st' H' ce' sl' Q) : WB b l Z n M pc ls st H ce sl Q := fun p e s m args below meth c C T locs X hH hF => by
  obtain ⟨T', locs', X', hH', hF', stp⟩ := go p e s m args below meth c C T locs X hH hF
  obtain ⟨s₂, v, L, H'', h1, r⟩ := k p e s m args below meth c C T' locs' X' hH' hF'
  exact ⟨s₂, v, L, H'', stp _ h1, r⟩
theorem W.pure (go : ∀ (p : Program) (e : Env) (s : State) (m : MethodId) (args : Array Value) (below : List Frame) (meth : Method) (c : Code), Ctx Z M p s m meth c → ∀ (T : State) (locs : List Loc), Stand p l e M.2.2.2.2 s m args below meth c T locs ce sl →
      ∀ target, Steps p.tables e below (T.setTop (mkF m pc' (loc n ls') (stk n st'))) target → Steps p.tables e below (T.setTop (mkF m pc (loc n ls) (stk n st))) target)
    (k : WB b l Z n M pc' ls' st' H ce sl Q) : WB b l Z n M pc ls st H ce sl Q :=
  W.step (fun p e s m args below meth c C T locs X hH hF => ⟨T, locs, X, hH, hF, go p e s m args below meth c C T locs X⟩) k
theorem W.more (h1 : ce ≤ ce') (h2 : sl ≤ sl') (k : WB b l Z n M pc ls st H ce' sl' Q) : WB b l Z n M pc ls st H ce sl Q :=
  W.step (fun p e s m args below meth c C T locs X hH hF => ⟨T, locs, X.more h1 h2, hH, hF, fun _ h => h⟩) k
theorem W.mono {Q' : Option Value → AHeap → Prop} (k : WB b l Z n M pc ls st H ce sl Q') (hq : ∀ v H', Q' v H' → Q v H') : WB b l Z n M pc ls st H ce sl Q := fun p e s m args below meth c C T locs X hH hF => by
  obtain ⟨s₂, v, L, H'', h1, h2, h3, h4, r⟩ := k p e s m args below meth c C T locs X hH hF
  exact ⟨s₂, v, L, H'', h1, h2, h3, hq _ _ h4, r⟩
theorem W.iadd {x y : Int32} (hd : D M pc .iadd 1 pc') (k : WB b l Z n M pc' ls (.int (x + y) :: st) H ce sl Q) : WB b l Z n M pc ls (.int y :: .int x :: st) H ce sl Q := by
  obtain ⟨hd, rfl⟩ := hd
  exact W.pure (fun p e s m args below meth c C T locs X target h => XS.iadd X.here C.1 rfl (hb C.2.2.2.1 hd) rfl h) k
theorem W.isub {x y : Int32} (hd : D M pc .isub 1 pc') (k : WB b l Z n M pc' ls (.int (x - y) :: st) H ce sl Q) : WB b l Z n M pc ls (.int y :: .int x :: st) H ce sl Q := by
  obtain ⟨hd, rfl⟩ := hd
  exact W.pure (fun p e s m args below meth c C T locs X target h => XS.isub X.here C.1 rfl (hb C.2.2.2.1 hd) rfl h) k
theorem W.imul {x y : Int32} (hd : D M pc .imul 1 pc') (k : WB b l Z n M pc' ls (.int (x * y) :: st) H ce sl Q) : WB b l Z n M pc ls (.int y :: .int x :: st) H ce sl Q := by
  obtain ⟨hd, rfl⟩ := hd
  exact W.pure (fun p e s m args below meth c C T locs X target h => XS.imul X.here C.1 rfl (hb C.2.2.2.1 hd) rfl h) k
theorem W.iand {x y : Int32} (hd : D M pc .iand 1 pc') (k : WB b l Z n M pc' ls (.int (x &&& y) :: st) H ce sl Q) : WB b l Z n M pc ls (.int y :: .int x :: st) H ce sl Q := by
  obtain ⟨hd, rfl⟩ := hd
  exact W.pure (fun p e s m args below meth c C T locs X target h => XS.iand X.here C.1 rfl (hb C.2.2.2.1 hd) rfl h) k
theorem W.ior {x y : Int32} (hd : D M pc .ior 1 pc') (k : WB b l Z n M pc' ls (.int (x ||| y) :: st) H ce sl Q) : WB b l Z n M pc ls (.int y :: .int x :: st) H ce sl Q := by
  obtain ⟨hd, rfl⟩ := hd
  exact W.pure (fun p e s m args below meth c C T locs X target h => XT.ior X.here C.1 rfl (hb C.2.2.2.1 hd) rfl h) k
theorem W.ixor {x y : Int32} (hd : D M pc .ixor 1 pc') (k : WB b l Z n M pc' ls (.int (x ^^^ y) :: st) H ce sl Q) : WB b l Z n M pc ls (.int y :: .int x :: st) H ce sl Q := by
  obtain ⟨hd, rfl⟩ := hd
  exact W.pure (fun p e s m args below meth c C T locs X target h => XT.ixor X.here C.1 rfl (hb C.2.2.2.1 hd) rfl h) k
theorem W.ishl {x y : Int32} (hd : D M pc .ishl 1 pc') (k : WB b l Z n M pc' ls (.int (x <<< (y &&& 31)) :: st) H ce sl Q) : WB b l Z n M pc ls (.int y :: .int x :: st) H ce sl Q := by
  obtain ⟨hd, rfl⟩ := hd
  exact W.pure (fun p e s m args below meth c C T locs X target h => XT.ishl X.here C.1 rfl (hb C.2.2.2.1 hd) rfl h) k
theorem W.ishr {x y : Int32} (hd : D M pc .ishr 1 pc') (k : WB b l Z n M pc' ls (.int (x >>> (y &&& 31)) :: st) H ce sl Q) : WB b l Z n M pc ls (.int y :: .int x :: st) H ce sl Q := by
  obtain ⟨hd, rfl⟩ := hd
  exact W.pure (fun p e s m args below meth c C T locs X target h => XT.ishr X.here C.1 rfl (hb C.2.2.2.1 hd) rfl h) k
theorem W.iushr {x y : Int32} (hd : D M pc .iushr 1 pc') (k : WB b l Z n M pc' ls (.int (XT.ushr x y) :: st) H ce sl Q) : WB b l Z n M pc ls (.int y :: .int x :: st) H ce sl Q := by
  obtain ⟨hd, rfl⟩ := hd
  exact W.pure (fun p e s m args below meth c C T locs X target h => XT.iushr X.here C.1 rfl (hb C.2.2.2.1 hd) rfl h) k
theorem W.ladd {x y : Int64} (hd : D M pc .ladd 1 pc') (k : WB b l Z n M pc' ls (.long (x + y) :: st) H ce sl Q) : WB b l Z n M pc ls (.long y :: .long x :: st) H ce sl Q := by
  obtain ⟨hd, rfl⟩ := hd
  exact W.pure (fun p e s m args below meth c C T locs X target h => XT.ladd X.here C.1 rfl (hb C.2.2.2.1 hd) rfl h) k
theorem W.lsub {x y : Int64} (hd : D M pc .lsub 1 pc') (k : WB b l Z n M pc' ls (.long (x - y) :: st) H ce sl Q) : WB b l Z n M pc ls (.long y :: .long x :: st) H ce sl Q := by
  obtain ⟨hd, rfl⟩ := hd
  exact W.pure (fun p e s m args below meth c C T locs X target h => XT.lsub X.here C.1 rfl (hb C.2.2.2.1 hd) rfl h) k
theorem W.lmul {x y : Int64} (hd : D M pc .lmul 1 pc') (k : WB b l Z n M pc' ls (.long (x * y) :: st) H ce sl Q) : WB b l Z n M pc ls (.long y :: .long x :: st) H ce sl Q := by
  obtain ⟨hd, rfl⟩ := hd
  exact W.pure (fun p e s m args below meth c C T locs X target h => XT.lmul X.here C.1 rfl (hb C.2.2.2.1 hd) rfl h) k
theorem W.land {x y : Int64} (hd : D M pc .land 1 pc') (k : WB b l Z n M pc' ls (.long (x &&& y) :: st) H ce sl Q) : WB b l Z n M pc ls (.long y :: .long x :: st) H ce sl Q := by
  obtain ⟨hd, rfl⟩ := hd
  exact W.pure (fun p e s m args below meth c C T locs X target h => XT.land X.here C.1 rfl (hb C.2.2.2.1 hd) rfl h) k
theorem W.lor {x y : Int64} (hd : D M pc .lor 1 pc') (k : WB b l Z n M pc' ls (.long (x ||| y) :: st) H ce sl Q) : WB b l Z n M pc ls (.long y :: .long x :: st) H ce sl Q := by
  obtain ⟨hd, rfl⟩ := hd
  exact W.pure (fun p e s m args below meth c C T locs X target h => XT.lor X.here C.1 rfl (hb C.2.2.2.1 hd) rfl h) k
theorem W.lxor {x y : Int64} (hd : D M pc .lxor 1 pc') (k : WB b l Z n M pc' ls (.long (x ^^^ y) :: st) H ce sl Q) : WB b l Z n M pc ls (.long y :: .long x :: st) H ce sl Q := by
  obtain ⟨hd, rfl⟩ := hd
  exact W.pure (fun p e s m args below meth c C T locs X target h => XT.lxor X.here C.1 rfl (hb C.2.2.2.1 hd) rfl h) k
theorem W.lshl {x : Int64} {y : Int32} (hd : D M pc .lshl 1 pc') (k : WB b l Z n M pc' ls (.long (x <<< (y &&& 0x3f).toInt64) :: st) H ce sl Q) : WB b l Z n M pc ls (.int y :: .long x :: st) H ce sl Q := by
  obtain ⟨hd, rfl⟩ := hd
  exact W.pure (fun p e s m args below meth c C T locs X target h => XS.lshl X.here C.1 rfl (hb C.2.2.2.1 hd) rfl h) k
theorem W.lshr {x : Int64} {y : Int32} (hd : D M pc .lshr 1 pc') (k : WB b l Z n M pc' ls (.long (x >>> (y &&& 0x3f).toInt64) :: st) H ce sl Q) : WB b l Z n M pc ls (.int y :: .long x :: st) H ce sl Q := by
  obtain ⟨hd, rfl⟩ := hd
  exact W.pure (fun p e s m args below meth c C T locs X target h => XS.lshr X.here C.1 rfl (hb C.2.2.2.1 hd) rfl h) k
theorem W.lushr {x : Int64} {y : Int32} (hd : D M pc .lushr 1 pc') (k : WB b l Z n M pc' ls (.long (XT.ushrL x y) :: st) H ce sl Q) : WB b l Z n M pc ls (.int y :: .long x :: st) H ce sl Q := by
  obtain ⟨hd, rfl⟩ := hd
  exact W.pure (fun p e s m args below meth c C T locs X target h => XT.lushr X.here C.1 rfl (hb C.2.2.2.1 hd) rfl h) k
theorem W.idiv {x y : Int32} (hd : D M pc .idiv 1 pc') (hy : y ≠ 0) (k : WB b l Z n M pc' ls (.int (x / y) :: st) H ce sl Q) : WB b l Z n M pc ls (.int y :: .int x :: st) H ce sl Q := by
  obtain ⟨hd, rfl⟩ := hd
  exact W.pure (fun p e s m args below meth c C T locs X target h => XS.idiv X.here C.1 rfl (hb C.2.2.2.1 hd) rfl hy h) k
theorem W.irem {x y : Int32} (hd : D M pc .irem 1 pc') (hy : y ≠ 0) (k : WB b l Z n M pc' ls (.int (x % y) :: st) H ce sl Q) : WB b l Z n M pc ls (.int y :: .int x :: st) H ce sl Q := by
  obtain ⟨hd, rfl⟩ := hd
  exact W.pure (fun p e s m args below meth c C T locs X target h => iremM X C.1 rfl (hb C.2.2.2.1 hd) rfl hy h) k
theorem W.ldiv {x y : Int64} (hd : D M pc .ldiv 1 pc') (hy : y ≠ 0) (k : WB b l Z n M pc' ls (.long (x / y) :: st) H ce sl Q) : WB b l Z n M pc ls (.long y :: .long x :: st) H ce sl Q := by
  obtain ⟨hd, rfl⟩ := hd
  exact W.pure (fun p e s m args below meth c C T locs X target h => XT.ldiv X.here C.1 rfl (hb C.2.2.2.1 hd) rfl hy h) k
theorem W.lrem {x y : Int64} (hd : D M pc .lrem 1 pc') (hy : y ≠ 0) (k : WB b l Z n M pc' ls (.long (x % y) :: st) H ce sl Q) : WB b l Z n M pc ls (.long y :: .long x :: st) H ce sl Q := by
  obtain ⟨hd, rfl⟩ := hd
  exact W.pure (fun p e s m args below meth c C T locs X target h => XT.lrem X.here C.1 rfl (hb C.2.2.2.1 hd) rfl hy (by rw [lrem_mod]; exact h)) k
theorem W.ineg {x : Int32} (hd : D M pc .ineg 1 pc') (k : WB b l Z n M pc' ls (.int (-x) :: st) H ce sl Q) : WB b l Z n M pc ls (.int x :: st) H ce sl Q := by
  obtain ⟨hd, rfl⟩ := hd
  exact W.pure (fun p e s m args below meth c C T locs X target h => XS.ineg X.here C.1 rfl (hb C.2.2.2.1 hd) rfl h) k
theorem W.lneg {x : Int64} (hd : D M pc .lneg 1 pc') (k : WB b l Z n M pc' ls (.long (-x) :: st) H ce sl Q) : WB b l Z n M pc ls (.long x :: st) H ce sl Q := by
  obtain ⟨hd, rfl⟩ := hd
  exact W.pure (fun p e s m args below meth c C T locs X target h => XT.lneg X.here C.1 rfl (hb C.2.2.2.1 hd) rfl h) k
theorem W.i2l {x : Int32} (hd : D M pc .i2l 1 pc') (k : WB b l Z n M pc' ls (.long (x.toInt64) :: st) H ce sl Q) : WB b l Z n M pc ls (.int x :: st) H ce sl Q := by
  obtain ⟨hd, rfl⟩ := hd
  exact W.pure (fun p e s m args below meth c C T locs X target h => XT.i2l X.here C.1 rfl (hb C.2.2.2.1 hd) rfl h) k
theorem W.l2i {x : Int64} (hd : D M pc .l2i 1 pc') (k : WB b l Z n M pc' ls (.int (x.toInt32) :: st) H ce sl Q) : WB b l Z n M pc ls (.long x :: st) H ce sl Q := by
  obtain ⟨hd, rfl⟩ := hd
  exact W.pure (fun p e s m args below meth c C T locs X target h => XT.l2i X.here C.1 rfl (hb C.2.2.2.1 hd) rfl h) k
theorem W.i2b {x : Int32} (hd : D M pc .i2b 1 pc') (k : WB b l Z n M pc' ls (.int (x.toInt8.toInt32) :: st) H ce sl Q) : WB b l Z n M pc ls (.int x :: st) H ce sl Q := by
  obtain ⟨hd, rfl⟩ := hd
  exact W.pure (fun p e s m args below meth c C T locs X target h => XT.i2b X.here C.1 rfl (hb C.2.2.2.1 hd) rfl h) k
theorem W.i2s {x : Int32} (hd : D M pc .i2s 1 pc') (k : WB b l Z n M pc' ls (.int (x.toInt16.toInt32) :: st) H ce sl Q) : WB b l Z n M pc ls (.int x :: st) H ce sl Q := by
  obtain ⟨hd, rfl⟩ := hd
  exact W.pure (fun p e s m args below meth c C T locs X target h => XT.i2s X.here C.1 rfl (hb C.2.2.2.1 hd) rfl h) k
theorem W.lcmp {x y : Int64} (hd : D M pc .lcmp 1 pc') (k : WB b l Z n M pc' ls (.int (XT.cmpL x y) :: st) H ce sl Q) : WB b l Z n M pc ls (.long y :: .long x :: st) H ce sl Q := by
  obtain ⟨hd, rfl⟩ := hd
  exact W.pure (fun p e s m args below meth c C T locs X target h => XT.lcmp X.here C.1 rfl (hb C.2.2.2.1 hd) rfl h) k
theorem W.iconst {i : Int} (v : Int32) (hd : D M pc (.iconst i) 1 pc') (hv : Int32.ofInt i = v) (k : WB b l Z n M pc' ls (.int v :: st) H ce sl Q) : WB b l Z n M pc ls st H ce sl Q := by
  obtain ⟨hd, rfl⟩ := hd
  exact W.pure (fun p e s m args below meth c C T locs X target h => XT.iconstV X.here C.1 rfl v (hb C.2.2.2.1 hd) hv h) k
theorem W.bipush {i : Int} (v : Int32) (hd : D M pc (.bipush i) 2 pc') (hv : (Int8.ofInt i).toInt32 = v) (k : WB b l Z n M pc' ls (.int v :: st) H ce sl Q) : WB b l Z n M pc ls st H ce sl Q := by
  obtain ⟨hd, rfl⟩ := hd
  exact W.pure (fun p e s m args below meth c C T locs X target h => XT.bipushV X.here C.1 rfl v (hb C.2.2.2.1 hd) hv h) k
theorem W.sipush {i : Int} (v : Int32) (hd : D M pc (.sipush i) 3 pc') (hv : (Int16.ofInt i).toInt32 = v) (k : WB b l Z n M pc' ls (.int v :: st) H ce sl Q) : WB b l Z n M pc ls st H ce sl Q := by
  obtain ⟨hd, rfl⟩ := hd
  exact W.pure (fun p e s m args below meth c C T locs X target h => XT.sipushV X.here C.1 rfl v (hb C.2.2.2.1 hd) hv h) k
theorem W.lconst {i : Fin 2} (v : Int64) (hd : D M pc (.lconst i) 1 pc') (hv : Int64.ofNat i = v) (k : WB b l Z n M pc' ls (.long v :: st) H ce sl Q) : WB b l Z n M pc ls st H ce sl Q := by
  obtain ⟨hd, rfl⟩ := hd
  exact W.pure (fun p e s m args below meth c C T locs X target h => XT.lconstV X.here C.1 rfl v (hb C.2.2.2.1 hd) hv h) k
theorem W.aconst  (hd : D M pc .aconst_null 1 pc') (k : WB b l Z n M pc' ls (.null :: st) H ce sl Q) : WB b l Z n M pc ls st H ce sl Q := by
  obtain ⟨hd, rfl⟩ := hd
  exact W.pure (fun p e s m args below meth c C T locs X target h => XS.aconstNull X.here C.1 rfl (hb C.2.2.2.1 hd) h) k
theorem W.ldc {i : Nat} {v : Int32} (hd : D M pc (.ldc i) 2 pc') (w : (Cond.constant M.1.cls i v).before a0 Z = true) (k : WB b l Z n M pc' ls (.int v :: st) H ce sl Q) : WB b l Z n M pc ls st H ce sl Q := by
  obtain ⟨hd, rfl⟩ := hd
  exact W.pure (fun p e s m args below meth c C T locs X target h => X.ldcI C.1 C.2.2.1 (mvT C.2.1 w) rfl (hb C.2.2.2.1 hd) h) k
theorem W.ldc2 {i : Nat} {v : Int64} (hd : D M pc (.ldc2_w i) 3 pc') (w : (Cond.constantLong M.1.cls i v).before a0 Z = true) (k : WB b l Z n M pc' ls (.long v :: st) H ce sl Q) : WB b l Z n M pc ls st H ce sl Q := by
  obtain ⟨hd, rfl⟩ := hd
  exact W.pure (fun p e s m args below meth c C T locs X target h => X.ldc2J C.1 C.2.2.1 (mvT C.2.1 w) rfl (hb C.2.2.2.1 hd) h) k
theorem W.iloadN {i : Fin 4} {v : Int32} (hd : D M pc (.iload_n i) 1 pc') (hl : ls[i.val]? = some (.val (.int v))) (k : WB b l Z n M pc' ls (.int v :: st) H ce sl Q) : WB b l Z n M pc ls st H ce sl Q := by
  obtain ⟨hd, rfl⟩ := hd
  exact W.pure (fun p e s m args below meth c C T locs X target h => XS.iloadN X.here C.1 rfl (hb C.2.2.2.1 hd) (loc_get hl) h) k
theorem W.iload {i : Nat} {v : Int32} (hd : D M pc (.iload i) 2 pc') (hl : ls[i]? = some (.val (.int v))) (k : WB b l Z n M pc' ls (.int v :: st) H ce sl Q) : WB b l Z n M pc ls st H ce sl Q := by
  obtain ⟨hd, rfl⟩ := hd
  exact W.pure (fun p e s m args below meth c C T locs X target h => XS.iload X.here C.1 rfl (hb C.2.2.2.1 hd) (loc_get hl) h) k
theorem W.lloadN {i : Fin 4} {v : Int64} (hd : D M pc (.lload_n i) 1 pc') (hl : ls[i.val]? = some (.val (.long v))) (k : WB b l Z n M pc' ls (.long v :: st) H ce sl Q) : WB b l Z n M pc ls st H ce sl Q := by
  obtain ⟨hd, rfl⟩ := hd
  exact W.pure (fun p e s m args below meth c C T locs X target h => XT.lloadN X.here C.1 rfl (hb C.2.2.2.1 hd) (loc_get hl) h) k
theorem W.lload {i : Nat} {v : Int64} (hd : D M pc (.lload i) 2 pc') (hl : ls[i]? = some (.val (.long v))) (k : WB b l Z n M pc' ls (.long v :: st) H ce sl Q) : WB b l Z n M pc ls st H ce sl Q := by
  obtain ⟨hd, rfl⟩ := hd
  exact W.pure (fun p e s m args below meth c C T locs X target h => XT.lload X.here C.1 rfl (hb C.2.2.2.1 hd) (loc_get hl) h) k
theorem W.aloadN {i : Fin 4} {v : Value} (hd : D M pc (.aload_n i) 1 pc') (hl : ls[i.val]? = some (.val v)) (hv : rfn v = true) (k : WB b l Z n M pc' ls (v :: st) H ce sl Q) : WB b l Z n M pc ls st H ce sl Q := by
  obtain ⟨hd, rfl⟩ := hd
  exact W.pure (fun p e s m args below meth c C T locs X target h => XS.aloadN X.here C.1 rfl (hb C.2.2.2.1 hd) (loc_get hl) (up_rfn n hv) h) k
theorem W.aload {i : Nat} {v : Value} (hd : D M pc (.aload i) 2 pc') (hl : ls[i]? = some (.val v)) (hv : rfn v = true) (k : WB b l Z n M pc' ls (v :: st) H ce sl Q) : WB b l Z n M pc ls st H ce sl Q := by
  obtain ⟨hd, rfl⟩ := hd
  exact W.pure (fun p e s m args below meth c C T locs X target h => XS.aload X.here C.1 rfl (hb C.2.2.2.1 hd) (loc_get hl) (up_rfn n hv) h) k
theorem W.istoreN {i : Fin 4} {v : Int32} (hd : D M pc (.istore_n i) 1 pc') (ho : one ls i.val = true) (k : WB b l Z n M pc' (ls.set i.val (.val (.int v))) st H ce sl Q) : WB b l Z n M pc ls (.int v :: st) H ce sl Q := by
  obtain ⟨hd, rfl⟩ := hd
  exact W.pure (fun p e s m args below meth c C T locs X target h => XS.istoreN X.here C.1 rfl (hb C.2.2.2.1 hd) rfl (store_1 (v := .int v) ho rfl) h) k
theorem W.istore {i : Nat} {v : Int32} (hd : D M pc (.istore i) 2 pc') (ho : one ls i = true) (k : WB b l Z n M pc' (ls.set i (.val (.int v))) st H ce sl Q) : WB b l Z n M pc ls (.int v :: st) H ce sl Q := by
  obtain ⟨hd, rfl⟩ := hd
  exact W.pure (fun p e s m args below meth c C T locs X target h => XS.istore X.here C.1 rfl (hb C.2.2.2.1 hd) rfl (store_1 (v := .int v) ho rfl) h) k
theorem W.astoreN {i : Fin 4} {v : Value} (hd : D M pc (.astore_n i) 1 pc') (ho : one ls i.val = true) (hv : rfn v = true) (k : WB b l Z n M pc' (ls.set i.val (.val v)) st H ce sl Q) : WB b l Z n M pc ls (v :: st) H ce sl Q := by
  obtain ⟨hd, rfl⟩ := hd
  exact W.pure (fun p e s m args below meth c C T locs X target h => XS.astoreN X.here C.1 rfl (hb C.2.2.2.1 hd) rfl (up_rfn n hv) (store_1 ho (rfn_cat hv)) h) k
theorem W.astore {i : Nat} {v : Value} (hd : D M pc (.astore i) 2 pc') (ho : one ls i = true) (hv : rfn v = true) (k : WB b l Z n M pc' (ls.set i (.val v)) st H ce sl Q) : WB b l Z n M pc ls (v :: st) H ce sl Q := by
  obtain ⟨hd, rfl⟩ := hd
  exact W.pure (fun p e s m args below meth c C T locs X target h => XS.astore X.here C.1 rfl (hb C.2.2.2.1 hd) rfl (up_rfn n hv) (store_1 ho (rfn_cat hv)) h) k
theorem W.lstoreN {i : Fin 4} {v : Int64} (hd : D M pc (.lstore_n i) 1 pc') (ho : two ls i.val = true) (k : WB b l Z n M pc' ((ls.set i.val (.val (.long v))).set (i.val + 1) .second) st H ce sl Q) : WB b l Z n M pc ls (.long v :: st) H ce sl Q := by
  obtain ⟨hd, rfl⟩ := hd
  exact W.pure (fun p e s m args below meth c C T locs X target h => XT.lstoreN X.here C.1 rfl (hb C.2.2.2.1 hd) rfl (store_2 ho) h) k
theorem W.lstore {i : Nat} {v : Int64} (hd : D M pc (.lstore i) 2 pc') (ho : two ls i = true) (k : WB b l Z n M pc' ((ls.set i (.val (.long v))).set (i + 1) .second) st H ce sl Q) : WB b l Z n M pc ls (.long v :: st) H ce sl Q := by
  obtain ⟨hd, rfl⟩ := hd
  exact W.pure (fun p e s m args below meth c C T locs X target h => XT.lstore X.here C.1 rfl (hb C.2.2.2.1 hd) rfl (store_2 ho) h) k
theorem W.iinc {i : Nat} {cst : Int} {x : Int32} (v : Int32) (hd : D M pc (.iinc i cst) 3 pc') (hv : Int32.ofInt cst = v) (hl : ls[i]? = some (.val (.int x))) (k : WB b l Z n M pc' (ls.set i (.val (.int (x + v)))) st H ce sl Q) : WB b l Z n M pc ls st H ce sl Q := by
  obtain ⟨hd, rfl⟩ := hd
  exact W.pure (fun p e s m args below meth c C T locs X target h => XT.iincV X.here C.1 rfl v (hb C.2.2.2.1 hd) hv (loc_get hl) (store_1 (v := .int (x + v)) (by simp [one, hl, Value.category]) rfl) h) k
theorem W.dup {v : Value} (hd : D M pc .dup 1 pc') (hv : v.category = 1) (k : WB b l Z n M pc' ls (v :: v :: st) H ce sl Q) : WB b l Z n M pc ls (v :: st) H ce sl Q := by
  obtain ⟨hd, rfl⟩ := hd
  exact W.pure (fun p e s m args below meth c C T locs X target h => XS.dup X.here C.1 rfl (hb C.2.2.2.1 hd) rfl ((up_cat n v).trans hv) h) k
theorem W.pop {v : Value} (hd : D M pc .pop 1 pc') (hv : v.category = 1) (k : WB b l Z n M pc' ls st H ce sl Q) : WB b l Z n M pc ls (v :: st) H ce sl Q := by
  obtain ⟨hd, rfl⟩ := hd
  exact W.pure (fun p e s m args below meth c C T locs X target h => XT.pop X.here C.1 rfl (hb C.2.2.2.1 hd) rfl ((up_cat n v).trans hv) h) k
theorem W.dupX1 {v w : Value} (hd : D M pc .dup_x1 1 pc') (hv : v.category = 1) (hw : w.category = 1) (k : WB b l Z n M pc' ls (v :: w :: v :: st) H ce sl Q) : WB b l Z n M pc ls (v :: w :: st) H ce sl Q := by
  obtain ⟨hd, rfl⟩ := hd
  exact W.pure (fun p e s m args below meth c C T locs X target h => XT.dupX1 X.here C.1 rfl (hb C.2.2.2.1 hd) rfl ((up_cat n v).trans hv) ((up_cat n w).trans hw) h) k
theorem W.dup2 {v w : Value} (hd : D M pc .dup2 1 pc') (hv : v.category = 1) (hw : w.category = 1) (k : WB b l Z n M pc' ls (v :: w :: v :: w :: st) H ce sl Q) : WB b l Z n M pc ls (v :: w :: st) H ce sl Q := by
  obtain ⟨hd, rfl⟩ := hd
  exact W.pure (fun p e s m args below meth c C T locs X target h => XT.dup2 X.here C.1 rfl (hb C.2.2.2.1 hd) rfl ((up_cat n v).trans hv) ((up_cat n w).trans hw) h) k
theorem W.dup2L {x : Int64} (hd : D M pc .dup2 1 pc') (k : WB b l Z n M pc' ls (.long x :: .long x :: st) H ce sl Q) : WB b l Z n M pc ls (.long x :: st) H ce sl Q := by
  obtain ⟨hd, rfl⟩ := hd
  exact W.pure (fun p e s m args below meth c C T locs X target h => XT.dup2L X.here C.1 rfl (hb C.2.2.2.1 hd) rfl h) k
theorem W.goto {o : Int} {t : Nat} (hd : DB M pc (.goto o) o pc' t) (k : WB b l Z n M t ls st H ce sl Q) : WB b l Z n M pc ls st H ce sl Q :=
  W.pure (fun p e s m args below meth c C T locs X target h => XS.goto X.here C.1 rfl rfl (hb C.2.2.2.1 hd.1) hd.2.2.1 hd.2.2.2 h) k
theorem W.if_eq {x : Int32} {o : Int} {t : Nat} (hd : DB M pc (.ifCond .eq o) o pc' t) (ky : (x = 0) → WB b l Z n M t ls st H ce sl Q) (kn : (¬ x = 0) → WB b l Z n M pc' ls st H ce sl Q) : WB b l Z n M pc ls (.int x :: st) H ce sl Q := by
  obtain ⟨h1, rfl, h3, h4⟩ := hd
  by_cases q : (x = 0)
  · exact W.pure (fun p e s m args below meth c C T locs X target h => XS.ifYes X.here C.1 rfl rfl (hb C.2.2.2.1 h1) rfl (XT.i0_eq_t q) h3 h4 h) (ky q)
  · exact W.pure (fun p e s m args below meth c C T locs X target h => XS.ifNo X.here C.1 rfl (hb C.2.2.2.1 h1) rfl (XT.i0_eq_f q) h) (kn q)
theorem W.ifl_eq {x y : Int64} {o : Int} {t : Nat} (hd : DB M pc (.ifCond .eq o) o pc' t) (ky : (x = y) → WB b l Z n M t ls st H ce sl Q) (kn : (¬ x = y) → WB b l Z n M pc' ls st H ce sl Q) : WB b l Z n M pc ls (.int (XT.cmpL x y) :: st) H ce sl Q := by
  obtain ⟨h1, rfl, h3, h4⟩ := hd
  by_cases q : (x = y)
  · exact W.pure (fun p e s m args below meth c C T locs X target h => XS.ifYes X.here C.1 rfl rfl (hb C.2.2.2.1 h1) rfl (XT.ll_eq_t q) h3 h4 h) (ky q)
  · exact W.pure (fun p e s m args below meth c C T locs X target h => XS.ifNo X.here C.1 rfl (hb C.2.2.2.1 h1) rfl (XT.ll_eq_f q) h) (kn q)
theorem W.icmp_eq {x y : Int32} {o : Int} {t : Nat} (hd : DB M pc (.if_icmp .eq o) o pc' t) (ky : (x = y) → WB b l Z n M t ls st H ce sl Q) (kn : (¬ x = y) → WB b l Z n M pc' ls st H ce sl Q) : WB b l Z n M pc ls (.int y :: .int x :: st) H ce sl Q := by
  obtain ⟨h1, rfl, h3, h4⟩ := hd
  by_cases q : (x = y)
  · exact W.pure (fun p e s m args below meth c C T locs X target h => XS.icmpYes X.here C.1 rfl rfl (hb C.2.2.2.1 h1) rfl (XT.ii_eq_t q) h3 h4 h) (ky q)
  · exact W.pure (fun p e s m args below meth c C T locs X target h => XS.icmpNo X.here C.1 rfl (hb C.2.2.2.1 h1) rfl (XT.ii_eq_f q) h) (kn q)
theorem W.if_ne {x : Int32} {o : Int} {t : Nat} (hd : DB M pc (.ifCond .ne o) o pc' t) (ky : (¬ x = 0) → WB b l Z n M t ls st H ce sl Q) (kn : (x = 0) → WB b l Z n M pc' ls st H ce sl Q) : WB b l Z n M pc ls (.int x :: st) H ce sl Q := by
  obtain ⟨h1, rfl, h3, h4⟩ := hd
  by_cases q : (x = 0)
  · exact W.pure (fun p e s m args below meth c C T locs X target h => XS.ifNo X.here C.1 rfl (hb C.2.2.2.1 h1) rfl (XT.i0_ne_f q) h) (kn q)
  · exact W.pure (fun p e s m args below meth c C T locs X target h => XS.ifYes X.here C.1 rfl rfl (hb C.2.2.2.1 h1) rfl (XT.i0_ne_t q) h3 h4 h) (ky q)
theorem W.ifl_ne {x y : Int64} {o : Int} {t : Nat} (hd : DB M pc (.ifCond .ne o) o pc' t) (ky : (¬ x = y) → WB b l Z n M t ls st H ce sl Q) (kn : (x = y) → WB b l Z n M pc' ls st H ce sl Q) : WB b l Z n M pc ls (.int (XT.cmpL x y) :: st) H ce sl Q := by
  obtain ⟨h1, rfl, h3, h4⟩ := hd
  by_cases q : (x = y)
  · exact W.pure (fun p e s m args below meth c C T locs X target h => XS.ifNo X.here C.1 rfl (hb C.2.2.2.1 h1) rfl (XT.ll_ne_f q) h) (kn q)
  · exact W.pure (fun p e s m args below meth c C T locs X target h => XS.ifYes X.here C.1 rfl rfl (hb C.2.2.2.1 h1) rfl (XT.ll_ne_t q) h3 h4 h) (ky q)
theorem W.icmp_ne {x y : Int32} {o : Int} {t : Nat} (hd : DB M pc (.if_icmp .ne o) o pc' t) (ky : (¬ x = y) → WB b l Z n M t ls st H ce sl Q) (kn : (x = y) → WB b l Z n M pc' ls st H ce sl Q) : WB b l Z n M pc ls (.int y :: .int x :: st) H ce sl Q := by
  obtain ⟨h1, rfl, h3, h4⟩ := hd
  by_cases q : (x = y)
  · exact W.pure (fun p e s m args below meth c C T locs X target h => XS.icmpNo X.here C.1 rfl (hb C.2.2.2.1 h1) rfl (XT.ii_ne_f q) h) (kn q)
  · exact W.pure (fun p e s m args below meth c C T locs X target h => XS.icmpYes X.here C.1 rfl rfl (hb C.2.2.2.1 h1) rfl (XT.ii_ne_t q) h3 h4 h) (ky q)
theorem W.if_lt {x : Int32} {o : Int} {t : Nat} (hd : DB M pc (.ifCond .lt o) o pc' t) (ky : (x < 0) → WB b l Z n M t ls st H ce sl Q) (kn : (¬ x < 0) → WB b l Z n M pc' ls st H ce sl Q) : WB b l Z n M pc ls (.int x :: st) H ce sl Q := by
  obtain ⟨h1, rfl, h3, h4⟩ := hd
  by_cases q : (x < 0)
  · exact W.pure (fun p e s m args below meth c C T locs X target h => XS.ifYes X.here C.1 rfl rfl (hb C.2.2.2.1 h1) rfl (XT.i0_lt_t q) h3 h4 h) (ky q)
  · exact W.pure (fun p e s m args below meth c C T locs X target h => XS.ifNo X.here C.1 rfl (hb C.2.2.2.1 h1) rfl (XT.i0_lt_f q) h) (kn q)
theorem W.ifl_lt {x y : Int64} {o : Int} {t : Nat} (hd : DB M pc (.ifCond .lt o) o pc' t) (ky : (x < y) → WB b l Z n M t ls st H ce sl Q) (kn : (¬ x < y) → WB b l Z n M pc' ls st H ce sl Q) : WB b l Z n M pc ls (.int (XT.cmpL x y) :: st) H ce sl Q := by
  obtain ⟨h1, rfl, h3, h4⟩ := hd
  by_cases q : (x < y)
  · exact W.pure (fun p e s m args below meth c C T locs X target h => XS.ifYes X.here C.1 rfl rfl (hb C.2.2.2.1 h1) rfl (XT.ll_lt_t q) h3 h4 h) (ky q)
  · exact W.pure (fun p e s m args below meth c C T locs X target h => XS.ifNo X.here C.1 rfl (hb C.2.2.2.1 h1) rfl (XT.ll_lt_f q) h) (kn q)
theorem W.icmp_lt {x y : Int32} {o : Int} {t : Nat} (hd : DB M pc (.if_icmp .lt o) o pc' t) (ky : (x < y) → WB b l Z n M t ls st H ce sl Q) (kn : (¬ x < y) → WB b l Z n M pc' ls st H ce sl Q) : WB b l Z n M pc ls (.int y :: .int x :: st) H ce sl Q := by
  obtain ⟨h1, rfl, h3, h4⟩ := hd
  by_cases q : (x < y)
  · exact W.pure (fun p e s m args below meth c C T locs X target h => XS.icmpYes X.here C.1 rfl rfl (hb C.2.2.2.1 h1) rfl (XT.ii_lt_t q) h3 h4 h) (ky q)
  · exact W.pure (fun p e s m args below meth c C T locs X target h => XS.icmpNo X.here C.1 rfl (hb C.2.2.2.1 h1) rfl (XT.ii_lt_f q) h) (kn q)
theorem W.if_ge {x : Int32} {o : Int} {t : Nat} (hd : DB M pc (.ifCond .ge o) o pc' t) (ky : (¬ x < 0) → WB b l Z n M t ls st H ce sl Q) (kn : (x < 0) → WB b l Z n M pc' ls st H ce sl Q) : WB b l Z n M pc ls (.int x :: st) H ce sl Q := by
  obtain ⟨h1, rfl, h3, h4⟩ := hd
  by_cases q : (x < 0)
  · exact W.pure (fun p e s m args below meth c C T locs X target h => XS.ifNo X.here C.1 rfl (hb C.2.2.2.1 h1) rfl (XT.i0_ge_f q) h) (kn q)
  · exact W.pure (fun p e s m args below meth c C T locs X target h => XS.ifYes X.here C.1 rfl rfl (hb C.2.2.2.1 h1) rfl (XT.i0_ge_t q) h3 h4 h) (ky q)
theorem W.ifl_ge {x y : Int64} {o : Int} {t : Nat} (hd : DB M pc (.ifCond .ge o) o pc' t) (ky : (¬ x < y) → WB b l Z n M t ls st H ce sl Q) (kn : (x < y) → WB b l Z n M pc' ls st H ce sl Q) : WB b l Z n M pc ls (.int (XT.cmpL x y) :: st) H ce sl Q := by
  obtain ⟨h1, rfl, h3, h4⟩ := hd
  by_cases q : (x < y)
  · exact W.pure (fun p e s m args below meth c C T locs X target h => XS.ifNo X.here C.1 rfl (hb C.2.2.2.1 h1) rfl (XT.ll_ge_f q) h) (kn q)
  · exact W.pure (fun p e s m args below meth c C T locs X target h => XS.ifYes X.here C.1 rfl rfl (hb C.2.2.2.1 h1) rfl (XT.ll_ge_t q) h3 h4 h) (ky q)
theorem W.icmp_ge {x y : Int32} {o : Int} {t : Nat} (hd : DB M pc (.if_icmp .ge o) o pc' t) (ky : (¬ x < y) → WB b l Z n M t ls st H ce sl Q) (kn : (x < y) → WB b l Z n M pc' ls st H ce sl Q) : WB b l Z n M pc ls (.int y :: .int x :: st) H ce sl Q := by
  obtain ⟨h1, rfl, h3, h4⟩ := hd
  by_cases q : (x < y)
  · exact W.pure (fun p e s m args below meth c C T locs X target h => XS.icmpNo X.here C.1 rfl (hb C.2.2.2.1 h1) rfl (XT.ii_ge_f q) h) (kn q)
  · exact W.pure (fun p e s m args below meth c C T locs X target h => XS.icmpYes X.here C.1 rfl rfl (hb C.2.2.2.1 h1) rfl (XT.ii_ge_t q) h3 h4 h) (ky q)
theorem W.if_gt {x : Int32} {o : Int} {t : Nat} (hd : DB M pc (.ifCond .gt o) o pc' t) (ky : (0 < x) → WB b l Z n M t ls st H ce sl Q) (kn : (¬ 0 < x) → WB b l Z n M pc' ls st H ce sl Q) : WB b l Z n M pc ls (.int x :: st) H ce sl Q := by
  obtain ⟨h1, rfl, h3, h4⟩ := hd
  by_cases q : (0 < x)
  · exact W.pure (fun p e s m args below meth c C T locs X target h => XS.ifYes X.here C.1 rfl rfl (hb C.2.2.2.1 h1) rfl (XT.i0_gt_t q) h3 h4 h) (ky q)
  · exact W.pure (fun p e s m args below meth c C T locs X target h => XS.ifNo X.here C.1 rfl (hb C.2.2.2.1 h1) rfl (XT.i0_gt_f q) h) (kn q)
theorem W.ifl_gt {x y : Int64} {o : Int} {t : Nat} (hd : DB M pc (.ifCond .gt o) o pc' t) (ky : (y < x) → WB b l Z n M t ls st H ce sl Q) (kn : (¬ y < x) → WB b l Z n M pc' ls st H ce sl Q) : WB b l Z n M pc ls (.int (XT.cmpL x y) :: st) H ce sl Q := by
  obtain ⟨h1, rfl, h3, h4⟩ := hd
  by_cases q : (y < x)
  · exact W.pure (fun p e s m args below meth c C T locs X target h => XS.ifYes X.here C.1 rfl rfl (hb C.2.2.2.1 h1) rfl (XT.ll_gt_t q) h3 h4 h) (ky q)
  · exact W.pure (fun p e s m args below meth c C T locs X target h => XS.ifNo X.here C.1 rfl (hb C.2.2.2.1 h1) rfl (XT.ll_gt_f q) h) (kn q)
theorem W.icmp_gt {x y : Int32} {o : Int} {t : Nat} (hd : DB M pc (.if_icmp .gt o) o pc' t) (ky : (y < x) → WB b l Z n M t ls st H ce sl Q) (kn : (¬ y < x) → WB b l Z n M pc' ls st H ce sl Q) : WB b l Z n M pc ls (.int y :: .int x :: st) H ce sl Q := by
  obtain ⟨h1, rfl, h3, h4⟩ := hd
  by_cases q : (y < x)
  · exact W.pure (fun p e s m args below meth c C T locs X target h => XS.icmpYes X.here C.1 rfl rfl (hb C.2.2.2.1 h1) rfl (XT.ii_gt_t q) h3 h4 h) (ky q)
  · exact W.pure (fun p e s m args below meth c C T locs X target h => XS.icmpNo X.here C.1 rfl (hb C.2.2.2.1 h1) rfl (XT.ii_gt_f q) h) (kn q)
theorem W.if_le {x : Int32} {o : Int} {t : Nat} (hd : DB M pc (.ifCond .le o) o pc' t) (ky : (¬ 0 < x) → WB b l Z n M t ls st H ce sl Q) (kn : (0 < x) → WB b l Z n M pc' ls st H ce sl Q) : WB b l Z n M pc ls (.int x :: st) H ce sl Q := by
  obtain ⟨h1, rfl, h3, h4⟩ := hd
  by_cases q : (0 < x)
  · exact W.pure (fun p e s m args below meth c C T locs X target h => XS.ifNo X.here C.1 rfl (hb C.2.2.2.1 h1) rfl (XT.i0_le_f q) h) (kn q)
  · exact W.pure (fun p e s m args below meth c C T locs X target h => XS.ifYes X.here C.1 rfl rfl (hb C.2.2.2.1 h1) rfl (XT.i0_le_t q) h3 h4 h) (ky q)
theorem W.ifl_le {x y : Int64} {o : Int} {t : Nat} (hd : DB M pc (.ifCond .le o) o pc' t) (ky : (¬ y < x) → WB b l Z n M t ls st H ce sl Q) (kn : (y < x) → WB b l Z n M pc' ls st H ce sl Q) : WB b l Z n M pc ls (.int (XT.cmpL x y) :: st) H ce sl Q := by
  obtain ⟨h1, rfl, h3, h4⟩ := hd
  by_cases q : (y < x)
  · exact W.pure (fun p e s m args below meth c C T locs X target h => XS.ifNo X.here C.1 rfl (hb C.2.2.2.1 h1) rfl (XT.ll_le_f q) h) (kn q)
  · exact W.pure (fun p e s m args below meth c C T locs X target h => XS.ifYes X.here C.1 rfl rfl (hb C.2.2.2.1 h1) rfl (XT.ll_le_t q) h3 h4 h) (ky q)
theorem W.icmp_le {x y : Int32} {o : Int} {t : Nat} (hd : DB M pc (.if_icmp .le o) o pc' t) (ky : (¬ y < x) → WB b l Z n M t ls st H ce sl Q) (kn : (y < x) → WB b l Z n M pc' ls st H ce sl Q) : WB b l Z n M pc ls (.int y :: .int x :: st) H ce sl Q := by
  obtain ⟨h1, rfl, h3, h4⟩ := hd
  by_cases q : (y < x)
  · exact W.pure (fun p e s m args below meth c C T locs X target h => XS.icmpNo X.here C.1 rfl (hb C.2.2.2.1 h1) rfl (XT.ii_le_f q) h) (kn q)
  · exact W.pure (fun p e s m args below meth c C T locs X target h => XS.icmpYes X.here C.1 rfl rfl (hb C.2.2.2.1 h1) rfl (XT.ii_le_t q) h3 h4 h) (ky q)
theorem W.acmp_eq {v w : Value} {o : Int} {t : Nat} (hd : DB M pc (.if_acmp .eq o) o pc' t) (hv : v.isRef = true) (hw : w.isRef = true) (ky : (v = w) → WB b l Z n M t ls st H ce sl Q) (kn : (¬ v = w) → WB b l Z n M pc' ls st H ce sl Q) : WB b l Z n M pc ls (w :: v :: st) H ce sl Q := by
  obtain ⟨h1, rfl, h3, h4⟩ := hd
  by_cases q : (v = w)
  · exact W.pure (fun p e s m args below meth c C T locs X target h => XT.acmpYes X.here C.1 rfl rfl (hb C.2.2.2.1 h1) rfl (up_isRef n hv) (up_isRef n hw) (XT.aa_eq_t (congrArg (up n) q)) h3 h4 h) (ky q)
  · exact W.pure (fun p e s m args below meth c C T locs X target h => XT.acmpNo X.here C.1 rfl (hb C.2.2.2.1 h1) rfl (up_isRef n hv) (up_isRef n hw) (XT.aa_eq_f (fun z => q (up_inj hv hw z))) h) (kn q)
theorem W.acmp_ne {v w : Value} {o : Int} {t : Nat} (hd : DB M pc (.if_acmp .ne o) o pc' t) (hv : v.isRef = true) (hw : w.isRef = true) (ky : (¬ v = w) → WB b l Z n M t ls st H ce sl Q) (kn : (v = w) → WB b l Z n M pc' ls st H ce sl Q) : WB b l Z n M pc ls (w :: v :: st) H ce sl Q := by
  obtain ⟨h1, rfl, h3, h4⟩ := hd
  by_cases q : (v = w)
  · exact W.pure (fun p e s m args below meth c C T locs X target h => XT.acmpNo X.here C.1 rfl (hb C.2.2.2.1 h1) rfl (up_isRef n hv) (up_isRef n hw) (XT.aa_ne_f (congrArg (up n) q)) h) (kn q)
  · exact W.pure (fun p e s m args below meth c C T locs X target h => XT.acmpYes X.here C.1 rfl rfl (hb C.2.2.2.1 h1) rfl (up_isRef n hv) (up_isRef n hw) (XT.aa_ne_t (fun z => q (up_inj hv hw z))) h3 h4 h) (ky q)
theorem up_null {n : Nat} {v : Value} (hv : v.isRef = true) (h : ¬ v = .null) : ¬ up n v = .null := by cases v <;> simp_all [up, Value.isRef]
theorem W.ifnull {v : Value} {o : Int} {t : Nat} (hd : DB M pc (.ifnull o) o pc' t) (hv : v.isRef = true) (ky : (v = .null) → WB b l Z n M t ls st H ce sl Q) (kn : (¬ v = .null) → WB b l Z n M pc' ls st H ce sl Q) : WB b l Z n M pc ls (v :: st) H ce sl Q := by
  obtain ⟨h1, rfl, h3, h4⟩ := hd
  by_cases q : (v = .null)
  · exact W.pure (fun p e s m args below meth c C T locs X target h => XT.nullYes X.here C.1 rfl rfl (hb C.2.2.2.1 h1) rfl (congrArg (up n) q) h3 h4 h) (ky q)
  · exact W.pure (fun p e s m args below meth c C T locs X target h => XT.nullNo X.here C.1 rfl (hb C.2.2.2.1 h1) rfl (up_isRef n hv) (up_null hv q) h) (kn q)
theorem W.ifnonnull {v : Value} {o : Int} {t : Nat} (hd : DB M pc (.ifnonnull o) o pc' t) (hv : v.isRef = true) (ky : (¬ v = .null) → WB b l Z n M t ls st H ce sl Q) (kn : (v = .null) → WB b l Z n M pc' ls st H ce sl Q) : WB b l Z n M pc ls (v :: st) H ce sl Q := by
  obtain ⟨h1, rfl, h3, h4⟩ := hd
  by_cases q : (v = .null)
  · exact W.pure (fun p e s m args below meth c C T locs X target h => XT.nonnullNo X.here C.1 rfl (hb C.2.2.2.1 h1) rfl (congrArg (up n) q) h) (kn q)
  · exact W.pure (fun p e s m args below meth c C T locs X target h => XT.nonnullYes X.here C.1 rfl rfl (hb C.2.2.2.1 h1) rfl (up_isRef n hv) (up_null hv q) h3 h4 h) (ky q)
theorem W.nop_ {H2 : AHeap} (e : H2 = H) (k : WB b l Z n M pc ls st H2 ce sl Q) : WB b l Z n M pc ls st H ce sl Q := e ▸ k
/-! heap: reads -/
theorem W.getfield {i : Nat} {C O nm d : String} {fs : List (Key × Value)} {v : Value} {k : Nat} (j : Nat) (hd : D M pc (.getfield i) 3 pc') (w : (Cond.fieldLink M.1.cls i O nm d).before a0 Z = true) (hk : H[k]? = some (.inl (C, fs))) (hj : fs[j]? = some ((O, nm, d), v))
    (kk : WB b l Z n M pc' ls (v :: st) H ce sl Q) : WB b l Z n M pc ls (.ref k :: st) H ce sl Q := by
  obtain ⟨hd, rfl⟩ := hd
  refine W.step (fun p e s m args below meth c C T locs X hH hF => ?_) kk
  obtain ⟨T', X', e', stp⟩ := getF X C.1 C.2.1 C.2.2.1 (host := "") (Or.inl w) Via.refl rfl ((hH.2 k _ hk rfl).2.1 j _ hj) (g := mkF m pc (loc n ls) (stk n (.ref k :: st))) rfl rfl (hb C.2.2.2.1 hd)
  exact ⟨T', locs, X', e' ▸ hH, hF, stp⟩
theorem W.putfield {i : Nat} {C O nm d : String} {fs : List (Key × Value)} {v old : Value} {k kk : Nat} {ty : FieldType} (j : Nat) (hd : D M pc (.putfield i) 3 pc') (w : (Cond.fieldLink M.1.cls i O nm d).before a0 Z = true) (hk : H[k]? = some (.inl (C, fs))) (hj : fs[j]? = some ((O, nm, d), old))
    (L : (Cond.lays C O nm d).before a0 Z = true ∨ ((Cond.laysFinal C O nm d).before a0 Z = true ∧ M.1.cls = O ∧ M.1.name = "<init>")) (wi : (Cond.instantiable C kk).before a0 Z = true) (hty : parseFieldDescriptor d = some ty) (hn : ∀ n, narrow ty (up n v) = up n v) (hf : ∀ n, fits ty (up n v) = true)
    (k' : WB b l Z n M pc' ls st (H.set k (.inl (C, fs.set j ((O, nm, d), v)))) ce sl Q) : WB b l Z n M pc ls (v :: .ref k :: st) H ce sl Q := by
  obtain ⟨hd, rfl⟩ := hd
  refine W.step (fun p e s m args below meth c C T locs X hH hF => ?_) k'
  have O1 := hH.2 k _ hk rfl
  obtain ⟨T', h', X', e', Wq, stp⟩ := putF X C.1 C.2.1 C.2.2.1 (host := "") (Or.inl w) Via.refl rfl (O1.2.1 j _ hj) O1.1 (L.imp id (fun q => ⟨q.1, q.2.1, C.2.2.2.2.2.2.2.trans q.2.2⟩)) wi hty (hn n) (hf n) (g := mkF m pc (loc n ls) (stk n (v :: .ref k :: st))) rfl rfl (hb C.2.2.2.1 hd)
  subst e'
  exact ⟨T', _, X', hH.put Wq (OR.field (hH.2 k _ hk rfl) hj Wq), Fr.snoc X' hF (Nat.le_add_right n k), stp⟩
theorem arr_at {ty : FieldType} {vs : List Value} {cl : Cell} {i : Nat} {v : Value} {j : Int32} (e : cl.slots = (vs.map (up n)).toArray) (hj : ¬ j < 0 ∧ j.toNatClampNeg = i) (hv : vs[i]? = some v) : ¬ (j < 0 ∨ cl.slots.size ≤ j.toNatClampNeg) ∧ cl.slots[j.toNatClampNeg]? = some (up n v) := by
  have hlt := (List.getElem?_eq_some_iff.mp hv).1
  refine ⟨fun q => q.elim hj.1 fun q => ?_, ?_⟩
  · rw [e, hj.2, List.size_toArray, List.length_map] at q; omega
  · rw [e, hj.2]; simp [hv]
theorem W.arraylength {k : Nat} {ty : FieldType} {vs : List Value} (z : Int32) (hd : D M pc .arraylength 1 pc') (hk : H[k]? = some (.inr (ty, vs))) (hJ : isJ (.inr (ty, vs)) = false) (hN : Int32.ofNat vs.length = z) (kk : WB b l Z n M pc' ls (.int z :: st) H ce sl Q) : WB b l Z n M pc ls (.ref k :: st) H ce sl Q := by
  obtain ⟨hd, rfl⟩ := hd
  refine W.step (fun p e s m args below meth c C T locs X hH hF => ?_) kk
  obtain ⟨cl, A, e'⟩ := hH.2 k _ hk hJ
  refine ⟨T, locs, X, hH, hF, fun target h => X.arraylength C.1 A.1 (State.isArrayOf_alike C.2.1.alike A.2.1) (g := mkF m pc (loc n ls) (stk n (.ref k :: st))) rfl rfl (hb C.2.2.2.1 hd) _ ?_⟩
  have : cl.slots.size.toInt32 = z := by rw [e', List.size_toArray, List.length_map, ← hN]
  rw [this]; exact h
theorem W.iaload {k i : Nat} {vs : List Value} {v : Value} {j : Int32} (hd : D M pc .iaload 1 pc') (hk : H[k]? = some (.inr (.int, vs))) (hj : ¬ j < 0 ∧ j.toNatClampNeg = i) (hv : vs[i]? = some v) (kk : WB b l Z n M pc' ls (v :: st) H ce sl Q) : WB b l Z n M pc ls (.int j :: .ref k :: st) H ce sl Q := by
  obtain ⟨hd, rfl⟩ := hd
  refine W.step (fun p e s m args below meth c C T locs X hH hF => ?_) kk
  obtain ⟨cl, A, e'⟩ := hH.2 k _ hk rfl
  obtain ⟨q1, q2⟩ := arr_at (ty := .int) e' hj hv
  exact ⟨T, locs, X, hH, hF, fun target h => X.iaload C.1 A.1 (State.isArrayOf_alike C.2.1.alike A.2.1) A.2.2 q1 q2 (g := mkF m pc (loc n ls) (stk n (.int j :: .ref k :: st))) rfl rfl (hb C.2.2.2.1 hd) _ h⟩
theorem W.laload {k i : Nat} {vs : List Value} {v : Value} {j : Int32} (hd : D M pc .laload 1 pc') (hk : H[k]? = some (.inr (.long, vs))) (hj : ¬ j < 0 ∧ j.toNatClampNeg = i) (hv : vs[i]? = some v) (kk : WB b l Z n M pc' ls (v :: st) H ce sl Q) : WB b l Z n M pc ls (.int j :: .ref k :: st) H ce sl Q := by
  obtain ⟨hd, rfl⟩ := hd
  refine W.step (fun p e s m args below meth c C T locs X hH hF => ?_) kk
  obtain ⟨cl, A, e'⟩ := hH.2 k _ hk rfl
  obtain ⟨q1, q2⟩ := arr_at (ty := .int) e' hj hv
  exact ⟨T, locs, X, hH, hF, fun target h => X.laload C.1 A.1 (State.isArrayOf_alike C.2.1.alike A.2.1) A.2.2 q1 q2 (g := mkF m pc (loc n ls) (stk n (.int j :: .ref k :: st))) rfl rfl (hb C.2.2.2.1 hd) _ h⟩
theorem W.baload {k i : Nat} {vs : List Value} {v : Value} {j : Int32} (hd : D M pc .baload 1 pc') (hk : H[k]? = some (.inr (.byte, vs))) (hj : ¬ j < 0 ∧ j.toNatClampNeg = i) (hv : vs[i]? = some v) (kk : WB b l Z n M pc' ls (v :: st) H ce sl Q) : WB b l Z n M pc ls (.int j :: .ref k :: st) H ce sl Q := by
  obtain ⟨hd, rfl⟩ := hd
  refine W.step (fun p e s m args below meth c C T locs X hH hF => ?_) kk
  obtain ⟨cl, A, e'⟩ := hH.2 k _ hk rfl
  obtain ⟨q1, q2⟩ := arr_at (ty := .int) e' hj hv
  exact ⟨T, locs, X, hH, hF, fun target h => X.baloadBytes C.1 A.1 (State.isArrayOf_alike C.2.1.alike A.2.1) A.2.2 q1 q2 (g := mkF m pc (loc n ls) (stk n (.int j :: .ref k :: st))) rfl rfl (hb C.2.2.2.1 hd) _ h⟩
theorem W.zaload {k i : Nat} {vs : List Value} {v : Value} {j : Int32} (hd : D M pc .baload 1 pc') (hk : H[k]? = some (.inr (.boolean, vs))) (hj : ¬ j < 0 ∧ j.toNatClampNeg = i) (hv : vs[i]? = some v) (kk : WB b l Z n M pc' ls (v :: st) H ce sl Q) : WB b l Z n M pc ls (.int j :: .ref k :: st) H ce sl Q := by
  obtain ⟨hd, rfl⟩ := hd
  refine W.step (fun p e s m args below meth c C T locs X hH hF => ?_) kk
  obtain ⟨cl, A, e'⟩ := hH.2 k _ hk rfl
  obtain ⟨q1, q2⟩ := arr_at (ty := .int) e' hj hv
  exact ⟨T, locs, X, hH, hF, fun target h => X.baloadBooleans C.1 A.1 (State.isArrayOf_alike C.2.1.alike A.2.1) A.2.2 q1 q2 (g := mkF m pc (loc n ls) (stk n (.int j :: .ref k :: st))) rfl rfl (hb C.2.2.2.1 hd) _ h⟩
/-! heap: stores into arrays -/
theorem arr_in' {vs : List Value} {cl : Cell} {i : Nat} {j : Int32} (e : cl.slots = (vs.map (up n)).toArray) (hj : ¬ j < 0 ∧ j.toNatClampNeg = i) (hv : i < vs.length) : ¬ (j < 0 ∨ cl.slots.size ≤ j.toNatClampNeg) := by
  refine fun q => q.elim hj.1 fun q => ?_
  rw [e, hj.2] at q; simp at q; omega
theorem W.iastore {k i : Nat} {vs : List Value} {x : Int32} {j : Int32} (hd : D M pc .iastore 1 pc') (hk : H[k]? = some (.inr (.int, vs))) (hj : ¬ j < 0 ∧ j.toNatClampNeg = i) (hv : i < vs.length) (kk : WB b l Z n M pc' ls st (H.set k (.inr (.int, vs.set i (.int x)))) ce sl Q) : WB b l Z n M pc ls (.int x :: .int j :: .ref k :: st) H ce sl Q := by
  obtain ⟨hd, rfl⟩ := hd
  refine W.step (fun p e s m args below meth c C T locs X hH hF => ?_) kk
  have O1 := hH.2 k _ hk rfl
  obtain ⟨cl, A, e'⟩ := O1
  obtain ⟨T', h', X', eh, Wq, stp⟩ := stI X C.1 C.2.1 rfl A (arr_in' e' hj hv) (g := mkF m pc (loc n ls) (stk n (.int x :: .int j :: .ref k :: st))) rfl rfl (hb C.2.2.2.1 hd)
  subst eh
  rw [hj.2] at Wq
  exact ⟨T', _, X', hH.put Wq (OR.elem (w := .int x) ⟨cl, A, e'⟩ Wq), Fr.snoc X' hF (Nat.le_add_right n k), stp⟩
theorem W.lastore {k i : Nat} {vs : List Value} {x : Int64} {j : Int32} (hd : D M pc .lastore 1 pc') (hk : H[k]? = some (.inr (.long, vs))) (hj : ¬ j < 0 ∧ j.toNatClampNeg = i) (hv : i < vs.length) (kk : WB b l Z n M pc' ls st (H.set k (.inr (.long, vs.set i (.long x)))) ce sl Q) : WB b l Z n M pc ls (.long x :: .int j :: .ref k :: st) H ce sl Q := by
  obtain ⟨hd, rfl⟩ := hd
  refine W.step (fun p e s m args below meth c C T locs X hH hF => ?_) kk
  have O1 := hH.2 k _ hk rfl
  obtain ⟨cl, A, e'⟩ := O1
  obtain ⟨T', h', X', eh, Wq, stp⟩ := stJ X C.1 C.2.1 rfl A (arr_in' e' hj hv) (g := mkF m pc (loc n ls) (stk n (.long x :: .int j :: .ref k :: st))) rfl rfl (hb C.2.2.2.1 hd)
  subst eh
  rw [hj.2] at Wq
  exact ⟨T', _, X', hH.put Wq (OR.elem (w := .long x) ⟨cl, A, e'⟩ Wq), Fr.snoc X' hF (Nat.le_add_right n k), stp⟩
theorem W.bastore {k i : Nat} {vs : List Value} {x : Int32} {j : Int32} (hd : D M pc .bastore 1 pc') (hk : H[k]? = some (.inr (.byte, vs))) (hj : ¬ j < 0 ∧ j.toNatClampNeg = i) (hv : i < vs.length) (kk : WB b l Z n M pc' ls st (H.set k (.inr (.byte, vs.set i (.int x.toInt8.toInt32)))) ce sl Q) : WB b l Z n M pc ls (.int x :: .int j :: .ref k :: st) H ce sl Q := by
  obtain ⟨hd, rfl⟩ := hd
  refine W.step (fun p e s m args below meth c C T locs X hH hF => ?_) kk
  have O1 := hH.2 k _ hk rfl
  obtain ⟨cl, A, e'⟩ := O1
  obtain ⟨T', h', X', eh, Wq, stp⟩ := stB X C.1 C.2.1 rfl A (arr_in' e' hj hv) (g := mkF m pc (loc n ls) (stk n (.int x :: .int j :: .ref k :: st))) rfl rfl (hb C.2.2.2.1 hd)
  subst eh
  rw [hj.2] at Wq
  exact ⟨T', _, X', hH.put Wq (OR.elem (w := .int x.toInt8.toInt32) ⟨cl, A, e'⟩ Wq), Fr.snoc X' hF (Nat.le_add_right n k), stp⟩
theorem W.zastore {k i : Nat} {vs : List Value} {x : Int32} {j : Int32} (hd : D M pc .bastore 1 pc') (hk : H[k]? = some (.inr (.boolean, vs))) (hj : ¬ j < 0 ∧ j.toNatClampNeg = i) (hv : i < vs.length) (kk : WB b l Z n M pc' ls st (H.set k (.inr (.boolean, vs.set i (.int (x &&& 1))))) ce sl Q) : WB b l Z n M pc ls (.int x :: .int j :: .ref k :: st) H ce sl Q := by
  obtain ⟨hd, rfl⟩ := hd
  refine W.step (fun p e s m args below meth c C T locs X hH hF => ?_) kk
  have O1 := hH.2 k _ hk rfl
  obtain ⟨cl, A, e'⟩ := O1
  obtain ⟨T', h', X', eh, Wq, stp⟩ := stZ X C.1 C.2.1 rfl A (arr_in' e' hj hv) (g := mkF m pc (loc n ls) (stk n (.int x :: .int j :: .ref k :: st))) rfl rfl (hb C.2.2.2.1 hd)
  subst eh
  rw [hj.2] at Wq
  exact ⟨T', _, X', hH.put Wq (OR.elem (w := .int (x &&& 1)) ⟨cl, A, e'⟩ Wq), Fr.snoc X' hF (Nat.le_add_right n k), stp⟩
/-! heap: makers -/
theorem ext_push (h : Heap) (x : Cell) : Ext h (h.push x) ∧ (h.push x).size = h.size + 1 ∧ (h.push x)[h.size]? = some x :=
  ⟨⟨by simp, fun a c q => by rw [Array.getElem?_push_lt (Array.getElem?_eq_some_iff.mp q).1]; exact (Array.getElem?_eq_getElem _).symm.trans q⟩, by simp, by simp⟩
theorem W.new {i nk N : Nat} {C : String} {fs : List (Key × Value)} (hd : D M pc (.new i) 3 pc') (w : (Cond.classLink M.1.cls i C).before a0 Z = true) (K : OkC a0 Z C nk fs) (hN : H.length = N) (hc : ce + 1 ≤ M.2.2.2.2.cells) (hl : sl + nk ≤ M.2.2.2.2.slots)
    (kk : WB b l Z n M pc' ls (.ref N :: st) (H ++ [.inl (C, fs)]) (ce + 1) (sl + nk) Q) : WB b l Z n M pc ls st H ce sl Q := by
  obtain ⟨hd, rfl⟩ := hd
  refine W.step (fun p e s m args below meth c Cx T locs X hH hF => ?_) kk
  obtain ⟨vm', cC, kC, h1, h2, h3, h4, X', stp⟩ := X.newCold Cx.1 Cx.2.2.1 (mv Cx.2.1 w) (mv Cx.2.1 K.1) (mv Cx.2.1 K.2.1) (g := mkF m pc (loc n ls) (stk n st)) rfl (hb Cx.2.2.2.1 hd) hc hl
  obtain ⟨E, S, G⟩ := ext_push T.heap { cls := cC, slots := kC.instanceTypes.map defaultValue, vm := .none }
  have hfc : Z.vm.findClass C = some cC := by rw [← Cx.2.1.alike.findClass]; exact h1
  obtain ⟨kZ, z1, -⟩ := Vm.findClass_spec hfc
  obtain ⟨k', z2, z3⟩ := Cx.2.1.alike.2.2 _ _ z1
  cases h2.symm.trans z2
  have ei : kC.instanceTypes = kZ.instanceTypes := by rw [z3]
  refine ⟨_, locs, X', hH.push E S ⟨⟨_, kZ, G, hfc, z1, rfl, fun _ => by simp [ei]⟩, fun j q hq => ?_, K.slots⟩, hF, fun target h => stp target ?_⟩
  · obtain ⟨ty, L, ht, hv⟩ := K.2.2.1 q (List.mem_of_getElem? hq)
    obtain ⟨c1, k1, cf, kf, i1, f, a1, a2, a3, a4, a5, a6, -⟩ := L.spec
    cases hfc.symm.trans a1
    cases z1.symm.trans a2
    exact ⟨_, cf, kf, i1, f, G, a3, a4, by simp, rfl, a5, by rw [hv, up_default]; simp [ei, a6, (State.fieldFound?_type a3 ht).2]⟩
  · have : T.heap.size = n + N := by rw [hH.1, hN]
    rw [this]; exact h
theorem W.newarray {aty : ArrayType} {N cnt cap : Nat} {z : Int32} (hd : D M pc (.newarray aty) 2 pc') (w : (Cond.arrayClass (newarray.typeOf aty)).before a0 Z = true) (hz : ¬ z < 0 ∧ z.toNatClampNeg = cnt) (hN : H.length = N) (hcap : cnt ≤ cap) (hb8 : cap * 8 ≤ 536870912) (hc : ce + 1 ≤ M.2.2.2.2.cells) (hl : sl + cap ≤ M.2.2.2.2.slots)
    (kk : WB b l Z n M pc' ls (.ref N :: st) (H ++ [.inr (newarray.typeOf aty, List.replicate cnt (defaultValue (newarray.typeOf aty)))]) (ce + 1) (sl + cap) Q) : WB b l Z n M pc ls (.int z :: st) H ce sl Q := by
  obtain ⟨hd, rfl⟩ := hd
  obtain ⟨hz0, rfl⟩ := hz
  refine W.step (fun p e s m args below meth c Cx T locs X hH hF => ?_) kk
  have hcb : componentBytes (newarray.typeOf aty) ≤ 8 := by cases aty <;> decide
  obtain ⟨cA, kA, comp, h1, h2, h3, X', stp⟩ := X.newarrayPrim Cx.1 (mvA Cx.2.1 w) (g := mkF m pc (loc n ls) (stk n (.int z :: st))) rfl (hb Cx.2.2.2.1 hd) rfl hz0 (Nat.le_trans (Nat.mul_le_mul hcap hcb) hb8) hc (Nat.le_trans (Nat.add_le_add_left hcap _) hl)
  obtain ⟨E, S, G⟩ := ext_push T.heap { cls := cA, slots := Array.replicate z.toNatClampNeg (defaultValue (newarray.typeOf aty)), vm := .none }
  have hfc := h1
  rw [Cx.2.1.alike.findClass] at hfc
  obtain ⟨kZ, z1, -⟩ := Vm.findClass_spec hfc
  obtain ⟨k', z2, z3⟩ := Cx.2.1.alike.2.2 _ _ z1
  cases h2.symm.trans z2
  refine ⟨_, locs, X'.more (Nat.le_refl _) (Nat.add_le_add_left hcap _), hH.push E S ⟨_, ⟨G, ⟨by simp, kZ, z1, comp, by rw [← h3, z3]⟩, by simp⟩, ?_⟩, hF, fun target h => stp target ?_⟩
  · simp [up_default]
  · have : T.heap.size = n + N := by rw [hH.1, hN]
    rw [this]; exact h
/-! returns -/
theorem W.fin {v : Option Value} (hv : M.2.2.2.1 = none → v = none) (hc : ce ≤ M.2.2.2.2.cells) (hl : sl ≤ M.2.2.2.2.slots)
    (go : ∀ (p : Program) (e : Env) (s : State) (m : MethodId) (args : Array Value) (below : List Frame) (meth : Method) (c : Code), Ctx Z M p s m meth c → ∀ (T : State) (locs : List Loc), Stand p l e M.2.2.2.2 s m args below meth c T locs ce sl →
      ∀ fs : List Frame, (∀ (f : JFrame) (acts : List Action), f.method = m → f.locked = none → f.entered = [] → (doReturn e (T.setTop f) acts (v.map (up n))).1 = T.setFrames fs) → Steps p.tables e below (T.setTop (mkF m pc (loc n ls) (stk n st))) (T.setFrames fs))
    (q : Q v H) : WB b l Z n M pc ls st H ce sl Q := fun p e s m args below meth c C T locs X hH hF => by
  obtain ⟨fs, hr, hrun, hended, hW, hsame⟩ := X.leave (v := v.map (up n)) (fun h => by rw [hv (C.2.2.2.2.2.1.symm.trans h)]; rfl) C.2.2.2.2.2.2.1
  exact ⟨_, v, locs, H, go p e s m args below meth c C T locs X fs hr, hrun, hended, q, hH, hF, EndR.of ⟨⟨_, rfl⟩, hW, hsame.mono hc hl⟩⟩
theorem W.leave (hd : D M pc .return_ 1 pc') (hr : M.2.2.2.1 = none) (hc : ce ≤ M.2.2.2.2.cells) (hl : sl ≤ M.2.2.2.2.slots) (q : Q none H) : WB b l Z n M pc ls [] H ce sl Q :=
  W.fin (v := none) (fun _ => rfl) hc hl (fun p e s m args below meth c C T locs X fs h => X.returnOut C.1 (C.2.2.2.2.2.1.trans hr) (hb C.2.2.2.1 hd.1) h) q
theorem W.ireturn {x : Int32} (hd : D M pc .ireturn 1 pc') (hr : M.2.2.2.1 = some .int) (hc : ce ≤ M.2.2.2.2.cells) (hl : sl ≤ M.2.2.2.2.slots) (q : Q (some (.int x)) H) : WB b l Z n M pc ls (.int x :: st) H ce sl Q :=
  W.fin (v := some (.int x)) (fun h => by rw [hr] at h; cases h) hc hl (fun p e s m args below meth c C T locs X fs h => retOut X C.1 (t := .int) (w := .int x) (i := .ireturn) (C.2.2.2.2.2.1.trans hr) rfl (Or.inl ⟨rfl, Or.inl rfl, _, rfl⟩) (hb C.2.2.2.1 hd.1) h) q
theorem W.lreturn {x : Int64} (hd : D M pc .lreturn 1 pc') (hr : M.2.2.2.1 = some .long) (hc : ce ≤ M.2.2.2.2.cells) (hl : sl ≤ M.2.2.2.2.slots) (q : Q (some (.long x)) H) : WB b l Z n M pc ls (.long x :: st) H ce sl Q :=
  W.fin (v := some (.long x)) (fun h => by rw [hr] at h; cases h) hc hl (fun p e s m args below meth c C T locs X fs h => retOut X C.1 (t := .long) (w := .long x) (i := .lreturn) (C.2.2.2.2.2.1.trans hr) rfl (Or.inr (Or.inl ⟨rfl, rfl, _, rfl⟩)) (hb C.2.2.2.1 hd.1) h) q
/-- a boolean, byte, char or short: what is left of the int -/
theorem W.nreturn {x : Int32} (t : FieldType) (hd : D M pc .ireturn 1 pc') (hr : M.2.2.2.1 = some t) (ht : t = .boolean ∨ t = .byte ∨ t = .char ∨ t = .short) (hc : ce ≤ M.2.2.2.2.cells) (hl : sl ≤ M.2.2.2.2.slots) (q : Q (some (.int (nar t x))) H) : WB b l Z n M pc ls (.int x :: st) H ce sl Q :=
  W.fin (v := some (.int (nar t x))) (fun h => by rw [hr] at h; cases h) hc hl (fun p e s m args below meth c C T locs X fs h => retN X C.1 (C.2.2.2.2.2.1.trans hr) ht (hb C.2.2.2.1 hd.1) h) q
theorem W.areturn {v : Value} {t : FieldType} (hd : D M pc .areturn 1 pc') (hr : M.2.2.2.1 = some t) (ht : t.isReference = true) (hv : rfn v = true) (hc : ce ≤ M.2.2.2.2.cells) (hl : sl ≤ M.2.2.2.2.slots) (q : Q (some v) H) : WB b l Z n M pc ls (v :: st) H ce sl Q :=
  W.fin (v := some v) (fun h => by rw [hr] at h; cases h) hc hl (fun p e s m args below meth c C T locs X fs h => retOut X C.1 (t := t) (w := up n v) (i := .areturn) (C.2.2.2.2.2.1.trans hr) (by cases v <;> simp [rfn] at hv <;> cases t <;> simp_all [FieldType.isReference, narrow, up]) (Or.inr (Or.inr (Or.inr (Or.inr ⟨rfl, ht, up_rfn n hv⟩)))) (hb C.2.2.2.1 hd.1) h) q
/-! calls -/
def entryL (as : List Value) (k : Nat) : List Slot := Jvm.Sym.laidSlots as ++ List.replicate (k - (Jvm.Sym.laidSlots as).length) .unset
theorem laid_up (n : Nat) : ∀ as : List Value, Jvm.Sym.laidSlots (as.map (up n)) = (Jvm.Sym.laidSlots as).map (upS n)
  | [] => rfl
  | v :: as => by
    have ih := laid_up n as
    simp only [List.map_cons, Jvm.Sym.laidSlots, up_cat]
    split <;> simp [ih, upS]
theorem entry_up (n : Nat) (as : List Value) (k : Nat) (m : MethodId) : entryFrame m (as.map (up n)).toArray k = mkF m 0 (loc n (entryL as k)) [] := by
  have : argsToLocals (as.map (up n)).toArray k = loc n (entryL as k) := Array.toList_inj.mp (by
    rw [Jvm.Sym.argsToLocals_toList]
    simp [entryL, laid_up, loc, upS])
  unfold entryFrame
  rw [this]
theorem W.met {as : List Value} (hW : WB b l Z n M 0 (entryL as M.2.2.1) [] H 0 0 Q) (pn : plainName M.1.cls = true) {h : Heap} (hH : HR Z n h H) (ws : List Jvm.Cond) :
    MetFree l M.1 (head1 (Cond.code M.1 M.2.1 M.2.2.1 M.2.2.2.1 :: ws) M.2.2.2.2) (fun a U => a = (as.map (up n)).toArray ∧ Z.Warmed39 U.vm ∧ U.heap = h) (fun _ _ _ _ _ => True)
      (fun _ U o U' => ∃ v L, o = .returned v ∧ (∃ v0 H', v = v0.map (up n) ∧ Q v0 H' ∧ HR Z n U'.heap H' ∧ Fr n L) ∧ EndR b U o U' L M.2.2.2.2.cells M.2.2.2.2.slots) := by
  refine MetFree.of_bodySF (plainFor_of_name pn) hisR ?_
  intro p e s m args below meth c s₁ Bd hml hP hK
  obtain ⟨rfl, hZ, hh⟩ := hP
  have X0 : Stand p l e M.2.2.2.2 s m _ below meth c s₁ [] 0 0 := Stand.of_body Bd
  have e0 : s₁.heap = h := by rw [← hh, Bd.state]; rfl
  obtain ⟨s₂, v, L, H', h1, h2, h3, h4, h5, h6, h7⟩ := hW p e s m _ below meth c ⟨Bd.exec, hZ, findClass_of_methodNamed Bd.named, Bd.bytes, hml, Bd.returns, Bd.notSynchronized, (name_of_methodNamed Bd.named Bd.method).1⟩ s₁ [] X0 (e0 ▸ hH) (Fr.nil n)
  exact ⟨s₂, _, castTop (entry_up n as _ m) h1, h2, h3, _, L, rfl, ⟨v, H', rfl, h4, h5, h6⟩, h7⟩
def RetQ (Z : State) (n : Nat) (Q : Option Value → AHeap → Prop) (v : Option Value) (h2 : Heap) (L : List Loc) : Prop := ∃ v0 H', v = v0.map (up n) ∧ Q v0 H' ∧ HR Z n h2 H' ∧ Fr n L
theorem W.metF {as : List Value} (hW : W l Z n M 0 (entryL as M.2.2.1) [] H 0 0 Q) (pn : plainName M.1.cls = true) {h : Heap} (hH : HR Z n h H) (ws : List Jvm.Cond) :
    MetFree l M.1 (head1 (Cond.code M.1 M.2.1 M.2.2.1 M.2.2.2.1 :: ws) M.2.2.2.2) (fun a U => a = (as.map (up n)).toArray ∧ Z.Warmed39 U.vm ∧ U.heap = h) (fun _ _ _ _ _ => True)
      (fun _ U o U' => ∃ v L, o = .returned v ∧ RetQ Z n Q v U'.heap L ∧ FrameEnd U o U' L M.2.2.2.2.cells M.2.2.2.2.slots) := W.met hW pn hH ws
/-- what every call asks of the callee's own words -/
def OkM (a0 : Array Value) (Z : State) (M : Meth) (k : Nat) : Prop :=
  (Cond.code M.1 M.2.1 M.2.2.1 M.2.2.2.1).before a0 Z = true ∧ (Cond.initialized M.1.cls).before a0 Z = true ∧ plainName M.1.cls = true ∧ (M.1.cls ≠ "java/lang/invoke/MethodHandle" ∧ M.1.cls ≠ "java/lang/invoke/VarHandle") ∧ ∀ sig, parseMethodDescriptor M.1.desc = some sig → k = sig.parameters.length
theorem arity {d : String} {ps : List FieldType} {r : Option FieldType} {k : Nat} (hd : parseMethodDescriptor d = some ⟨ps, r⟩) (hl : k = ps.length) : ∀ sig, parseMethodDescriptor d = some sig → k = sig.parameters.length := fun sig h => by
  cases hd.symm.trans h; exact hl
def wt (st : List Value) : Nat := (st.map fun v => v.category).sum
theorem wt_up (n : Nat) : ∀ st : List Value, ((stk n st).map fun v => v.category).sum = wt st
  | [] => rfl
  | v :: st => by
    have ih := wt_up n st
    simp only [stk, wt, List.map_cons, List.sum_cons, up_cat] at ih ⊢
    rw [ih]
/-- the callee's frames, words, cells and slots fit -/
def fitsRoom (M M' : Meth) (rest : List Value) (ce sl : Nat) : Bool :=
  decide (M'.2.2.2.2.frames + 1 ≤ M.2.2.2.2.frames) && decide (wt rest + (M'.2.2.1 + 11) + M'.2.2.2.2.locals ≤ M.2.2.2.2.locals) && decide (ce + M'.2.2.2.2.cells ≤ M.2.2.2.2.cells) && decide (sl + M'.2.2.2.2.slots ≤ M.2.2.2.2.slots)
theorem fits_ {M M' : Meth} {rest : List Value} {ce sl : Nat} (h : fitsRoom M M' rest ce sl = true) : M'.2.2.2.2.frames + 1 ≤ M.2.2.2.2.frames ∧ wt rest + (M'.2.2.1 + 11) + M'.2.2.2.2.locals ≤ M.2.2.2.2.locals ∧ ce + M'.2.2.2.2.cells ≤ M.2.2.2.2.cells ∧ sl + M'.2.2.2.2.slots ≤ M.2.2.2.2.slots := by
  simp only [fitsRoom, Bool.and_eq_true, decide_eq_true_eq] at h
  exact ⟨h.1.1.1, h.1.1.2, h.1.2, h.2⟩
theorem size_loc (n : Nat) (ls : List Slot) : (loc n ls).size = ls.length := by simp [loc]
theorem W.calls {M' : Meth} {i : Nat} {as rest : List Value} {Qc : Option Value → AHeap → Prop} (hd : D M pc (.invokestatic i) 3 pc') (w : (Cond.methodLink M.1.cls i M'.1).before a0 Z = true) (ws : (Cond.static M'.1).before a0 Z = true) (K : OkM a0 Z M' as.length) (hs : st = as.reverse ++ rest) (hz : ls.length = M.2.2.1) (hf : fitsRoom M M' rest ce sl = true)
    (hM : W l Z n M' 0 (entryL as M'.2.2.1) [] H 0 0 Qc) (kk : ∀ v H', Qc v H' → WB b l Z n M pc' ls (v.toList ++ rest) H' (ce + M'.2.2.2.2.cells) (sl + M'.2.2.2.2.slots) Q) : WB b l Z n M pc ls st H ce sl Q := by
  obtain ⟨hd, rfl⟩ := hd
  subst hs
  intro p e s m args below meth c C T locs X hH hF
  obtain ⟨f1, f2, f3, f4⟩ := fits_ hf
  obtain ⟨_, _, ⟨T', L', c', s'⟩, -, X', ⟨Lc, ⟨v0, H', hv, q1, q2, q3⟩, l1, l2, l3⟩, stp⟩ := Jvm.LawKit.callS X C.1 (y := M'.1) C.2.2.1 (mvT C.2.1 w) (mvT C.2.1 ws) (mvT C.2.1 K.2.1) (mvT C.2.1 K.1) K.2.2.2.1 (backOf (Q := RetQ Z n Qc) (W := wt rest) (W.metF hM K.2.2.1 hH []) C.2.1 K.1 K.2.1 f1 f2) (g := mkF m pc (loc n ls) (stk n (as.reverse ++ rest))) rfl
    ((size_loc n ls).trans (hz.trans C.2.2.2.2.1.symm)) (argsL := as.map (up n)) (rest := stk n rest) (fun sig h => by rw [List.length_map]; exact K.2.2.2.2 sig h) (by simp [stk, List.map_append, List.map_reverse]) (by rw [wt_up]; exact Nat.le_of_eq (Nat.zero_add _)) (hb C.2.2.2.1 hd) (fun _ _ => ⟨rfl, rfl, f3, f4⟩)
  dsimp only [Pt.U, Pt.locs, Pt.cells, Pt.slots] at X' l1 l2 l3 stp q2
  subst l1 l2 l3 hv
  obtain ⟨s₂, v, L, H'', g1, g2⟩ := kk v0 H' q1 p e s m args below meth c C T' _ X' q2 (Fr.app hF q3)
  refine ⟨s₂, v, L, H'', stp _ ?_, g2⟩
  have : stk n (v0.toList ++ rest) = (v0.map (up n)).toList ++ stk n rest := by cases v0 <;> simp [stk]
  rw [this] at g1; exact g1
theorem W.callv {M' : Meth} {i k : Nat} {C : String} {fs : List (Key × Value)} {as rest : List Value} {Qc : Option Value → AHeap → Prop} (hd : D M pc (.invokevirtual i) 3 pc') (w : (Cond.methodLink M.1.cls i M'.1).before a0 Z = true) (wd : (Cond.declares M'.1).before a0 Z = true) (wi : (Cond.instanceMethod M'.1).before a0 Z = true) (wsel : (Cond.selects C M'.1 M'.1).before a0 Z = true) (K : OkM a0 Z M' as.length) (hk : H[k]? = some (.inl (C, fs))) (hs : st = as.reverse ++ .ref k :: rest) (hz : ls.length = M.2.2.1) (hf : fitsRoom M M' rest ce sl = true)
    (hM : W l Z n M' 0 (entryL (.ref k :: as) M'.2.2.1) [] H 0 0 Qc) (kk : ∀ v H', Qc v H' → WB b l Z n M pc' ls (v.toList ++ rest) H' (ce + M'.2.2.2.2.cells) (sl + M'.2.2.2.2.slots) Q) : WB b l Z n M pc ls st H ce sl Q := by
  obtain ⟨hd, rfl⟩ := hd
  subst hs
  intro p e s m args below meth c Cx T locs X hH hF
  obtain ⟨f1, f2, f3, f4⟩ := fits_ hf
  obtain ⟨cq, kq, qa, qb, qc⟩ := isOf (T := T) Cx.2.1 rfl (hH.2 k _ hk rfl).1
  obtain ⟨_, _, ⟨T', L', c', s'⟩, -, X', ⟨Lc, ⟨v0, H', hv, q1, q2, q3⟩, l1, l2, l3⟩, stp⟩ := X.virtualBack Cx.1 (y := M'.1) (z := M'.1) Cx.2.2.1 (mvT Cx.2.1 w) (mvT Cx.2.1 wd) (notFace_of_selects (args := #[]) (mvT Cx.2.1 wsel)) (mvT Cx.2.1 wsel) (mvT Cx.2.1 wi) K.2.2.2.1 (backOf (Q := RetQ Z n Qc) (W := wt rest) (W.metF hM K.2.2.1 hH []) Cx.2.1 K.1 K.2.1 f1 f2) qa qc (g := mkF m pc (loc n ls) (stk n (as.reverse ++ .ref k :: rest))) rfl
    ((size_loc n ls).trans (hz.trans Cx.2.2.2.2.1.symm)) (Steps.refl _) (argsL := as.map (up n)) (rest := stk n rest) (fun sig h => by rw [List.length_map]; exact K.2.2.2.2 sig h) (by simp [stk, List.map_append, List.map_reverse, up]) (by rw [wt_up]; exact Nat.le_of_eq (Nat.zero_add _)) (hb Cx.2.2.2.1 hd) (fun _ _ => ⟨rfl, rfl, f3, f4⟩)
  dsimp only [Pt.U, Pt.locs, Pt.cells, Pt.slots] at X' l1 l2 l3 stp q2
  subst l1 l2 l3 hv
  obtain ⟨s₂, v, L, H'', g1, g2⟩ := kk v0 H' q1 p e s m args below meth c Cx T' _ X' q2 (Fr.app hF q3)
  refine ⟨s₂, v, L, H'', stp.trans ?_, g2⟩
  have : stk n (v0.toList ++ rest) = (v0.map (up n)).toList ++ stk n rest := by cases v0 <;> simp [stk]
  rw [this] at g1; exact g1
theorem W.callp {M' : Meth} {i k kk0 : Nat} {fs : List (Key × Value)} {as rest : List Value} {Qc : Option Value → AHeap → Prop} (hd : D M pc (.invokevirtual i) 3 pc') (w : (Cond.methodLink M.1.cls i M'.1).before a0 Z = true) (wi : (Cond.instanceMethod M'.1).before a0 Z = true) (wp : (Cond.privateMethod M'.1).before a0 Z = true) (wk : (Cond.instantiable M'.1.cls kk0).before a0 Z = true) (K : OkM a0 Z M' as.length) (hk : H[k]? = some (.inl (M'.1.cls, fs))) (hs : st = as.reverse ++ .ref k :: rest) (hz : ls.length = M.2.2.1) (hf : fitsRoom M M' rest ce sl = true)
    (hM : W l Z n M' 0 (entryL (.ref k :: as) M'.2.2.1) [] H 0 0 Qc) (kk : ∀ v H', Qc v H' → WB b l Z n M pc' ls (v.toList ++ rest) H' (ce + M'.2.2.2.2.cells) (sl + M'.2.2.2.2.slots) Q) : WB b l Z n M pc ls st H ce sl Q := by
  obtain ⟨hd, rfl⟩ := hd
  subst hs
  intro p e s m args below meth c Cx T locs X hH hF
  obtain ⟨f1, f2, f3, f4⟩ := fits_ hf
  obtain ⟨cell, hc1, hc2⟩ := (hH.2 k _ hk rfl).1.cell
  have hpriv : s.PrivateAt M'.1 := Cond.privateMethod_at (mvP Cx.2.1 wp (args := #[]))
  obtain ⟨c2, k2, i1, i2, i3, i4, -⟩ := Cond.instantiable_spec (mvT (args := args) Cx.2.1 wk)
  have hni : k2.isInterface = false := by simp only [Bool.or_eq_false_iff] at i4; exact i4.1
  have hsel : (Cond.selects M'.1.cls M'.1 M'.1).before args s = true := selects_self_of_private i1 i2 hni hpriv (mvT Cx.2.1 wi) K.2.2.2.1
  obtain ⟨_, _, ⟨T', L', c', s'⟩, -, X', ⟨Lc, ⟨v0, H', hv, q1, q2, q3⟩, l1, l2, l3⟩, stp⟩ := X.privateBack Cx.1 (y := M'.1) Cx.2.2.1 (mvT Cx.2.1 w) (mvT Cx.2.1 wi) hsel hpriv (mvT Cx.2.1 K.1) K.2.2.2.1 (backOf (Q := RetQ Z n Qc) (W := wt rest) (W.metF hM K.2.2.1 hH []) Cx.2.1 K.1 K.2.1 f1 f2) (g := mkF m pc (loc n ls) (stk n (as.reverse ++ .ref k :: rest))) rfl
    ((size_loc n ls).trans (hz.trans Cx.2.2.2.2.1.symm)) (Steps.refl _) (a := n + k) hc1 hc2 (argsL := as.map (up n)) (rest := stk n rest) (fun sig h => by rw [List.length_map]; exact K.2.2.2.2 sig h) (by simp [stk, List.map_append, List.map_reverse, up]) (by rw [wt_up]; exact Nat.le_of_eq (Nat.zero_add _)) (hb Cx.2.2.2.1 hd) (fun _ _ => ⟨rfl, rfl, f3, f4⟩)
  dsimp only [Pt.U, Pt.locs, Pt.cells, Pt.slots] at X' l1 l2 l3 stp q2
  subst l1 l2 l3 hv
  obtain ⟨s₂, v, L, H'', g1, g2⟩ := kk v0 H' q1 p e s m args below meth c Cx T' _ X' q2 (Fr.app hF q3)
  refine ⟨s₂, v, L, H'', stp.trans ?_, g2⟩
  have : stk n (v0.toList ++ rest) = (v0.map (up n)).toList ++ stk n rest := by cases v0 <;> simp [stk]
  rw [this] at g1; exact g1
theorem W.init {M' : Meth} {i k : Nat} {as rest : List Value} {Qc : Option Value → AHeap → Prop} (hd : D M pc (.invokespecial i) 3 pc') (hnm : M'.1.name = "<init>") (hrt : M'.2.2.2.1 = none) (w : (Cond.methodLink M.1.cls i M'.1).before a0 Z = true) (wi : (Cond.instanceMethod M'.1).before a0 Z = true) (K : OkM a0 Z M' as.length) (hs : st = as.reverse ++ .ref k :: rest) (hz : ls.length = M.2.2.1) (hf : fitsRoom M M' rest ce sl = true)
    (hM : W l Z n M' 0 (entryL (.ref k :: as) M'.2.2.1) [] H 0 0 Qc) (kk : ∀ v H', Qc v H' → WB b l Z n M pc' ls (v.toList ++ rest) H' (ce + M'.2.2.2.2.cells) (sl + M'.2.2.2.2.slots) Q) : WB b l Z n M pc ls st H ce sl Q := by
  obtain ⟨hd, rfl⟩ := hd
  subst hs
  intro p e s m args below meth c Cx T locs X hH hF
  obtain ⟨f1, f2, f3, f4⟩ := fits_ hf
  have wc := K.1
  rw [hrt] at wc
  obtain ⟨_, _, ⟨T', L', c', s'⟩, -, X', ⟨Lc, ⟨v0, H', hv, q1, q2, q3⟩, l1, l2, l3⟩, stp⟩ := X.specialBack Cx.1 (y := M'.1) hnm Cx.2.2.1 (mvT Cx.2.1 w) (mvT Cx.2.1 wi) (mvT Cx.2.1 wc) K.2.2.2.1 (backOf (Q := RetQ Z n Qc) (W := wt rest) (W.metF hM K.2.2.1 hH []) Cx.2.1 K.1 K.2.1 f1 f2) (g := mkF m pc (loc n ls) (stk n (as.reverse ++ .ref k :: rest))) rfl
    ((size_loc n ls).trans (hz.trans Cx.2.2.2.2.1.symm)) (Steps.refl _) (a := n + k) (argsL := as.map (up n)) (rest := stk n rest) (fun sig h => by rw [List.length_map]; exact K.2.2.2.2 sig h) (by simp [stk, List.map_append, List.map_reverse, up]) (by rw [wt_up]; exact Nat.le_of_eq (Nat.zero_add _)) (hb Cx.2.2.2.1 hd) (fun _ _ => ⟨rfl, rfl, f3, f4⟩)
  dsimp only [Pt.U, Pt.locs, Pt.cells, Pt.slots] at X' l1 l2 l3 stp q2
  subst l1 l2 l3 hv
  obtain ⟨s₂, v, L, H'', g1, g2⟩ := kk v0 H' q1 p e s m args below meth c Cx T' _ X' q2 (Fr.app hF q3)
  refine ⟨s₂, v, L, H'', stp.trans ?_, g2⟩
  have : stk n (v0.toList ++ rest) = (v0.map (up n)).toList ++ stk n rest := by cases v0 <;> simp [stk]
  rw [this] at g1; exact g1
theorem W.initO {i k : Nat} {rest : List Value} (hd : D M pc (.invokespecial i) 3 pc') (w1 : (Cond.methodLink M.1.cls i Lib.objectInit).before a0 Z = true) (w2 : (Cond.instanceMethod Lib.objectInit).before a0 Z = true) (w3 : (Cond.code Lib.objectInit ⟨#[0xb1]⟩ 1 none).before a0 Z = true) (hz : ls.length = M.2.2.1) (hf : decide (1 ≤ M.2.2.2.2.frames) && decide (wt rest + 12 ≤ M.2.2.2.2.locals) = true)
    (kk : WB b l Z n M pc' ls rest H ce sl Q) : WB b l Z n M pc ls (.ref k :: rest) H ce sl Q := by
  obtain ⟨hd, rfl⟩ := hd
  simp only [Bool.and_eq_true, decide_eq_true_eq] at hf
  refine W.step (fun p e s m args below meth c Cx T locs X hH hF => ?_) kk
  obtain ⟨T', X', e', stp⟩ := RoadKit.initO X Cx.1 Cx.2.1 Cx.2.2.1 w1 w2 w3 rfl (g := mkF m pc (loc n ls) (stk n (.ref k :: rest))) rfl ((size_loc n ls).trans (hz.trans Cx.2.2.2.2.1.symm)) rfl (hb Cx.2.2.2.1 hd) hf.1 (W := wt rest) (by rw [wt_up]; exact Nat.le_of_eq (Nat.zero_add _)) hf.2
  exact ⟨T', locs, X', e' ▸ hH, hF, stp⟩
/-- from W of the whole method to the run's end, over the heap at the start -/
theorem W.start {as : List Value} (hW : WB b l Z Z.heap.size M 0 (entryL as M.2.2.1) [] [] 0 0 Q) (pn : plainName M.1.cls = true) (ws : List Jvm.Cond) :
    MetFree l M.1 (head1 (Cond.code M.1 M.2.1 M.2.2.1 M.2.2.2.1 :: ws) M.2.2.2.2) (fun a U => a = (as.map (up Z.heap.size)).toArray ∧ Z.Warmed39 U.vm ∧ U.heap = Z.heap) (fun _ _ _ _ _ => True)
      (fun _ U o U' => ∃ v L, o = .returned v ∧ (∃ v0 H', v = v0.map (up Z.heap.size) ∧ Q v0 H' ∧ HR Z Z.heap.size U'.heap H' ∧ Fr Z.heap.size L) ∧ EndR b U o U' L M.2.2.2.2.cells M.2.2.2.2.slots) :=
  W.met hW pn ⟨rfl, fun k o h _ => by cases h⟩ ws

/-- what it returns, and the heap it leaves -/
def Is (v : Option Value) (H1 : AHeap) : Option Value → AHeap → Prop := fun v' H' => v' = v ∧ H' = H1
theorem W.callsV {M' : Meth} {i : Nat} {as rest : List Value} {u : Value} {H1 : AHeap} (hd : D M pc (.invokestatic i) 3 pc') (w : (Cond.methodLink M.1.cls i M'.1).before a0 Z = true) (ws : (Cond.static M'.1).before a0 Z = true) (hM : W l Z n M' 0 (entryL as M'.2.2.1) [] H 0 0 (Is (some u) H1)) (K : OkM a0 Z M' as.length) (hs : st = as.reverse ++ rest) (hz : ls.length = M.2.2.1) (hf : fitsRoom M M' rest ce sl = true)
    (kk : WB b l Z n M pc' ls (u :: rest) H1 (ce + M'.2.2.2.2.cells) (sl + M'.2.2.2.2.slots) Q) : WB b l Z n M pc ls st H ce sl Q := W.calls hd w ws K hs hz hf hM fun v H' q => by obtain ⟨rfl, rfl⟩ := q; exact kk
theorem W.callsN {M' : Meth} {i : Nat} {as rest : List Value} {H1 : AHeap} (hd : D M pc (.invokestatic i) 3 pc') (w : (Cond.methodLink M.1.cls i M'.1).before a0 Z = true) (ws : (Cond.static M'.1).before a0 Z = true) (hM : W l Z n M' 0 (entryL as M'.2.2.1) [] H 0 0 (Is none H1)) (K : OkM a0 Z M' as.length) (hs : st = as.reverse ++ rest) (hz : ls.length = M.2.2.1) (hf : fitsRoom M M' rest ce sl = true)
    (kk : WB b l Z n M pc' ls rest H1 (ce + M'.2.2.2.2.cells) (sl + M'.2.2.2.2.slots) Q) : WB b l Z n M pc ls st H ce sl Q := W.calls hd w ws K hs hz hf hM fun v H' q => by obtain ⟨rfl, rfl⟩ := q; exact kk
theorem W.callvV {M' : Meth} {i k : Nat} {C : String} {fs : List (Key × Value)} {as rest : List Value} {u : Value} {H1 : AHeap} (hd : D M pc (.invokevirtual i) 3 pc') (w : (Cond.methodLink M.1.cls i M'.1).before a0 Z = true) (wd : (Cond.declares M'.1).before a0 Z = true) (wi : (Cond.instanceMethod M'.1).before a0 Z = true) (wsel : (Cond.selects C M'.1 M'.1).before a0 Z = true) (hM : W l Z n M' 0 (entryL (.ref k :: as) M'.2.2.1) [] H 0 0 (Is (some u) H1)) (K : OkM a0 Z M' as.length) (hk : H[k]? = some (.inl (C, fs))) (hs : st = as.reverse ++ .ref k :: rest) (hz : ls.length = M.2.2.1) (hf : fitsRoom M M' rest ce sl = true)
    (kk : WB b l Z n M pc' ls (u :: rest) H1 (ce + M'.2.2.2.2.cells) (sl + M'.2.2.2.2.slots) Q) : WB b l Z n M pc ls st H ce sl Q := W.callv hd w wd wi wsel K hk hs hz hf hM fun v H' q => by obtain ⟨rfl, rfl⟩ := q; exact kk
theorem W.callvN {M' : Meth} {i k : Nat} {C : String} {fs : List (Key × Value)} {as rest : List Value} {H1 : AHeap} (hd : D M pc (.invokevirtual i) 3 pc') (w : (Cond.methodLink M.1.cls i M'.1).before a0 Z = true) (wd : (Cond.declares M'.1).before a0 Z = true) (wi : (Cond.instanceMethod M'.1).before a0 Z = true) (wsel : (Cond.selects C M'.1 M'.1).before a0 Z = true) (hM : W l Z n M' 0 (entryL (.ref k :: as) M'.2.2.1) [] H 0 0 (Is none H1)) (K : OkM a0 Z M' as.length) (hk : H[k]? = some (.inl (C, fs))) (hs : st = as.reverse ++ .ref k :: rest) (hz : ls.length = M.2.2.1) (hf : fitsRoom M M' rest ce sl = true)
    (kk : WB b l Z n M pc' ls rest H1 (ce + M'.2.2.2.2.cells) (sl + M'.2.2.2.2.slots) Q) : WB b l Z n M pc ls st H ce sl Q := W.callv hd w wd wi wsel K hk hs hz hf hM fun v H' q => by obtain ⟨rfl, rfl⟩ := q; exact kk
theorem W.callpV {M' : Meth} {i k kk0 : Nat} {fs : List (Key × Value)} {as rest : List Value} {u : Value} {H1 : AHeap} (hd : D M pc (.invokevirtual i) 3 pc') (w : (Cond.methodLink M.1.cls i M'.1).before a0 Z = true) (wi : (Cond.instanceMethod M'.1).before a0 Z = true) (wp : (Cond.privateMethod M'.1).before a0 Z = true) (wk : (Cond.instantiable M'.1.cls kk0).before a0 Z = true) (hM : W l Z n M' 0 (entryL (.ref k :: as) M'.2.2.1) [] H 0 0 (Is (some u) H1)) (K : OkM a0 Z M' as.length) (hk : H[k]? = some (.inl (M'.1.cls, fs))) (hs : st = as.reverse ++ .ref k :: rest) (hz : ls.length = M.2.2.1) (hf : fitsRoom M M' rest ce sl = true)
    (kk : WB b l Z n M pc' ls (u :: rest) H1 (ce + M'.2.2.2.2.cells) (sl + M'.2.2.2.2.slots) Q) : WB b l Z n M pc ls st H ce sl Q := W.callp hd w wi wp wk K hk hs hz hf hM fun v H' q => by obtain ⟨rfl, rfl⟩ := q; exact kk
theorem W.callpN {M' : Meth} {i k kk0 : Nat} {fs : List (Key × Value)} {as rest : List Value} {H1 : AHeap} (hd : D M pc (.invokevirtual i) 3 pc') (w : (Cond.methodLink M.1.cls i M'.1).before a0 Z = true) (wi : (Cond.instanceMethod M'.1).before a0 Z = true) (wp : (Cond.privateMethod M'.1).before a0 Z = true) (wk : (Cond.instantiable M'.1.cls kk0).before a0 Z = true) (hM : W l Z n M' 0 (entryL (.ref k :: as) M'.2.2.1) [] H 0 0 (Is none H1)) (K : OkM a0 Z M' as.length) (hk : H[k]? = some (.inl (M'.1.cls, fs))) (hs : st = as.reverse ++ .ref k :: rest) (hz : ls.length = M.2.2.1) (hf : fitsRoom M M' rest ce sl = true)
    (kk : WB b l Z n M pc' ls rest H1 (ce + M'.2.2.2.2.cells) (sl + M'.2.2.2.2.slots) Q) : WB b l Z n M pc ls st H ce sl Q := W.callp hd w wi wp wk K hk hs hz hf hM fun v H' q => by obtain ⟨rfl, rfl⟩ := q; exact kk
theorem W.initN {M' : Meth} {i k : Nat} {as rest : List Value} {H1 : AHeap} (hd : D M pc (.invokespecial i) 3 pc') (hnm : M'.1.name = "<init>") (hrt : M'.2.2.2.1 = none) (w : (Cond.methodLink M.1.cls i M'.1).before a0 Z = true) (wi : (Cond.instanceMethod M'.1).before a0 Z = true) (hM : W l Z n M' 0 (entryL (.ref k :: as) M'.2.2.1) [] H 0 0 (Is none H1)) (K : OkM a0 Z M' as.length) (hs : st = as.reverse ++ .ref k :: rest) (hz : ls.length = M.2.2.1) (hf : fitsRoom M M' rest ce sl = true)
    (kk : WB b l Z n M pc' ls rest H1 (ce + M'.2.2.2.2.cells) (sl + M'.2.2.2.2.slots) Q) : WB b l Z n M pc ls st H ce sl Q := W.init hd hnm hrt w wi K hs hz hf hM fun v H' q => by obtain ⟨rfl, rfl⟩ := q; exact kk
theorem W.callpX {M' : Meth} {i k kk0 : Nat} {fs : List (Key × Value)} {as rest : List Value} {P : Value → AHeap → Prop} (hd : D M pc (.invokevirtual i) 3 pc') (w : (Cond.methodLink M.1.cls i M'.1).before a0 Z = true) (wi : (Cond.instanceMethod M'.1).before a0 Z = true) (wp : (Cond.privateMethod M'.1).before a0 Z = true) (wk : (Cond.instantiable M'.1.cls kk0).before a0 Z = true) (hM : W l Z n M' 0 (entryL (.ref k :: as) M'.2.2.1) [] H 0 0 (fun v H' => ∃ u, v = some u ∧ P u H')) (K : OkM a0 Z M' as.length) (hk : H[k]? = some (.inl (M'.1.cls, fs))) (hs : st = as.reverse ++ .ref k :: rest) (hz : ls.length = M.2.2.1) (hf : fitsRoom M M' rest ce sl = true)
    (kk : ∀ u H', P u H' → WB b l Z n M pc' ls (u :: rest) H' (ce + M'.2.2.2.2.cells) (sl + M'.2.2.2.2.slots) Q) : WB b l Z n M pc ls st H ce sl Q := W.callp hd w wi wp wk K hk hs hz hf hM fun v H' q => by obtain ⟨u, rfl, q⟩ := q; exact kk u H' q
theorem W.callsX {M' : Meth} {i : Nat} {as rest : List Value} {P : Value → AHeap → Prop} (hd : D M pc (.invokestatic i) 3 pc') (w : (Cond.methodLink M.1.cls i M'.1).before a0 Z = true) (ws : (Cond.static M'.1).before a0 Z = true) (hM : W l Z n M' 0 (entryL as M'.2.2.1) [] H 0 0 (fun v H' => ∃ u, v = some u ∧ P u H')) (K : OkM a0 Z M' as.length) (hs : st = as.reverse ++ rest) (hz : ls.length = M.2.2.1) (hf : fitsRoom M M' rest ce sl = true)
    (kk : ∀ u H', P u H' → WB b l Z n M pc' ls (u :: rest) H' (ce + M'.2.2.2.2.cells) (sl + M'.2.2.2.2.slots) Q) : WB b l Z n M pc ls st H ce sl Q := W.calls hd w ws K hs hz hf hM fun v H' q => by obtain ⟨u, rfl, q⟩ := q; exact kk u H' q
theorem W.callsY {M' : Meth} {i : Nat} {as rest : List Value} {P : AHeap → Prop} (hd : D M pc (.invokestatic i) 3 pc') (w : (Cond.methodLink M.1.cls i M'.1).before a0 Z = true) (ws : (Cond.static M'.1).before a0 Z = true) (hM : W l Z n M' 0 (entryL as M'.2.2.1) [] H 0 0 (fun v H' => v = none ∧ P H')) (K : OkM a0 Z M' as.length) (hs : st = as.reverse ++ rest) (hz : ls.length = M.2.2.1) (hf : fitsRoom M M' rest ce sl = true)
    (kk : ∀ H', P H' → WB b l Z n M pc' ls rest H' (ce + M'.2.2.2.2.cells) (sl + M'.2.2.2.2.slots) Q) : WB b l Z n M pc ls st H ce sl Q := W.calls hd w ws K hs hz hf hM fun v H' q => by obtain ⟨rfl, q⟩ := q; exact kk H' q
theorem W.callvX {M' : Meth} {i k : Nat} {C : String} {fs : List (Key × Value)} {as rest : List Value} {P : Value → AHeap → Prop} (hd : D M pc (.invokevirtual i) 3 pc') (w : (Cond.methodLink M.1.cls i M'.1).before a0 Z = true) (wd : (Cond.declares M'.1).before a0 Z = true) (wi : (Cond.instanceMethod M'.1).before a0 Z = true) (wsel : (Cond.selects C M'.1 M'.1).before a0 Z = true) (hM : W l Z n M' 0 (entryL (.ref k :: as) M'.2.2.1) [] H 0 0 (fun v H' => ∃ u, v = some u ∧ P u H')) (K : OkM a0 Z M' as.length) (hk : H[k]? = some (.inl (C, fs))) (hs : st = as.reverse ++ .ref k :: rest) (hz : ls.length = M.2.2.1) (hf : fitsRoom M M' rest ce sl = true)
    (kk : ∀ u H', P u H' → WB b l Z n M pc' ls (u :: rest) H' (ce + M'.2.2.2.2.cells) (sl + M'.2.2.2.2.slots) Q) : WB b l Z n M pc ls st H ce sl Q := W.callv hd w wd wi wsel K hk hs hz hf hM fun v H' q => by obtain ⟨u, rfl, q⟩ := q; exact kk u H' q
theorem W.callvY {M' : Meth} {i k : Nat} {C : String} {fs : List (Key × Value)} {as rest : List Value} {P : AHeap → Prop} (hd : D M pc (.invokevirtual i) 3 pc') (w : (Cond.methodLink M.1.cls i M'.1).before a0 Z = true) (wd : (Cond.declares M'.1).before a0 Z = true) (wi : (Cond.instanceMethod M'.1).before a0 Z = true) (wsel : (Cond.selects C M'.1 M'.1).before a0 Z = true) (hM : W l Z n M' 0 (entryL (.ref k :: as) M'.2.2.1) [] H 0 0 (fun v H' => v = none ∧ P H')) (K : OkM a0 Z M' as.length) (hk : H[k]? = some (.inl (C, fs))) (hs : st = as.reverse ++ .ref k :: rest) (hz : ls.length = M.2.2.1) (hf : fitsRoom M M' rest ce sl = true)
    (kk : ∀ H', P H' → WB b l Z n M pc' ls rest H' (ce + M'.2.2.2.2.cells) (sl + M'.2.2.2.2.slots) Q) : WB b l Z n M pc ls st H ce sl Q := W.callv hd w wd wi wsel K hk hs hz hf hM fun v H' q => by obtain ⟨rfl, q⟩ := q; exact kk H' q
/-- ldc of a String: behind it the walk goes on over the tables that the constant left -/
theorem W.ldcStr {i nn : Nat} {text : String} (hd : D M pc (.ldc i) 2 pc') (w : (Cond.stringLink M.1.cls i text).before a0 Z = true) (wS : ∀ a ∈ Bundle.stringAtoms, a.before a0 Z = true) (hn : 4 * text.toList.length ≤ nn) (hbig : nn ≤ 536870912) (hc : ce + 2 ≤ M.2.2.2.2.cells) (hl : sl + (nn + 4) ≤ M.2.2.2.2.slots)
    (kk : ∀ (a : Addr) (d : Nat), WB false l Z n M pc' ls (.retAddr a :: st) (H ++ List.replicate d junk) (ce + 2) (sl + (nn + 4)) (fun v H' => Q v H' ∧ H.length + d ≤ H'.length)) : WB true l Z n M pc ls st H ce sl Q := by
  obtain ⟨hd, rfl⟩ := hd
  intro p e s m args below meth c C T locs X hH hF
  have X0 : Stand p l e M.2.2.2.2 (s.setVm s.vm) m args below meth c T locs ce sl := X
  obtain ⟨a, T', h', k1, X', e', E, hS', hk1, hZ', hown', stp⟩ := ldcS (Z := Z) (a0 := a0) X0 C.1 C.2.1 (own := M.1.cls) (text := text) (index := i) C.2.2.1 w wS rfl (k0 := 0) ((State.WarmedH.refl s).since 0) (Nat.zero_le _) (g := mkF m pc (loc n ls) (stk n st)) rfl (hb C.2.2.2.1 hd) hn hbig hc hl
  subst e'
  have hH' : HR Z n T'.heap (H ++ List.replicate (T'.heap.size - T.heap.size) junk) := by
    have h1 := E.1
    refine ⟨by rw [List.length_append, List.length_replicate]; have := hH.1; omega, fun k o hk hJ => ?_⟩
    rw [List.getElem?_append] at hk
    split at hk
    · exact (hH.2 k o hk hJ).ext E
    · have := List.eq_of_mem_replicate (List.mem_of_getElem? hk)
      rw [this] at hJ; cases hJ
  obtain ⟨s₂, v, L, H'', g1, g2, g3, ⟨g4, g4'⟩, g5, g6, g7⟩ := kk a (T'.heap.size - T.heap.size) p e (s.setVm T'.vm) m args below meth c ⟨C.1, hZ', hown', C.2.2.2⟩ T' locs X' hH' hF
  have hsz : k1 ≤ s₂.heap.size := by have h1 := E.1; have h2 := hH.1; have h3 := g5.1; omega
  obtain ⟨q1, q2, q3⟩ := hS'.ended (U := s₂) g7.2.1 hsz g7.2.2
  exact ⟨s₂, v, L, H'', stp _ g1, g2, g3, g4, g5, g6, g7.1, q1, q2, q3⟩
theorem nar_ref (n : Nat) {v : Value} {c : String} (h : v.isRef = true) : narrow (.object c) (up n v) = up n v := by
  cases v <;> first | rfl | (simp [Value.isRef] at h)
theorem fits_ref' (n : Nat) {v : Value} {c : String} (h : v.isRef = true) : fits (.object c) (up n v) = true := by
  cases v <;> first | rfl | (simp [Value.isRef] at h)
theorem rfn_of {v : Value} (h : v.isRef = true) : rfn v = true := by cases v <;> first | rfl | (simp [Value.isRef] at h)
end Rules
/-! bits of ints and longs -/
theorem bx32 {a b : Int32} (h : ∀ i, i < 32 → a.toBitVec.getLsbD i = b.toBitVec.getLsbD i) : a = b := Int32.toBitVec_inj.mp (BitVec.eq_of_getLsbD_eq h)
theorem bx64 {a b : Int64} (h : ∀ i, i < 64 → a.toBitVec.getLsbD i = b.toBitVec.getLsbD i) : a = b := Int64.toBitVec_inj.mp (BitVec.eq_of_getLsbD_eq h)
theorem sm32 : ∀ m : Fin 32, ((BitVec.ofNat 32 m.1).smod 32).toNat = m.1 := by decide
theorem sm64 : ∀ m : Fin 64, ((BitVec.ofNat 64 m.1).smod 64).toNat = m.1 := by decide
theorem amt32 {k : Int32} {m : Nat} (hk : k.toBitVec.toNat = m) (hm : m < 32) : (k.toBitVec.smod 32).toNat = m := by
  have : k.toBitVec = BitVec.ofNat 32 m := BitVec.eq_of_toNat_eq (by rw [hk, BitVec.toNat_ofNat]; omega)
  rw [this]; exact sm32 ⟨m, hm⟩
theorem amt64 {k : Int64} {m : Nat} (hk : k.toBitVec.toNat = m) (hm : m < 64) : (k.toBitVec.smod 64).toNat = m := by
  have : k.toBitVec = BitVec.ofNat 64 m := BitVec.eq_of_toNat_eq (by rw [hk, BitVec.toNat_ofNat]; omega)
  rw [this]; exact sm64 ⟨m, hm⟩
theorem shl_bit {x k : Int32} {m : Nat} (hk : k.toBitVec.toNat = m) (hm : m < 32) (i : Nat) : (x <<< k).toBitVec.getLsbD i = (decide (i < 32) && !decide (i < m) && x.toBitVec.getLsbD (i - m)) := by
  show (x.toBitVec <<< (k.toBitVec.smod 32)).getLsbD i = _
  rw [BitVec.shiftLeft_eq', amt32 hk hm, BitVec.getLsbD_shiftLeft]
theorem shlL_bit {x k : Int64} {m : Nat} (hk : k.toBitVec.toNat = m) (hm : m < 64) (i : Nat) : (x <<< k).toBitVec.getLsbD i = (decide (i < 64) && !decide (i < m) && x.toBitVec.getLsbD (i - m)) := by
  show (x.toBitVec <<< (k.toBitVec.smod 64)).getLsbD i = _
  rw [BitVec.shiftLeft_eq', amt64 hk hm, BitVec.getLsbD_shiftLeft]
theorem ushr_bit {v k : Int32} {m : Nat} (hk : (k &&& 31).toBitVec.toNat = m) (i : Nat) : (XT.ushr v k).toBitVec.getLsbD i = v.toBitVec.getLsbD (m + i) := by
  have hm : m < 32 := by
    subst hk
    have : (k &&& 31).toBitVec = k.toBitVec &&& 31#32 := rfl
    rw [this, BitVec.toNat_and]
    exact Nat.lt_of_le_of_lt Nat.and_le_right (by decide)
  show (v.toBitVec >>> ((k &&& 31).toBitVec % 32)).getLsbD i = _
  have h2 : ((k &&& 31).toBitVec % 32).toNat = m := by rw [BitVec.toNat_umod, hk]; exact Nat.mod_eq_of_lt hm
  rw [BitVec.ushiftRight_eq', h2, BitVec.getLsbD_ushiftRight]
theorem ushrL_bit {v : Int64} {k : Int32} {m : Nat} (hk : (k.toInt64 &&& 63).toBitVec.toNat = m) (i : Nat) : (XT.ushrL v k).toBitVec.getLsbD i = v.toBitVec.getLsbD (m + i) := by
  have hm : m < 64 := by
    subst hk
    have : (k.toInt64 &&& 63).toBitVec = k.toInt64.toBitVec &&& 63#64 := rfl
    rw [this, BitVec.toNat_and]
    exact Nat.lt_of_le_of_lt Nat.and_le_right (by decide)
  show (v.toBitVec >>> ((k.toInt64 &&& 63).toBitVec % 64)).getLsbD i = _
  have h2 : ((k.toInt64 &&& 63).toBitVec % 64).toNat = m := by rw [BitVec.toNat_umod, hk]; exact Nat.mod_eq_of_lt hm
  rw [BitVec.ushiftRight_eq', h2, BitVec.getLsbD_ushiftRight]
theorem byte_bit (x : Int32) (i : Nat) : (x.toInt8.toInt32).toBitVec.getLsbD i = (decide (i < 32) && x.toBitVec.getLsbD (if i < 8 then i else 7)) := by
  show ((x.toBitVec.signExtend 8).signExtend 32).getLsbD i = _
  rw [BitVec.getLsbD_signExtend, BitVec.msb_eq_getLsbD_last, BitVec.getLsbD_signExtend, BitVec.getLsbD_signExtend]
  by_cases h : i < 8
  · simp [h, show i < 32 by omega]
  · simp [h]
theorem and_bit (x y : Int32) (i : Nat) : (x &&& y).toBitVec.getLsbD i = (x.toBitVec.getLsbD i && y.toBitVec.getLsbD i) := BitVec.getLsbD_and
theorem or_bit (x y : Int32) (i : Nat) : (x ||| y).toBitVec.getLsbD i = (x.toBitVec.getLsbD i || y.toBitVec.getLsbD i) := BitVec.getLsbD_or
theorem andL_bit (x y : Int64) (i : Nat) : (x &&& y).toBitVec.getLsbD i = (x.toBitVec.getLsbD i && y.toBitVec.getLsbD i) := BitVec.getLsbD_and
theorem orL_bit (x y : Int64) (i : Nat) : (x ||| y).toBitVec.getLsbD i = (x.toBitVec.getLsbD i || y.toBitVec.getLsbD i) := BitVec.getLsbD_or
theorem i2l_bit (x : Int32) (i : Nat) : x.toInt64.toBitVec.getLsbD i = (decide (i < 64) && x.toBitVec.getLsbD (if i < 32 then i else 31)) := by
  show (x.toBitVec.signExtend 64).getLsbD i = _
  rw [BitVec.getLsbD_signExtend, BitVec.msb_eq_getLsbD_last]
  by_cases h : i < 32 <;> simp [h]
theorem l2i_bit (x : Int64) (i : Nat) : x.toInt32.toBitVec.getLsbD i = (decide (i < 32) && x.toBitVec.getLsbD i) := by
  show (x.toBitVec.signExtend 32).getLsbD i = _
  rw [BitVec.getLsbD_signExtend]
  by_cases h : i < 32
  · simp [h, show i < 64 by omega]
  · simp [h]
theorem lit_bit (m i : Nat) : (Int32.ofNat m).toBitVec.getLsbD i = (decide (i < 32) && m.testBit i) := by
  show (BitVec.ofNat 32 m).getLsbD i = _
  rw [BitVec.getLsbD_ofNat]
theorem litL_bit (m i : Nat) : (Int64.ofNat m).toBitVec.getLsbD i = (decide (i < 64) && m.testBit i) := by
  show (BitVec.ofNat 64 m).getLsbD i = _
  rw [BitVec.getLsbD_ofNat]
theorem m255 (i : Nat) : (255 : Int32).toBitVec.getLsbD i = decide (i < 8) := by
  have : (255 : Int32) = Int32.ofNat (2 ^ 8 - 1) := rfl
  rw [this, lit_bit, Nat.testBit_two_pow_sub_one]
  by_cases h : i < 8 <;> simp [h]; omega
theorem and_nat (x y : Int32) (m : Nat) (hy : y.toBitVec.toNat = m) : (x &&& y).toBitVec.toNat ≤ m := by
  show (x.toBitVec &&& y.toBitVec).toNat ≤ m
  rw [BitVec.toNat_and, hy]; exact Nat.and_le_right
theorem of_nat32 {x : Int32} {m : Nat} (h : x.toBitVec.toNat = m) : x = Int32.ofNat m := by
  apply Int32.toBitVec_inj.mp
  apply BitVec.eq_of_toNat_eq
  show _ = (BitVec.ofNat 32 m).toNat
  rw [BitVec.toNat_ofNat, h]
  have := x.toBitVec.isLt
  omega
theorem and_three (x : Int32) : x &&& 3 = 0 ∨ x &&& 3 = 1 ∨ x &&& 3 = 2 ∨ x &&& 3 = 3 := by
  have h := and_nat x 3 3 rfl
  have hc : (x &&& 3).toBitVec.toNat = 0 ∨ (x &&& 3).toBitVec.toNat = 1 ∨ (x &&& 3).toBitVec.toNat = 2 ∨ (x &&& 3).toBitVec.toNat = 3 := by omega
  rcases hc with q | q | q | q
  · exact Or.inl (of_nat32 q)
  · exact Or.inr (Or.inl (of_nat32 q))
  · exact Or.inr (Or.inr (Or.inl (of_nat32 q)))
  · exact Or.inr (Or.inr (Or.inr (of_nat32 q)))
theorem nar_byte (y : Int32) : nar .byte (y.toInt8.toInt32) = y.toInt8.toInt32 := by
  show y.toInt8.toInt32.toInt8.toInt32 = y.toInt8.toInt32
  simp
theorem ushr_zero (x : Int32) (k : Int32) (hk : (k &&& 31).toBitVec.toNat = 0) : XT.ushr x k = x := bx32 fun i _ => by rw [ushr_bit hk, Nat.zero_add]
theorem rem_nat (x d : Int32) (m : Nat) (hx : 0 ≤ x.toInt) (hd : d.toInt = m) (hm : 0 < m) (hb : m < 2 ^ 31) : ∃ k, k < m ∧ x % d = Int32.ofNat k := by
  have h1 : (x % d).toInt = x.toInt % m := by rw [Int32.toInt_mod, hd, Int.tmod_eq_emod_of_nonneg hx]
  have h2 := Int.emod_nonneg x.toInt (show (m : Int) ≠ 0 by omega)
  have h3 := Int.emod_lt_of_pos x.toInt (show (0 : Int) < m by omega)
  refine ⟨(x.toInt % m).toNat, by omega, ?_⟩
  apply Int32.toInt_inj.mp
  rw [h1, Int32.toInt_ofNat_of_lt (by omega)]
  omega
end Jvm.OwnW
namespace Jvm.Pilot.@@N@@
open Jvm Jvm.ClassFile Sem Op Lib Jvm.Free Jvm.Stand Jvm.LawKit Jvm.RoadKit Bundle Jvm.Pilot.@@N@@.Jvm.D Jvm.OwnW

theorem wd {c : Jvm.Cond} (k : Nat) (h : tables_1[k]? = some c) : c ∈ tables_1 := List.mem_of_getElem? h
def m0 : Meth := (x, code, maxLocals, ret, room_1)
def m1 : Meth := (⟨"com/example/reshelve/reshelve/io/parquet/CursorVarintPinLaw", "cell", "(JIIII)B"⟩, method_3_code, 8, some .byte, { frames := 0, cells := 0, slots := 0, locals := 0 })
def m2 : Meth := (⟨"com/example/reshelve/reshelve/io/parquet/RowBuffer$Cursor", "<init>", "()V"⟩, prog_27_method_1_code, 1, none, { frames := 1, cells := 0, slots := 0, locals := 20 })
def m4 : Meth := (⟨"com/example/reshelve/reshelve/io/parquet/RowBuffer$Cursor", "start", "([BI)V"⟩, prog_27_method_2_code, 3, none, { frames := 0, cells := 0, slots := 0, locals := 0 })
def m5 : Meth := (⟨"com/example/reshelve/reshelve/io/parquet/RowBuffer$Cursor", "varint", "()J"⟩, prog_27_method_7_code, 6, some .long, { frames := 0, cells := 0, slots := 0, locals := 0 })
def m6 : Meth := (⟨"com/example/reshelve/reshelve/io/parquet/RowBuffer$Cursor", "at", "()I"⟩, prog_27_method_4_code, 1, some .int, { frames := 0, cells := 0, slots := 0, locals := 0 })
def m7 : Meth := (⟨"com/example/reshelve/reshelve/io/parquet/RowBuffer$Cursor", "bytes", "()[B"⟩, prog_27_method_3_code, 1, some (.array .byte), { frames := 0, cells := 0, slots := 0, locals := 0 })
theorem d0_0 : D m0 0 (.iconst 1) 1 1 := ⟨by decide +kernel, rfl⟩
theorem d0_1 : D m0 1 (.iload_n 2) 1 2 := ⟨by decide +kernel, rfl⟩
theorem d0_2 : D m0 2 (.ldc 7) 2 4 := ⟨by decide +kernel, rfl⟩
theorem d0_4 : D m0 4 (.iand) 1 5 := ⟨by decide +kernel, rfl⟩
theorem d0_5 : D m0 5 (.bipush 10) 2 7 := ⟨by decide +kernel, rfl⟩
theorem d0_7 : D m0 7 (.irem) 1 8 := ⟨by decide +kernel, rfl⟩
theorem d0_8 : D m0 8 (.iadd) 1 9 := ⟨by decide +kernel, rfl⟩
theorem d0_9 : D m0 9 (.istore 5) 2 11 := ⟨by decide +kernel, rfl⟩
theorem d0_11 : D m0 11 (.iload_n 3) 1 12 := ⟨by decide +kernel, rfl⟩
theorem d0_12 : D m0 12 (.iconst 3) 1 13 := ⟨by decide +kernel, rfl⟩
theorem d0_13 : D m0 13 (.iand) 1 14 := ⟨by decide +kernel, rfl⟩
theorem d0_14 : D m0 14 (.istore 6) 2 16 := ⟨by decide +kernel, rfl⟩
theorem d0_16 : D m0 16 (.bipush 14) 2 18 := ⟨by decide +kernel, rfl⟩
theorem d0_18 : D m0 18 (.newarray .byte) 2 20 := ⟨by decide +kernel, rfl⟩
theorem d0_20 : D m0 20 (.astore 7) 2 22 := ⟨by decide +kernel, rfl⟩
theorem d0_22 : D m0 22 (.aload 7) 2 24 := ⟨by decide +kernel, rfl⟩
theorem d0_24 : D m0 24 (.iconst 0) 1 25 := ⟨by decide +kernel, rfl⟩
theorem d0_25 : D m0 25 (.lload_n 0) 1 26 := ⟨by decide +kernel, rfl⟩
theorem d0_26 : D m0 26 (.iload 4) 2 28 := ⟨by decide +kernel, rfl⟩
theorem d0_28 : D m0 28 (.iload 6) 2 30 := ⟨by decide +kernel, rfl⟩
theorem d0_30 : D m0 30 (.iload 5) 2 32 := ⟨by decide +kernel, rfl⟩
theorem d0_32 : D m0 32 (.iconst 0) 1 33 := ⟨by decide +kernel, rfl⟩
theorem d0_33 : D m0 33 (.invokestatic 8) 3 36 := ⟨by decide +kernel, rfl⟩
theorem d0_36 : D m0 36 (.bastore) 1 37 := ⟨by decide +kernel, rfl⟩
theorem d0_37 : D m0 37 (.aload 7) 2 39 := ⟨by decide +kernel, rfl⟩
theorem d0_39 : D m0 39 (.iconst 1) 1 40 := ⟨by decide +kernel, rfl⟩
theorem d0_40 : D m0 40 (.lload_n 0) 1 41 := ⟨by decide +kernel, rfl⟩
theorem d0_41 : D m0 41 (.iload 4) 2 43 := ⟨by decide +kernel, rfl⟩
theorem d0_43 : D m0 43 (.iload 6) 2 45 := ⟨by decide +kernel, rfl⟩
theorem d0_45 : D m0 45 (.iload 5) 2 47 := ⟨by decide +kernel, rfl⟩
theorem d0_47 : D m0 47 (.iconst 1) 1 48 := ⟨by decide +kernel, rfl⟩
theorem d0_48 : D m0 48 (.invokestatic 8) 3 51 := ⟨by decide +kernel, rfl⟩
theorem d0_51 : D m0 51 (.bastore) 1 52 := ⟨by decide +kernel, rfl⟩
theorem d0_52 : D m0 52 (.aload 7) 2 54 := ⟨by decide +kernel, rfl⟩
theorem d0_54 : D m0 54 (.iconst 2) 1 55 := ⟨by decide +kernel, rfl⟩
theorem d0_55 : D m0 55 (.lload_n 0) 1 56 := ⟨by decide +kernel, rfl⟩
theorem d0_56 : D m0 56 (.iload 4) 2 58 := ⟨by decide +kernel, rfl⟩
theorem d0_58 : D m0 58 (.iload 6) 2 60 := ⟨by decide +kernel, rfl⟩
theorem d0_60 : D m0 60 (.iload 5) 2 62 := ⟨by decide +kernel, rfl⟩
theorem d0_62 : D m0 62 (.iconst 2) 1 63 := ⟨by decide +kernel, rfl⟩
theorem d0_63 : D m0 63 (.invokestatic 8) 3 66 := ⟨by decide +kernel, rfl⟩
theorem d0_66 : D m0 66 (.bastore) 1 67 := ⟨by decide +kernel, rfl⟩
theorem d0_67 : D m0 67 (.aload 7) 2 69 := ⟨by decide +kernel, rfl⟩
theorem d0_69 : D m0 69 (.iconst 3) 1 70 := ⟨by decide +kernel, rfl⟩
theorem d0_70 : D m0 70 (.lload_n 0) 1 71 := ⟨by decide +kernel, rfl⟩
theorem d0_71 : D m0 71 (.iload 4) 2 73 := ⟨by decide +kernel, rfl⟩
theorem d0_73 : D m0 73 (.iload 6) 2 75 := ⟨by decide +kernel, rfl⟩
theorem d0_75 : D m0 75 (.iload 5) 2 77 := ⟨by decide +kernel, rfl⟩
theorem d0_77 : D m0 77 (.iconst 3) 1 78 := ⟨by decide +kernel, rfl⟩
theorem d0_78 : D m0 78 (.invokestatic 8) 3 81 := ⟨by decide +kernel, rfl⟩
theorem d0_81 : D m0 81 (.bastore) 1 82 := ⟨by decide +kernel, rfl⟩
theorem d0_82 : D m0 82 (.aload 7) 2 84 := ⟨by decide +kernel, rfl⟩
theorem d0_84 : D m0 84 (.iconst 4) 1 85 := ⟨by decide +kernel, rfl⟩
theorem d0_85 : D m0 85 (.lload_n 0) 1 86 := ⟨by decide +kernel, rfl⟩
theorem d0_86 : D m0 86 (.iload 4) 2 88 := ⟨by decide +kernel, rfl⟩
theorem d0_88 : D m0 88 (.iload 6) 2 90 := ⟨by decide +kernel, rfl⟩
theorem d0_90 : D m0 90 (.iload 5) 2 92 := ⟨by decide +kernel, rfl⟩
theorem d0_92 : D m0 92 (.iconst 4) 1 93 := ⟨by decide +kernel, rfl⟩
theorem d0_93 : D m0 93 (.invokestatic 8) 3 96 := ⟨by decide +kernel, rfl⟩
theorem d0_96 : D m0 96 (.bastore) 1 97 := ⟨by decide +kernel, rfl⟩
theorem d0_97 : D m0 97 (.aload 7) 2 99 := ⟨by decide +kernel, rfl⟩
theorem d0_99 : D m0 99 (.iconst 5) 1 100 := ⟨by decide +kernel, rfl⟩
theorem d0_100 : D m0 100 (.lload_n 0) 1 101 := ⟨by decide +kernel, rfl⟩
theorem d0_101 : D m0 101 (.iload 4) 2 103 := ⟨by decide +kernel, rfl⟩
theorem d0_103 : D m0 103 (.iload 6) 2 105 := ⟨by decide +kernel, rfl⟩
theorem d0_105 : D m0 105 (.iload 5) 2 107 := ⟨by decide +kernel, rfl⟩
theorem d0_107 : D m0 107 (.iconst 5) 1 108 := ⟨by decide +kernel, rfl⟩
theorem d0_108 : D m0 108 (.invokestatic 8) 3 111 := ⟨by decide +kernel, rfl⟩
theorem d0_111 : D m0 111 (.bastore) 1 112 := ⟨by decide +kernel, rfl⟩
theorem d0_112 : D m0 112 (.aload 7) 2 114 := ⟨by decide +kernel, rfl⟩
theorem d0_114 : D m0 114 (.bipush 6) 2 116 := ⟨by decide +kernel, rfl⟩
theorem d0_116 : D m0 116 (.lload_n 0) 1 117 := ⟨by decide +kernel, rfl⟩
theorem d0_117 : D m0 117 (.iload 4) 2 119 := ⟨by decide +kernel, rfl⟩
theorem d0_119 : D m0 119 (.iload 6) 2 121 := ⟨by decide +kernel, rfl⟩
theorem d0_121 : D m0 121 (.iload 5) 2 123 := ⟨by decide +kernel, rfl⟩
theorem d0_123 : D m0 123 (.bipush 6) 2 125 := ⟨by decide +kernel, rfl⟩
theorem d0_125 : D m0 125 (.invokestatic 8) 3 128 := ⟨by decide +kernel, rfl⟩
theorem d0_128 : D m0 128 (.bastore) 1 129 := ⟨by decide +kernel, rfl⟩
theorem d0_129 : D m0 129 (.aload 7) 2 131 := ⟨by decide +kernel, rfl⟩
theorem d0_131 : D m0 131 (.bipush 7) 2 133 := ⟨by decide +kernel, rfl⟩
theorem d0_133 : D m0 133 (.lload_n 0) 1 134 := ⟨by decide +kernel, rfl⟩
theorem d0_134 : D m0 134 (.iload 4) 2 136 := ⟨by decide +kernel, rfl⟩
theorem d0_136 : D m0 136 (.iload 6) 2 138 := ⟨by decide +kernel, rfl⟩
theorem d0_138 : D m0 138 (.iload 5) 2 140 := ⟨by decide +kernel, rfl⟩
theorem d0_140 : D m0 140 (.bipush 7) 2 142 := ⟨by decide +kernel, rfl⟩
theorem d0_142 : D m0 142 (.invokestatic 8) 3 145 := ⟨by decide +kernel, rfl⟩
theorem d0_145 : D m0 145 (.bastore) 1 146 := ⟨by decide +kernel, rfl⟩
theorem d0_146 : D m0 146 (.aload 7) 2 148 := ⟨by decide +kernel, rfl⟩
theorem d0_148 : D m0 148 (.bipush 8) 2 150 := ⟨by decide +kernel, rfl⟩
theorem d0_150 : D m0 150 (.lload_n 0) 1 151 := ⟨by decide +kernel, rfl⟩
theorem d0_151 : D m0 151 (.iload 4) 2 153 := ⟨by decide +kernel, rfl⟩
theorem d0_153 : D m0 153 (.iload 6) 2 155 := ⟨by decide +kernel, rfl⟩
theorem d0_155 : D m0 155 (.iload 5) 2 157 := ⟨by decide +kernel, rfl⟩
theorem d0_157 : D m0 157 (.bipush 8) 2 159 := ⟨by decide +kernel, rfl⟩
theorem d0_159 : D m0 159 (.invokestatic 8) 3 162 := ⟨by decide +kernel, rfl⟩
theorem d0_162 : D m0 162 (.bastore) 1 163 := ⟨by decide +kernel, rfl⟩
theorem d0_163 : D m0 163 (.aload 7) 2 165 := ⟨by decide +kernel, rfl⟩
theorem d0_165 : D m0 165 (.bipush 9) 2 167 := ⟨by decide +kernel, rfl⟩
theorem d0_167 : D m0 167 (.lload_n 0) 1 168 := ⟨by decide +kernel, rfl⟩
theorem d0_168 : D m0 168 (.iload 4) 2 170 := ⟨by decide +kernel, rfl⟩
theorem d0_170 : D m0 170 (.iload 6) 2 172 := ⟨by decide +kernel, rfl⟩
theorem d0_172 : D m0 172 (.iload 5) 2 174 := ⟨by decide +kernel, rfl⟩
theorem d0_174 : D m0 174 (.bipush 9) 2 176 := ⟨by decide +kernel, rfl⟩
theorem d0_176 : D m0 176 (.invokestatic 8) 3 179 := ⟨by decide +kernel, rfl⟩
theorem d0_179 : D m0 179 (.bastore) 1 180 := ⟨by decide +kernel, rfl⟩
theorem d0_180 : D m0 180 (.aload 7) 2 182 := ⟨by decide +kernel, rfl⟩
theorem d0_182 : D m0 182 (.bipush 10) 2 184 := ⟨by decide +kernel, rfl⟩
theorem d0_184 : D m0 184 (.lload_n 0) 1 185 := ⟨by decide +kernel, rfl⟩
theorem d0_185 : D m0 185 (.iload 4) 2 187 := ⟨by decide +kernel, rfl⟩
theorem d0_187 : D m0 187 (.iload 6) 2 189 := ⟨by decide +kernel, rfl⟩
theorem d0_189 : D m0 189 (.iload 5) 2 191 := ⟨by decide +kernel, rfl⟩
theorem d0_191 : D m0 191 (.bipush 10) 2 193 := ⟨by decide +kernel, rfl⟩
theorem d0_193 : D m0 193 (.invokestatic 8) 3 196 := ⟨by decide +kernel, rfl⟩
theorem d0_196 : D m0 196 (.bastore) 1 197 := ⟨by decide +kernel, rfl⟩
theorem d0_197 : D m0 197 (.aload 7) 2 199 := ⟨by decide +kernel, rfl⟩
theorem d0_199 : D m0 199 (.bipush 11) 2 201 := ⟨by decide +kernel, rfl⟩
theorem d0_201 : D m0 201 (.lload_n 0) 1 202 := ⟨by decide +kernel, rfl⟩
theorem d0_202 : D m0 202 (.iload 4) 2 204 := ⟨by decide +kernel, rfl⟩
theorem d0_204 : D m0 204 (.iload 6) 2 206 := ⟨by decide +kernel, rfl⟩
theorem d0_206 : D m0 206 (.iload 5) 2 208 := ⟨by decide +kernel, rfl⟩
theorem d0_208 : D m0 208 (.bipush 11) 2 210 := ⟨by decide +kernel, rfl⟩
theorem d0_210 : D m0 210 (.invokestatic 8) 3 213 := ⟨by decide +kernel, rfl⟩
theorem d0_213 : D m0 213 (.bastore) 1 214 := ⟨by decide +kernel, rfl⟩
theorem d0_214 : D m0 214 (.aload 7) 2 216 := ⟨by decide +kernel, rfl⟩
theorem d0_216 : D m0 216 (.bipush 12) 2 218 := ⟨by decide +kernel, rfl⟩
theorem d0_218 : D m0 218 (.lload_n 0) 1 219 := ⟨by decide +kernel, rfl⟩
theorem d0_219 : D m0 219 (.iload 4) 2 221 := ⟨by decide +kernel, rfl⟩
theorem d0_221 : D m0 221 (.iload 6) 2 223 := ⟨by decide +kernel, rfl⟩
theorem d0_223 : D m0 223 (.iload 5) 2 225 := ⟨by decide +kernel, rfl⟩
theorem d0_225 : D m0 225 (.bipush 12) 2 227 := ⟨by decide +kernel, rfl⟩
theorem d0_227 : D m0 227 (.invokestatic 8) 3 230 := ⟨by decide +kernel, rfl⟩
theorem d0_230 : D m0 230 (.bastore) 1 231 := ⟨by decide +kernel, rfl⟩
theorem d0_231 : D m0 231 (.aload 7) 2 233 := ⟨by decide +kernel, rfl⟩
theorem d0_233 : D m0 233 (.bipush 13) 2 235 := ⟨by decide +kernel, rfl⟩
theorem d0_235 : D m0 235 (.lload_n 0) 1 236 := ⟨by decide +kernel, rfl⟩
theorem d0_236 : D m0 236 (.iload 4) 2 238 := ⟨by decide +kernel, rfl⟩
theorem d0_238 : D m0 238 (.iload 6) 2 240 := ⟨by decide +kernel, rfl⟩
theorem d0_240 : D m0 240 (.iload 5) 2 242 := ⟨by decide +kernel, rfl⟩
theorem d0_242 : D m0 242 (.bipush 13) 2 244 := ⟨by decide +kernel, rfl⟩
theorem d0_244 : D m0 244 (.invokestatic 8) 3 247 := ⟨by decide +kernel, rfl⟩
theorem d0_247 : D m0 247 (.bastore) 1 248 := ⟨by decide +kernel, rfl⟩
theorem d0_248 : D m0 248 (.new 14) 3 251 := ⟨by decide +kernel, rfl⟩
theorem d0_251 : D m0 251 (.dup) 1 252 := ⟨by decide +kernel, rfl⟩
theorem d0_252 : D m0 252 (.invokespecial 16) 3 255 := ⟨by decide +kernel, rfl⟩
theorem d0_255 : D m0 255 (.astore 8) 2 257 := ⟨by decide +kernel, rfl⟩
theorem d0_257 : D m0 257 (.aload 8) 2 259 := ⟨by decide +kernel, rfl⟩
theorem d0_259 : D m0 259 (.aload 7) 2 261 := ⟨by decide +kernel, rfl⟩
theorem d0_261 : D m0 261 (.iload 6) 2 263 := ⟨by decide +kernel, rfl⟩
theorem d0_263 : D m0 263 (.invokevirtual 17) 3 266 := ⟨by decide +kernel, rfl⟩
theorem d0_266 : D m0 266 (.aload 8) 2 268 := ⟨by decide +kernel, rfl⟩
theorem d0_268 : D m0 268 (.invokevirtual 21) 3 271 := ⟨by decide +kernel, rfl⟩
theorem d0_271 : D m0 271 (.lstore 9) 2 273 := ⟨by decide +kernel, rfl⟩
theorem d0_273 : D m0 273 (.iload 5) 2 275 := ⟨by decide +kernel, rfl⟩
theorem d0_275 : D m0 275 (.bipush 10) 2 277 := ⟨by decide +kernel, rfl⟩
theorem d0_277 : DB m0 277 (.if_icmp .ne 7) 7 280 284 := ⟨by decide +kernel, rfl, by decide, by decide⟩
theorem d0_280 : D m0 280 (.lload_n 0) 1 281 := ⟨by decide +kernel, rfl⟩
theorem d0_281 : DB m0 281 (.goto 14) 14 284 295 := ⟨by decide +kernel, rfl, by decide, by decide⟩
theorem d0_284 : D m0 284 (.lload_n 0) 1 285 := ⟨by decide +kernel, rfl⟩
theorem d0_285 : D m0 285 (.lconst 1) 1 286 := ⟨by decide +kernel, rfl⟩
theorem d0_286 : D m0 286 (.bipush 7) 2 288 := ⟨by decide +kernel, rfl⟩
theorem d0_288 : D m0 288 (.iload 5) 2 290 := ⟨by decide +kernel, rfl⟩
theorem d0_290 : D m0 290 (.imul) 1 291 := ⟨by decide +kernel, rfl⟩
theorem d0_291 : D m0 291 (.lshl) 1 292 := ⟨by decide +kernel, rfl⟩
theorem d0_292 : D m0 292 (.lconst 1) 1 293 := ⟨by decide +kernel, rfl⟩
theorem d0_293 : D m0 293 (.lsub) 1 294 := ⟨by decide +kernel, rfl⟩
theorem d0_294 : D m0 294 (.land) 1 295 := ⟨by decide +kernel, rfl⟩
theorem d0_295 : D m0 295 (.lstore 11) 2 297 := ⟨by decide +kernel, rfl⟩
theorem d0_297 : D m0 297 (.lload 9) 2 299 := ⟨by decide +kernel, rfl⟩
theorem d0_299 : D m0 299 (.lload 11) 2 301 := ⟨by decide +kernel, rfl⟩
theorem d0_301 : D m0 301 (.lcmp) 1 302 := ⟨by decide +kernel, rfl⟩
theorem d0_302 : DB m0 302 (.ifCond .ne 30) 30 305 332 := ⟨by decide +kernel, rfl, by decide, by decide⟩
theorem d0_305 : D m0 305 (.aload 8) 2 307 := ⟨by decide +kernel, rfl⟩
theorem d0_307 : D m0 307 (.invokevirtual 25) 3 310 := ⟨by decide +kernel, rfl⟩
theorem d0_310 : D m0 310 (.iload 6) 2 312 := ⟨by decide +kernel, rfl⟩
theorem d0_312 : D m0 312 (.iload 5) 2 314 := ⟨by decide +kernel, rfl⟩
theorem d0_314 : D m0 314 (.iadd) 1 315 := ⟨by decide +kernel, rfl⟩
theorem d0_315 : DB m0 315 (.if_icmp .ne 17) 17 318 332 := ⟨by decide +kernel, rfl, by decide, by decide⟩
theorem d0_318 : D m0 318 (.aload 8) 2 320 := ⟨by decide +kernel, rfl⟩
theorem d0_320 : D m0 320 (.invokevirtual 29) 3 323 := ⟨by decide +kernel, rfl⟩
theorem d0_323 : D m0 323 (.aload 7) 2 325 := ⟨by decide +kernel, rfl⟩
theorem d0_325 : DB m0 325 (.if_acmp .ne 7) 7 328 332 := ⟨by decide +kernel, rfl, by decide, by decide⟩
theorem d0_328 : D m0 328 (.iconst 1) 1 329 := ⟨by decide +kernel, rfl⟩
theorem d0_329 : DB m0 329 (.goto 4) 4 332 333 := ⟨by decide +kernel, rfl, by decide, by decide⟩
theorem d0_332 : D m0 332 (.iconst 0) 1 333 := ⟨by decide +kernel, rfl⟩
theorem d0_333 : D m0 333 (.ireturn) 1 334 := ⟨by decide +kernel, rfl⟩
theorem d1_0 : D m1 0 (.iload 5) 2 2 := ⟨by decide +kernel, rfl⟩
theorem d1_2 : D m1 2 (.iload_n 3) 1 3 := ⟨by decide +kernel, rfl⟩
theorem d1_3 : D m1 3 (.isub) 1 4 := ⟨by decide +kernel, rfl⟩
theorem d1_4 : D m1 4 (.istore 6) 2 6 := ⟨by decide +kernel, rfl⟩
theorem d1_6 : D m1 6 (.iload 6) 2 8 := ⟨by decide +kernel, rfl⟩
theorem d1_8 : DB m1 8 (.ifCond .lt 45) 45 11 53 := ⟨by decide +kernel, rfl, by decide, by decide⟩
theorem d1_11 : D m1 11 (.iload 6) 2 13 := ⟨by decide +kernel, rfl⟩
theorem d1_13 : D m1 13 (.iload 4) 2 15 := ⟨by decide +kernel, rfl⟩
theorem d1_15 : DB m1 15 (.if_icmp .ge 38) 38 18 53 := ⟨by decide +kernel, rfl, by decide, by decide⟩
theorem d1_18 : D m1 18 (.lload_n 0) 1 19 := ⟨by decide +kernel, rfl⟩
theorem d1_19 : D m1 19 (.bipush 7) 2 21 := ⟨by decide +kernel, rfl⟩
theorem d1_21 : D m1 21 (.iload 6) 2 23 := ⟨by decide +kernel, rfl⟩
theorem d1_23 : D m1 23 (.imul) 1 24 := ⟨by decide +kernel, rfl⟩
theorem d1_24 : D m1 24 (.lushr) 1 25 := ⟨by decide +kernel, rfl⟩
theorem d1_25 : D m1 25 (.ldc2_w 33) 3 28 := ⟨by decide +kernel, rfl⟩
theorem d1_28 : D m1 28 (.land) 1 29 := ⟨by decide +kernel, rfl⟩
theorem d1_29 : D m1 29 (.l2i) 1 30 := ⟨by decide +kernel, rfl⟩
theorem d1_30 : D m1 30 (.istore 7) 2 32 := ⟨by decide +kernel, rfl⟩
theorem d1_32 : D m1 32 (.iload 6) 2 34 := ⟨by decide +kernel, rfl⟩
theorem d1_34 : D m1 34 (.iload 4) 2 36 := ⟨by decide +kernel, rfl⟩
theorem d1_36 : D m1 36 (.iconst 1) 1 37 := ⟨by decide +kernel, rfl⟩
theorem d1_37 : D m1 37 (.isub) 1 38 := ⟨by decide +kernel, rfl⟩
theorem d1_38 : DB m1 38 (.if_icmp .ge 11) 11 41 49 := ⟨by decide +kernel, rfl, by decide, by decide⟩
theorem d1_41 : D m1 41 (.iload 7) 2 43 := ⟨by decide +kernel, rfl⟩
theorem d1_43 : D m1 43 (.sipush 128) 3 46 := ⟨by decide +kernel, rfl⟩
theorem d1_46 : D m1 46 (.ior) 1 47 := ⟨by decide +kernel, rfl⟩
theorem d1_47 : D m1 47 (.i2b) 1 48 := ⟨by decide +kernel, rfl⟩
theorem d1_48 : D m1 48 (.ireturn) 1 49 := ⟨by decide +kernel, rfl⟩
theorem d1_49 : D m1 49 (.iload 7) 2 51 := ⟨by decide +kernel, rfl⟩
theorem d1_51 : D m1 51 (.i2b) 1 52 := ⟨by decide +kernel, rfl⟩
theorem d1_52 : D m1 52 (.ireturn) 1 53 := ⟨by decide +kernel, rfl⟩
theorem d1_53 : D m1 53 (.iload_n 2) 1 54 := ⟨by decide +kernel, rfl⟩
theorem d1_54 : D m1 54 (.iload 5) 2 56 := ⟨by decide +kernel, rfl⟩
theorem d1_56 : D m1 56 (.iconst 3) 1 57 := ⟨by decide +kernel, rfl⟩
theorem d1_57 : D m1 57 (.iand) 1 58 := ⟨by decide +kernel, rfl⟩
theorem d1_58 : D m1 58 (.bipush 8) 2 60 := ⟨by decide +kernel, rfl⟩
theorem d1_60 : D m1 60 (.imul) 1 61 := ⟨by decide +kernel, rfl⟩
theorem d1_61 : D m1 61 (.iushr) 1 62 := ⟨by decide +kernel, rfl⟩
theorem d1_62 : D m1 62 (.i2b) 1 63 := ⟨by decide +kernel, rfl⟩
theorem d1_63 : D m1 63 (.ireturn) 1 64 := ⟨by decide +kernel, rfl⟩
theorem d2_0 : D m2 0 (.aload_n 0) 1 1 := ⟨by decide +kernel, rfl⟩
theorem d2_1 : D m2 1 (.invokespecial 1) 3 4 := ⟨by decide +kernel, rfl⟩
theorem d2_4 : D m2 4 (.return_) 1 5 := ⟨by decide +kernel, rfl⟩
theorem d4_0 : D m4 0 (.aload_n 0) 1 1 := ⟨by decide +kernel, rfl⟩
theorem d4_1 : D m4 1 (.aload_n 1) 1 2 := ⟨by decide +kernel, rfl⟩
theorem d4_2 : D m4 2 (.putfield 7) 3 5 := ⟨by decide +kernel, rfl⟩
theorem d4_5 : D m4 5 (.aload_n 0) 1 6 := ⟨by decide +kernel, rfl⟩
theorem d4_6 : D m4 6 (.iload_n 2) 1 7 := ⟨by decide +kernel, rfl⟩
theorem d4_7 : D m4 7 (.putfield 13) 3 10 := ⟨by decide +kernel, rfl⟩
theorem d4_10 : D m4 10 (.return_) 1 11 := ⟨by decide +kernel, rfl⟩
theorem d5_0 : D m5 0 (.aload_n 0) 1 1 := ⟨by decide +kernel, rfl⟩
theorem d5_1 : D m5 1 (.getfield 7) 3 4 := ⟨by decide +kernel, rfl⟩
theorem d5_4 : D m5 4 (.aload_n 0) 1 5 := ⟨by decide +kernel, rfl⟩
theorem d5_5 : D m5 5 (.getfield 13) 3 8 := ⟨by decide +kernel, rfl⟩
theorem d5_8 : D m5 8 (.baload) 1 9 := ⟨by decide +kernel, rfl⟩
theorem d5_9 : D m5 9 (.istore_n 1) 1 10 := ⟨by decide +kernel, rfl⟩
theorem d5_10 : D m5 10 (.iload_n 1) 1 11 := ⟨by decide +kernel, rfl⟩
theorem d5_11 : DB m5 11 (.ifCond .lt 16) 16 14 27 := ⟨by decide +kernel, rfl, by decide, by decide⟩
theorem d5_14 : D m5 14 (.aload_n 0) 1 15 := ⟨by decide +kernel, rfl⟩
theorem d5_15 : D m5 15 (.dup) 1 16 := ⟨by decide +kernel, rfl⟩
theorem d5_16 : D m5 16 (.getfield 13) 3 19 := ⟨by decide +kernel, rfl⟩
theorem d5_19 : D m5 19 (.iconst 1) 1 20 := ⟨by decide +kernel, rfl⟩
theorem d5_20 : D m5 20 (.iadd) 1 21 := ⟨by decide +kernel, rfl⟩
theorem d5_21 : D m5 21 (.putfield 13) 3 24 := ⟨by decide +kernel, rfl⟩
theorem d5_24 : D m5 24 (.iload_n 1) 1 25 := ⟨by decide +kernel, rfl⟩
theorem d5_25 : D m5 25 (.i2l) 1 26 := ⟨by decide +kernel, rfl⟩
theorem d5_26 : D m5 26 (.lreturn) 1 27 := ⟨by decide +kernel, rfl⟩
theorem d5_27 : D m5 27 (.lconst 0) 1 28 := ⟨by decide +kernel, rfl⟩
theorem d5_28 : D m5 28 (.lstore_n 2) 1 29 := ⟨by decide +kernel, rfl⟩
theorem d5_29 : D m5 29 (.iconst 0) 1 30 := ⟨by decide +kernel, rfl⟩
theorem d5_30 : D m5 30 (.istore 4) 2 32 := ⟨by decide +kernel, rfl⟩
theorem d5_32 : D m5 32 (.aload_n 0) 1 33 := ⟨by decide +kernel, rfl⟩
theorem d5_33 : D m5 33 (.getfield 7) 3 36 := ⟨by decide +kernel, rfl⟩
theorem d5_36 : D m5 36 (.aload_n 0) 1 37 := ⟨by decide +kernel, rfl⟩
theorem d5_37 : D m5 37 (.dup) 1 38 := ⟨by decide +kernel, rfl⟩
theorem d5_38 : D m5 38 (.getfield 13) 3 41 := ⟨by decide +kernel, rfl⟩
theorem d5_41 : D m5 41 (.dup_x1) 1 42 := ⟨by decide +kernel, rfl⟩
theorem d5_42 : D m5 42 (.iconst 1) 1 43 := ⟨by decide +kernel, rfl⟩
theorem d5_43 : D m5 43 (.iadd) 1 44 := ⟨by decide +kernel, rfl⟩
theorem d5_44 : D m5 44 (.putfield 13) 3 47 := ⟨by decide +kernel, rfl⟩
theorem d5_47 : D m5 47 (.baload) 1 48 := ⟨by decide +kernel, rfl⟩
theorem d5_48 : D m5 48 (.istore 5) 2 50 := ⟨by decide +kernel, rfl⟩
theorem d5_50 : D m5 50 (.lload_n 2) 1 51 := ⟨by decide +kernel, rfl⟩
theorem d5_51 : D m5 51 (.iload 5) 2 53 := ⟨by decide +kernel, rfl⟩
theorem d5_53 : D m5 53 (.i2l) 1 54 := ⟨by decide +kernel, rfl⟩
theorem d5_54 : D m5 54 (.ldc2_w 17) 3 57 := ⟨by decide +kernel, rfl⟩
theorem d5_57 : D m5 57 (.land) 1 58 := ⟨by decide +kernel, rfl⟩
theorem d5_58 : D m5 58 (.iload 4) 2 60 := ⟨by decide +kernel, rfl⟩
theorem d5_60 : D m5 60 (.lshl) 1 61 := ⟨by decide +kernel, rfl⟩
theorem d5_61 : D m5 61 (.lor) 1 62 := ⟨by decide +kernel, rfl⟩
theorem d5_62 : D m5 62 (.lstore_n 2) 1 63 := ⟨by decide +kernel, rfl⟩
theorem d5_63 : D m5 63 (.iinc 4 7) 3 66 := ⟨by decide +kernel, rfl⟩
theorem d5_66 : D m5 66 (.iload 5) 2 68 := ⟨by decide +kernel, rfl⟩
theorem d5_68 : DB m5 68 (.ifCond .lt (-36)) (-36) 71 32 := ⟨by decide +kernel, rfl, by decide, by decide⟩
theorem d5_71 : D m5 71 (.lload_n 2) 1 72 := ⟨by decide +kernel, rfl⟩
theorem d5_72 : D m5 72 (.lreturn) 1 73 := ⟨by decide +kernel, rfl⟩
theorem d6_0 : D m6 0 (.aload_n 0) 1 1 := ⟨by decide +kernel, rfl⟩
theorem d6_1 : D m6 1 (.getfield 13) 3 4 := ⟨by decide +kernel, rfl⟩
theorem d6_4 : D m6 4 (.ireturn) 1 5 := ⟨by decide +kernel, rfl⟩
theorem d7_0 : D m7 0 (.aload_n 0) 1 1 := ⟨by decide +kernel, rfl⟩
theorem d7_1 : D m7 1 (.getfield 7) 3 4 := ⟨by decide +kernel, rfl⟩
theorem d7_4 : D m7 4 (.areturn) 1 5 := ⟨by decide +kernel, rfl⟩
theorem pn0 : plainName "com/example/reshelve/reshelve/io/parquet/CursorVarintPinLaw" = true := by first | (simp [plainName, overriddenIn]; done) | decide +kernel
theorem pd1 : parseMethodDescriptor "(JIIII)B" = some ⟨[.long, .int, .int, .int, .int], some .byte⟩ := by decide +kernel
theorem ok1 {Z : State} {a0 : Array Value} (hw : ∀ d ∈ tables_1, d.before a0 Z = true) : OkM a0 Z m1 5 := ⟨hw _ (wd 5 rfl), hw _ (wd 4 rfl), pn0, ⟨by decide, by decide⟩, arity pd1 rfl⟩
theorem pn1 : plainName "com/example/reshelve/reshelve/io/parquet/RowBuffer$Cursor" = true := by first | (simp [plainName, overriddenIn]; done) | decide +kernel
theorem pd2 : parseMethodDescriptor "()V" = some ⟨[], none⟩ := by decide +kernel
theorem ok2 {Z : State} {a0 : Array Value} (hw : ∀ d ∈ tables_1, d.before a0 Z = true) : OkM a0 Z m2 0 := ⟨hw _ (wd 12 rfl), hw _ (wd 9 rfl), pn1, ⟨by decide, by decide⟩, arity pd2 rfl⟩
theorem pd4 : parseMethodDescriptor "([BI)V" = some ⟨[(.array .byte), .int], none⟩ := by decide +kernel
theorem ok4 {Z : State} {a0 : Array Value} (hw : ∀ d ∈ tables_1, d.before a0 Z = true) : OkM a0 Z m4 2 := ⟨hw _ (wd 20 rfl), hw _ (wd 9 rfl), pn1, ⟨by decide, by decide⟩, arity pd4 rfl⟩
theorem pd5 : parseMethodDescriptor "()J" = some ⟨[], some .long⟩ := by decide +kernel
theorem ok5 {Z : State} {a0 : Array Value} (hw : ∀ d ∈ tables_1, d.before a0 Z = true) : OkM a0 Z m5 0 := ⟨hw _ (wd 29 rfl), hw _ (wd 9 rfl), pn1, ⟨by decide, by decide⟩, arity pd5 rfl⟩
theorem pd6 : parseMethodDescriptor "()I" = some ⟨[], some .int⟩ := by decide +kernel
theorem ok6 {Z : State} {a0 : Array Value} (hw : ∀ d ∈ tables_1, d.before a0 Z = true) : OkM a0 Z m6 0 := ⟨hw _ (wd 35 rfl), hw _ (wd 9 rfl), pn1, ⟨by decide, by decide⟩, arity pd6 rfl⟩
theorem pd7 : parseMethodDescriptor "()[B" = some ⟨[], some (.array .byte)⟩ := by decide +kernel
theorem ok7 {Z : State} {a0 : Array Value} (hw : ∀ d ∈ tables_1, d.before a0 Z = true) : OkM a0 Z m7 0 := ⟨hw _ (wd 40 rfl), hw _ (wd 9 rfl), pn1, ⟨by decide, by decide⟩, arity pd7 rfl⟩
def fs0 : List (Key × Value) := [(("com/example/reshelve/reshelve/io/parquet/RowBuffer$Cursor", "bytes", "[B"), .null), (("com/example/reshelve/reshelve/io/parquet/RowBuffer$Cursor", "at", "I"), .int 0)]
theorem okc0 {Z : State} {a0 : Array Value} (hw : ∀ d ∈ tables_1, d.before a0 Z = true) : OkC a0 Z "com/example/reshelve/reshelve/io/parquet/RowBuffer$Cursor" 2 fs0 := by
  refine ⟨hw _ (wd 8 rfl), hw _ (wd 9 rfl), fun q hq => ?_, by simp [fs0]⟩
  simp only [fs0, List.mem_cons, List.not_mem_nil, or_false] at hq
  rcases hq with rfl | rfl
  · exact ⟨(.array .byte), Or.inl (hw _ (wd 22 rfl)), by decide, rfl⟩
  · exact ⟨.int, Or.inl (hw _ (wd 24 rfl)), by decide, rfl⟩
theorem own_i {a : Nat} (h : a < 1000) : (Int32.ofNat a).toInt = a := Int32.toInt_ofNat_of_lt (by omega)
theorem own_isub {a b : Nat} (ha : a < 1000) (hb : b < 1000) : (Int32.ofNat a - Int32.ofNat b).toInt = a - b := by
  rw [Int32.toInt_sub, own_i ha, own_i hb]
  exact Int.bmod_eq_of_le (by omega) (by omega)
theorem own_sub_eq {a b : Nat} (hb : b ≤ a) (ha : a < 1000) : Int32.ofNat a - Int32.ofNat b = Int32.ofNat (a - b) := by
  apply Int32.toInt_inj.mp
  rw [own_isub ha (by omega), own_i (by omega)]
  omega
def own_g (v : Int64) (i : Nat) : Int32 := (XT.ushrL v (7 * Int32.ofNat i) &&& 127).toInt32
def own_fill (g : Int32) (j : Nat) : Int32 := XT.ushr g ((Int32.ofNat j &&& 3) * 8)
def own_cell (v : Int64) (g : Int32) (o m j : Nat) : Int32 := if j < o then own_fill g j else if j - o < m then (if j - o + 1 < m then own_g v (j - o) ||| 128 else own_g v (j - o)) else own_fill g j
theorem own_c8 (v : Int64) (g : Int32) (o m j : Nat) (ho : o < 4) (hj : j < 14) (h8 : Int32.ofNat j - Int32.ofNat o < 0) : own_cell v g o m j = own_fill g j := by
  rw [Int32.lt_iff_toInt_lt, own_isub (by omega) (by omega)] at h8
  have : (0 : Int32).toInt = 0 := rfl
  exact if_pos (by omega)
theorem own_c15 (v : Int64) (g : Int32) (o m j : Nat) (ho : o < 4) (hm : m < 11) (hj : j < 14) (h8 : ¬ Int32.ofNat j - Int32.ofNat o < 0) (h15 : ¬ Int32.ofNat j - Int32.ofNat o < Int32.ofNat m) : own_cell v g o m j = own_fill g j := by
  rw [Int32.lt_iff_toInt_lt, own_isub (by omega) (by omega)] at h8 h15
  rw [own_i (by omega)] at h15
  have : (0 : Int32).toInt = 0 := rfl
  unfold own_cell
  rw [if_neg (by omega), if_neg (by omega)]
theorem own_c38t (v : Int64) (g : Int32) (o m j : Nat) (ho : o < 4) (hm : m < 11) (hj : j < 14) (h8 : ¬ Int32.ofNat j - Int32.ofNat o < 0) (h15 : Int32.ofNat j - Int32.ofNat o < Int32.ofNat m) (h38 : ¬ Int32.ofNat j - Int32.ofNat o < Int32.ofNat m - 1) : own_cell v g o m j = (XT.ushrL v (7 * (Int32.ofNat j - Int32.ofNat o)) &&& 127).toInt32 := by
  rw [Int32.lt_iff_toInt_lt, own_isub (by omega) (by omega)] at h8 h15 h38
  rw [own_i (by omega)] at h15
  have e1 : (Int32.ofNat m - 1).toInt = m - 1 := own_isub (a := m) (b := 1) (by omega) (by omega)
  have : (0 : Int32).toInt = 0 := rfl
  unfold own_cell
  rw [if_neg (by omega), if_pos (by omega), if_neg (by omega), own_g, own_sub_eq (by omega) (by omega)]
theorem own_c38f (v : Int64) (g : Int32) (o m j : Nat) (ho : o < 4) (hm : m < 11) (hj : j < 14) (h8 : ¬ Int32.ofNat j - Int32.ofNat o < 0) (h15 : Int32.ofNat j - Int32.ofNat o < Int32.ofNat m) (h38 : Int32.ofNat j - Int32.ofNat o < Int32.ofNat m - 1) : own_cell v g o m j = (XT.ushrL v (7 * (Int32.ofNat j - Int32.ofNat o)) &&& 127).toInt32 ||| 128 := by
  rw [Int32.lt_iff_toInt_lt, own_isub (by omega) (by omega)] at h8 h15 h38
  rw [own_i (by omega)] at h15
  have e1 : (Int32.ofNat m - 1).toInt = m - 1 := own_isub (a := m) (b := 1) (by omega) (by omega)
  have : (0 : Int32).toInt = 0 := rfl
  unfold own_cell
  rw [if_neg (by omega), if_pos (by omega), if_pos (by omega), own_g, own_sub_eq (by omega) (by omega)]
/-- the byte as it lies in the array -/
def own_b (v : Int64) (g : Int32) (o m j : Nat) : Int32 := (own_cell v g o m j).toInt8.toInt32.toInt8.toInt32
theorem own_127L (i : Nat) : (127 : Int64).toBitVec.getLsbD i = decide (i < 7) := by
  have : (127 : Int64) = Int64.ofNat (2 ^ 7 - 1) := rfl
  rw [this, litL_bit, Nat.testBit_two_pow_sub_one]
  by_cases h : i < 7 <;> simp [h]; omega
theorem own_7 (i : Nat) (h : i < 10) : ((7 * Int32.ofNat i).toInt64 &&& 63).toBitVec.toNat = 7 * i := by
  have hc : i = 0 ∨ i = 1 ∨ i = 2 ∨ i = 3 ∨ i = 4 ∨ i = 5 ∨ i = 6 ∨ i = 7 ∨ i = 8 ∨ i = 9 := by omega
  rcases hc with rfl | rfl | rfl | rfl | rfl | rfl | rfl | rfl | rfl | rfl <;> decide
theorem own_g_bit (v : Int64) (i t : Nat) (h : i < 10) : (own_g v i).toBitVec.getLsbD t = (decide (t < 7) && v.toBitVec.getLsbD (7 * i + t)) := by
  unfold own_g
  rw [l2i_bit, andL_bit, ushrL_bit (own_7 i h), own_127L]
  by_cases c : t < 7
  · simp [c, show t < 32 by omega]
  · simp [c]
theorem own_neg (r : Int32) : (r ||| 128).toInt8.toInt32.toInt8.toInt32 < 0 := by
  have e : (r ||| 128).toInt8.toInt32.toInt8.toInt32.toBitVec.msb = true := by
    rw [BitVec.msb_eq_getLsbD_last]
    simp only [byte_bit, or_bit]
    have : (128 : Int32).toBitVec.getLsbD 7 = true := by decide
    simp [this]
  rw [Int32.lt_iff_toInt_lt]
  show BitVec.toInt _ < 0
  rw [BitVec.msb_eq_toInt] at e; simpa using e
theorem own_pos (v : Int64) (i : Nat) (h : i < 10) : ¬ (own_g v i).toInt8.toInt32.toInt8.toInt32 < 0 := by
  have e : (own_g v i).toInt8.toInt32.toInt8.toInt32.toBitVec.msb = false := by
    rw [BitVec.msb_eq_getLsbD_last]
    simp only [byte_bit, own_g_bit v i _ h]
    simp
  rw [Int32.lt_iff_toInt_lt]
  show ¬ BitVec.toInt _ < 0
  rw [BitVec.msb_eq_toInt] at e; simpa using e
theorem own_b_more (v : Int64) (g : Int32) (o m i : Nat) (h : i + 1 < m) : own_b v g o m (o + i) < 0 := by
  unfold own_b own_cell
  rw [if_neg (by omega), if_pos (by omega), if_pos (by omega)]
  exact own_neg _
theorem own_b_last (v : Int64) (g : Int32) (o m i : Nat) (h : i + 1 = m) (hm : m < 11) : ¬ own_b v g o m (o + i) < 0 := by
  unfold own_b own_cell
  rw [if_neg (by omega), if_pos (by omega), if_neg (by omega)]
  have : o + i - o = i := by omega
  rw [this]
  exact own_pos v i (by omega)
theorem own_b_bit (v : Int64) (g : Int32) (o m i t : Nat) (h : i < m) (hm : m < 11) (ht : t < 7) : (own_b v g o m (o + i)).toBitVec.getLsbD t = v.toBitVec.getLsbD (7 * i + t) := by
  have e : o + i - o = i := by omega
  unfold own_b own_cell
  rw [if_neg (by omega), if_pos (by omega), e]
  by_cases c : i + 1 < m
  · rw [if_pos c]
    simp only [byte_bit, or_bit, own_g_bit v i _ (show i < 10 by omega)]
    have : (128 : Int32).toBitVec.getLsbD t = false := by
      have hc : t = 0 ∨ t = 1 ∨ t = 2 ∨ t = 3 ∨ t = 4 ∨ t = 5 ∨ t = 6 := by omega
      rcases hc with rfl | rfl | rfl | rfl | rfl | rfl | rfl <;> rfl
    simp only [show t < 8 by omega, show t < 32 by omega, ht, if_true, decide_true, this, Bool.true_and, Bool.or_false]
  · rw [if_neg c]
    simp only [byte_bit, own_g_bit v i _ (show i < 10 by omega)]
    simp [show t < 8 by omega, show t < 32 by omega, ht]
def own_mask (v : Int64) (k : Nat) : Int64 := Int64.ofBitVec ((v.toBitVec.setWidth k).setWidth 64)
theorem own_mask_bit (v : Int64) (k t : Nat) : (own_mask v k).toBitVec.getLsbD t = (decide (t < 64) && decide (t < k) && v.toBitVec.getLsbD t) := by
  show ((v.toBitVec.setWidth k).setWidth 64).getLsbD t = _
  rw [BitVec.getLsbD_setWidth, BitVec.getLsbD_setWidth, Bool.and_assoc]
theorem own_mask0 (v : Int64) : own_mask v 0 = 0 := by
  apply bx64; intro i hi; rw [own_mask_bit]; show _ = (0#64).getLsbD i; simp
theorem own_sft (i : Nat) (h : i < 10) : ((Int32.ofNat (7 * i)) &&& 0x3f).toInt64.toBitVec.toNat = 7 * i := by
  have hc : i = 0 ∨ i = 1 ∨ i = 2 ∨ i = 3 ∨ i = 4 ∨ i = 5 ∨ i = 6 ∨ i = 7 ∨ i = 8 ∨ i = 9 := by omega
  rcases hc with rfl | rfl | rfl | rfl | rfl | rfl | rfl | rfl | rfl | rfl <;> decide
theorem own_mask_step (v : Int64) (g : Int32) (o m i : Nat) (h : i < m) (hm : m < 11) : own_mask v (7 * i) ||| (((own_b v g o m (o + i)).toInt64 &&& 127) <<< ((Int32.ofNat (7 * i)) &&& 0x3f).toInt64) = own_mask v (7 * (i + 1)) := by
  apply bx64
  intro t ht
  rw [orL_bit, shlL_bit (own_sft i (by omega)) (by omega), andL_bit, own_127L, i2l_bit, own_mask_bit, own_mask_bit]
  by_cases c1 : t < 7 * i
  · simp [c1, ht, show t < 7 * (i + 1) by omega]
  · by_cases c2 : t < 7 * (i + 1)
    · have q := own_b_bit v g o m i (t - 7 * i) h hm (by omega)
      rw [show 7 * i + (t - 7 * i) = t by omega] at q
      simp only [c1, c2, ht, show t - 7 * i < 7 by omega, show t - 7 * i < 32 by omega, show t - 7 * i < 64 by omega, if_true, decide_true, decide_false, Bool.not_false, Bool.true_and, Bool.and_true, Bool.and_false, Bool.false_and, Bool.false_or, q]
    · simp [c1, c2, ht, show ¬ (t - 7 * i < 7) by omega]
theorem own_first (v : Int64) (g : Int32) (o m : Nat) (hm : m = 1) : (own_b v g o m o).toInt64 = own_mask v 7 := by
  apply bx64
  intro t ht
  have h0 := own_b_last v g o m 0 (by omega) (by omega)
  have hb := own_b_bit v g o m 0
  rw [Nat.add_zero] at h0 hb
  have hg : own_b v g o m o = (own_g v 0).toInt8.toInt32.toInt8.toInt32 := by
    unfold own_b own_cell
    rw [if_neg (by omega), if_pos (by omega), if_neg (by omega), Nat.sub_self]
  rw [hg, i2l_bit, own_mask_bit]
  simp only [byte_bit, own_g_bit v 0 _ (show 0 < 10 by omega)]
  by_cases c : t < 7
  · simp [c, ht, show t < 8 by omega, show t < 32 by omega]
  · have : ¬ ((if (if (if t < 32 then t else 31) < 8 then (if t < 32 then t else 31) else 7) < 8 then (if (if t < 32 then t else 31) < 8 then (if t < 32 then t else 31) else 7) else 7) < 7) := by
      split <;> split <;> (try split) <;> omega
    simp [c, ht, this]
theorem own_want10 (v : Int64) : own_mask v (7 * 10) = v := by
  apply bx64; intro t ht; rw [own_mask_bit]; simp [ht, show t < 70 by omega]
theorem own_want (v : Int64) (m : Nat) (hm : m < 10) : own_mask v (7 * m) = v &&& (((1 : Int64) <<< ((7 * Int32.ofNat m) &&& 0x3f).toInt64) - 1) := by
  apply bx64; intro t ht
  have e : (((1 : Int64) <<< ((7 * Int32.ofNat m) &&& 0x3f).toInt64) - 1) = Int64.ofNat (2 ^ (7 * m) - 1) := by
    have hc : m = 0 ∨ m = 1 ∨ m = 2 ∨ m = 3 ∨ m = 4 ∨ m = 5 ∨ m = 6 ∨ m = 7 ∨ m = 8 ∨ m = 9 := by omega
    rcases hc with rfl | rfl | rfl | rfl | rfl | rfl | rfl | rfl | rfl | rfl <;> decide
  rw [e, andL_bit, litL_bit, Nat.testBit_two_pow_sub_one, own_mask_bit]
  simp [ht, Bool.and_comm]
def own_arr (v : Int64) (g : Int32) (o m : Nat) : List Value := (List.range 14).map fun j => Value.int (own_b v g o m j)
theorem own_get (v : Int64) (g : Int32) (o m j : Nat) (h : j < 14) : (own_arr v g o m)[j]? = some (.int (own_b v g o m j)) := by
  unfold own_arr
  rw [List.getElem?_map, List.getElem?_range h]; rfl
theorem own_idx (a : Nat) (h : a < 1000) : ¬ Int32.ofNat a < 0 ∧ (Int32.ofNat a).toNatClampNeg = a := by
  have e := own_i h
  refine ⟨?_, ?_⟩
  · rw [Int32.lt_iff_toInt_lt, e]; have : (0 : Int32).toInt = 0 := rfl; omega
  · show (Int32.ofNat a).toInt.toNat = a; rw [e]; rfl
theorem own_plus (a b : Nat) : Int32.ofNat a + Int32.ofNat b = Int32.ofNat (a + b) := (Int32.ofNat_add a b).symm
theorem own_seven (i : Nat) : Int32.ofNat (7 * i) + 7 = Int32.ofNat (7 * (i + 1)) := own_plus (7 * i) 7
theorem own_next (o i : Nat) : Int32.ofNat (o + i) + 1 = Int32.ofNat (o + (i + 1)) := own_plus (o + i) 1
set_option maxRecDepth 65536 in
set_option maxHeartbeats 40000000 in
theorem w1 {l : Launch} {Z : State} {a0 : Array Value} {n : Nat} (hw : ∀ d ∈ tables_1, d.before a0 Z = true) (v : Int64) (g : Int32) (o m : Nat) (ho : o < 4) (hm : 0 < m) (hm' : m < 11) (j : Nat) (hj : j < 14) (H : AHeap) : W l Z n m1 0 (entryL [.long v, .int g, .int (Int32.ofNat o), .int (Int32.ofNat m), .int (Int32.ofNat j)] 8) [] H 0 0 (Is (some (.int (own_cell v g o m j).toInt8.toInt32)) H) := by
  show W l Z n m1 0 [(.val (.long (v))), .second, (.val (.int (g))), (.val (.int (Int32.ofNat o))), (.val (.int (Int32.ofNat m))), (.val (.int (Int32.ofNat j))), .unset, .unset] [] H 0 0 _
  refine W.iload d1_0 rfl ?_
  refine W.iloadN d1_2 rfl ?_
  refine W.isub d1_3 ?_
  refine W.istore d1_4 rfl ?_
  refine W.iload d1_6 rfl ?_
  refine W.if_lt d1_8 (fun h8 => ?_) (fun h8 => ?_)
  · refine W.iloadN d1_53 rfl ?_
    refine W.iload d1_54 rfl ?_
    refine W.iconst 3 d1_56 rfl ?_
    refine W.iand d1_57 ?_
    refine W.bipush 8 d1_58 rfl ?_
    refine W.imul d1_60 ?_
    refine W.iushr d1_61 ?_
    refine W.i2b d1_62 ?_
    exact W.nreturn .byte d1_63 rfl (by simp) (by decide) (by decide) (⟨by rw [nar_byte, own_c8 v g o m j ho hj h8] <;> rfl, rfl⟩)
  · refine W.iload d1_11 rfl ?_
    refine W.iload d1_13 rfl ?_
    refine W.icmp_ge d1_15 (fun h15 => ?_) (fun h15 => ?_)
    · refine W.iloadN d1_53 rfl ?_
      refine W.iload d1_54 rfl ?_
      refine W.iconst 3 d1_56 rfl ?_
      refine W.iand d1_57 ?_
      refine W.bipush 8 d1_58 rfl ?_
      refine W.imul d1_60 ?_
      refine W.iushr d1_61 ?_
      refine W.i2b d1_62 ?_
      exact W.nreturn .byte d1_63 rfl (by simp) (by decide) (by decide) (⟨by rw [nar_byte, own_c15 v g o m j ho hm' hj h8 h15] <;> rfl, rfl⟩)
    · refine W.lloadN d1_18 rfl ?_
      refine W.bipush 7 d1_19 rfl ?_
      refine W.iload d1_21 rfl ?_
      refine W.imul d1_23 ?_
      refine W.lushr d1_24 ?_
      refine W.ldc2 d1_25 (hw _ (wd 6 rfl)) ?_
      refine W.land d1_28 ?_
      refine W.l2i d1_29 ?_
      refine W.istore d1_30 rfl ?_
      refine W.iload d1_32 rfl ?_
      refine W.iload d1_34 rfl ?_
      refine W.iconst 1 d1_36 rfl ?_
      refine W.isub d1_37 ?_
      refine W.icmp_ge d1_38 (fun h38 => ?_) (fun h38 => ?_)
      · refine W.iload d1_49 rfl ?_
        refine W.i2b d1_51 ?_
        exact W.nreturn .byte d1_52 rfl (by simp) (by decide) (by decide) (⟨by rw [nar_byte, own_c38t v g o m j ho hm' hj h8 h15 h38] <;> rfl, rfl⟩)
      · refine W.iload d1_41 rfl ?_
        refine W.sipush 128 d1_43 rfl ?_
        refine W.ior d1_46 ?_
        refine W.i2b d1_47 ?_
        exact W.nreturn .byte d1_48 rfl (by simp) (by decide) (by decide) (⟨by rw [nar_byte, own_c38f v g o m j ho hm' hj h8 h15 h38] <;> rfl, rfl⟩)
set_option maxRecDepth 65536 in
set_option maxHeartbeats 40000000 in
theorem loop5 {l : Launch} {Z : State} {a0 : Array Value} {n : Nat} (hw : ∀ d ∈ tables_1, d.before a0 Z = true) (v : Int64) (g : Int32) (o m : Nat) (ho : o < 4) (hm : 0 < m) (hm' : m < 11) (y : Int32) : ∀ (r i : Nat) (x5 : Slot), (x5 = .unset ∨ ∃ w, x5 = .val (.int w)) → i + r + 1 = m → W l Z n m5 32 [(.val (.ref 1)), (.val (.int (y))), (.val (.long (own_mask v (7 * i)))), .second, (.val (.int (Int32.ofNat (7 * i)))), x5] [] [.inr (.byte, own_arr v g o m), .inl ("com/example/reshelve/reshelve/io/parquet/RowBuffer$Cursor", [(("com/example/reshelve/reshelve/io/parquet/RowBuffer$Cursor", "bytes", "[B"), (.ref 0)), (("com/example/reshelve/reshelve/io/parquet/RowBuffer$Cursor", "at", "I"), (.int (Int32.ofNat (o + i))))])] 0 0 (Is (some (.long (own_mask v (7 * m)))) [.inr (.byte, own_arr v g o m), .inl ("com/example/reshelve/reshelve/io/parquet/RowBuffer$Cursor", [(("com/example/reshelve/reshelve/io/parquet/RowBuffer$Cursor", "bytes", "[B"), (.ref 0)), (("com/example/reshelve/reshelve/io/parquet/RowBuffer$Cursor", "at", "I"), (.int (Int32.ofNat (o + m))))])]) := by
  intro r
  induction r with
  | zero =>
    intro i x5 h5 hi
    refine W.aloadN d5_32 rfl rfl ?_
    refine W.getfield 0 d5_33 (hw _ (wd 21 rfl)) rfl rfl ?_
    refine W.aloadN d5_36 rfl rfl ?_
    refine W.dup d5_37 rfl ?_
    refine W.getfield 1 d5_38 (hw _ (wd 23 rfl)) rfl rfl ?_
    refine W.dupX1 d5_41 rfl rfl ?_
    refine W.iconst 1 d5_42 rfl ?_
    refine W.iadd d5_43 ?_
    refine W.putfield 1 d5_44 (hw _ (wd 23 rfl)) rfl rfl (Or.inl (hw _ (wd 24 rfl))) (hw _ (wd 8 rfl)) (ty := .int) (by decide) (fun _ => rfl) (fun _ => rfl) ?_
    refine W.baload (i := (o + i)) d5_47 rfl (own_idx _ (by omega)) (own_get v g o m _ (by omega)) ?_
    refine W.istore d5_48 (by rcases h5 with rfl | ⟨w, rfl⟩ <;> rfl) ?_
    refine W.lloadN d5_50 rfl ?_
    refine W.iload d5_51 rfl ?_
    refine W.i2l d5_53 ?_
    refine W.ldc2 d5_54 (hw _ (wd 30 rfl)) ?_
    refine W.land d5_57 ?_
    refine W.iload d5_58 rfl ?_
    refine W.lshl d5_60 ?_
    refine W.lor d5_61 ?_
    refine W.lstoreN d5_62 rfl ?_
    refine W.iinc 7 d5_63 rfl rfl ?_
    refine W.iload d5_66 rfl ?_
    refine W.if_lt d5_68 (fun h => False.elim (own_b_last v g o m i (by omega) hm' h)) (fun h68 => ?_)
    refine W.lloadN d5_71 rfl ?_
    exact W.lreturn d5_72 rfl (by decide) (by decide) (⟨by rw [own_mask_step v g o m i (by omega) hm', show i + 1 = m by omega], by rw [own_next, show i + 1 = m by omega]; rfl⟩)
  | succ r ih =>
    intro i x5 h5 hi
    refine W.aloadN d5_32 rfl rfl ?_
    refine W.getfield 0 d5_33 (hw _ (wd 21 rfl)) rfl rfl ?_
    refine W.aloadN d5_36 rfl rfl ?_
    refine W.dup d5_37 rfl ?_
    refine W.getfield 1 d5_38 (hw _ (wd 23 rfl)) rfl rfl ?_
    refine W.dupX1 d5_41 rfl rfl ?_
    refine W.iconst 1 d5_42 rfl ?_
    refine W.iadd d5_43 ?_
    refine W.putfield 1 d5_44 (hw _ (wd 23 rfl)) rfl rfl (Or.inl (hw _ (wd 24 rfl))) (hw _ (wd 8 rfl)) (ty := .int) (by decide) (fun _ => rfl) (fun _ => rfl) ?_
    refine W.baload (i := (o + i)) d5_47 rfl (own_idx _ (by omega)) (own_get v g o m _ (by omega)) ?_
    refine W.istore d5_48 (by rcases h5 with rfl | ⟨w, rfl⟩ <;> rfl) ?_
    refine W.lloadN d5_50 rfl ?_
    refine W.iload d5_51 rfl ?_
    refine W.i2l d5_53 ?_
    refine W.ldc2 d5_54 (hw _ (wd 30 rfl)) ?_
    refine W.land d5_57 ?_
    refine W.iload d5_58 rfl ?_
    refine W.lshl d5_60 ?_
    refine W.lor d5_61 ?_
    refine W.lstoreN d5_62 rfl ?_
    refine W.iinc 7 d5_63 rfl rfl ?_
    refine W.iload d5_66 rfl ?_
    refine W.if_lt d5_68 (fun h68 => ?_) (fun h => False.elim (h (own_b_more v g o m i (by omega))))
    rw [own_mask_step v g o m i (by omega) hm', own_seven, own_next]
    exact ih (i + 1) _ (Or.inr ⟨_, rfl⟩) (by omega)
set_option maxRecDepth 65536 in
set_option maxHeartbeats 40000000 in
theorem w5 {l : Launch} {Z : State} {a0 : Array Value} {n : Nat} (hw : ∀ d ∈ tables_1, d.before a0 Z = true) (v : Int64) (g : Int32) (o m : Nat) (ho : o < 4) (hm : 0 < m) (hm' : m < 11) : W l Z n m5 0 (entryL [.ref 1] 6) [] [.inr (.byte, own_arr v g o m), .inl ("com/example/reshelve/reshelve/io/parquet/RowBuffer$Cursor", [(("com/example/reshelve/reshelve/io/parquet/RowBuffer$Cursor", "bytes", "[B"), (.ref 0)), (("com/example/reshelve/reshelve/io/parquet/RowBuffer$Cursor", "at", "I"), (.int (Int32.ofNat o)))])] 0 0 (Is (some (.long (own_mask v (7 * m)))) [.inr (.byte, own_arr v g o m), .inl ("com/example/reshelve/reshelve/io/parquet/RowBuffer$Cursor", [(("com/example/reshelve/reshelve/io/parquet/RowBuffer$Cursor", "bytes", "[B"), (.ref 0)), (("com/example/reshelve/reshelve/io/parquet/RowBuffer$Cursor", "at", "I"), (.int (Int32.ofNat (o + m))))])]) := by
  show W l Z n m5 0 [(.val (.ref 1)), .unset, .unset, .unset, .unset, .unset] [] [.inr (.byte, own_arr v g o m), .inl ("com/example/reshelve/reshelve/io/parquet/RowBuffer$Cursor", [(("com/example/reshelve/reshelve/io/parquet/RowBuffer$Cursor", "bytes", "[B"), (.ref 0)), (("com/example/reshelve/reshelve/io/parquet/RowBuffer$Cursor", "at", "I"), (.int (Int32.ofNat o)))])] 0 0 _
  rcases (show m = 1 ∨ 1 < m by omega) with h1 | h1
  · refine W.aloadN d5_0 rfl rfl ?_
    refine W.getfield 0 d5_1 (hw _ (wd 21 rfl)) rfl rfl ?_
    refine W.aloadN d5_4 rfl rfl ?_
    refine W.getfield 1 d5_5 (hw _ (wd 23 rfl)) rfl rfl ?_
    refine W.baload (i := o) d5_8 rfl (own_idx _ (by omega)) (own_get v g o m _ (by omega)) ?_
    refine W.istoreN d5_9 rfl ?_
    refine W.iloadN d5_10 rfl ?_
    refine W.if_lt d5_11 (fun h => False.elim (own_b_last v g o m 0 (by omega) hm' h)) (fun h11 => ?_)
    refine W.aloadN d5_14 rfl rfl ?_
    refine W.dup d5_15 rfl ?_
    refine W.getfield 1 d5_16 (hw _ (wd 23 rfl)) rfl rfl ?_
    refine W.iconst 1 d5_19 rfl ?_
    refine W.iadd d5_20 ?_
    refine W.putfield 1 d5_21 (hw _ (wd 23 rfl)) rfl rfl (Or.inl (hw _ (wd 24 rfl))) (hw _ (wd 8 rfl)) (ty := .int) (by decide) (fun _ => rfl) (fun _ => rfl) ?_
    refine W.iloadN d5_24 rfl ?_
    refine W.i2l d5_25 ?_
    exact W.lreturn d5_26 rfl (by decide) (by decide) (⟨by rw [own_first v g o m h1, h1], by rw [h1, show Int32.ofNat o + 1 = Int32.ofNat (o + 1) from own_plus o 1]; rfl⟩)
  · refine W.aloadN d5_0 rfl rfl ?_
    refine W.getfield 0 d5_1 (hw _ (wd 21 rfl)) rfl rfl ?_
    refine W.aloadN d5_4 rfl rfl ?_
    refine W.getfield 1 d5_5 (hw _ (wd 23 rfl)) rfl rfl ?_
    refine W.baload (i := o) d5_8 rfl (own_idx _ (by omega)) (own_get v g o m _ (by omega)) ?_
    refine W.istoreN d5_9 rfl ?_
    refine W.iloadN d5_10 rfl ?_
    refine W.if_lt d5_11 (fun h11 => ?_) (fun h => False.elim (h (own_b_more v g o m 0 (by omega))))
    refine W.lconst 0 d5_27 rfl ?_
    refine W.lstoreN d5_28 rfl ?_
    refine W.iconst 0 d5_29 rfl ?_
    refine W.istore d5_30 rfl ?_
    have q := loop5 (l := l) (n := n) hw v g o m ho hm hm' (own_b v g o m o) (m - 1) 0 .unset (Or.inl rfl) (by omega)
    simp only [Nat.mul_zero, own_mask0, Nat.add_zero] at q
    exact q
set_option maxRecDepth 65536 in
set_option maxHeartbeats 40000000 in
theorem c2_0 {l : Launch} {Z : State} {a0 : Array Value} {n : Nat} (hw : ∀ d ∈ tables_1, d.before a0 Z = true) (l0 : List Value) : W l Z n m2 0 (entryL [(.ref 1)] 1) [] [.inr (.byte, l0), .inl ("com/example/reshelve/reshelve/io/parquet/RowBuffer$Cursor", [(("com/example/reshelve/reshelve/io/parquet/RowBuffer$Cursor", "bytes", "[B"), .null), (("com/example/reshelve/reshelve/io/parquet/RowBuffer$Cursor", "at", "I"), (.int (0)))])] 0 0 (Is none [.inr (.byte, l0), .inl ("com/example/reshelve/reshelve/io/parquet/RowBuffer$Cursor", [(("com/example/reshelve/reshelve/io/parquet/RowBuffer$Cursor", "bytes", "[B"), .null), (("com/example/reshelve/reshelve/io/parquet/RowBuffer$Cursor", "at", "I"), (.int (0)))])]) := by
  show W l Z n m2 0 [(.val (.ref 1))] [] [.inr (.byte, l0), .inl ("com/example/reshelve/reshelve/io/parquet/RowBuffer$Cursor", [(("com/example/reshelve/reshelve/io/parquet/RowBuffer$Cursor", "bytes", "[B"), .null), (("com/example/reshelve/reshelve/io/parquet/RowBuffer$Cursor", "at", "I"), (.int (0)))])] 0 0 _
  refine W.aloadN d2_0 rfl rfl ?_
  refine W.initO d2_1 (hw _ (wd 13 rfl)) (hw _ (wd 14 rfl)) (hw _ (wd 15 rfl)) rfl rfl ?_
  exact W.leave d2_4 rfl (by decide) (by decide) (⟨rfl, rfl⟩)
set_option maxRecDepth 65536 in
set_option maxHeartbeats 40000000 in
theorem c4_1 {l : Launch} {Z : State} {a0 : Array Value} {n : Nat} (hw : ∀ d ∈ tables_1, d.before a0 Z = true) (x0 : Int32) (l1 : List Value) : W l Z n m4 0 (entryL [(.ref 1), (.ref 0), (.int (x0))] 3) [] [.inr (.byte, l1), .inl ("com/example/reshelve/reshelve/io/parquet/RowBuffer$Cursor", [(("com/example/reshelve/reshelve/io/parquet/RowBuffer$Cursor", "bytes", "[B"), .null), (("com/example/reshelve/reshelve/io/parquet/RowBuffer$Cursor", "at", "I"), (.int (0)))])] 0 0 (Is none [.inr (.byte, l1), .inl ("com/example/reshelve/reshelve/io/parquet/RowBuffer$Cursor", [(("com/example/reshelve/reshelve/io/parquet/RowBuffer$Cursor", "bytes", "[B"), (.ref 0)), (("com/example/reshelve/reshelve/io/parquet/RowBuffer$Cursor", "at", "I"), (.int (x0)))])]) := by
  show W l Z n m4 0 [(.val (.ref 1)), (.val (.ref 0)), (.val (.int (x0)))] [] [.inr (.byte, l1), .inl ("com/example/reshelve/reshelve/io/parquet/RowBuffer$Cursor", [(("com/example/reshelve/reshelve/io/parquet/RowBuffer$Cursor", "bytes", "[B"), .null), (("com/example/reshelve/reshelve/io/parquet/RowBuffer$Cursor", "at", "I"), (.int (0)))])] 0 0 _
  refine W.aloadN d4_0 rfl rfl ?_
  refine W.aloadN d4_1 rfl rfl ?_
  refine W.putfield 0 d4_2 (hw _ (wd 21 rfl)) rfl rfl (Or.inl (hw _ (wd 22 rfl))) (hw _ (wd 8 rfl)) (ty := (.array .byte)) (by decide) (fun _ => rfl) (fun _ => rfl) ?_
  refine W.aloadN d4_5 rfl rfl ?_
  refine W.iloadN d4_6 rfl ?_
  refine W.putfield 1 d4_7 (hw _ (wd 23 rfl)) rfl rfl (Or.inl (hw _ (wd 24 rfl))) (hw _ (wd 8 rfl)) (ty := .int) (by decide) (fun _ => rfl) (fun _ => rfl) ?_
  exact W.leave d4_10 rfl (by decide) (by decide) (⟨rfl, rfl⟩)
set_option maxRecDepth 65536 in
set_option maxHeartbeats 40000000 in
theorem c6_2 {l : Launch} {Z : State} {a0 : Array Value} {n : Nat} (hw : ∀ d ∈ tables_1, d.before a0 Z = true) (l0 : List Value) (x1 : Int32) : W l Z n m6 0 (entryL [(.ref 1)] 1) [] [.inr (.byte, l0), .inl ("com/example/reshelve/reshelve/io/parquet/RowBuffer$Cursor", [(("com/example/reshelve/reshelve/io/parquet/RowBuffer$Cursor", "bytes", "[B"), (.ref 0)), (("com/example/reshelve/reshelve/io/parquet/RowBuffer$Cursor", "at", "I"), (.int (x1)))])] 0 0 (Is (some (.int (x1))) [.inr (.byte, l0), .inl ("com/example/reshelve/reshelve/io/parquet/RowBuffer$Cursor", [(("com/example/reshelve/reshelve/io/parquet/RowBuffer$Cursor", "bytes", "[B"), (.ref 0)), (("com/example/reshelve/reshelve/io/parquet/RowBuffer$Cursor", "at", "I"), (.int (x1)))])]) := by
  show W l Z n m6 0 [(.val (.ref 1))] [] [.inr (.byte, l0), .inl ("com/example/reshelve/reshelve/io/parquet/RowBuffer$Cursor", [(("com/example/reshelve/reshelve/io/parquet/RowBuffer$Cursor", "bytes", "[B"), (.ref 0)), (("com/example/reshelve/reshelve/io/parquet/RowBuffer$Cursor", "at", "I"), (.int (x1)))])] 0 0 _
  refine W.aloadN d6_0 rfl rfl ?_
  refine W.getfield 1 d6_1 (hw _ (wd 23 rfl)) rfl rfl ?_
  exact W.ireturn d6_4 rfl (by decide) (by decide) (⟨rfl, rfl⟩)
set_option maxRecDepth 65536 in
set_option maxHeartbeats 40000000 in
theorem c7_3 {l : Launch} {Z : State} {a0 : Array Value} {n : Nat} (hw : ∀ d ∈ tables_1, d.before a0 Z = true) (l0 : List Value) (x1 : Int32) : W l Z n m7 0 (entryL [(.ref 1)] 1) [] [.inr (.byte, l0), .inl ("com/example/reshelve/reshelve/io/parquet/RowBuffer$Cursor", [(("com/example/reshelve/reshelve/io/parquet/RowBuffer$Cursor", "bytes", "[B"), (.ref 0)), (("com/example/reshelve/reshelve/io/parquet/RowBuffer$Cursor", "at", "I"), (.int (x1)))])] 0 0 (Is (some (.ref 0)) [.inr (.byte, l0), .inl ("com/example/reshelve/reshelve/io/parquet/RowBuffer$Cursor", [(("com/example/reshelve/reshelve/io/parquet/RowBuffer$Cursor", "bytes", "[B"), (.ref 0)), (("com/example/reshelve/reshelve/io/parquet/RowBuffer$Cursor", "at", "I"), (.int (x1)))])]) := by
  show W l Z n m7 0 [(.val (.ref 1))] [] [.inr (.byte, l0), .inl ("com/example/reshelve/reshelve/io/parquet/RowBuffer$Cursor", [(("com/example/reshelve/reshelve/io/parquet/RowBuffer$Cursor", "bytes", "[B"), (.ref 0)), (("com/example/reshelve/reshelve/io/parquet/RowBuffer$Cursor", "at", "I"), (.int (x1)))])] 0 0 _
  refine W.aloadN d7_0 rfl rfl ?_
  refine W.getfield 0 d7_1 (hw _ (wd 21 rfl)) rfl rfl ?_
  exact W.areturn d7_4 rfl rfl rfl (by decide) (by decide) (⟨rfl, rfl⟩)
theorem own_ten (m : Nat) (hm : m < 11) (h : Int32.ofNat m = 10) : m = 10 := by
  have e := congrArg Int32.toInt h
  rw [own_i (by omega)] at e
  have : (10 : Int32).toInt = 10 := rfl
  omega
set_option maxRecDepth 65536 in
set_option maxHeartbeats 40000000 in
theorem w_law {l : Launch} {Z : State} {a0 : Array Value} {n : Nat} (hw : ∀ d ∈ tables_1, d.before a0 Z = true) (v : Int64) (k off g : Int32) : W l Z n m0 0 (entryL [.long v, .int k, .int off, .int g] 13) [] [] 0 0 (fun v _ => v = some (.int 1)) := by
  show W l Z n m0 0 [(.val (.long (v))), .second, (.val (.int (k))), (.val (.int (off))), (.val (.int (g))), .unset, .unset, .unset, .unset, .unset, .unset, .unset, .unset] [] [] 0 0 _
  refine W.iconst 1 d0_0 rfl ?_
  refine W.iloadN d0_1 rfl ?_
  refine W.ldc d0_2 (hw _ (wd 0 rfl)) ?_
  refine W.iand d0_4 ?_
  refine W.bipush 10 d0_5 rfl ?_
  refine W.irem d0_7 (by decide) ?_
  obtain ⟨m', hm0, em⟩ := rem_nat (k &&& 2147483647) 10 10 ((c_andS k 2147483647).2.2 (by decide)) rfl (by decide) (by decide)
  rw [em]
  refine W.iadd d0_8 ?_
  obtain ⟨m, hmm⟩ : ∃ m, m = 1 + m' := ⟨_, rfl⟩
  rw [show (1 : Int32) + Int32.ofNat m' = Int32.ofNat m from hmm ▸ own_plus 1 m']
  have hm : 0 < m := by omega
  have hm' : m < 11 := by omega
  refine W.istore d0_9 rfl ?_
  refine W.iloadN d0_11 rfl ?_
  refine W.iconst 3 d0_12 rfl ?_
  refine W.iand d0_13 ?_
  obtain ⟨o, ho, eo⟩ : ∃ o, o < 4 ∧ off &&& 3 = Int32.ofNat o := ⟨_, Nat.lt_succ_of_le (and_nat off 3 3 rfl), of_nat32 rfl⟩
  rw [eo]
  refine W.istore d0_14 rfl ?_
  refine W.bipush 14 d0_16 rfl ?_
  refine W.newarray (N := 0) (cnt := 14) (cap := 14) d0_18 (hw _ (wd 1 rfl)) ⟨by decide, by decide⟩ rfl (Nat.le_refl _) (by decide) (by decide) (by decide) ?_
  refine W.astore d0_20 rfl rfl ?_
  refine W.aload d0_22 rfl rfl ?_
  refine W.iconst 0 d0_24 rfl ?_
  refine W.lloadN d0_25 rfl ?_
  refine W.iload d0_26 rfl ?_
  refine W.iload d0_28 rfl ?_
  refine W.iload d0_30 rfl ?_
  refine W.iconst 0 d0_32 rfl ?_
  refine W.callsV (M' := m1) d0_33 (hw _ (wd 2 rfl)) (hw _ (wd 3 rfl)) (w1 hw v g o m ho hm hm' 0 (by decide) _) (ok1 hw) rfl rfl rfl ?_
  refine W.bastore (i := 0) d0_36 rfl ⟨by decide, by decide⟩ (by simp) ?_
  refine W.aload d0_37 rfl rfl ?_
  refine W.iconst 1 d0_39 rfl ?_
  refine W.lloadN d0_40 rfl ?_
  refine W.iload d0_41 rfl ?_
  refine W.iload d0_43 rfl ?_
  refine W.iload d0_45 rfl ?_
  refine W.iconst 1 d0_47 rfl ?_
  refine W.callsV (M' := m1) d0_48 (hw _ (wd 2 rfl)) (hw _ (wd 3 rfl)) (w1 hw v g o m ho hm hm' 1 (by decide) _) (ok1 hw) rfl rfl rfl ?_
  refine W.bastore (i := 1) d0_51 rfl ⟨by decide, by decide⟩ (by simp) ?_
  refine W.aload d0_52 rfl rfl ?_
  refine W.iconst 2 d0_54 rfl ?_
  refine W.lloadN d0_55 rfl ?_
  refine W.iload d0_56 rfl ?_
  refine W.iload d0_58 rfl ?_
  refine W.iload d0_60 rfl ?_
  refine W.iconst 2 d0_62 rfl ?_
  refine W.callsV (M' := m1) d0_63 (hw _ (wd 2 rfl)) (hw _ (wd 3 rfl)) (w1 hw v g o m ho hm hm' 2 (by decide) _) (ok1 hw) rfl rfl rfl ?_
  refine W.bastore (i := 2) d0_66 rfl ⟨by decide, by decide⟩ (by simp) ?_
  refine W.aload d0_67 rfl rfl ?_
  refine W.iconst 3 d0_69 rfl ?_
  refine W.lloadN d0_70 rfl ?_
  refine W.iload d0_71 rfl ?_
  refine W.iload d0_73 rfl ?_
  refine W.iload d0_75 rfl ?_
  refine W.iconst 3 d0_77 rfl ?_
  refine W.callsV (M' := m1) d0_78 (hw _ (wd 2 rfl)) (hw _ (wd 3 rfl)) (w1 hw v g o m ho hm hm' 3 (by decide) _) (ok1 hw) rfl rfl rfl ?_
  refine W.bastore (i := 3) d0_81 rfl ⟨by decide, by decide⟩ (by simp) ?_
  refine W.aload d0_82 rfl rfl ?_
  refine W.iconst 4 d0_84 rfl ?_
  refine W.lloadN d0_85 rfl ?_
  refine W.iload d0_86 rfl ?_
  refine W.iload d0_88 rfl ?_
  refine W.iload d0_90 rfl ?_
  refine W.iconst 4 d0_92 rfl ?_
  refine W.callsV (M' := m1) d0_93 (hw _ (wd 2 rfl)) (hw _ (wd 3 rfl)) (w1 hw v g o m ho hm hm' 4 (by decide) _) (ok1 hw) rfl rfl rfl ?_
  refine W.bastore (i := 4) d0_96 rfl ⟨by decide, by decide⟩ (by simp) ?_
  refine W.aload d0_97 rfl rfl ?_
  refine W.iconst 5 d0_99 rfl ?_
  refine W.lloadN d0_100 rfl ?_
  refine W.iload d0_101 rfl ?_
  refine W.iload d0_103 rfl ?_
  refine W.iload d0_105 rfl ?_
  refine W.iconst 5 d0_107 rfl ?_
  refine W.callsV (M' := m1) d0_108 (hw _ (wd 2 rfl)) (hw _ (wd 3 rfl)) (w1 hw v g o m ho hm hm' 5 (by decide) _) (ok1 hw) rfl rfl rfl ?_
  refine W.bastore (i := 5) d0_111 rfl ⟨by decide, by decide⟩ (by simp) ?_
  refine W.aload d0_112 rfl rfl ?_
  refine W.bipush 6 d0_114 rfl ?_
  refine W.lloadN d0_116 rfl ?_
  refine W.iload d0_117 rfl ?_
  refine W.iload d0_119 rfl ?_
  refine W.iload d0_121 rfl ?_
  refine W.bipush 6 d0_123 rfl ?_
  refine W.callsV (M' := m1) d0_125 (hw _ (wd 2 rfl)) (hw _ (wd 3 rfl)) (w1 hw v g o m ho hm hm' 6 (by decide) _) (ok1 hw) rfl rfl rfl ?_
  refine W.bastore (i := 6) d0_128 rfl ⟨by decide, by decide⟩ (by simp) ?_
  refine W.aload d0_129 rfl rfl ?_
  refine W.bipush 7 d0_131 rfl ?_
  refine W.lloadN d0_133 rfl ?_
  refine W.iload d0_134 rfl ?_
  refine W.iload d0_136 rfl ?_
  refine W.iload d0_138 rfl ?_
  refine W.bipush 7 d0_140 rfl ?_
  refine W.callsV (M' := m1) d0_142 (hw _ (wd 2 rfl)) (hw _ (wd 3 rfl)) (w1 hw v g o m ho hm hm' 7 (by decide) _) (ok1 hw) rfl rfl rfl ?_
  refine W.bastore (i := 7) d0_145 rfl ⟨by decide, by decide⟩ (by simp) ?_
  refine W.aload d0_146 rfl rfl ?_
  refine W.bipush 8 d0_148 rfl ?_
  refine W.lloadN d0_150 rfl ?_
  refine W.iload d0_151 rfl ?_
  refine W.iload d0_153 rfl ?_
  refine W.iload d0_155 rfl ?_
  refine W.bipush 8 d0_157 rfl ?_
  refine W.callsV (M' := m1) d0_159 (hw _ (wd 2 rfl)) (hw _ (wd 3 rfl)) (w1 hw v g o m ho hm hm' 8 (by decide) _) (ok1 hw) rfl rfl rfl ?_
  refine W.bastore (i := 8) d0_162 rfl ⟨by decide, by decide⟩ (by simp) ?_
  refine W.aload d0_163 rfl rfl ?_
  refine W.bipush 9 d0_165 rfl ?_
  refine W.lloadN d0_167 rfl ?_
  refine W.iload d0_168 rfl ?_
  refine W.iload d0_170 rfl ?_
  refine W.iload d0_172 rfl ?_
  refine W.bipush 9 d0_174 rfl ?_
  refine W.callsV (M' := m1) d0_176 (hw _ (wd 2 rfl)) (hw _ (wd 3 rfl)) (w1 hw v g o m ho hm hm' 9 (by decide) _) (ok1 hw) rfl rfl rfl ?_
  refine W.bastore (i := 9) d0_179 rfl ⟨by decide, by decide⟩ (by simp) ?_
  refine W.aload d0_180 rfl rfl ?_
  refine W.bipush 10 d0_182 rfl ?_
  refine W.lloadN d0_184 rfl ?_
  refine W.iload d0_185 rfl ?_
  refine W.iload d0_187 rfl ?_
  refine W.iload d0_189 rfl ?_
  refine W.bipush 10 d0_191 rfl ?_
  refine W.callsV (M' := m1) d0_193 (hw _ (wd 2 rfl)) (hw _ (wd 3 rfl)) (w1 hw v g o m ho hm hm' 10 (by decide) _) (ok1 hw) rfl rfl rfl ?_
  refine W.bastore (i := 10) d0_196 rfl ⟨by decide, by decide⟩ (by simp) ?_
  refine W.aload d0_197 rfl rfl ?_
  refine W.bipush 11 d0_199 rfl ?_
  refine W.lloadN d0_201 rfl ?_
  refine W.iload d0_202 rfl ?_
  refine W.iload d0_204 rfl ?_
  refine W.iload d0_206 rfl ?_
  refine W.bipush 11 d0_208 rfl ?_
  refine W.callsV (M' := m1) d0_210 (hw _ (wd 2 rfl)) (hw _ (wd 3 rfl)) (w1 hw v g o m ho hm hm' 11 (by decide) _) (ok1 hw) rfl rfl rfl ?_
  refine W.bastore (i := 11) d0_213 rfl ⟨by decide, by decide⟩ (by simp) ?_
  refine W.aload d0_214 rfl rfl ?_
  refine W.bipush 12 d0_216 rfl ?_
  refine W.lloadN d0_218 rfl ?_
  refine W.iload d0_219 rfl ?_
  refine W.iload d0_221 rfl ?_
  refine W.iload d0_223 rfl ?_
  refine W.bipush 12 d0_225 rfl ?_
  refine W.callsV (M' := m1) d0_227 (hw _ (wd 2 rfl)) (hw _ (wd 3 rfl)) (w1 hw v g o m ho hm hm' 12 (by decide) _) (ok1 hw) rfl rfl rfl ?_
  refine W.bastore (i := 12) d0_230 rfl ⟨by decide, by decide⟩ (by simp) ?_
  refine W.aload d0_231 rfl rfl ?_
  refine W.bipush 13 d0_233 rfl ?_
  refine W.lloadN d0_235 rfl ?_
  refine W.iload d0_236 rfl ?_
  refine W.iload d0_238 rfl ?_
  refine W.iload d0_240 rfl ?_
  refine W.bipush 13 d0_242 rfl ?_
  refine W.callsV (M' := m1) d0_244 (hw _ (wd 2 rfl)) (hw _ (wd 3 rfl)) (w1 hw v g o m ho hm hm' 13 (by decide) _) (ok1 hw) rfl rfl rfl ?_
  refine W.bastore (i := 13) d0_247 rfl ⟨by decide, by decide⟩ (by simp) ?_
  show W l Z n m0 248 [(.val (.long (v))), .second, (.val (.int (k))), (.val (.int (off))), (.val (.int (g))), (.val (.int (Int32.ofNat m))), (.val (.int (Int32.ofNat o))), (.val (.ref 0)), .unset, .unset, .unset, .unset, .unset] [] [.inr (.byte, own_arr v g o m)] 1 14 _
  refine W.new (N := 1) d0_248 (hw _ (wd 7 rfl)) (okc0 hw) rfl (by decide) (by decide) ?_
  refine W.dup d0_251 rfl ?_
  refine W.initN (M' := m2) d0_252 rfl rfl (hw _ (wd 10 rfl)) (hw _ (wd 11 rfl)) (c2_0 hw (own_arr v g o m)) (ok2 hw) rfl rfl rfl ?_
  refine W.astore d0_255 rfl rfl ?_
  refine W.aload d0_257 rfl rfl ?_
  refine W.aload d0_259 rfl rfl ?_
  refine W.iload d0_261 rfl ?_
  refine W.callvN (M' := m4) d0_263 (hw _ (wd 16 rfl)) (hw _ (wd 17 rfl)) (hw _ (wd 18 rfl)) (hw _ (wd 19 rfl)) (c4_1 hw (Int32.ofNat o) (own_arr v g o m)) (ok4 hw) rfl rfl rfl rfl ?_
  refine W.aload d0_266 rfl rfl ?_
  refine W.callvV (M' := m5) d0_268 (hw _ (wd 25 rfl)) (hw _ (wd 26 rfl)) (hw _ (wd 27 rfl)) (hw _ (wd 28 rfl)) (w5 hw v g o m ho hm hm') (ok5 hw) rfl rfl rfl rfl ?_
  refine W.lstore d0_271 rfl ?_
  refine W.iload d0_273 rfl ?_
  refine W.bipush 10 d0_275 rfl ?_
  refine W.icmp_ne d0_277 (fun h277 => ?_) (fun h277 => ?_)
  · refine W.lloadN d0_284 rfl ?_
    refine W.lconst 1 d0_285 rfl ?_
    refine W.bipush 7 d0_286 rfl ?_
    refine W.iload d0_288 rfl ?_
    refine W.imul d0_290 ?_
    refine W.lshl d0_291 ?_
    refine W.lconst 1 d0_292 rfl ?_
    refine W.lsub d0_293 ?_
    refine W.land d0_294 ?_
    refine W.lstore d0_295 rfl ?_
    refine W.lload d0_297 rfl ?_
    refine W.lload d0_299 rfl ?_
    refine W.lcmp d0_301 ?_
    refine W.ifl_ne d0_302 (fun h => False.elim (h (own_want v m (by have : ¬ m = 10 := fun q => h277 (by rw [q]; rfl); omega)))) (fun h302 => ?_)
    refine W.aload d0_305 rfl rfl ?_
    refine W.callvV (M' := m6) d0_307 (hw _ (wd 31 rfl)) (hw _ (wd 32 rfl)) (hw _ (wd 33 rfl)) (hw _ (wd 34 rfl)) (c6_2 hw (own_arr v g o m) (Int32.ofNat (o + m))) (ok6 hw) rfl rfl rfl rfl ?_
    refine W.iload d0_310 rfl ?_
    refine W.iload d0_312 rfl ?_
    refine W.iadd d0_314 ?_
    refine W.icmp_ne d0_315 (fun h => False.elim (h (own_plus o m).symm)) (fun h315 => ?_)
    refine W.aload d0_318 rfl rfl ?_
    refine W.callvV (M' := m7) d0_320 (hw _ (wd 36 rfl)) (hw _ (wd 37 rfl)) (hw _ (wd 38 rfl)) (hw _ (wd 39 rfl)) (c7_3 hw (own_arr v g o m) (Int32.ofNat (o + m))) (ok7 hw) rfl rfl rfl rfl ?_
    refine W.aload d0_323 rfl rfl ?_
    refine W.acmp_ne d0_325 rfl rfl (fun h => False.elim (by revert h; decide)) (fun h325 => ?_)
    refine W.iconst 1 d0_328 rfl ?_
    refine W.goto d0_329 ?_
    exact W.nreturn .boolean d0_333 rfl (by simp) (by decide) (by decide) (rfl)
  · refine W.lloadN d0_280 rfl ?_
    refine W.goto d0_281 ?_
    refine W.lstore d0_295 rfl ?_
    refine W.lload d0_297 rfl ?_
    refine W.lload d0_299 rfl ?_
    refine W.lcmp d0_301 ?_
    refine W.ifl_ne d0_302 (fun h => False.elim (h (by have e : m = 10 := own_ten m hm' h277; subst e; exact own_want10 v))) (fun h302 => ?_)
    refine W.aload d0_305 rfl rfl ?_
    refine W.callvV (M' := m6) d0_307 (hw _ (wd 31 rfl)) (hw _ (wd 32 rfl)) (hw _ (wd 33 rfl)) (hw _ (wd 34 rfl)) (c6_2 hw (own_arr v g o m) (Int32.ofNat (o + m))) (ok6 hw) rfl rfl rfl rfl ?_
    refine W.iload d0_310 rfl ?_
    refine W.iload d0_312 rfl ?_
    refine W.iadd d0_314 ?_
    refine W.icmp_ne d0_315 (fun h => False.elim (h (own_plus o m).symm)) (fun h315 => ?_)
    refine W.aload d0_318 rfl rfl ?_
    refine W.callvV (M' := m7) d0_320 (hw _ (wd 36 rfl)) (hw _ (wd 37 rfl)) (hw _ (wd 38 rfl)) (hw _ (wd 39 rfl)) (c7_3 hw (own_arr v g o m) (Int32.ofNat (o + m))) (ok7 hw) rfl rfl rfl rfl ?_
    refine W.aload d0_323 rfl rfl ?_
    refine W.acmp_ne d0_325 rfl rfl (fun h => False.elim (by revert h; decide)) (fun h325 => ?_)
    refine W.iconst 1 d0_328 rfl ?_
    refine W.goto d0_329 ?_
    exact W.nreturn .boolean d0_333 rfl (by simp) (by decide) (by decide) (rfl)
set_option maxRecDepth 65536 in
set_option maxHeartbeats 40000000 in
theorem comes_1 {Post : Tables → Env → Array Value → State → Outcome → State → Prop} (hpost : ∀ tb e args s v u, (limb_1_1.after args s (.returned v) u = true ∧ limb_1_2.after args s (.returned v) u = true ∧ True) → FrameEnd s (.returned v) u (Jvm.fieldLocs frame_1_writes args s ++ Jvm.arrayLocs frame_1_arrays args s ++ Jvm.staticLocs frame_1_statics s) 16 128 → Post tb e args s (.returned v) u) :
    ArmFor flags0 classFile x code maxLocals ret World_1 tables_1 room_1 Calls_1 rest_1 Pre_1 Post := by
  intro l hfl _ _ p e ha hc hk s m args below hf hA hF happ hP
  obtain ⟨hcalls, hrest, hpre⟩ := hP
  obtain ⟨-, -, -, hnamed, -, -, -, hat⟩ := (Spec.applies_iff hf).mp happ
  obtain ⟨hg, hn⟩ := and_e (Cond.before_iff.mp (show (Jvm.Cond.and given_1 narrow_1).before args s = true from hpre))
  obtain ⟨hcnt, g0⟩ := and_e hg
  obtain ⟨q0, g1⟩ := and_e g0
  obtain ⟨q1, g2⟩ := and_e g1
  obtain ⟨q2, g3⟩ := and_e g2
  obtain ⟨w0, w1, w2, w3, rfl⟩ : ∃ w0 w1 w2 w3 : Value, args = #[w0, w1, w2, w3] := by
    have hs : args.size = 4 := by simpa [Cond.value, given_1] using hcnt
    obtain ⟨L⟩ := args
    match L, hs with
    | [w0, w1, w2, w3], _ => exact ⟨w0, w1, w2, w3, rfl⟩
  have hw := fun d (hd : d ∈ tables_1) => atoms_spec (ws := Jvm.Cond.code x code maxLocals ret :: tables_1) hat d (List.mem_cons_of_mem _ hd)
  obtain ⟨i0, ei0⟩ := isL_v q0
  obtain rfl : w0 = (.long i0) := Option.some.inj ei0
  obtain ⟨i1, ei1⟩ := is_v q1
  obtain rfl : w1 = (.int i1) := Option.some.inj ei1
  obtain ⟨i2, ei2⟩ := is_v q2
  obtain rfl : w2 = (.int i2) := Option.some.inj ei2
  obtain ⟨i3, ei3⟩ := is_v g3
  obtain rfl : w3 = (.int i3) := Option.some.inj ei3
  obtain ⟨n, o, h1, h2, h3, _, L, rfl, ⟨v0, H', rfl, rfl, hH, N⟩, hq⟩ := W.start (M := m0) (w_law (l := l) hw i0 i1 i2 i3) pn0 tables_1 p e ha hc hk s m _ below hf ((Spec.applies_iff_loose hf).mp happ).1 ⟨rfl, State.Warmed39.refl s, rfl⟩ trivial
  refine ⟨n, _, h1, h2, h3, hpost _ _ _ _ _ _ ⟨Cond.after_iff.mpr rfl, Cond.after_iff.mpr (eq_i res_at (Term.int_eval (1)) rfl), trivial⟩ ⟨hq.1, hq.2.1, (hq.2.2.sift fun y hy => Or.inr (N y hy)).mono (by decide) (by decide)⟩⟩
theorem main_1_1 : Claimed_1_1 := comes_1 fun _ _ _ _ _ _ h hF => ⟨h.1, hF⟩
theorem main_1_2 : Claimed_1_2 := comes_1 fun _ _ _ _ _ _ h hF => ⟨h.2.1, hF⟩
end Jvm.Pilot.@@N@@
namespace Jvm.Pilot.@@N@@
open Jvm Jvm.ClassFile Sem Op Lib Jvm.Free Jvm.Stand Jvm.Pilot.@@N@@.Jvm.D
/-! MADE BY PROGRAM (witnessworld.py) out of the Statement's table words and the real class files: 9 classes; the members and pool entries that the words name. The judged class is class 1, her method 1. -/
namespace start1
open Jvm.ClassFile
def u (s : String) : CpInfo := .utf8 (stringToUtf16 s)
/-- a pool by its gaps: so many unusable entries, then the entry; so many at the end -/
def gap : Nat → List CpInfo → List CpInfo
  | 0, r => r
  | n + 1, r => .unusable :: gap n r
def poolList (es : List (Nat × CpInfo)) (last : Nat) : List CpInfo := es.foldr (fun e r => gap e.1 (e.2 :: r)) (gap last [])
def pool (es : List (Nat × CpInfo)) (last : Nat) : Array CpInfo := ⟨poolList es last⟩
def fileOf (pool : Array CpInfo) (this : Nat) (attrs : Array Attribute := #[]) (ms : Array MethodInfo := #[]) (fl : Nat := 33) (sup : Nat := 0) (ifs : Array Nat := #[]) (fds : Array FieldInfo := #[]) : ClassFile where
  minorVersion := 0
  majorVersion := 65
  constantPool := pool
  accessFlags := fl
  thisClass := this
  superClass := sup
  interfaces := ifs
  fields := fds
  methods := ms
  attributes := attrs
def plain (name : String) (sup : Option ClassId) : Class where
  name := name
  kind := .ordinary
  loader := none
  accessFlags := 33
  super := sup
  interfaces := #[]
  cf := none
  fields := #[]
  methods := #[]
  instanceTypes := #[]
  staticTypes := #[]
  resolved := #[]
  callSites := []
  init := .initialized
  statics := none
  mirror := none

def pool0 : Array CpInfo := pool [(5, u "<init>"), (0, u "()V"), (1, .class_ 10), (1, u "java/lang/Object")] 113

def k0c0 : Code := { maxStack := 0, maxLocals := 1, code := object_method_1_code, exceptionTable := #[], attributes := #[] }
def k0m0 : Method := { name := "<init>", desc := "()V", sig := { parameters := [], returnType := none }, accessFlags := 1, code := some k0c0 }
/-- java/lang/Object -/
def k0 : Class := { plain "java/lang/Object" none with
  accessFlags := 33
  interfaces := #[]
  cf := some (fileOf pool0 8 #[] #[{ accessFlags := 1, nameIndex := 5, descriptorIndex := 6, attributes := #[] }] 33 0 #[] #[])
  fields := #[]
  methods := #[k0m0]
  instanceTypes := #[]
  staticTypes := #[]
  resolved := Array.replicate 124 none
  statics := none }

def pool1 : Array CpInfo := pool [(2, .class_ 4), (0, .nameAndType 5 6), (0, u "java/lang/Object"), (0, u "<init>"), (0, u "()V"), (0, .integer 2147483647), (0, .methodref 9 10), (0, .class_ 11), (0, .nameAndType 12 13), (0, u "com/example/reshelve/reshelve/io/parquet/CursorVarintPinLaw"), (0, u "cell"), (0, u "(JIIII)B"), (0, .class_ 15), (0, u "com/example/reshelve/reshelve/io/parquet/RowBuffer$Cursor"), (0, .methodref 14 3), (0, .methodref 14 18), (0, .nameAndType 19 20), (0, u "start"), (0, u "([BI)V"), (0, .methodref 14 22), (0, .nameAndType 23 24), (0, u "varint"), (0, u "()J"), (0, .methodref 14 26), (0, .nameAndType 27 28), (0, u "at"), (0, u "()I"), (0, .methodref 14 30), (0, .nameAndType 31 32), (0, u "bytes"), (0, u "()[B"), (0, .long 127), (3, u "law"), (0, u "(JIII)Z")] 9

def k1m0 : Method := { name := "<init>", desc := "()V", sig := { parameters := [], returnType := none }, accessFlags := 1, code := none }
def k1c1 : Code := { maxStack := 8, maxLocals := 13, code := code, exceptionTable := #[], attributes := #[] }
def k1m1 : Method := { name := "law", desc := "(JIII)Z", sig := { parameters := [.long, .int, .int, .int], returnType := some .boolean }, accessFlags := 9, code := some k1c1 }
def k1c2 : Code := { maxStack := 4, maxLocals := 8, code := method_3_code, exceptionTable := #[], attributes := #[] }
def k1m2 : Method := { name := "cell", desc := "(JIIII)B", sig := { parameters := [.long, .int, .int, .int, .int], returnType := some .byte }, accessFlags := 10, code := some k1c2 }
/-- com/example/reshelve/reshelve/io/parquet/CursorVarintPinLaw -/
def k1 : Class := { plain "com/example/reshelve/reshelve/io/parquet/CursorVarintPinLaw" (some 0) with
  accessFlags := 49
  interfaces := #[]
  cf := some (fileOf pool1 9 #[] #[{ accessFlags := 1, nameIndex := 5, descriptorIndex := 6, attributes := #[] }, { accessFlags := 9, nameIndex := 37, descriptorIndex := 38, attributes := #[] }, { accessFlags := 10, nameIndex := 12, descriptorIndex := 13, attributes := #[] }] 49 2 #[] #[])
  fields := #[]
  methods := #[k1m0, k1m1, k1m2]
  instanceTypes := #[]
  staticTypes := #[]
  resolved := Array.replicate 48 none
  statics := none }

def pool2 : Array CpInfo := pool [(1, .methodref 2 3), (0, .class_ 4), (0, .nameAndType 5 6), (0, u "java/lang/Object"), (0, u "<init>"), (0, u "()V"), (0, .fieldref 8 9), (0, .class_ 10), (0, .nameAndType 11 12), (0, u "com/example/reshelve/reshelve/io/parquet/RowBuffer$Cursor"), (0, u "bytes"), (0, u "[B"), (0, .fieldref 8 14), (0, .nameAndType 15 16), (0, u "at"), (0, u "I"), (0, .long 127), (3, u "varint"), (0, u "()J"), (1, .class_ 26), (1, u "com/example/reshelve/reshelve/io/parquet/RowBuffer"), (4, u "start"), (0, u "([BI)V"), (0, u "()[B"), (0, u "()I")] 12

def k2c0 : Code := { maxStack := 1, maxLocals := 1, code := prog_27_method_1_code, exceptionTable := #[], attributes := #[] }
def k2m0 : Method := { name := "<init>", desc := "()V", sig := { parameters := [], returnType := none }, accessFlags := 0, code := some k2c0 }
def k2c1 : Code := { maxStack := 2, maxLocals := 3, code := prog_27_method_2_code, exceptionTable := #[], attributes := #[] }
def k2m1 : Method := { name := "start", desc := "([BI)V", sig := { parameters := [(.array .byte), .int], returnType := none }, accessFlags := 0, code := some k2c1 }
def k2c2 : Code := { maxStack := 1, maxLocals := 1, code := prog_27_method_3_code, exceptionTable := #[], attributes := #[] }
def k2m2 : Method := { name := "bytes", desc := "()[B", sig := { parameters := [], returnType := some (.array .byte) }, accessFlags := 0, code := some k2c2 }
def k2c3 : Code := { maxStack := 1, maxLocals := 1, code := prog_27_method_4_code, exceptionTable := #[], attributes := #[] }
def k2m3 : Method := { name := "at", desc := "()I", sig := { parameters := [], returnType := some .int }, accessFlags := 0, code := some k2c3 }
def k2c4 : Code := { maxStack := 6, maxLocals := 6, code := prog_27_method_7_code, exceptionTable := #[], attributes := #[] }
def k2m4 : Method := { name := "varint", desc := "()J", sig := { parameters := [], returnType := some .long }, accessFlags := 0, code := some k2c4 }
/-- com/example/reshelve/reshelve/io/parquet/RowBuffer$Cursor -/
def k2 : Class := { plain "com/example/reshelve/reshelve/io/parquet/RowBuffer$Cursor" (some 0) with
  accessFlags := 48
  interfaces := #[]
  cf := some (fileOf pool2 8 #[.nestHost 24] #[{ accessFlags := 0, nameIndex := 5, descriptorIndex := 6, attributes := #[] }, { accessFlags := 0, nameIndex := 31, descriptorIndex := 32, attributes := #[] }, { accessFlags := 0, nameIndex := 11, descriptorIndex := 33, attributes := #[] }, { accessFlags := 0, nameIndex := 15, descriptorIndex := 34, attributes := #[] }, { accessFlags := 0, nameIndex := 21, descriptorIndex := 22, attributes := #[] }] 48 2 #[] #[{ accessFlags := 2, nameIndex := 11, descriptorIndex := 12, attributes := #[] }, { accessFlags := 2, nameIndex := 15, descriptorIndex := 16, attributes := #[] }])
  fields := #[{ name := "bytes", type := (.array .byte), accessFlags := 2, slot := 0, constantValue := 0 }, { name := "at", type := .int, accessFlags := 2, slot := 1, constantValue := 0 }]
  methods := #[k2m0, k2m1, k2m2, k2m3, k2m4]
  instanceTypes := #[(.array .byte), .int]
  staticTypes := #[]
  resolved := Array.replicate 47 none
  statics := none }

def pool3 : Array CpInfo := pool [(1, u "java/lang/Cloneable"), (0, .class_ 1), (0, u "java/lang/Object"), (0, .class_ 3)] 3

/-- java/lang/Cloneable -/
def k3 : Class := { plain "java/lang/Cloneable" (some 0) with
  accessFlags := 1537
  interfaces := #[]
  cf := some (fileOf pool3 2 #[] #[] 1537 4 #[] #[])
  fields := #[]
  methods := #[]
  instanceTypes := #[]
  staticTypes := #[]
  resolved := Array.replicate 8 none
  statics := none }

def pool4 : Array CpInfo := pool [(1, u "java/io/Serializable"), (0, .class_ 1), (0, u "java/lang/Object"), (0, .class_ 3)] 3

/-- java/io/Serializable -/
def k4 : Class := { plain "java/io/Serializable" (some 0) with
  accessFlags := 1537
  interfaces := #[]
  cf := some (fileOf pool4 2 #[] #[] 1537 4 #[] #[])
  fields := #[]
  methods := #[]
  instanceTypes := #[]
  staticTypes := #[]
  resolved := Array.replicate 8 none
  statics := none }

/-- the primitive byte -/
def k5 : Class := { plain "byte" none with kind := .primitive 'B', accessFlags := 0x411 }
/-- [B -/
def k6 : Class := { plain "[B" (some 0) with kind := .array 5 .byte, interfaces := #[3, 4], accessFlags := 1041 }

/-- the primitive int -/
def k7 : Class := { plain "int" none with kind := .primitive 'I', accessFlags := 0x411 }
/-- [I -/
def k8 : Class := { plain "[I" (some 0) with kind := .array 7 .int, interfaces := #[3, 4], accessFlags := 1041 }

def heap : Heap := #[]
def classes : Array Class := #[k0, k1, k2, k3, k4, k5, k6, k7, k8]
def interned : List (Array UInt16 × Addr) := []
def slotsUsed : Nat := 0
def theMethod : MethodId := ⟨1, 1⟩
def args0 : Array Value := #[.long 5, .int 7, .int 9, .int 2]
def aboutOver (below : List Frame) : State where
  vm := { classes := classes, interned := interned.toArray }
  heap := heap
  slotsUsed := slotsUsed
  threads := #[{ frames := .invoking theMethod args0 :: below }]
def below0 : List Frame := [.native { method := ⟨0, 0⟩, args := #[] }]
def about1 : State := aboutOver below0
def p0 : Program := .bare "" "" ""
def e0 : Env := launch0.env 0 0 0
theorem w_frames : about1.frames = Frame.invoking theMethod args0 :: below0 := rfl
set_option maxRecDepth 65536 in
theorem w_args : argsFit about1.vm theMethod args0 = true := by decide +kernel
set_option maxRecDepth 65536 in
theorem w_heap : heapFits about1 = true := by decide +kernel
set_option maxRecDepth 65536 in
theorem w_runnable : about1.curStatus? = some .runnable := by decide +kernel
set_option maxRecDepth 65536 in
theorem w_alone : about1.alone = true := by decide +kernel
set_option maxRecDepth 65536 in
theorem w_named : about1.methodNamed? x = some theMethod := by decide +kernel
set_option maxRecDepth 65536 in
theorem w_hears : about1.hears theMethod below0 = true := by decide +kernel
set_option maxRecDepth 65536 in
theorem w_ripe : about1.ripe theMethod args0 below0 = true := by decide +kernel
theorem w_running : about1.status = .running := rfl
set_option maxRecDepth 65536 in
theorem w_room : about1.hasRoom e0.platform room_1 = true :=
  launch0.hasRoom_least _ room_1 (by decide +kernel) (by decide +kernel) (by decide +kernel) (by decide +kernel) (by decide +kernel) (by decide +kernel)
theorem allAtoms_all (ts : List Jvm.Cond) (a : Array Jvm.Value) (st : Jvm.State) : (allAtoms ts).before a st = ts.all (fun c => c.before a st) := by
  induction ts with
  | nil => rfl
  | cons c t ih =>
    show (Jvm.Cond.and c (allAtoms t)).before a st = _
    rw [Jvm.Cond.before_and, ih, List.all_cons]
def words1 : List Jvm.Cond := Jvm.Cond.code x code maxLocals ret :: tables_1
/-- a 'code' word, met by the world's own term for the bytes: nothing is compared byte by byte -/
theorem code_word {y : MethodName} {bytes : ByteArray} {mx : Nat} {rt : Option FieldType} {a : Array Value} {s : State} {m : MethodId} {meth : Method} {c : Code} (h1 : s.methodNamed? y = some m) (h2 : s.vm.method? m = some meth) (h3 : meth.code = some c) (h4 : c.code = bytes)
    (h5 : (c.maxLocals == mx && c.exceptionTable.isEmpty && decide (c.maxStack ≤ mostOperands) && decide (meth.sig.returnType = rt) && !meth.locks && decide (parseMethodDescriptor y.desc = some meth.sig)) = true) : (Jvm.Cond.code y bytes mx rt).before a s = true := by
  simp only [Bool.and_eq_true, beq_iff_eq, Bool.not_eq_true', decide_eq_true_eq] at h5
  obtain ⟨⟨⟨⟨⟨g1, g2⟩, g3⟩, g4⟩, g5⟩, g6⟩ := h5
  simp [Cond.before, Cond.holds, Cond.value, h1, h2, h3, h4, g1, g2, g3, g4, g5, g6]
def isCode : Jvm.Cond → Bool
  | .code _ _ _ _ => true
  | _ => false
theorem all_split {L : List Jvm.Cond} {P : Jvm.Cond → Bool} (h1 : L.all (fun c => isCode c || P c) = true) (h2 : ∀ c ∈ L.filter isCode, P c = true) : L.all P = true := by
  refine List.all_eq_true.mpr fun c hc => ?_
  have h := List.all_eq_true.mp h1 c hc
  rcases Bool.eq_false_or_eq_true (isCode c) with hi | hi
  · exact h2 c (List.mem_filter.mpr ⟨hc, hi⟩)
  · simpa [hi] using h
set_option maxRecDepth 65536 in
theorem w_c0 : (Jvm.Cond.code x code maxLocals ret).before args0 about1 = true := code_word (m := ⟨1, 1⟩) (meth := k1m1) (c := k1c1) (by decide +kernel) rfl rfl rfl (by decide +kernel)
set_option maxRecDepth 65536 in
theorem w_c1 : (Jvm.Cond.code ({ cls := "com/example/reshelve/reshelve/io/parquet/CursorVarintPinLaw", name := "cell", desc := "(JIIII)B" } : Jvm.MethodName) method_3_code (8 : Nat) (Option.some Jvm.ClassFile.FieldType.byte)).before args0 about1 = true := code_word (m := ⟨1, 2⟩) (meth := k1m2) (c := k1c2) (by decide +kernel) rfl rfl rfl (by decide +kernel)
set_option maxRecDepth 65536 in
theorem w_c2 : (Jvm.Cond.code ({ cls := "com/example/reshelve/reshelve/io/parquet/RowBuffer$Cursor", name := "<init>", desc := "()V" } : Jvm.MethodName) prog_27_method_1_code (1 : Nat) (Option.none : Option Jvm.ClassFile.FieldType)).before args0 about1 = true := code_word (m := ⟨2, 0⟩) (meth := k2m0) (c := k2c0) (by decide +kernel) rfl rfl rfl (by decide +kernel)
set_option maxRecDepth 65536 in
theorem w_c3 : (Jvm.Cond.code ({ cls := "java/lang/Object", name := "<init>", desc := "()V" } : Jvm.MethodName) object_method_1_code (1 : Nat) (Option.none : Option Jvm.ClassFile.FieldType)).before args0 about1 = true := code_word (m := ⟨0, 0⟩) (meth := k0m0) (c := k0c0) (by decide +kernel) rfl rfl rfl (by decide +kernel)
set_option maxRecDepth 65536 in
theorem w_c4 : (Jvm.Cond.code ({ cls := "com/example/reshelve/reshelve/io/parquet/RowBuffer$Cursor", name := "start", desc := "([BI)V" } : Jvm.MethodName) prog_27_method_2_code (3 : Nat) (Option.none : Option Jvm.ClassFile.FieldType)).before args0 about1 = true := code_word (m := ⟨2, 1⟩) (meth := k2m1) (c := k2c1) (by decide +kernel) rfl rfl rfl (by decide +kernel)
set_option maxRecDepth 65536 in
theorem w_c5 : (Jvm.Cond.code ({ cls := "com/example/reshelve/reshelve/io/parquet/RowBuffer$Cursor", name := "varint", desc := "()J" } : Jvm.MethodName) prog_27_method_7_code (6 : Nat) (Option.some Jvm.ClassFile.FieldType.long)).before args0 about1 = true := code_word (m := ⟨2, 4⟩) (meth := k2m4) (c := k2c4) (by decide +kernel) rfl rfl rfl (by decide +kernel)
set_option maxRecDepth 65536 in
theorem w_c6 : (Jvm.Cond.code ({ cls := "com/example/reshelve/reshelve/io/parquet/RowBuffer$Cursor", name := "at", desc := "()I" } : Jvm.MethodName) prog_27_method_4_code (1 : Nat) (Option.some Jvm.ClassFile.FieldType.int)).before args0 about1 = true := code_word (m := ⟨2, 3⟩) (meth := k2m3) (c := k2c3) (by decide +kernel) rfl rfl rfl (by decide +kernel)
set_option maxRecDepth 65536 in
theorem w_c7 : (Jvm.Cond.code ({ cls := "com/example/reshelve/reshelve/io/parquet/RowBuffer$Cursor", name := "bytes", desc := "()[B" } : Jvm.MethodName) prog_27_method_3_code (1 : Nat) (Option.some (Jvm.ClassFile.FieldType.array Jvm.ClassFile.FieldType.byte))).before args0 about1 = true := code_word (m := ⟨2, 2⟩) (meth := k2m2) (c := k2c2) (by decide +kernel) rfl rfl rfl (by decide +kernel)
def codes1 : List Jvm.Cond := [Jvm.Cond.code x code maxLocals ret, Jvm.Cond.code ({ cls := "com/example/reshelve/reshelve/io/parquet/CursorVarintPinLaw", name := "cell", desc := "(JIIII)B" } : Jvm.MethodName) method_3_code (8 : Nat) (Option.some Jvm.ClassFile.FieldType.byte), Jvm.Cond.code ({ cls := "com/example/reshelve/reshelve/io/parquet/RowBuffer$Cursor", name := "<init>", desc := "()V" } : Jvm.MethodName) prog_27_method_1_code (1 : Nat) (Option.none : Option Jvm.ClassFile.FieldType), Jvm.Cond.code ({ cls := "java/lang/Object", name := "<init>", desc := "()V" } : Jvm.MethodName) object_method_1_code (1 : Nat) (Option.none : Option Jvm.ClassFile.FieldType), Jvm.Cond.code ({ cls := "com/example/reshelve/reshelve/io/parquet/RowBuffer$Cursor", name := "start", desc := "([BI)V" } : Jvm.MethodName) prog_27_method_2_code (3 : Nat) (Option.none : Option Jvm.ClassFile.FieldType), Jvm.Cond.code ({ cls := "com/example/reshelve/reshelve/io/parquet/RowBuffer$Cursor", name := "varint", desc := "()J" } : Jvm.MethodName) prog_27_method_7_code (6 : Nat) (Option.some Jvm.ClassFile.FieldType.long), Jvm.Cond.code ({ cls := "com/example/reshelve/reshelve/io/parquet/RowBuffer$Cursor", name := "at", desc := "()I" } : Jvm.MethodName) prog_27_method_4_code (1 : Nat) (Option.some Jvm.ClassFile.FieldType.int), Jvm.Cond.code ({ cls := "com/example/reshelve/reshelve/io/parquet/RowBuffer$Cursor", name := "bytes", desc := "()[B" } : Jvm.MethodName) prog_27_method_3_code (1 : Nat) (Option.some (Jvm.ClassFile.FieldType.array Jvm.ClassFile.FieldType.byte))]
set_option maxRecDepth 65536 in
theorem codes_eq : words1.filter isCode = codes1 := rfl
theorem w_codes : ∀ c ∈ words1.filter isCode, c.before args0 about1 = true := by
  rw [codes_eq]
  intro c hc
  simp only [codes1, List.mem_cons, List.not_mem_nil, or_false] at hc
  rcases hc with rfl | rfl | rfl | rfl | rfl | rfl | rfl | rfl
  · exact w_c0
  · exact w_c1
  · exact w_c2
  · exact w_c3
  · exact w_c4
  · exact w_c5
  · exact w_c6
  · exact w_c7
set_option maxRecDepth 65536 in
theorem w_t1 : (words1.take 24).all (fun c => isCode c || c.before args0 about1) = true := by decide +kernel
set_option maxRecDepth 65536 in
theorem w_t2 : (words1.drop 24).all (fun c => isCode c || c.before args0 about1) = true := by decide +kernel
theorem w_tables : (allAtoms (Jvm.Cond.code x code maxLocals ret :: tables_1)).before args0 about1 = true := by
  rw [allAtoms_all]
  show words1.all (fun c => c.before args0 about1) = true
  refine all_split ?_ w_codes
  rw [← List.take_append_drop 24 words1, List.all_append, w_t1, w_t2]
  rfl
set_option maxRecDepth 65536 in
theorem w_case : (Jvm.Cond.and given_1 narrow_1).before args0 about1 = true := by decide +kernel
theorem w_applies : (headSpec (Jvm.Cond.code x code maxLocals ret :: tables_1) room_1).applies x e0.platform about1 = true :=
  (Spec.applies_iff w_frames).mpr ⟨w_running, w_runnable, w_alone, w_named, w_hears, w_ripe, w_room, w_tables⟩
theorem atStart : AtStart classFile x code maxLocals ret World_1 tables_1 room_1 Calls_1 rest_1 Pre_1 launch0 p0 e0 about1 theMethod args0 below0 :=
  ⟨lists_1, trivial, launch0.admits_env _ _ _, launch0.least_env, fairChoices_fair.cas, fairChoices_fair.clock, w_frames, w_args, w_heap, w_applies, trivial, trivial, w_case⟩
end start1
theorem witness_1 : WitnessClaimed_1 := ⟨start1.p0, start1.e0, start1.about1, start1.theMethod, start1.args0, start1.below0, start1.atStart⟩
end Jvm.Pilot.@@N@@
