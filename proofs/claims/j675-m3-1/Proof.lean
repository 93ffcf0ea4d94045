import JvmDerived
import JvmDerived.Pilot.@@N@@Statement
import JvmDerived.Pilot.@@N@@Code
set_option linter.unusedVariables false
set_option linter.unusedSimpArgs false
namespace Jvm.OwnW
open Sem ClassFile Op Lib Jvm.Stand Jvm.Free Jvm.LawKit Jvm.RoadKit
/-! A plain heap (objects made since the start, in order), values whose references count from the start's size; W: from here the method comes back, and Q holds of what it returns and leaves. -/
abbrev Key : Type := String × String × String
abbrev AObj : Type := (String × List (Key × Value)) ⊕ (FieldType × List Value)
abbrev AHeap : Type := List AObj
abbrev Meth : Type := MethodName × ByteArray × Nat × Option FieldType × Room
def up (n : Nat) : Value → Value
  | .ref k => .ref (n + k)
  | .retAddr a => .ref a
  | v => v
/-- a reference: null, an object of the plain heap, or one from elsewhere (written '.retAddr', which no method here makes) -/
def rfn : Value → Bool
  | .ref _ => true
  | .null => true
  | .retAddr _ => true
  | _ => false
def upS (n : Nat) : Slot → Slot
  | .val v => .val (up n v)
  | x => x
abbrev loc (n : Nat) (ls : List Slot) : Array Slot := (ls.map (upS n)).toArray
abbrev stk (n : Nat) (st : List Value) : List Value := st.map (up n)
def OR (Z : State) (n : Nat) (h : Heap) (a : Addr) : AObj → Prop
  | .inl x => Exa Z h a x.1 ∧ (∀ (i : Nat) (q : Key × Value), x.2[i]? = some q → Fld Z h a q.1.1 q.1.2.1 q.1.2.2 (up n q.2)) ∧ ∀ (i j : Nat) (q r : Key × Value), i ≠ j → x.2[i]? = some q → x.2[j]? = some r → RoadKit.slotOf Z q.1.1 q.1.2.1 q.1.2.2 ≠ RoadKit.slotOf Z r.1.1 r.1.2.1 r.1.2.2
  | .inr x => ∃ cl : Cell, Arr Z h a cl x.1 ∧ cl.slots = (x.2.map (up n)).toArray
/-- a cell of which nothing is said -/
def junk : AObj := .inr (.object "", [])
def isJ : AObj → Bool
  | .inl _ => false
  | .inr x => match x.1 with
    | .object c => c == ""
    | _ => false
def HR (Z : State) (n : Nat) (h : Heap) (H : AHeap) : Prop := h.size = n + H.length ∧ ∀ k o, H[k]? = some o → isJ o = false → OR Z n h (n + k) o
def Ctx (Z : State) (M : Meth) (p : Program) (s : State) (m : MethodId) (meth : Method) (c : Code) : Prop :=
  p.tables.exec = Jvm.exec ∧ Z.Warmed39 s.vm ∧ s.vm.findClass M.1.cls = some m.cls ∧ c.code = M.2.1 ∧ c.maxLocals = M.2.2.1 ∧ meth.sig.returnType = M.2.2.2.1 ∧ meth.locks = false ∧ meth.name = M.1.name
/-- the end's frame: the plain one, or (a String's constant may have been resolved) the wide one -/
def EndR (b : Bool) (s : State) (o : Outcome) (t : State) (L : List Loc) (k n : Nat) : Prop := match b with
  | false => FrameEnd s o t L k n
  | true => (∃ v : Option Value, o = Outcome.returned v) ∧ s.Warmed39 t.vm ∧ s.Booked t.vm t.heap.size ∧ s.sameButNew ({ t with vm := s.vm } : State) L k n
theorem EndR.of {b : Bool} {s : State} {o : Outcome} {t : State} {L : List Loc} {k n : Nat} (h : FrameEnd s o t L k n) : EndR b s o t L k n := by
  cases b
  · exact h
  · exact ⟨h.1, (h.2.1.since t.heap.size).1, (h.2.1.since t.heap.size).2, h.2.2⟩
def FinR (b : Bool) (Z : State) (n : Nat) (M : Meth) (Q : Option Value → AHeap → Prop) (p : Program) (e : Env) (below : List Frame) (s S : State) : Prop :=
  ∃ s₂ v L H', Steps p.tables e below S s₂ ∧ s₂.status = .running ∧ Ended s₂ below (.returned (v.map (up n))) ∧ Q v H' ∧ HR Z n s₂.heap H' ∧ Fr n L ∧ EndR b s (.returned (v.map (up n))) s₂ L M.2.2.2.2.cells M.2.2.2.2.slots
def WB (b : Bool) (l : Launch) (Z : State) (n : Nat) (M : Meth) (pc : Nat) (ls : List Slot) (st : List Value) (H : AHeap) (ce sl : Nat) (Q : Option Value → AHeap → Prop) : Prop :=
  ∀ (p : Program) (e : Env) (s : State) (m : MethodId) (args : Array Value) (below : List Frame) (meth : Method) (c : Code), Ctx Z M p s m meth c → ∀ (T : State) (locs : List Loc),
    Stand p l e M.2.2.2.2 s m args below meth c T locs ce sl → HR Z n T.heap H → Fr n locs → FinR b Z n M Q p e below s (T.setTop (mkF m pc (loc n ls) (stk n st)))
abbrev W (l : Launch) (Z : State) (n : Nat) (M : Meth) (pc : Nat) (ls : List Slot) (st : List Value) (H : AHeap) (ce sl : Nat) (Q : Option Value → AHeap → Prop) : Prop := WB false l Z n M pc ls st H ce sl Q
/-- the instruction at pc, its length, the pc behind -/
def D (M : Meth) (pc : Nat) (i : Instr) (len pc' : Nat) : Prop := decode M.2.1 pc = .ok (i, len) ∧ pc' = pc + len
/-- a branch: the pc behind, the target -/
def DB (M : Meth) (pc : Nat) (i : Instr) (o : Int) (pc' t : Nat) : Prop := decode M.2.1 pc = .ok (i, 3) ∧ pc' = pc + 3 ∧ 0 ≤ (pc : Int) + o ∧ ((pc : Int) + o).toNat = t

section Facts
variable {Z : State} {n : Nat} {h h' : Heap} {a b : Addr} {x : AObj} {H : AHeap} {sl k : Nat} {v : Value}
theorem up_cat (n : Nat) (v : Value) : (up n v).category = v.category := by cases v <;> rfl
theorem up_rfn (n : Nat) {v : Value} (h : rfn v = true) : (up n v).isRef = true := by cases v <;> first | rfl | (simp [rfn] at h)
theorem up_isRef (n : Nat) {v : Value} (h : v.isRef = true) : (up n v).isRef = true := by cases v <;> first | rfl | (simp [Value.isRef] at h)
theorem rfn_cat {v : Value} (h : rfn v = true) : v.category = 1 := by cases v <;> first | rfl | (simp [rfn] at h)
theorem up_default (n : Nat) (ty : FieldType) : up n (defaultValue ty) = defaultValue ty := by cases ty <;> rfl
theorem up_inj {n : Nat} {v w : Value} (hv : v.isRef = true) (hw : w.isRef = true) (e : up n v = up n w) : v = w := by
  cases v <;> cases w <;> simp_all [up, Value.isRef]
theorem OR.other (W : Wr h h' a sl v) (hne : b ≠ a) : ∀ {x : AObj}, OR Z n h b x → OR Z n h' b x
  | .inl x, o => ⟨o.1.wr W, fun i q hq => (o.2.1 i q hq).other W (Or.inl hne), o.2.2⟩
  | .inr x, ⟨cl, A, e⟩ => ⟨cl, A.other W hne, e⟩
theorem OR.ext (E : Ext h h') : ∀ {x : AObj}, OR Z n h b x → OR Z n h' b x
  | .inl x, o => ⟨o.1.ext E, fun i q hq => (o.2.1 i q hq).ext E, o.2.2⟩
  | .inr x, ⟨cl, A, e⟩ => ⟨cl, A.ext E, e⟩
theorem HR.put (hH : HR Z n h H) (W : Wr h h' (n + k) sl v) (hx : OR Z n h' (n + k) x) : HR Z n h' (H.set k x) := by
  refine ⟨by rw [W.size, List.length_set]; exact hH.1, fun j o hj hJ => ?_⟩
  rw [List.getElem?_set] at hj
  split at hj
  · rename_i e
    subst e
    split at hj
    · cases hj; exact hx
    · cases hj
  · rename_i e
    exact (hH.2 j o hj hJ).other W (fun q => e (Nat.add_left_cancel q).symm)
theorem HR.push (hH : HR Z n h H) (E : Ext h h') (hs : h'.size = h.size + 1) (hx : OR Z n h' h.size x) : HR Z n h' (H ++ [x]) := by
  refine ⟨by rw [hs, hH.1, List.length_append]; rfl, fun j o hj hJ => ?_⟩
  rw [List.getElem?_append] at hj
  split at hj
  · exact (hH.2 j o hj hJ).ext E
  · rename_i e
    have hj' := hj
    cases hq : j - H.length with
    | zero =>
      have hge : H.length ≤ j := Nat.le_of_not_lt e
      have hle : j ≤ H.length := Nat.sub_eq_zero_iff_le.mp hq
      have this : n + j = h.size := by rw [hH.1, Nat.le_antisymm hle hge]
      rw [hq] at hj
      cases hj
      rw [this]; exact hx
    | succ q => rw [hq] at hj; cases hj
theorem OR.field {C : String} {fs : List (Key × Value)} {j : Nat} {O nm d : String} {old w : Value} (o : OR Z n h a (.inl (C, fs))) (hj : fs[j]? = some ((O, nm, d), old)) (W : Wr h h' a (RoadKit.slotOf Z O nm d) (up n w)) : OR Z n h' a (.inl (C, fs.set j ((O, nm, d), w))) := by
  have key : ∀ i q, (fs.set j ((O, nm, d), w))[i]? = some q → ∃ q', fs[i]? = some q' ∧ q'.1 = q.1 ∧ (i = j → q = ((O, nm, d), w)) ∧ (i ≠ j → q' = q) := by
    intro i q hq
    rw [List.getElem?_set] at hq
    split at hq
    · rename_i e
      subst e
      split at hq
      · cases hq; exact ⟨_, hj, rfl, fun _ => rfl, fun q => absurd rfl q⟩
      · cases hq
    · rename_i e
      exact ⟨q, hq, rfl, fun q => absurd q.symm e, fun _ => rfl⟩
  obtain ⟨o1, o2, o3⟩ := o
  refine ⟨o1.wr W, fun i q hq => ?_, fun i i' q r hne hq hr => ?_⟩
  · obtain ⟨q', g1, g2, g3, g4⟩ := key i q hq
    by_cases e : i = j
    · rw [g3 e]
      subst e
      cases hj.symm.trans g1
      have o4 : Fld Z h a O nm d (up n old) := o2 i _ hj
      exact o4.same W
    · obtain rfl := g4 e
      have hne : RoadKit.slotOf Z q'.1.1 q'.1.2.1 q'.1.2.2 ≠ RoadKit.slotOf Z O nm d := o3 i j q' ((O, nm, d), old) e g1 hj
      exact (o2 i q' g1).other W (Or.inr hne)
  · obtain ⟨q', g1, g2, -⟩ := key i q hq
    obtain ⟨r', k1, k2, -⟩ := key i' r hr
    have := o3 i i' q' r' hne g1 k1
    rw [g2, k2] at this; exact this
theorem OR.elem {ty : FieldType} {vs : List Value} {i : Nat} {w : Value} (o : OR Z n h a (.inr (ty, vs))) (W : Wr h h' a i (up n w)) : OR Z n h' a (.inr (ty, vs.set i w)) := by
  obtain ⟨cl, A, e⟩ := o
  refine ⟨_, A.same W, ?_⟩
  show cl.slots.setIfInBounds i (up n w) = _
  rw [e, List.setIfInBounds_toArray, List.map_set]
end Facts

/-- a class as the sheet lays it: its words, its fields at their first values -/
def OkC (a0 : Array Value) (Z : State) (C : String) (k : Nat) (fs : List (Key × Value)) : Prop :=
  (Cond.instantiable C k).before a0 Z = true ∧ (Cond.initialized C).before a0 Z = true ∧ (∀ q ∈ fs, ∃ ty, Laid Z a0 C q.1.1 q.1.2.1 q.1.2.2 ∧ parseFieldDescriptor q.1.2.2 = some ty ∧ q.2 = defaultValue ty) ∧ fs.Pairwise (fun q r => q.1.2.1 ≠ r.1.2.1)
theorem OkC.slots {a0 : Array Value} {Z : State} {C : String} {k : Nat} {fs : List (Key × Value)} (K : OkC a0 Z C k fs) : ∀ (i j : Nat) (q r : Key × Value), i ≠ j → fs[i]? = some q → fs[j]? = some r → RoadKit.slotOf Z q.1.1 q.1.2.1 q.1.2.2 ≠ RoadKit.slotOf Z r.1.1 r.1.2.1 r.1.2.2 := by
  intro i j q r hne hq hr
  obtain ⟨t, L, p1, -⟩ := K.2.2.1 q (List.mem_of_getElem? hq)
  obtain ⟨t', L', p2, -⟩ := K.2.2.1 r (List.mem_of_getElem? hr)
  obtain ⟨hi, ei⟩ := List.getElem?_eq_some_iff.mp hq
  obtain ⟨hj, ej⟩ := List.getElem?_eq_some_iff.mp hr
  have P := List.pairwise_iff_getElem.mp K.2.2.2
  refine slot_ne L L' ?_ p1 p2
  rcases Nat.lt_or_gt_of_ne hne with g | g
  · have := P i j hi hj g; rw [ei, ej] at this; exact this
  · have := P j i hj hi g; rw [ei, ej] at this; exact Ne.symm this

section Locals
variable {n : Nat} {ls : List Slot} {i : Nat} {x : Slot} {v : Value}
theorem loc_get (hl : ls[i]? = some x) : (loc n ls)[i]? = some (upS n x) := by
  simp [loc, hl]
def one (ls : List Slot) (i : Nat) : Bool := match ls[i]? with
  | some .unset => true
  | some (.val w) => w.category == 1
  | _ => false
/-- a long may be stored at i: the two places are there, and no other long is cut in two -/
def two (ls : List Slot) (i : Nat) : Bool := match ls[i]?, ls[i + 1]? with
  | some .unset, some .unset => true
  | some .unset, some (.val w) => w.category == 1
  | some (.val u), some .unset => u.category == 1
  | some (.val u), some (.val w) => u.category == 1 && w.category == 1
  | some (.val u), some .second => u.category == 2
  | _, _ => false
theorem loc_set (n : Nat) (ls : List Slot) (i : Nat) (x : Slot) : (loc n ls).setIfInBounds i (upS n x) = loc n (ls.set i x) := by
  simp [loc, List.map_set]
theorem store_1 (ho : one ls i = true) (hv : v.category = 1) : storeLocals (loc n ls) i (up n v) = some (loc n (ls.set i (.val v))) := by
  have : ∃ o, ls[i]? = some o ∧ (o = .unset ∨ ∃ w, o = .val w ∧ w.category = 1) := by
    unfold one at ho
    split at ho
    · rename_i h; exact ⟨_, h, Or.inl rfl⟩
    · rename_i w h; exact ⟨_, h, Or.inr ⟨w, rfl, by simpa using ho⟩⟩
    · cases ho
  obtain ⟨o, h1, h2⟩ := this
  rw [XS.store1 (loc_get (n := n) h1) ?_ ((up_cat n v).trans hv)]
  · exact congrArg some (loc_set n ls i (.val v))
  · rcases h2 with rfl | ⟨w, rfl, hw⟩
    · exact Or.inl rfl
    · exact Or.inr ⟨up n w, rfl, (up_cat n w).trans hw⟩
theorem setAt_eq {l : Array Slot} {i : Nat} (x : Slot) (h : i < l.size) : setAt l i x = some (l.setIfInBounds i x) := by simp [setAt, h]
theorem store_2 {y : Int64} (ho : two ls i = true) : storeLocals (loc n ls) i (.long y) = some (loc n ((ls.set i (.val (.long y))).set (i + 1) .second)) := by
  have e2 : (loc n ls).setIfInBounds i (.val (.long y)) = loc n (ls.set i (.val (.long y))) := loc_set n ls i (.val (.long y))
  have e3 : (loc n (ls.set i (.val (.long y)))).setIfInBounds (i + 1) .second = loc n ((ls.set i (.val (.long y))).set (i + 1) .second) := loc_set n _ (i + 1) .second
  have key : ∀ a b, ls[i]? = some a → ls[i + 1]? = some b → i < (loc n ls).size ∧ i + 1 < (loc n ls).size ∧ (loc n ls)[i]? = some (upS n a) ∧ (loc n ls)[i + 1]? = some (upS n b) := by
    intro a b h1 h2
    have g1 := (List.getElem?_eq_some_iff.mp h1).1
    have g2 := (List.getElem?_eq_some_iff.mp h2).1
    exact ⟨by simpa [loc] using g1, by simpa [loc] using g2, loc_get h1, loc_get h2⟩
  unfold two at ho
  split at ho
  · rename_i h1 h2
    obtain ⟨s1, s2, g1, g2⟩ := key _ _ h1 h2
    have g3 : ((loc n ls).setIfInBounds i (.val (.long y)))[i + 1]? = some .unset := by rw [Array.getElem?_setIfInBounds_ne (by omega)]; exact g2
    simp only [storeLocals, storeSelf, g1, upS, setAt_eq _ s1, Option.bind_eq_bind, Option.bind_some, Value.category, if_true, g3]
    rw [setAt_eq _ (by simpa using s2), e2, e3]
  · rename_i w h1 h2
    obtain ⟨s1, s2, g1, g2⟩ := key _ _ h1 h2
    have g3 : ((loc n ls).setIfInBounds i (.val (.long y)))[i + 1]? = some (.val (up n w)) := by rw [Array.getElem?_setIfInBounds_ne (by omega)]; exact g2
    have hw : (up n w).category = 1 := (up_cat n w).trans (by simpa using ho)
    have hw2 : ¬ (up n w).category = 2 := by rw [hw]; decide
    simp only [storeLocals, storeSelf, g1, upS, setAt_eq _ s1, Option.bind_eq_bind, Option.bind_some, show (Value.long y).category = 2 from rfl, if_true, g3, if_neg hw2]
    rw [setAt_eq _ (by simpa using s2), e2, e3]
  · rename_i u h1 h2
    obtain ⟨s1, s2, g1, g2⟩ := key _ _ h1 h2
    have g3 : ((loc n ls).setIfInBounds i (.val (.long y)))[i + 1]? = some .unset := by rw [Array.getElem?_setIfInBounds_ne (by omega)]; exact g2
    have hu : (up n u).category = 1 := (up_cat n u).trans (by simpa using ho)
    simp only [storeLocals, storeSelf, g1, upS, setAt_eq _ s1, Option.bind_eq_bind, Option.bind_some, hu, show ((1 : Nat) = 2) = False from by simp, if_false, g3]
    simp only [Value.category, if_true]
    rw [setAt_eq _ (by simpa using s2), e2, e3]
  · rename_i u w h1 h2
    obtain ⟨s1, s2, g1, g2⟩ := key _ _ h1 h2
    simp only [Bool.and_eq_true, beq_iff_eq] at ho
    have g3 : ((loc n ls).setIfInBounds i (.val (.long y)))[i + 1]? = some (.val (up n w)) := by rw [Array.getElem?_setIfInBounds_ne (by omega)]; exact g2
    have hu : (up n u).category = 1 := (up_cat n u).trans ho.1
    have hw : (up n w).category = 1 := (up_cat n w).trans ho.2
    simp only [storeLocals, storeSelf, g1, upS, setAt_eq _ s1, Option.bind_eq_bind, Option.bind_some, hu, hw, show ((1 : Nat) = 2) = False from by simp, if_false, g3]
    simp only [Value.category, if_true]
    rw [setAt_eq _ (by simpa using s2), e2, e3]
  · rename_i u h1 h2
    obtain ⟨s1, s2, g1, g2⟩ := key _ _ h1 h2
    have hu : (up n u).category = 2 := (up_cat n u).trans (by simpa using ho)
    have s3 : i < ((loc n ls).setIfInBounds (i + 1) .unset).size := by simpa using s1
    have g3 : (((loc n ls).setIfInBounds (i + 1) .unset).setIfInBounds i (.val (.long y)))[i + 1]? = some .unset := by rw [Array.getElem?_setIfInBounds_ne (by omega)]; simp [show i + 1 < ls.length by simpa [loc] using s2]
    simp only [storeLocals, storeSelf, g1, upS, setAt_eq _ s2, setAt_eq _ s3, Option.bind_eq_bind, Option.bind_some, hu, if_true, g3]
    simp only [Value.category, if_true]
    rw [setAt_eq _ (by simpa using s2)]
    rw [← e3, ← e2]
    congr 1
    apply Array.ext_getElem?
    intro j
    simp only [Array.getElem?_setIfInBounds, Array.size_setIfInBounds]
    by_cases q : i + 1 = j
    · simp [q]
    · by_cases q2 : i = j <;> simp [q, q2]
  · cases ho
end Locals

section Rules
variable {b : Bool} {l : Launch} {Z : State} {n : Nat} {M : Meth} {pc pc' : Nat} {ls ls' : List Slot} {st st' : List Value} {H H' : AHeap} {ce sl ce' sl' : Nat} {Q : Option Value → AHeap → Prop} {a0 : Array Value}
theorem W.step (go : ∀ (p : Program) (e : Env) (s : State) (m : MethodId) (args : Array Value) (below : List Frame) (meth : Method) (c : Code), Ctx Z M p s m meth c → ∀ (T : State) (locs : List Loc), Stand p l e M.2.2.2.2 s m args below meth c T locs ce sl → HR Z n T.heap H → Fr n locs →
      ∃ T' locs', Stand p l e M.2.2.2.2 s m args below meth c T' locs' ce' sl' ∧ HR Z n T'.heap H' ∧ Fr n locs' ∧ ∀ target, Steps p.tables e below (T'.setTop (mkF m pc' (loc n ls') (stk n st'))) target → Steps p.tables e below (T.setTop (mkF m pc (loc n ls) (stk n st))) target)
    (k : WB b l Z n M pc' ls' st' H' ce' sl' Q) : WB b l Z n M pc ls st H ce sl Q := fun p e s m args below meth c C T locs X hH hF => by
  obtain ⟨T', locs', X', hH', hF', stp⟩ := go p e s m args below meth c C T locs X hH hF
  obtain ⟨s₂, v, L, H'', h1, r⟩ := k p e s m args below meth c C T' locs' X' hH' hF'
  exact ⟨s₂, v, L, H'', stp _ h1, r⟩
theorem W.pure (go : ∀ (p : Program) (e : Env) (s : State) (m : MethodId) (args : Array Value) (below : List Frame) (meth : Method) (c : Code), Ctx Z M p s m meth c → ∀ (T : State) (locs : List Loc), Stand p l e M.2.2.2.2 s m args below meth c T locs ce sl →
      ∀ target, Steps p.tables e below (T.setTop (mkF m pc' (loc n ls') (stk n st'))) target → Steps p.tables e below (T.setTop (mkF m pc (loc n ls) (stk n st))) target)
    (k : WB b l Z n M pc' ls' st' H ce sl Q) : WB b l Z n M pc ls st H ce sl Q :=
  W.step (fun p e s m args below meth c C T locs X hH hF => ⟨T, locs, X, hH, hF, go p e s m args below meth c C T locs X⟩) k
theorem W.more (h1 : ce ≤ ce') (h2 : sl ≤ sl') (k : WB b l Z n M pc ls st H ce' sl' Q) : WB b l Z n M pc ls st H ce sl Q :=
  W.step (fun p e s m args below meth c C T locs X hH hF => ⟨T, locs, X.more h1 h2, hH, hF, fun _ h => h⟩) k
theorem W.mono {Q' : Option Value → AHeap → Prop} (k : WB b l Z n M pc ls st H ce sl Q') (hq : ∀ v H', Q' v H' → Q v H') : WB b l Z n M pc ls st H ce sl Q := fun p e s m args below meth c C T locs X hH hF => by
  obtain ⟨s₂, v, L, H'', h1, h2, h3, h4, r⟩ := k p e s m args below meth c C T locs X hH hF
  exact ⟨s₂, v, L, H'', h1, h2, h3, hq _ _ h4, r⟩
theorem W.iadd {x y : Int32} (hd : D M pc .iadd 1 pc') (k : WB b l Z n M pc' ls (.int (x + y) :: st) H ce sl Q) : WB b l Z n M pc ls (.int y :: .int x :: st) H ce sl Q := by
  obtain ⟨hd, rfl⟩ := hd
  exact W.pure (fun p e s m args below meth c C T locs X target h => XS.iadd X.here C.1 rfl (hb C.2.2.2.1 hd) rfl h) k
theorem W.isub {x y : Int32} (hd : D M pc .isub 1 pc') (k : WB b l Z n M pc' ls (.int (x - y) :: st) H ce sl Q) : WB b l Z n M pc ls (.int y :: .int x :: st) H ce sl Q := by
  obtain ⟨hd, rfl⟩ := hd
  exact W.pure (fun p e s m args below meth c C T locs X target h => XS.isub X.here C.1 rfl (hb C.2.2.2.1 hd) rfl h) k
theorem W.imul {x y : Int32} (hd : D M pc .imul 1 pc') (k : WB b l Z n M pc' ls (.int (x * y) :: st) H ce sl Q) : WB b l Z n M pc ls (.int y :: .int x :: st) H ce sl Q := by
  obtain ⟨hd, rfl⟩ := hd
  exact W.pure (fun p e s m args below meth c C T locs X target h => XS.imul X.here C.1 rfl (hb C.2.2.2.1 hd) rfl h) k
theorem W.iand {x y : Int32} (hd : D M pc .iand 1 pc') (k : WB b l Z n M pc' ls (.int (x &&& y) :: st) H ce sl Q) : WB b l Z n M pc ls (.int y :: .int x :: st) H ce sl Q := by
  obtain ⟨hd, rfl⟩ := hd
  exact W.pure (fun p e s m args below meth c C T locs X target h => XS.iand X.here C.1 rfl (hb C.2.2.2.1 hd) rfl h) k
theorem W.ior {x y : Int32} (hd : D M pc .ior 1 pc') (k : WB b l Z n M pc' ls (.int (x ||| y) :: st) H ce sl Q) : WB b l Z n M pc ls (.int y :: .int x :: st) H ce sl Q := by
  obtain ⟨hd, rfl⟩ := hd
  exact W.pure (fun p e s m args below meth c C T locs X target h => XT.ior X.here C.1 rfl (hb C.2.2.2.1 hd) rfl h) k
theorem W.ixor {x y : Int32} (hd : D M pc .ixor 1 pc') (k : WB b l Z n M pc' ls (.int (x ^^^ y) :: st) H ce sl Q) : WB b l Z n M pc ls (.int y :: .int x :: st) H ce sl Q := by
  obtain ⟨hd, rfl⟩ := hd
  exact W.pure (fun p e s m args below meth c C T locs X target h => XT.ixor X.here C.1 rfl (hb C.2.2.2.1 hd) rfl h) k
theorem W.ishl {x y : Int32} (hd : D M pc .ishl 1 pc') (k : WB b l Z n M pc' ls (.int (x <<< (y &&& 31)) :: st) H ce sl Q) : WB b l Z n M pc ls (.int y :: .int x :: st) H ce sl Q := by
  obtain ⟨hd, rfl⟩ := hd
  exact W.pure (fun p e s m args below meth c C T locs X target h => XT.ishl X.here C.1 rfl (hb C.2.2.2.1 hd) rfl h) k
theorem W.ishr {x y : Int32} (hd : D M pc .ishr 1 pc') (k : WB b l Z n M pc' ls (.int (x >>> (y &&& 31)) :: st) H ce sl Q) : WB b l Z n M pc ls (.int y :: .int x :: st) H ce sl Q := by
  obtain ⟨hd, rfl⟩ := hd
  exact W.pure (fun p e s m args below meth c C T locs X target h => XT.ishr X.here C.1 rfl (hb C.2.2.2.1 hd) rfl h) k
theorem W.iushr {x y : Int32} (hd : D M pc .iushr 1 pc') (k : WB b l Z n M pc' ls (.int (XT.ushr x y) :: st) H ce sl Q) : WB b l Z n M pc ls (.int y :: .int x :: st) H ce sl Q := by
  obtain ⟨hd, rfl⟩ := hd
  exact W.pure (fun p e s m args below meth c C T locs X target h => XT.iushr X.here C.1 rfl (hb C.2.2.2.1 hd) rfl h) k
theorem W.ladd {x y : Int64} (hd : D M pc .ladd 1 pc') (k : WB b l Z n M pc' ls (.long (x + y) :: st) H ce sl Q) : WB b l Z n M pc ls (.long y :: .long x :: st) H ce sl Q := by
  obtain ⟨hd, rfl⟩ := hd
  exact W.pure (fun p e s m args below meth c C T locs X target h => XT.ladd X.here C.1 rfl (hb C.2.2.2.1 hd) rfl h) k
theorem W.lsub {x y : Int64} (hd : D M pc .lsub 1 pc') (k : WB b l Z n M pc' ls (.long (x - y) :: st) H ce sl Q) : WB b l Z n M pc ls (.long y :: .long x :: st) H ce sl Q := by
  obtain ⟨hd, rfl⟩ := hd
  exact W.pure (fun p e s m args below meth c C T locs X target h => XT.lsub X.here C.1 rfl (hb C.2.2.2.1 hd) rfl h) k
theorem W.lmul {x y : Int64} (hd : D M pc .lmul 1 pc') (k : WB b l Z n M pc' ls (.long (x * y) :: st) H ce sl Q) : WB b l Z n M pc ls (.long y :: .long x :: st) H ce sl Q := by
  obtain ⟨hd, rfl⟩ := hd
  exact W.pure (fun p e s m args below meth c C T locs X target h => XT.lmul X.here C.1 rfl (hb C.2.2.2.1 hd) rfl h) k
theorem W.land {x y : Int64} (hd : D M pc .land 1 pc') (k : WB b l Z n M pc' ls (.long (x &&& y) :: st) H ce sl Q) : WB b l Z n M pc ls (.long y :: .long x :: st) H ce sl Q := by
  obtain ⟨hd, rfl⟩ := hd
  exact W.pure (fun p e s m args below meth c C T locs X target h => XT.land X.here C.1 rfl (hb C.2.2.2.1 hd) rfl h) k
theorem W.lor {x y : Int64} (hd : D M pc .lor 1 pc') (k : WB b l Z n M pc' ls (.long (x ||| y) :: st) H ce sl Q) : WB b l Z n M pc ls (.long y :: .long x :: st) H ce sl Q := by
  obtain ⟨hd, rfl⟩ := hd
  exact W.pure (fun p e s m args below meth c C T locs X target h => XT.lor X.here C.1 rfl (hb C.2.2.2.1 hd) rfl h) k
theorem W.lxor {x y : Int64} (hd : D M pc .lxor 1 pc') (k : WB b l Z n M pc' ls (.long (x ^^^ y) :: st) H ce sl Q) : WB b l Z n M pc ls (.long y :: .long x :: st) H ce sl Q := by
  obtain ⟨hd, rfl⟩ := hd
  exact W.pure (fun p e s m args below meth c C T locs X target h => XT.lxor X.here C.1 rfl (hb C.2.2.2.1 hd) rfl h) k
theorem W.lshl {x : Int64} {y : Int32} (hd : D M pc .lshl 1 pc') (k : WB b l Z n M pc' ls (.long (x <<< (y &&& 0x3f).toInt64) :: st) H ce sl Q) : WB b l Z n M pc ls (.int y :: .long x :: st) H ce sl Q := by
  obtain ⟨hd, rfl⟩ := hd
  exact W.pure (fun p e s m args below meth c C T locs X target h => XS.lshl X.here C.1 rfl (hb C.2.2.2.1 hd) rfl h) k
theorem W.lshr {x : Int64} {y : Int32} (hd : D M pc .lshr 1 pc') (k : WB b l Z n M pc' ls (.long (x >>> (y &&& 0x3f).toInt64) :: st) H ce sl Q) : WB b l Z n M pc ls (.int y :: .long x :: st) H ce sl Q := by
  obtain ⟨hd, rfl⟩ := hd
  exact W.pure (fun p e s m args below meth c C T locs X target h => XS.lshr X.here C.1 rfl (hb C.2.2.2.1 hd) rfl h) k
theorem W.lushr {x : Int64} {y : Int32} (hd : D M pc .lushr 1 pc') (k : WB b l Z n M pc' ls (.long (XT.ushrL x y) :: st) H ce sl Q) : WB b l Z n M pc ls (.int y :: .long x :: st) H ce sl Q := by
  obtain ⟨hd, rfl⟩ := hd
  exact W.pure (fun p e s m args below meth c C T locs X target h => XT.lushr X.here C.1 rfl (hb C.2.2.2.1 hd) rfl h) k
theorem W.idiv {x y : Int32} (hd : D M pc .idiv 1 pc') (hy : y ≠ 0) (k : WB b l Z n M pc' ls (.int (x / y) :: st) H ce sl Q) : WB b l Z n M pc ls (.int y :: .int x :: st) H ce sl Q := by
  obtain ⟨hd, rfl⟩ := hd
  exact W.pure (fun p e s m args below meth c C T locs X target h => XS.idiv X.here C.1 rfl (hb C.2.2.2.1 hd) rfl hy h) k
theorem W.irem {x y : Int32} (hd : D M pc .irem 1 pc') (hy : y ≠ 0) (k : WB b l Z n M pc' ls (.int (x % y) :: st) H ce sl Q) : WB b l Z n M pc ls (.int y :: .int x :: st) H ce sl Q := by
  obtain ⟨hd, rfl⟩ := hd
  exact W.pure (fun p e s m args below meth c C T locs X target h => iremM X C.1 rfl (hb C.2.2.2.1 hd) rfl hy h) k
theorem W.ldiv {x y : Int64} (hd : D M pc .ldiv 1 pc') (hy : y ≠ 0) (k : WB b l Z n M pc' ls (.long (x / y) :: st) H ce sl Q) : WB b l Z n M pc ls (.long y :: .long x :: st) H ce sl Q := by
  obtain ⟨hd, rfl⟩ := hd
  exact W.pure (fun p e s m args below meth c C T locs X target h => XT.ldiv X.here C.1 rfl (hb C.2.2.2.1 hd) rfl hy h) k
theorem W.lrem {x y : Int64} (hd : D M pc .lrem 1 pc') (hy : y ≠ 0) (k : WB b l Z n M pc' ls (.long (x % y) :: st) H ce sl Q) : WB b l Z n M pc ls (.long y :: .long x :: st) H ce sl Q := by
  obtain ⟨hd, rfl⟩ := hd
  exact W.pure (fun p e s m args below meth c C T locs X target h => XT.lrem X.here C.1 rfl (hb C.2.2.2.1 hd) rfl hy (by rw [lrem_mod]; exact h)) k
theorem W.ineg {x : Int32} (hd : D M pc .ineg 1 pc') (k : WB b l Z n M pc' ls (.int (-x) :: st) H ce sl Q) : WB b l Z n M pc ls (.int x :: st) H ce sl Q := by
  obtain ⟨hd, rfl⟩ := hd
  exact W.pure (fun p e s m args below meth c C T locs X target h => XS.ineg X.here C.1 rfl (hb C.2.2.2.1 hd) rfl h) k
theorem W.lneg {x : Int64} (hd : D M pc .lneg 1 pc') (k : WB b l Z n M pc' ls (.long (-x) :: st) H ce sl Q) : WB b l Z n M pc ls (.long x :: st) H ce sl Q := by
  obtain ⟨hd, rfl⟩ := hd
  exact W.pure (fun p e s m args below meth c C T locs X target h => XT.lneg X.here C.1 rfl (hb C.2.2.2.1 hd) rfl h) k
theorem W.i2l {x : Int32} (hd : D M pc .i2l 1 pc') (k : WB b l Z n M pc' ls (.long (x.toInt64) :: st) H ce sl Q) : WB b l Z n M pc ls (.int x :: st) H ce sl Q := by
  obtain ⟨hd, rfl⟩ := hd
  exact W.pure (fun p e s m args below meth c C T locs X target h => XT.i2l X.here C.1 rfl (hb C.2.2.2.1 hd) rfl h) k
theorem W.l2i {x : Int64} (hd : D M pc .l2i 1 pc') (k : WB b l Z n M pc' ls (.int (x.toInt32) :: st) H ce sl Q) : WB b l Z n M pc ls (.long x :: st) H ce sl Q := by
  obtain ⟨hd, rfl⟩ := hd
  exact W.pure (fun p e s m args below meth c C T locs X target h => XT.l2i X.here C.1 rfl (hb C.2.2.2.1 hd) rfl h) k
theorem W.i2b {x : Int32} (hd : D M pc .i2b 1 pc') (k : WB b l Z n M pc' ls (.int (x.toInt8.toInt32) :: st) H ce sl Q) : WB b l Z n M pc ls (.int x :: st) H ce sl Q := by
  obtain ⟨hd, rfl⟩ := hd
  exact W.pure (fun p e s m args below meth c C T locs X target h => XT.i2b X.here C.1 rfl (hb C.2.2.2.1 hd) rfl h) k
theorem W.i2s {x : Int32} (hd : D M pc .i2s 1 pc') (k : WB b l Z n M pc' ls (.int (x.toInt16.toInt32) :: st) H ce sl Q) : WB b l Z n M pc ls (.int x :: st) H ce sl Q := by
  obtain ⟨hd, rfl⟩ := hd
  exact W.pure (fun p e s m args below meth c C T locs X target h => XT.i2s X.here C.1 rfl (hb C.2.2.2.1 hd) rfl h) k
theorem W.lcmp {x y : Int64} (hd : D M pc .lcmp 1 pc') (k : WB b l Z n M pc' ls (.int (XT.cmpL x y) :: st) H ce sl Q) : WB b l Z n M pc ls (.long y :: .long x :: st) H ce sl Q := by
  obtain ⟨hd, rfl⟩ := hd
  exact W.pure (fun p e s m args below meth c C T locs X target h => XT.lcmp X.here C.1 rfl (hb C.2.2.2.1 hd) rfl h) k
theorem W.iconst {i : Int} (v : Int32) (hd : D M pc (.iconst i) 1 pc') (hv : Int32.ofInt i = v) (k : WB b l Z n M pc' ls (.int v :: st) H ce sl Q) : WB b l Z n M pc ls st H ce sl Q := by
  obtain ⟨hd, rfl⟩ := hd
  exact W.pure (fun p e s m args below meth c C T locs X target h => XT.iconstV X.here C.1 rfl v (hb C.2.2.2.1 hd) hv h) k
theorem W.bipush {i : Int} (v : Int32) (hd : D M pc (.bipush i) 2 pc') (hv : (Int8.ofInt i).toInt32 = v) (k : WB b l Z n M pc' ls (.int v :: st) H ce sl Q) : WB b l Z n M pc ls st H ce sl Q := by
  obtain ⟨hd, rfl⟩ := hd
  exact W.pure (fun p e s m args below meth c C T locs X target h => XT.bipushV X.here C.1 rfl v (hb C.2.2.2.1 hd) hv h) k
theorem W.sipush {i : Int} (v : Int32) (hd : D M pc (.sipush i) 3 pc') (hv : (Int16.ofInt i).toInt32 = v) (k : WB b l Z n M pc' ls (.int v :: st) H ce sl Q) : WB b l Z n M pc ls st H ce sl Q := by
  obtain ⟨hd, rfl⟩ := hd
  exact W.pure (fun p e s m args below meth c C T locs X target h => XT.sipushV X.here C.1 rfl v (hb C.2.2.2.1 hd) hv h) k
theorem W.lconst {i : Fin 2} (v : Int64) (hd : D M pc (.lconst i) 1 pc') (hv : Int64.ofNat i = v) (k : WB b l Z n M pc' ls (.long v :: st) H ce sl Q) : WB b l Z n M pc ls st H ce sl Q := by
  obtain ⟨hd, rfl⟩ := hd
  exact W.pure (fun p e s m args below meth c C T locs X target h => XT.lconstV X.here C.1 rfl v (hb C.2.2.2.1 hd) hv h) k
theorem W.aconst  (hd : D M pc .aconst_null 1 pc') (k : WB b l Z n M pc' ls (.null :: st) H ce sl Q) : WB b l Z n M pc ls st H ce sl Q := by
  obtain ⟨hd, rfl⟩ := hd
  exact W.pure (fun p e s m args below meth c C T locs X target h => XS.aconstNull X.here C.1 rfl (hb C.2.2.2.1 hd) h) k
theorem W.ldc {i : Nat} {v : Int32} (hd : D M pc (.ldc i) 2 pc') (w : (Cond.constant M.1.cls i v).before a0 Z = true) (k : WB b l Z n M pc' ls (.int v :: st) H ce sl Q) : WB b l Z n M pc ls st H ce sl Q := by
  obtain ⟨hd, rfl⟩ := hd
  exact W.pure (fun p e s m args below meth c C T locs X target h => X.ldcI C.1 C.2.2.1 (mvT C.2.1 w) rfl (hb C.2.2.2.1 hd) h) k
theorem W.ldc2 {i : Nat} {v : Int64} (hd : D M pc (.ldc2_w i) 3 pc') (w : (Cond.constantLong M.1.cls i v).before a0 Z = true) (k : WB b l Z n M pc' ls (.long v :: st) H ce sl Q) : WB b l Z n M pc ls st H ce sl Q := by
  obtain ⟨hd, rfl⟩ := hd
  exact W.pure (fun p e s m args below meth c C T locs X target h => X.ldc2J C.1 C.2.2.1 (mvT C.2.1 w) rfl (hb C.2.2.2.1 hd) h) k
theorem W.iloadN {i : Fin 4} {v : Int32} (hd : D M pc (.iload_n i) 1 pc') (hl : ls[i.val]? = some (.val (.int v))) (k : WB b l Z n M pc' ls (.int v :: st) H ce sl Q) : WB b l Z n M pc ls st H ce sl Q := by
  obtain ⟨hd, rfl⟩ := hd
  exact W.pure (fun p e s m args below meth c C T locs X target h => XS.iloadN X.here C.1 rfl (hb C.2.2.2.1 hd) (loc_get hl) h) k
theorem W.iload {i : Nat} {v : Int32} (hd : D M pc (.iload i) 2 pc') (hl : ls[i]? = some (.val (.int v))) (k : WB b l Z n M pc' ls (.int v :: st) H ce sl Q) : WB b l Z n M pc ls st H ce sl Q := by
  obtain ⟨hd, rfl⟩ := hd
  exact W.pure (fun p e s m args below meth c C T locs X target h => XS.iload X.here C.1 rfl (hb C.2.2.2.1 hd) (loc_get hl) h) k
theorem W.lloadN {i : Fin 4} {v : Int64} (hd : D M pc (.lload_n i) 1 pc') (hl : ls[i.val]? = some (.val (.long v))) (k : WB b l Z n M pc' ls (.long v :: st) H ce sl Q) : WB b l Z n M pc ls st H ce sl Q := by
  obtain ⟨hd, rfl⟩ := hd
  exact W.pure (fun p e s m args below meth c C T locs X target h => XT.lloadN X.here C.1 rfl (hb C.2.2.2.1 hd) (loc_get hl) h) k
theorem W.lload {i : Nat} {v : Int64} (hd : D M pc (.lload i) 2 pc') (hl : ls[i]? = some (.val (.long v))) (k : WB b l Z n M pc' ls (.long v :: st) H ce sl Q) : WB b l Z n M pc ls st H ce sl Q := by
  obtain ⟨hd, rfl⟩ := hd
  exact W.pure (fun p e s m args below meth c C T locs X target h => XT.lload X.here C.1 rfl (hb C.2.2.2.1 hd) (loc_get hl) h) k
theorem W.aloadN {i : Fin 4} {v : Value} (hd : D M pc (.aload_n i) 1 pc') (hl : ls[i.val]? = some (.val v)) (hv : rfn v = true) (k : WB b l Z n M pc' ls (v :: st) H ce sl Q) : WB b l Z n M pc ls st H ce sl Q := by
  obtain ⟨hd, rfl⟩ := hd
  exact W.pure (fun p e s m args below meth c C T locs X target h => XS.aloadN X.here C.1 rfl (hb C.2.2.2.1 hd) (loc_get hl) (up_rfn n hv) h) k
theorem W.aload {i : Nat} {v : Value} (hd : D M pc (.aload i) 2 pc') (hl : ls[i]? = some (.val v)) (hv : rfn v = true) (k : WB b l Z n M pc' ls (v :: st) H ce sl Q) : WB b l Z n M pc ls st H ce sl Q := by
  obtain ⟨hd, rfl⟩ := hd
  exact W.pure (fun p e s m args below meth c C T locs X target h => XS.aload X.here C.1 rfl (hb C.2.2.2.1 hd) (loc_get hl) (up_rfn n hv) h) k
theorem W.istoreN {i : Fin 4} {v : Int32} (hd : D M pc (.istore_n i) 1 pc') (ho : one ls i.val = true) (k : WB b l Z n M pc' (ls.set i.val (.val (.int v))) st H ce sl Q) : WB b l Z n M pc ls (.int v :: st) H ce sl Q := by
  obtain ⟨hd, rfl⟩ := hd
  exact W.pure (fun p e s m args below meth c C T locs X target h => XS.istoreN X.here C.1 rfl (hb C.2.2.2.1 hd) rfl (store_1 (v := .int v) ho rfl) h) k
theorem W.istore {i : Nat} {v : Int32} (hd : D M pc (.istore i) 2 pc') (ho : one ls i = true) (k : WB b l Z n M pc' (ls.set i (.val (.int v))) st H ce sl Q) : WB b l Z n M pc ls (.int v :: st) H ce sl Q := by
  obtain ⟨hd, rfl⟩ := hd
  exact W.pure (fun p e s m args below meth c C T locs X target h => XS.istore X.here C.1 rfl (hb C.2.2.2.1 hd) rfl (store_1 (v := .int v) ho rfl) h) k
theorem W.astoreN {i : Fin 4} {v : Value} (hd : D M pc (.astore_n i) 1 pc') (ho : one ls i.val = true) (hv : rfn v = true) (k : WB b l Z n M pc' (ls.set i.val (.val v)) st H ce sl Q) : WB b l Z n M pc ls (v :: st) H ce sl Q := by
  obtain ⟨hd, rfl⟩ := hd
  exact W.pure (fun p e s m args below meth c C T locs X target h => XS.astoreN X.here C.1 rfl (hb C.2.2.2.1 hd) rfl (up_rfn n hv) (store_1 ho (rfn_cat hv)) h) k
theorem W.astore {i : Nat} {v : Value} (hd : D M pc (.astore i) 2 pc') (ho : one ls i = true) (hv : rfn v = true) (k : WB b l Z n M pc' (ls.set i (.val v)) st H ce sl Q) : WB b l Z n M pc ls (v :: st) H ce sl Q := by
  obtain ⟨hd, rfl⟩ := hd
  exact W.pure (fun p e s m args below meth c C T locs X target h => XS.astore X.here C.1 rfl (hb C.2.2.2.1 hd) rfl (up_rfn n hv) (store_1 ho (rfn_cat hv)) h) k
theorem W.lstoreN {i : Fin 4} {v : Int64} (hd : D M pc (.lstore_n i) 1 pc') (ho : two ls i.val = true) (k : WB b l Z n M pc' ((ls.set i.val (.val (.long v))).set (i.val + 1) .second) st H ce sl Q) : WB b l Z n M pc ls (.long v :: st) H ce sl Q := by
  obtain ⟨hd, rfl⟩ := hd
  exact W.pure (fun p e s m args below meth c C T locs X target h => XT.lstoreN X.here C.1 rfl (hb C.2.2.2.1 hd) rfl (store_2 ho) h) k
theorem W.lstore {i : Nat} {v : Int64} (hd : D M pc (.lstore i) 2 pc') (ho : two ls i = true) (k : WB b l Z n M pc' ((ls.set i (.val (.long v))).set (i + 1) .second) st H ce sl Q) : WB b l Z n M pc ls (.long v :: st) H ce sl Q := by
  obtain ⟨hd, rfl⟩ := hd
  exact W.pure (fun p e s m args below meth c C T locs X target h => XT.lstore X.here C.1 rfl (hb C.2.2.2.1 hd) rfl (store_2 ho) h) k
theorem W.iinc {i : Nat} {cst : Int} {x : Int32} (v : Int32) (hd : D M pc (.iinc i cst) 3 pc') (hv : Int32.ofInt cst = v) (hl : ls[i]? = some (.val (.int x))) (k : WB b l Z n M pc' (ls.set i (.val (.int (x + v)))) st H ce sl Q) : WB b l Z n M pc ls st H ce sl Q := by
  obtain ⟨hd, rfl⟩ := hd
  exact W.pure (fun p e s m args below meth c C T locs X target h => XT.iincV X.here C.1 rfl v (hb C.2.2.2.1 hd) hv (loc_get hl) (store_1 (v := .int (x + v)) (by simp [one, hl, Value.category]) rfl) h) k
theorem W.dup {v : Value} (hd : D M pc .dup 1 pc') (hv : v.category = 1) (k : WB b l Z n M pc' ls (v :: v :: st) H ce sl Q) : WB b l Z n M pc ls (v :: st) H ce sl Q := by
  obtain ⟨hd, rfl⟩ := hd
  exact W.pure (fun p e s m args below meth c C T locs X target h => XS.dup X.here C.1 rfl (hb C.2.2.2.1 hd) rfl ((up_cat n v).trans hv) h) k
theorem W.pop {v : Value} (hd : D M pc .pop 1 pc') (hv : v.category = 1) (k : WB b l Z n M pc' ls st H ce sl Q) : WB b l Z n M pc ls (v :: st) H ce sl Q := by
  obtain ⟨hd, rfl⟩ := hd
  exact W.pure (fun p e s m args below meth c C T locs X target h => XT.pop X.here C.1 rfl (hb C.2.2.2.1 hd) rfl ((up_cat n v).trans hv) h) k
theorem W.dupX1 {v w : Value} (hd : D M pc .dup_x1 1 pc') (hv : v.category = 1) (hw : w.category = 1) (k : WB b l Z n M pc' ls (v :: w :: v :: st) H ce sl Q) : WB b l Z n M pc ls (v :: w :: st) H ce sl Q := by
  obtain ⟨hd, rfl⟩ := hd
  exact W.pure (fun p e s m args below meth c C T locs X target h => XT.dupX1 X.here C.1 rfl (hb C.2.2.2.1 hd) rfl ((up_cat n v).trans hv) ((up_cat n w).trans hw) h) k
theorem W.dup2 {v w : Value} (hd : D M pc .dup2 1 pc') (hv : v.category = 1) (hw : w.category = 1) (k : WB b l Z n M pc' ls (v :: w :: v :: w :: st) H ce sl Q) : WB b l Z n M pc ls (v :: w :: st) H ce sl Q := by
  obtain ⟨hd, rfl⟩ := hd
  exact W.pure (fun p e s m args below meth c C T locs X target h => XT.dup2 X.here C.1 rfl (hb C.2.2.2.1 hd) rfl ((up_cat n v).trans hv) ((up_cat n w).trans hw) h) k
theorem W.dup2L {x : Int64} (hd : D M pc .dup2 1 pc') (k : WB b l Z n M pc' ls (.long x :: .long x :: st) H ce sl Q) : WB b l Z n M pc ls (.long x :: st) H ce sl Q := by
  obtain ⟨hd, rfl⟩ := hd
  exact W.pure (fun p e s m args below meth c C T locs X target h => XT.dup2L X.here C.1 rfl (hb C.2.2.2.1 hd) rfl h) k
theorem W.goto {o : Int} {t : Nat} (hd : DB M pc (.goto o) o pc' t) (k : WB b l Z n M t ls st H ce sl Q) : WB b l Z n M pc ls st H ce sl Q :=
  W.pure (fun p e s m args below meth c C T locs X target h => XS.goto X.here C.1 rfl rfl (hb C.2.2.2.1 hd.1) hd.2.2.1 hd.2.2.2 h) k
theorem W.if_eq {x : Int32} {o : Int} {t : Nat} (hd : DB M pc (.ifCond .eq o) o pc' t) (ky : (x = 0) → WB b l Z n M t ls st H ce sl Q) (kn : (¬ x = 0) → WB b l Z n M pc' ls st H ce sl Q) : WB b l Z n M pc ls (.int x :: st) H ce sl Q := by
  obtain ⟨h1, rfl, h3, h4⟩ := hd
  by_cases q : (x = 0)
  · exact W.pure (fun p e s m args below meth c C T locs X target h => XS.ifYes X.here C.1 rfl rfl (hb C.2.2.2.1 h1) rfl (XT.i0_eq_t q) h3 h4 h) (ky q)
  · exact W.pure (fun p e s m args below meth c C T locs X target h => XS.ifNo X.here C.1 rfl (hb C.2.2.2.1 h1) rfl (XT.i0_eq_f q) h) (kn q)
theorem W.ifl_eq {x y : Int64} {o : Int} {t : Nat} (hd : DB M pc (.ifCond .eq o) o pc' t) (ky : (x = y) → WB b l Z n M t ls st H ce sl Q) (kn : (¬ x = y) → WB b l Z n M pc' ls st H ce sl Q) : WB b l Z n M pc ls (.int (XT.cmpL x y) :: st) H ce sl Q := by
  obtain ⟨h1, rfl, h3, h4⟩ := hd
  by_cases q : (x = y)
  · exact W.pure (fun p e s m args below meth c C T locs X target h => XS.ifYes X.here C.1 rfl rfl (hb C.2.2.2.1 h1) rfl (XT.ll_eq_t q) h3 h4 h) (ky q)
  · exact W.pure (fun p e s m args below meth c C T locs X target h => XS.ifNo X.here C.1 rfl (hb C.2.2.2.1 h1) rfl (XT.ll_eq_f q) h) (kn q)
theorem W.icmp_eq {x y : Int32} {o : Int} {t : Nat} (hd : DB M pc (.if_icmp .eq o) o pc' t) (ky : (x = y) → WB b l Z n M t ls st H ce sl Q) (kn : (¬ x = y) → WB b l Z n M pc' ls st H ce sl Q) : WB b l Z n M pc ls (.int y :: .int x :: st) H ce sl Q := by
  obtain ⟨h1, rfl, h3, h4⟩ := hd
  by_cases q : (x = y)
  · exact W.pure (fun p e s m args below meth c C T locs X target h => XS.icmpYes X.here C.1 rfl rfl (hb C.2.2.2.1 h1) rfl (XT.ii_eq_t q) h3 h4 h) (ky q)
  · exact W.pure (fun p e s m args below meth c C T locs X target h => XS.icmpNo X.here C.1 rfl (hb C.2.2.2.1 h1) rfl (XT.ii_eq_f q) h) (kn q)
theorem W.if_ne {x : Int32} {o : Int} {t : Nat} (hd : DB M pc (.ifCond .ne o) o pc' t) (ky : (¬ x = 0) → WB b l Z n M t ls st H ce sl Q) (kn : (x = 0) → WB b l Z n M pc' ls st H ce sl Q) : WB b l Z n M pc ls (.int x :: st) H ce sl Q := by
  obtain ⟨h1, rfl, h3, h4⟩ := hd
  by_cases q : (x = 0)
  · exact W.pure (fun p e s m args below meth c C T locs X target h => XS.ifNo X.here C.1 rfl (hb C.2.2.2.1 h1) rfl (XT.i0_ne_f q) h) (kn q)
  · exact W.pure (fun p e s m args below meth c C T locs X target h => XS.ifYes X.here C.1 rfl rfl (hb C.2.2.2.1 h1) rfl (XT.i0_ne_t q) h3 h4 h) (ky q)
theorem W.ifl_ne {x y : Int64} {o : Int} {t : Nat} (hd : DB M pc (.ifCond .ne o) o pc' t) (ky : (¬ x = y) → WB b l Z n M t ls st H ce sl Q) (kn : (x = y) → WB b l Z n M pc' ls st H ce sl Q) : WB b l Z n M pc ls (.int (XT.cmpL x y) :: st) H ce sl Q := by
  obtain ⟨h1, rfl, h3, h4⟩ := hd
  by_cases q : (x = y)
  · exact W.pure (fun p e s m args below meth c C T locs X target h => XS.ifNo X.here C.1 rfl (hb C.2.2.2.1 h1) rfl (XT.ll_ne_f q) h) (kn q)
  · exact W.pure (fun p e s m args below meth c C T locs X target h => XS.ifYes X.here C.1 rfl rfl (hb C.2.2.2.1 h1) rfl (XT.ll_ne_t q) h3 h4 h) (ky q)
theorem W.icmp_ne {x y : Int32} {o : Int} {t : Nat} (hd : DB M pc (.if_icmp .ne o) o pc' t) (ky : (¬ x = y) → WB b l Z n M t ls st H ce sl Q) (kn : (x = y) → WB b l Z n M pc' ls st H ce sl Q) : WB b l Z n M pc ls (.int y :: .int x :: st) H ce sl Q := by
  obtain ⟨h1, rfl, h3, h4⟩ := hd
  by_cases q : (x = y)
  · exact W.pure (fun p e s m args below meth c C T locs X target h => XS.icmpNo X.here C.1 rfl (hb C.2.2.2.1 h1) rfl (XT.ii_ne_f q) h) (kn q)
  · exact W.pure (fun p e s m args below meth c C T locs X target h => XS.icmpYes X.here C.1 rfl rfl (hb C.2.2.2.1 h1) rfl (XT.ii_ne_t q) h3 h4 h) (ky q)
theorem W.if_lt {x : Int32} {o : Int} {t : Nat} (hd : DB M pc (.ifCond .lt o) o pc' t) (ky : (x < 0) → WB b l Z n M t ls st H ce sl Q) (kn : (¬ x < 0) → WB b l Z n M pc' ls st H ce sl Q) : WB b l Z n M pc ls (.int x :: st) H ce sl Q := by
  obtain ⟨h1, rfl, h3, h4⟩ := hd
  by_cases q : (x < 0)
  · exact W.pure (fun p e s m args below meth c C T locs X target h => XS.ifYes X.here C.1 rfl rfl (hb C.2.2.2.1 h1) rfl (XT.i0_lt_t q) h3 h4 h) (ky q)
  · exact W.pure (fun p e s m args below meth c C T locs X target h => XS.ifNo X.here C.1 rfl (hb C.2.2.2.1 h1) rfl (XT.i0_lt_f q) h) (kn q)
theorem W.ifl_lt {x y : Int64} {o : Int} {t : Nat} (hd : DB M pc (.ifCond .lt o) o pc' t) (ky : (x < y) → WB b l Z n M t ls st H ce sl Q) (kn : (¬ x < y) → WB b l Z n M pc' ls st H ce sl Q) : WB b l Z n M pc ls (.int (XT.cmpL x y) :: st) H ce sl Q := by
  obtain ⟨h1, rfl, h3, h4⟩ := hd
  by_cases q : (x < y)
  · exact W.pure (fun p e s m args below meth c C T locs X target h => XS.ifYes X.here C.1 rfl rfl (hb C.2.2.2.1 h1) rfl (XT.ll_lt_t q) h3 h4 h) (ky q)
  · exact W.pure (fun p e s m args below meth c C T locs X target h => XS.ifNo X.here C.1 rfl (hb C.2.2.2.1 h1) rfl (XT.ll_lt_f q) h) (kn q)
theorem W.icmp_lt {x y : Int32} {o : Int} {t : Nat} (hd : DB M pc (.if_icmp .lt o) o pc' t) (ky : (x < y) → WB b l Z n M t ls st H ce sl Q) (kn : (¬ x < y) → WB b l Z n M pc' ls st H ce sl Q) : WB b l Z n M pc ls (.int y :: .int x :: st) H ce sl Q := by
  obtain ⟨h1, rfl, h3, h4⟩ := hd
  by_cases q : (x < y)
  · exact W.pure (fun p e s m args below meth c C T locs X target h => XS.icmpYes X.here C.1 rfl rfl (hb C.2.2.2.1 h1) rfl (XT.ii_lt_t q) h3 h4 h) (ky q)
  · exact W.pure (fun p e s m args below meth c C T locs X target h => XS.icmpNo X.here C.1 rfl (hb C.2.2.2.1 h1) rfl (XT.ii_lt_f q) h) (kn q)
theorem W.if_ge {x : Int32} {o : Int} {t : Nat} (hd : DB M pc (.ifCond .ge o) o pc' t) (ky : (¬ x < 0) → WB b l Z n M t ls st H ce sl Q) (kn : (x < 0) → WB b l Z n M pc' ls st H ce sl Q) : WB b l Z n M pc ls (.int x :: st) H ce sl Q := by
  obtain ⟨h1, rfl, h3, h4⟩ := hd
  by_cases q : (x < 0)
  · exact W.pure (fun p e s m args below meth c C T locs X target h => XS.ifNo X.here C.1 rfl (hb C.2.2.2.1 h1) rfl (XT.i0_ge_f q) h) (kn q)
  · exact W.pure (fun p e s m args below meth c C T locs X target h => XS.ifYes X.here C.1 rfl rfl (hb C.2.2.2.1 h1) rfl (XT.i0_ge_t q) h3 h4 h) (ky q)
theorem W.ifl_ge {x y : Int64} {o : Int} {t : Nat} (hd : DB M pc (.ifCond .ge o) o pc' t) (ky : (¬ x < y) → WB b l Z n M t ls st H ce sl Q) (kn : (x < y) → WB b l Z n M pc' ls st H ce sl Q) : WB b l Z n M pc ls (.int (XT.cmpL x y) :: st) H ce sl Q := by
  obtain ⟨h1, rfl, h3, h4⟩ := hd
  by_cases q : (x < y)
  · exact W.pure (fun p e s m args below meth c C T locs X target h => XS.ifNo X.here C.1 rfl (hb C.2.2.2.1 h1) rfl (XT.ll_ge_f q) h) (kn q)
  · exact W.pure (fun p e s m args below meth c C T locs X target h => XS.ifYes X.here C.1 rfl rfl (hb C.2.2.2.1 h1) rfl (XT.ll_ge_t q) h3 h4 h) (ky q)
theorem W.icmp_ge {x y : Int32} {o : Int} {t : Nat} (hd : DB M pc (.if_icmp .ge o) o pc' t) (ky : (¬ x < y) → WB b l Z n M t ls st H ce sl Q) (kn : (x < y) → WB b l Z n M pc' ls st H ce sl Q) : WB b l Z n M pc ls (.int y :: .int x :: st) H ce sl Q := by
  obtain ⟨h1, rfl, h3, h4⟩ := hd
  by_cases q : (x < y)
  · exact W.pure (fun p e s m args below meth c C T locs X target h => XS.icmpNo X.here C.1 rfl (hb C.2.2.2.1 h1) rfl (XT.ii_ge_f q) h) (kn q)
  · exact W.pure (fun p e s m args below meth c C T locs X target h => XS.icmpYes X.here C.1 rfl rfl (hb C.2.2.2.1 h1) rfl (XT.ii_ge_t q) h3 h4 h) (ky q)
theorem W.if_gt {x : Int32} {o : Int} {t : Nat} (hd : DB M pc (.ifCond .gt o) o pc' t) (ky : (0 < x) → WB b l Z n M t ls st H ce sl Q) (kn : (¬ 0 < x) → WB b l Z n M pc' ls st H ce sl Q) : WB b l Z n M pc ls (.int x :: st) H ce sl Q := by
  obtain ⟨h1, rfl, h3, h4⟩ := hd
  by_cases q : (0 < x)
  · exact W.pure (fun p e s m args below meth c C T locs X target h => XS.ifYes X.here C.1 rfl rfl (hb C.2.2.2.1 h1) rfl (XT.i0_gt_t q) h3 h4 h) (ky q)
  · exact W.pure (fun p e s m args below meth c C T locs X target h => XS.ifNo X.here C.1 rfl (hb C.2.2.2.1 h1) rfl (XT.i0_gt_f q) h) (kn q)
theorem W.ifl_gt {x y : Int64} {o : Int} {t : Nat} (hd : DB M pc (.ifCond .gt o) o pc' t) (ky : (y < x) → WB b l Z n M t ls st H ce sl Q) (kn : (¬ y < x) → WB b l Z n M pc' ls st H ce sl Q) : WB b l Z n M pc ls (.int (XT.cmpL x y) :: st) H ce sl Q := by
  obtain ⟨h1, rfl, h3, h4⟩ := hd
  by_cases q : (y < x)
  · exact W.pure (fun p e s m args below meth c C T locs X target h => XS.ifYes X.here C.1 rfl rfl (hb C.2.2.2.1 h1) rfl (XT.ll_gt_t q) h3 h4 h) (ky q)
  · exact W.pure (fun p e s m args below meth c C T locs X target h => XS.ifNo X.here C.1 rfl (hb C.2.2.2.1 h1) rfl (XT.ll_gt_f q) h) (kn q)
theorem W.icmp_gt {x y : Int32} {o : Int} {t : Nat} (hd : DB M pc (.if_icmp .gt o) o pc' t) (ky : (y < x) → WB b l Z n M t ls st H ce sl Q) (kn : (¬ y < x) → WB b l Z n M pc' ls st H ce sl Q) : WB b l Z n M pc ls (.int y :: .int x :: st) H ce sl Q := by
  obtain ⟨h1, rfl, h3, h4⟩ := hd
  by_cases q : (y < x)
  · exact W.pure (fun p e s m args below meth c C T locs X target h => XS.icmpYes X.here C.1 rfl rfl (hb C.2.2.2.1 h1) rfl (XT.ii_gt_t q) h3 h4 h) (ky q)
  · exact W.pure (fun p e s m args below meth c C T locs X target h => XS.icmpNo X.here C.1 rfl (hb C.2.2.2.1 h1) rfl (XT.ii_gt_f q) h) (kn q)
theorem W.if_le {x : Int32} {o : Int} {t : Nat} (hd : DB M pc (.ifCond .le o) o pc' t) (ky : (¬ 0 < x) → WB b l Z n M t ls st H ce sl Q) (kn : (0 < x) → WB b l Z n M pc' ls st H ce sl Q) : WB b l Z n M pc ls (.int x :: st) H ce sl Q := by
  obtain ⟨h1, rfl, h3, h4⟩ := hd
  by_cases q : (0 < x)
  · exact W.pure (fun p e s m args below meth c C T locs X target h => XS.ifNo X.here C.1 rfl (hb C.2.2.2.1 h1) rfl (XT.i0_le_f q) h) (kn q)
  · exact W.pure (fun p e s m args below meth c C T locs X target h => XS.ifYes X.here C.1 rfl rfl (hb C.2.2.2.1 h1) rfl (XT.i0_le_t q) h3 h4 h) (ky q)
theorem W.ifl_le {x y : Int64} {o : Int} {t : Nat} (hd : DB M pc (.ifCond .le o) o pc' t) (ky : (¬ y < x) → WB b l Z n M t ls st H ce sl Q) (kn : (y < x) → WB b l Z n M pc' ls st H ce sl Q) : WB b l Z n M pc ls (.int (XT.cmpL x y) :: st) H ce sl Q := by
  obtain ⟨h1, rfl, h3, h4⟩ := hd
  by_cases q : (y < x)
  · exact W.pure (fun p e s m args below meth c C T locs X target h => XS.ifNo X.here C.1 rfl (hb C.2.2.2.1 h1) rfl (XT.ll_le_f q) h) (kn q)
  · exact W.pure (fun p e s m args below meth c C T locs X target h => XS.ifYes X.here C.1 rfl rfl (hb C.2.2.2.1 h1) rfl (XT.ll_le_t q) h3 h4 h) (ky q)
theorem W.icmp_le {x y : Int32} {o : Int} {t : Nat} (hd : DB M pc (.if_icmp .le o) o pc' t) (ky : (¬ y < x) → WB b l Z n M t ls st H ce sl Q) (kn : (y < x) → WB b l Z n M pc' ls st H ce sl Q) : WB b l Z n M pc ls (.int y :: .int x :: st) H ce sl Q := by
  obtain ⟨h1, rfl, h3, h4⟩ := hd
  by_cases q : (y < x)
  · exact W.pure (fun p e s m args below meth c C T locs X target h => XS.icmpNo X.here C.1 rfl (hb C.2.2.2.1 h1) rfl (XT.ii_le_f q) h) (kn q)
  · exact W.pure (fun p e s m args below meth c C T locs X target h => XS.icmpYes X.here C.1 rfl rfl (hb C.2.2.2.1 h1) rfl (XT.ii_le_t q) h3 h4 h) (ky q)
theorem W.acmp_eq {v w : Value} {o : Int} {t : Nat} (hd : DB M pc (.if_acmp .eq o) o pc' t) (hv : v.isRef = true) (hw : w.isRef = true) (ky : (v = w) → WB b l Z n M t ls st H ce sl Q) (kn : (¬ v = w) → WB b l Z n M pc' ls st H ce sl Q) : WB b l Z n M pc ls (w :: v :: st) H ce sl Q := by
  obtain ⟨h1, rfl, h3, h4⟩ := hd
  by_cases q : (v = w)
  · exact W.pure (fun p e s m args below meth c C T locs X target h => XT.acmpYes X.here C.1 rfl rfl (hb C.2.2.2.1 h1) rfl (up_isRef n hv) (up_isRef n hw) (XT.aa_eq_t (congrArg (up n) q)) h3 h4 h) (ky q)
  · exact W.pure (fun p e s m args below meth c C T locs X target h => XT.acmpNo X.here C.1 rfl (hb C.2.2.2.1 h1) rfl (up_isRef n hv) (up_isRef n hw) (XT.aa_eq_f (fun z => q (up_inj hv hw z))) h) (kn q)
theorem W.acmp_ne {v w : Value} {o : Int} {t : Nat} (hd : DB M pc (.if_acmp .ne o) o pc' t) (hv : v.isRef = true) (hw : w.isRef = true) (ky : (¬ v = w) → WB b l Z n M t ls st H ce sl Q) (kn : (v = w) → WB b l Z n M pc' ls st H ce sl Q) : WB b l Z n M pc ls (w :: v :: st) H ce sl Q := by
  obtain ⟨h1, rfl, h3, h4⟩ := hd
  by_cases q : (v = w)
  · exact W.pure (fun p e s m args below meth c C T locs X target h => XT.acmpNo X.here C.1 rfl (hb C.2.2.2.1 h1) rfl (up_isRef n hv) (up_isRef n hw) (XT.aa_ne_f (congrArg (up n) q)) h) (kn q)
  · exact W.pure (fun p e s m args below meth c C T locs X target h => XT.acmpYes X.here C.1 rfl rfl (hb C.2.2.2.1 h1) rfl (up_isRef n hv) (up_isRef n hw) (XT.aa_ne_t (fun z => q (up_inj hv hw z))) h3 h4 h) (ky q)
theorem up_null {n : Nat} {v : Value} (hv : v.isRef = true) (h : ¬ v = .null) : ¬ up n v = .null := by cases v <;> simp_all [up, Value.isRef]
theorem W.ifnull {v : Value} {o : Int} {t : Nat} (hd : DB M pc (.ifnull o) o pc' t) (hv : v.isRef = true) (ky : (v = .null) → WB b l Z n M t ls st H ce sl Q) (kn : (¬ v = .null) → WB b l Z n M pc' ls st H ce sl Q) : WB b l Z n M pc ls (v :: st) H ce sl Q := by
  obtain ⟨h1, rfl, h3, h4⟩ := hd
  by_cases q : (v = .null)
  · exact W.pure (fun p e s m args below meth c C T locs X target h => XT.nullYes X.here C.1 rfl rfl (hb C.2.2.2.1 h1) rfl (congrArg (up n) q) h3 h4 h) (ky q)
  · exact W.pure (fun p e s m args below meth c C T locs X target h => XT.nullNo X.here C.1 rfl (hb C.2.2.2.1 h1) rfl (up_isRef n hv) (up_null hv q) h) (kn q)
theorem W.ifnonnull {v : Value} {o : Int} {t : Nat} (hd : DB M pc (.ifnonnull o) o pc' t) (hv : v.isRef = true) (ky : (¬ v = .null) → WB b l Z n M t ls st H ce sl Q) (kn : (v = .null) → WB b l Z n M pc' ls st H ce sl Q) : WB b l Z n M pc ls (v :: st) H ce sl Q := by
  obtain ⟨h1, rfl, h3, h4⟩ := hd
  by_cases q : (v = .null)
  · exact W.pure (fun p e s m args below meth c C T locs X target h => XT.nonnullNo X.here C.1 rfl (hb C.2.2.2.1 h1) rfl (congrArg (up n) q) h) (kn q)
  · exact W.pure (fun p e s m args below meth c C T locs X target h => XT.nonnullYes X.here C.1 rfl rfl (hb C.2.2.2.1 h1) rfl (up_isRef n hv) (up_null hv q) h3 h4 h) (ky q)
theorem W.nop_ {H2 : AHeap} (e : H2 = H) (k : WB b l Z n M pc ls st H2 ce sl Q) : WB b l Z n M pc ls st H ce sl Q := e ▸ k
/-! heap: reads -/
theorem W.getfield {i : Nat} {C O nm d : String} {fs : List (Key × Value)} {v : Value} {k : Nat} (j : Nat) (hd : D M pc (.getfield i) 3 pc') (w : (Cond.fieldLink M.1.cls i O nm d).before a0 Z = true) (hk : H[k]? = some (.inl (C, fs))) (hj : fs[j]? = some ((O, nm, d), v))
    (kk : WB b l Z n M pc' ls (v :: st) H ce sl Q) : WB b l Z n M pc ls (.ref k :: st) H ce sl Q := by
  obtain ⟨hd, rfl⟩ := hd
  refine W.step (fun p e s m args below meth c C T locs X hH hF => ?_) kk
  obtain ⟨T', X', e', stp⟩ := getF X C.1 C.2.1 C.2.2.1 (host := "") (Or.inl w) Via.refl rfl ((hH.2 k _ hk rfl).2.1 j _ hj) (g := mkF m pc (loc n ls) (stk n (.ref k :: st))) rfl rfl (hb C.2.2.2.1 hd)
  exact ⟨T', locs, X', e' ▸ hH, hF, stp⟩
theorem W.putfield {i : Nat} {C O nm d : String} {fs : List (Key × Value)} {v old : Value} {k kk : Nat} {ty : FieldType} (j : Nat) (hd : D M pc (.putfield i) 3 pc') (w : (Cond.fieldLink M.1.cls i O nm d).before a0 Z = true) (hk : H[k]? = some (.inl (C, fs))) (hj : fs[j]? = some ((O, nm, d), old))
    (L : (Cond.lays C O nm d).before a0 Z = true ∨ ((Cond.laysFinal C O nm d).before a0 Z = true ∧ M.1.cls = O ∧ M.1.name = "<init>")) (wi : (Cond.instantiable C kk).before a0 Z = true) (hty : parseFieldDescriptor d = some ty) (hn : ∀ n, narrow ty (up n v) = up n v) (hf : ∀ n, fits ty (up n v) = true)
    (k' : WB b l Z n M pc' ls st (H.set k (.inl (C, fs.set j ((O, nm, d), v)))) ce sl Q) : WB b l Z n M pc ls (v :: .ref k :: st) H ce sl Q := by
  obtain ⟨hd, rfl⟩ := hd
  refine W.step (fun p e s m args below meth c C T locs X hH hF => ?_) k'
  have O1 := hH.2 k _ hk rfl
  obtain ⟨T', h', X', e', Wq, stp⟩ := putF X C.1 C.2.1 C.2.2.1 (host := "") (Or.inl w) Via.refl rfl (O1.2.1 j _ hj) O1.1 (L.imp id (fun q => ⟨q.1, q.2.1, C.2.2.2.2.2.2.2.trans q.2.2⟩)) wi hty (hn n) (hf n) (g := mkF m pc (loc n ls) (stk n (v :: .ref k :: st))) rfl rfl (hb C.2.2.2.1 hd)
  subst e'
  exact ⟨T', _, X', hH.put Wq (OR.field (hH.2 k _ hk rfl) hj Wq), Fr.snoc X' hF (Nat.le_add_right n k), stp⟩
theorem arr_at {ty : FieldType} {vs : List Value} {cl : Cell} {i : Nat} {v : Value} {j : Int32} (e : cl.slots = (vs.map (up n)).toArray) (hj : ¬ j < 0 ∧ j.toNatClampNeg = i) (hv : vs[i]? = some v) : ¬ (j < 0 ∨ cl.slots.size ≤ j.toNatClampNeg) ∧ cl.slots[j.toNatClampNeg]? = some (up n v) := by
  have hlt := (List.getElem?_eq_some_iff.mp hv).1
  refine ⟨fun q => q.elim hj.1 fun q => ?_, ?_⟩
  · rw [e, hj.2, List.size_toArray, List.length_map] at q; omega
  · rw [e, hj.2]; simp [hv]
theorem W.arraylength {k : Nat} {ty : FieldType} {vs : List Value} (z : Int32) (hd : D M pc .arraylength 1 pc') (hk : H[k]? = some (.inr (ty, vs))) (hJ : isJ (.inr (ty, vs)) = false) (hN : Int32.ofNat vs.length = z) (kk : WB b l Z n M pc' ls (.int z :: st) H ce sl Q) : WB b l Z n M pc ls (.ref k :: st) H ce sl Q := by
  obtain ⟨hd, rfl⟩ := hd
  refine W.step (fun p e s m args below meth c C T locs X hH hF => ?_) kk
  obtain ⟨cl, A, e'⟩ := hH.2 k _ hk hJ
  refine ⟨T, locs, X, hH, hF, fun target h => X.arraylength C.1 A.1 (State.isArrayOf_alike C.2.1.alike A.2.1) (g := mkF m pc (loc n ls) (stk n (.ref k :: st))) rfl rfl (hb C.2.2.2.1 hd) _ ?_⟩
  have : cl.slots.size.toInt32 = z := by rw [e', List.size_toArray, List.length_map, ← hN]
  rw [this]; exact h
theorem W.iaload {k i : Nat} {vs : List Value} {v : Value} {j : Int32} (hd : D M pc .iaload 1 pc') (hk : H[k]? = some (.inr (.int, vs))) (hj : ¬ j < 0 ∧ j.toNatClampNeg = i) (hv : vs[i]? = some v) (kk : WB b l Z n M pc' ls (v :: st) H ce sl Q) : WB b l Z n M pc ls (.int j :: .ref k :: st) H ce sl Q := by
  obtain ⟨hd, rfl⟩ := hd
  refine W.step (fun p e s m args below meth c C T locs X hH hF => ?_) kk
  obtain ⟨cl, A, e'⟩ := hH.2 k _ hk rfl
  obtain ⟨q1, q2⟩ := arr_at (ty := .int) e' hj hv
  exact ⟨T, locs, X, hH, hF, fun target h => X.iaload C.1 A.1 (State.isArrayOf_alike C.2.1.alike A.2.1) A.2.2 q1 q2 (g := mkF m pc (loc n ls) (stk n (.int j :: .ref k :: st))) rfl rfl (hb C.2.2.2.1 hd) _ h⟩
theorem W.laload {k i : Nat} {vs : List Value} {v : Value} {j : Int32} (hd : D M pc .laload 1 pc') (hk : H[k]? = some (.inr (.long, vs))) (hj : ¬ j < 0 ∧ j.toNatClampNeg = i) (hv : vs[i]? = some v) (kk : WB b l Z n M pc' ls (v :: st) H ce sl Q) : WB b l Z n M pc ls (.int j :: .ref k :: st) H ce sl Q := by
  obtain ⟨hd, rfl⟩ := hd
  refine W.step (fun p e s m args below meth c C T locs X hH hF => ?_) kk
  obtain ⟨cl, A, e'⟩ := hH.2 k _ hk rfl
  obtain ⟨q1, q2⟩ := arr_at (ty := .int) e' hj hv
  exact ⟨T, locs, X, hH, hF, fun target h => X.laload C.1 A.1 (State.isArrayOf_alike C.2.1.alike A.2.1) A.2.2 q1 q2 (g := mkF m pc (loc n ls) (stk n (.int j :: .ref k :: st))) rfl rfl (hb C.2.2.2.1 hd) _ h⟩
theorem W.baload {k i : Nat} {vs : List Value} {v : Value} {j : Int32} (hd : D M pc .baload 1 pc') (hk : H[k]? = some (.inr (.byte, vs))) (hj : ¬ j < 0 ∧ j.toNatClampNeg = i) (hv : vs[i]? = some v) (kk : WB b l Z n M pc' ls (v :: st) H ce sl Q) : WB b l Z n M pc ls (.int j :: .ref k :: st) H ce sl Q := by
  obtain ⟨hd, rfl⟩ := hd
  refine W.step (fun p e s m args below meth c C T locs X hH hF => ?_) kk
  obtain ⟨cl, A, e'⟩ := hH.2 k _ hk rfl
  obtain ⟨q1, q2⟩ := arr_at (ty := .int) e' hj hv
  exact ⟨T, locs, X, hH, hF, fun target h => X.baloadBytes C.1 A.1 (State.isArrayOf_alike C.2.1.alike A.2.1) A.2.2 q1 q2 (g := mkF m pc (loc n ls) (stk n (.int j :: .ref k :: st))) rfl rfl (hb C.2.2.2.1 hd) _ h⟩
theorem W.zaload {k i : Nat} {vs : List Value} {v : Value} {j : Int32} (hd : D M pc .baload 1 pc') (hk : H[k]? = some (.inr (.boolean, vs))) (hj : ¬ j < 0 ∧ j.toNatClampNeg = i) (hv : vs[i]? = some v) (kk : WB b l Z n M pc' ls (v :: st) H ce sl Q) : WB b l Z n M pc ls (.int j :: .ref k :: st) H ce sl Q := by
  obtain ⟨hd, rfl⟩ := hd
  refine W.step (fun p e s m args below meth c C T locs X hH hF => ?_) kk
  obtain ⟨cl, A, e'⟩ := hH.2 k _ hk rfl
  obtain ⟨q1, q2⟩ := arr_at (ty := .int) e' hj hv
  exact ⟨T, locs, X, hH, hF, fun target h => X.baloadBooleans C.1 A.1 (State.isArrayOf_alike C.2.1.alike A.2.1) A.2.2 q1 q2 (g := mkF m pc (loc n ls) (stk n (.int j :: .ref k :: st))) rfl rfl (hb C.2.2.2.1 hd) _ h⟩
/-! heap: stores into arrays -/
theorem arr_in' {vs : List Value} {cl : Cell} {i : Nat} {j : Int32} (e : cl.slots = (vs.map (up n)).toArray) (hj : ¬ j < 0 ∧ j.toNatClampNeg = i) (hv : i < vs.length) : ¬ (j < 0 ∨ cl.slots.size ≤ j.toNatClampNeg) := by
  refine fun q => q.elim hj.1 fun q => ?_
  rw [e, hj.2] at q; simp at q; omega
theorem W.iastore {k i : Nat} {vs : List Value} {x : Int32} {j : Int32} (hd : D M pc .iastore 1 pc') (hk : H[k]? = some (.inr (.int, vs))) (hj : ¬ j < 0 ∧ j.toNatClampNeg = i) (hv : i < vs.length) (kk : WB b l Z n M pc' ls st (H.set k (.inr (.int, vs.set i (.int x)))) ce sl Q) : WB b l Z n M pc ls (.int x :: .int j :: .ref k :: st) H ce sl Q := by
  obtain ⟨hd, rfl⟩ := hd
  refine W.step (fun p e s m args below meth c C T locs X hH hF => ?_) kk
  have O1 := hH.2 k _ hk rfl
  obtain ⟨cl, A, e'⟩ := O1
  obtain ⟨T', h', X', eh, Wq, stp⟩ := stI X C.1 C.2.1 rfl A (arr_in' e' hj hv) (g := mkF m pc (loc n ls) (stk n (.int x :: .int j :: .ref k :: st))) rfl rfl (hb C.2.2.2.1 hd)
  subst eh
  rw [hj.2] at Wq
  exact ⟨T', _, X', hH.put Wq (OR.elem (w := .int x) ⟨cl, A, e'⟩ Wq), Fr.snoc X' hF (Nat.le_add_right n k), stp⟩
theorem W.lastore {k i : Nat} {vs : List Value} {x : Int64} {j : Int32} (hd : D M pc .lastore 1 pc') (hk : H[k]? = some (.inr (.long, vs))) (hj : ¬ j < 0 ∧ j.toNatClampNeg = i) (hv : i < vs.length) (kk : WB b l Z n M pc' ls st (H.set k (.inr (.long, vs.set i (.long x)))) ce sl Q) : WB b l Z n M pc ls (.long x :: .int j :: .ref k :: st) H ce sl Q := by
  obtain ⟨hd, rfl⟩ := hd
  refine W.step (fun p e s m args below meth c C T locs X hH hF => ?_) kk
  have O1 := hH.2 k _ hk rfl
  obtain ⟨cl, A, e'⟩ := O1
  obtain ⟨T', h', X', eh, Wq, stp⟩ := stJ X C.1 C.2.1 rfl A (arr_in' e' hj hv) (g := mkF m pc (loc n ls) (stk n (.long x :: .int j :: .ref k :: st))) rfl rfl (hb C.2.2.2.1 hd)
  subst eh
  rw [hj.2] at Wq
  exact ⟨T', _, X', hH.put Wq (OR.elem (w := .long x) ⟨cl, A, e'⟩ Wq), Fr.snoc X' hF (Nat.le_add_right n k), stp⟩
theorem W.bastore {k i : Nat} {vs : List Value} {x : Int32} {j : Int32} (hd : D M pc .bastore 1 pc') (hk : H[k]? = some (.inr (.byte, vs))) (hj : ¬ j < 0 ∧ j.toNatClampNeg = i) (hv : i < vs.length) (kk : WB b l Z n M pc' ls st (H.set k (.inr (.byte, vs.set i (.int x.toInt8.toInt32)))) ce sl Q) : WB b l Z n M pc ls (.int x :: .int j :: .ref k :: st) H ce sl Q := by
  obtain ⟨hd, rfl⟩ := hd
  refine W.step (fun p e s m args below meth c C T locs X hH hF => ?_) kk
  have O1 := hH.2 k _ hk rfl
  obtain ⟨cl, A, e'⟩ := O1
  obtain ⟨T', h', X', eh, Wq, stp⟩ := stB X C.1 C.2.1 rfl A (arr_in' e' hj hv) (g := mkF m pc (loc n ls) (stk n (.int x :: .int j :: .ref k :: st))) rfl rfl (hb C.2.2.2.1 hd)
  subst eh
  rw [hj.2] at Wq
  exact ⟨T', _, X', hH.put Wq (OR.elem (w := .int x.toInt8.toInt32) ⟨cl, A, e'⟩ Wq), Fr.snoc X' hF (Nat.le_add_right n k), stp⟩
theorem W.zastore {k i : Nat} {vs : List Value} {x : Int32} {j : Int32} (hd : D M pc .bastore 1 pc') (hk : H[k]? = some (.inr (.boolean, vs))) (hj : ¬ j < 0 ∧ j.toNatClampNeg = i) (hv : i < vs.length) (kk : WB b l Z n M pc' ls st (H.set k (.inr (.boolean, vs.set i (.int (x &&& 1))))) ce sl Q) : WB b l Z n M pc ls (.int x :: .int j :: .ref k :: st) H ce sl Q := by
  obtain ⟨hd, rfl⟩ := hd
  refine W.step (fun p e s m args below meth c C T locs X hH hF => ?_) kk
  have O1 := hH.2 k _ hk rfl
  obtain ⟨cl, A, e'⟩ := O1
  obtain ⟨T', h', X', eh, Wq, stp⟩ := stZ X C.1 C.2.1 rfl A (arr_in' e' hj hv) (g := mkF m pc (loc n ls) (stk n (.int x :: .int j :: .ref k :: st))) rfl rfl (hb C.2.2.2.1 hd)
  subst eh
  rw [hj.2] at Wq
  exact ⟨T', _, X', hH.put Wq (OR.elem (w := .int (x &&& 1)) ⟨cl, A, e'⟩ Wq), Fr.snoc X' hF (Nat.le_add_right n k), stp⟩
/-! heap: makers -/
theorem ext_push (h : Heap) (x : Cell) : Ext h (h.push x) ∧ (h.push x).size = h.size + 1 ∧ (h.push x)[h.size]? = some x :=
  ⟨⟨by simp, fun a c q => by rw [Array.getElem?_push_lt (Array.getElem?_eq_some_iff.mp q).1]; exact (Array.getElem?_eq_getElem _).symm.trans q⟩, by simp, by simp⟩
theorem W.new {i nk N : Nat} {C : String} {fs : List (Key × Value)} (hd : D M pc (.new i) 3 pc') (w : (Cond.classLink M.1.cls i C).before a0 Z = true) (K : OkC a0 Z C nk fs) (hN : H.length = N) (hc : ce + 1 ≤ M.2.2.2.2.cells) (hl : sl + nk ≤ M.2.2.2.2.slots)
    (kk : WB b l Z n M pc' ls (.ref N :: st) (H ++ [.inl (C, fs)]) (ce + 1) (sl + nk) Q) : WB b l Z n M pc ls st H ce sl Q := by
  obtain ⟨hd, rfl⟩ := hd
  refine W.step (fun p e s m args below meth c Cx T locs X hH hF => ?_) kk
  obtain ⟨vm', cC, kC, h1, h2, h3, h4, X', stp⟩ := X.newCold Cx.1 Cx.2.2.1 (mv Cx.2.1 w) (mv Cx.2.1 K.1) (mv Cx.2.1 K.2.1) (g := mkF m pc (loc n ls) (stk n st)) rfl (hb Cx.2.2.2.1 hd) hc hl
  obtain ⟨E, S, G⟩ := ext_push T.heap { cls := cC, slots := kC.instanceTypes.map defaultValue, vm := .none }
  have hfc : Z.vm.findClass C = some cC := by rw [← Cx.2.1.alike.findClass]; exact h1
  obtain ⟨kZ, z1, -⟩ := Vm.findClass_spec hfc
  obtain ⟨k', z2, z3⟩ := Cx.2.1.alike.2.2 _ _ z1
  cases h2.symm.trans z2
  have ei : kC.instanceTypes = kZ.instanceTypes := by rw [z3]
  refine ⟨_, locs, X', hH.push E S ⟨⟨_, kZ, G, hfc, z1, rfl, fun _ => by simp [ei]⟩, fun j q hq => ?_, K.slots⟩, hF, fun target h => stp target ?_⟩
  · obtain ⟨ty, L, ht, hv⟩ := K.2.2.1 q (List.mem_of_getElem? hq)
    obtain ⟨c1, k1, cf, kf, i1, f, a1, a2, a3, a4, a5, a6, -⟩ := L.spec
    cases hfc.symm.trans a1
    cases z1.symm.trans a2
    exact ⟨_, cf, kf, i1, f, G, a3, a4, by simp, rfl, a5, by rw [hv, up_default]; simp [ei, a6, (State.fieldFound?_type a3 ht).2]⟩
  · have : T.heap.size = n + N := by rw [hH.1, hN]
    rw [this]; exact h
theorem W.newarray {aty : ArrayType} {N cnt cap : Nat} {z : Int32} (hd : D M pc (.newarray aty) 2 pc') (w : (Cond.arrayClass (newarray.typeOf aty)).before a0 Z = true) (hz : ¬ z < 0 ∧ z.toNatClampNeg = cnt) (hN : H.length = N) (hcap : cnt ≤ cap) (hb8 : cap * 8 ≤ 536870912) (hc : ce + 1 ≤ M.2.2.2.2.cells) (hl : sl + cap ≤ M.2.2.2.2.slots)
    (kk : WB b l Z n M pc' ls (.ref N :: st) (H ++ [.inr (newarray.typeOf aty, List.replicate cnt (defaultValue (newarray.typeOf aty)))]) (ce + 1) (sl + cap) Q) : WB b l Z n M pc ls (.int z :: st) H ce sl Q := by
  obtain ⟨hd, rfl⟩ := hd
  obtain ⟨hz0, rfl⟩ := hz
  refine W.step (fun p e s m args below meth c Cx T locs X hH hF => ?_) kk
  have hcb : componentBytes (newarray.typeOf aty) ≤ 8 := by cases aty <;> decide
  obtain ⟨cA, kA, comp, h1, h2, h3, X', stp⟩ := X.newarrayPrim Cx.1 (mvA Cx.2.1 w) (g := mkF m pc (loc n ls) (stk n (.int z :: st))) rfl (hb Cx.2.2.2.1 hd) rfl hz0 (Nat.le_trans (Nat.mul_le_mul hcap hcb) hb8) hc (Nat.le_trans (Nat.add_le_add_left hcap _) hl)
  obtain ⟨E, S, G⟩ := ext_push T.heap { cls := cA, slots := Array.replicate z.toNatClampNeg (defaultValue (newarray.typeOf aty)), vm := .none }
  have hfc := h1
  rw [Cx.2.1.alike.findClass] at hfc
  obtain ⟨kZ, z1, -⟩ := Vm.findClass_spec hfc
  obtain ⟨k', z2, z3⟩ := Cx.2.1.alike.2.2 _ _ z1
  cases h2.symm.trans z2
  refine ⟨_, locs, X'.more (Nat.le_refl _) (Nat.add_le_add_left hcap _), hH.push E S ⟨_, ⟨G, ⟨by simp, kZ, z1, comp, by rw [← h3, z3]⟩, by simp⟩, ?_⟩, hF, fun target h => stp target ?_⟩
  · simp [up_default]
  · have : T.heap.size = n + N := by rw [hH.1, hN]
    rw [this]; exact h
/-! returns -/
theorem W.fin {v : Option Value} (hv : M.2.2.2.1 = none → v = none) (hc : ce ≤ M.2.2.2.2.cells) (hl : sl ≤ M.2.2.2.2.slots)
    (go : ∀ (p : Program) (e : Env) (s : State) (m : MethodId) (args : Array Value) (below : List Frame) (meth : Method) (c : Code), Ctx Z M p s m meth c → ∀ (T : State) (locs : List Loc), Stand p l e M.2.2.2.2 s m args below meth c T locs ce sl →
      ∀ fs : List Frame, (∀ (f : JFrame) (acts : List Action), f.method = m → f.locked = none → f.entered = [] → (doReturn e (T.setTop f) acts (v.map (up n))).1 = T.setFrames fs) → Steps p.tables e below (T.setTop (mkF m pc (loc n ls) (stk n st))) (T.setFrames fs))
    (q : Q v H) : WB b l Z n M pc ls st H ce sl Q := fun p e s m args below meth c C T locs X hH hF => by
  obtain ⟨fs, hr, hrun, hended, hW, hsame⟩ := X.leave (v := v.map (up n)) (fun h => by rw [hv (C.2.2.2.2.2.1.symm.trans h)]; rfl) C.2.2.2.2.2.2.1
  exact ⟨_, v, locs, H, go p e s m args below meth c C T locs X fs hr, hrun, hended, q, hH, hF, EndR.of ⟨⟨_, rfl⟩, hW, hsame.mono hc hl⟩⟩
theorem W.leave (hd : D M pc .return_ 1 pc') (hr : M.2.2.2.1 = none) (hc : ce ≤ M.2.2.2.2.cells) (hl : sl ≤ M.2.2.2.2.slots) (q : Q none H) : WB b l Z n M pc ls [] H ce sl Q :=
  W.fin (v := none) (fun _ => rfl) hc hl (fun p e s m args below meth c C T locs X fs h => X.returnOut C.1 (C.2.2.2.2.2.1.trans hr) (hb C.2.2.2.1 hd.1) h) q
theorem W.ireturn {x : Int32} (hd : D M pc .ireturn 1 pc') (hr : M.2.2.2.1 = some .int) (hc : ce ≤ M.2.2.2.2.cells) (hl : sl ≤ M.2.2.2.2.slots) (q : Q (some (.int x)) H) : WB b l Z n M pc ls (.int x :: st) H ce sl Q :=
  W.fin (v := some (.int x)) (fun h => by rw [hr] at h; cases h) hc hl (fun p e s m args below meth c C T locs X fs h => retOut X C.1 (t := .int) (w := .int x) (i := .ireturn) (C.2.2.2.2.2.1.trans hr) rfl (Or.inl ⟨rfl, Or.inl rfl, _, rfl⟩) (hb C.2.2.2.1 hd.1) h) q
theorem W.lreturn {x : Int64} (hd : D M pc .lreturn 1 pc') (hr : M.2.2.2.1 = some .long) (hc : ce ≤ M.2.2.2.2.cells) (hl : sl ≤ M.2.2.2.2.slots) (q : Q (some (.long x)) H) : WB b l Z n M pc ls (.long x :: st) H ce sl Q :=
  W.fin (v := some (.long x)) (fun h => by rw [hr] at h; cases h) hc hl (fun p e s m args below meth c C T locs X fs h => retOut X C.1 (t := .long) (w := .long x) (i := .lreturn) (C.2.2.2.2.2.1.trans hr) rfl (Or.inr (Or.inl ⟨rfl, rfl, _, rfl⟩)) (hb C.2.2.2.1 hd.1) h) q
/-- a boolean, byte, char or short: what is left of the int -/
theorem W.nreturn {x : Int32} (t : FieldType) (hd : D M pc .ireturn 1 pc') (hr : M.2.2.2.1 = some t) (ht : t = .boolean ∨ t = .byte ∨ t = .char ∨ t = .short) (hc : ce ≤ M.2.2.2.2.cells) (hl : sl ≤ M.2.2.2.2.slots) (q : Q (some (.int (nar t x))) H) : WB b l Z n M pc ls (.int x :: st) H ce sl Q :=
  W.fin (v := some (.int (nar t x))) (fun h => by rw [hr] at h; cases h) hc hl (fun p e s m args below meth c C T locs X fs h => retN X C.1 (C.2.2.2.2.2.1.trans hr) ht (hb C.2.2.2.1 hd.1) h) q
theorem W.areturn {v : Value} {t : FieldType} (hd : D M pc .areturn 1 pc') (hr : M.2.2.2.1 = some t) (ht : t.isReference = true) (hv : rfn v = true) (hc : ce ≤ M.2.2.2.2.cells) (hl : sl ≤ M.2.2.2.2.slots) (q : Q (some v) H) : WB b l Z n M pc ls (v :: st) H ce sl Q :=
  W.fin (v := some v) (fun h => by rw [hr] at h; cases h) hc hl (fun p e s m args below meth c C T locs X fs h => retOut X C.1 (t := t) (w := up n v) (i := .areturn) (C.2.2.2.2.2.1.trans hr) (by cases v <;> simp [rfn] at hv <;> cases t <;> simp_all [FieldType.isReference, narrow, up]) (Or.inr (Or.inr (Or.inr (Or.inr ⟨rfl, ht, up_rfn n hv⟩)))) (hb C.2.2.2.1 hd.1) h) q
/-! calls -/
def entryL (as : List Value) (k : Nat) : List Slot := Jvm.Sym.laidSlots as ++ List.replicate (k - (Jvm.Sym.laidSlots as).length) .unset
theorem laid_up (n : Nat) : ∀ as : List Value, Jvm.Sym.laidSlots (as.map (up n)) = (Jvm.Sym.laidSlots as).map (upS n)
  | [] => rfl
  | v :: as => by
    have ih := laid_up n as
    simp only [List.map_cons, Jvm.Sym.laidSlots, up_cat]
    split <;> simp [ih, upS]
theorem entry_up (n : Nat) (as : List Value) (k : Nat) (m : MethodId) : entryFrame m (as.map (up n)).toArray k = mkF m 0 (loc n (entryL as k)) [] := by
  have : argsToLocals (as.map (up n)).toArray k = loc n (entryL as k) := Array.toList_inj.mp (by
    rw [Jvm.Sym.argsToLocals_toList]
    simp [entryL, laid_up, loc, upS])
  unfold entryFrame
  rw [this]
theorem W.met {as : List Value} (hW : WB b l Z n M 0 (entryL as M.2.2.1) [] H 0 0 Q) (pn : plainFor M.1 = true) {h : Heap} (hH : HR Z n h H) (ws : List Jvm.Cond) :
    MetFree l M.1 (head1 (Cond.code M.1 M.2.1 M.2.2.1 M.2.2.2.1 :: ws) M.2.2.2.2) (fun a U => a = (as.map (up n)).toArray ∧ Z.Warmed39 U.vm ∧ U.heap = h) (fun _ _ _ _ _ => True)
      (fun _ U o U' => ∃ v L, o = .returned v ∧ (∃ v0 H', v = v0.map (up n) ∧ Q v0 H' ∧ HR Z n U'.heap H' ∧ Fr n L) ∧ EndR b U o U' L M.2.2.2.2.cells M.2.2.2.2.slots) := by
  refine MetFree.of_bodySF pn hisR ?_
  intro p e s m args below meth c s₁ Bd hml hP hK
  obtain ⟨rfl, hZ, hh⟩ := hP
  have X0 : Stand p l e M.2.2.2.2 s m _ below meth c s₁ [] 0 0 := Stand.of_body Bd
  have e0 : s₁.heap = h := by rw [← hh, Bd.state]; rfl
  obtain ⟨s₂, v, L, H', h1, h2, h3, h4, h5, h6, h7⟩ := hW p e s m _ below meth c ⟨Bd.exec, hZ, findClass_of_methodNamed Bd.named, Bd.bytes, hml, Bd.returns, Bd.notSynchronized, (name_of_methodNamed Bd.named Bd.method).1⟩ s₁ [] X0 (e0 ▸ hH) (Fr.nil n)
  exact ⟨s₂, _, castTop (entry_up n as _ m) h1, h2, h3, _, L, rfl, ⟨v, H', rfl, h4, h5, h6⟩, h7⟩
def RetQ (Z : State) (n : Nat) (Q : Option Value → AHeap → Prop) (v : Option Value) (h2 : Heap) (L : List Loc) : Prop := ∃ v0 H', v = v0.map (up n) ∧ Q v0 H' ∧ HR Z n h2 H' ∧ Fr n L
theorem W.metF {as : List Value} (hW : W l Z n M 0 (entryL as M.2.2.1) [] H 0 0 Q) (pn : plainFor M.1 = true) {h : Heap} (hH : HR Z n h H) (ws : List Jvm.Cond) :
    MetFree l M.1 (head1 (Cond.code M.1 M.2.1 M.2.2.1 M.2.2.2.1 :: ws) M.2.2.2.2) (fun a U => a = (as.map (up n)).toArray ∧ Z.Warmed39 U.vm ∧ U.heap = h) (fun _ _ _ _ _ => True)
      (fun _ U o U' => ∃ v L, o = .returned v ∧ RetQ Z n Q v U'.heap L ∧ FrameEnd U o U' L M.2.2.2.2.cells M.2.2.2.2.slots) := W.met hW pn hH ws
/-- what every call asks of the callee's own words -/
def OkM (a0 : Array Value) (Z : State) (M : Meth) (k : Nat) : Prop :=
  (Cond.code M.1 M.2.1 M.2.2.1 M.2.2.2.1).before a0 Z = true ∧ (Cond.initialized M.1.cls).before a0 Z = true ∧ plainFor M.1 = true ∧ (M.1.cls ≠ "java/lang/invoke/MethodHandle" ∧ M.1.cls ≠ "java/lang/invoke/VarHandle") ∧ ∀ sig, parseMethodDescriptor M.1.desc = some sig → k = sig.parameters.length
theorem arity {d : String} {ps : List FieldType} {r : Option FieldType} {k : Nat} (hd : parseMethodDescriptor d = some ⟨ps, r⟩) (hl : k = ps.length) : ∀ sig, parseMethodDescriptor d = some sig → k = sig.parameters.length := fun sig h => by
  cases hd.symm.trans h; exact hl
def wt (st : List Value) : Nat := (st.map fun v => v.category).sum
theorem wt_up (n : Nat) : ∀ st : List Value, ((stk n st).map fun v => v.category).sum = wt st
  | [] => rfl
  | v :: st => by
    have ih := wt_up n st
    simp only [stk, wt, List.map_cons, List.sum_cons, up_cat] at ih ⊢
    rw [ih]
/-- the callee's frames, words, cells and slots fit -/
def fitsRoom (M M' : Meth) (rest : List Value) (ce sl : Nat) : Bool :=
  decide (M'.2.2.2.2.frames + 1 ≤ M.2.2.2.2.frames) && decide (wt rest + (M'.2.2.1 + 11) + M'.2.2.2.2.locals ≤ M.2.2.2.2.locals) && decide (ce + M'.2.2.2.2.cells ≤ M.2.2.2.2.cells) && decide (sl + M'.2.2.2.2.slots ≤ M.2.2.2.2.slots)
theorem fits_ {M M' : Meth} {rest : List Value} {ce sl : Nat} (h : fitsRoom M M' rest ce sl = true) : M'.2.2.2.2.frames + 1 ≤ M.2.2.2.2.frames ∧ wt rest + (M'.2.2.1 + 11) + M'.2.2.2.2.locals ≤ M.2.2.2.2.locals ∧ ce + M'.2.2.2.2.cells ≤ M.2.2.2.2.cells ∧ sl + M'.2.2.2.2.slots ≤ M.2.2.2.2.slots := by
  simp only [fitsRoom, Bool.and_eq_true, decide_eq_true_eq] at h
  exact ⟨h.1.1.1, h.1.1.2, h.1.2, h.2⟩
theorem size_loc (n : Nat) (ls : List Slot) : (loc n ls).size = ls.length := by simp [loc]
theorem W.calls {M' : Meth} {i : Nat} {as rest : List Value} {Qc : Option Value → AHeap → Prop} (hd : D M pc (.invokestatic i) 3 pc') (w : (Cond.methodLink M.1.cls i M'.1).before a0 Z = true) (ws : (Cond.static M'.1).before a0 Z = true) (K : OkM a0 Z M' as.length) (hs : st = as.reverse ++ rest) (hz : ls.length = M.2.2.1) (hf : fitsRoom M M' rest ce sl = true)
    (hM : W l Z n M' 0 (entryL as M'.2.2.1) [] H 0 0 Qc) (kk : ∀ v H', Qc v H' → WB b l Z n M pc' ls (v.toList ++ rest) H' (ce + M'.2.2.2.2.cells) (sl + M'.2.2.2.2.slots) Q) : WB b l Z n M pc ls st H ce sl Q := by
  obtain ⟨hd, rfl⟩ := hd
  subst hs
  intro p e s m args below meth c C T locs X hH hF
  obtain ⟨f1, f2, f3, f4⟩ := fits_ hf
  obtain ⟨_, _, ⟨T', L', c', s'⟩, -, X', ⟨Lc, ⟨v0, H', hv, q1, q2, q3⟩, l1, l2, l3⟩, stp⟩ := Jvm.LawKit.callS X C.1 (y := M'.1) C.2.2.1 (mvT C.2.1 w) (mvT C.2.1 ws) (mvT C.2.1 K.2.1) (mvT C.2.1 K.1) K.2.2.2.1 (backOf (Q := RetQ Z n Qc) (W := wt rest) (W.metF hM K.2.2.1 hH []) C.2.1 K.1 K.2.1 f1 f2) (g := mkF m pc (loc n ls) (stk n (as.reverse ++ rest))) rfl
    ((size_loc n ls).trans (hz.trans C.2.2.2.2.1.symm)) (argsL := as.map (up n)) (rest := stk n rest) (fun sig h => by rw [List.length_map]; exact K.2.2.2.2 sig h) (by simp [stk, List.map_append, List.map_reverse]) (by rw [wt_up]; exact Nat.le_of_eq (Nat.zero_add _)) (hb C.2.2.2.1 hd) (fun _ _ => ⟨rfl, rfl, f3, f4⟩)
  dsimp only [Pt.U, Pt.locs, Pt.cells, Pt.slots] at X' l1 l2 l3 stp q2
  subst l1 l2 l3 hv
  obtain ⟨s₂, v, L, H'', g1, g2⟩ := kk v0 H' q1 p e s m args below meth c C T' _ X' q2 (Fr.app hF q3)
  refine ⟨s₂, v, L, H'', stp _ ?_, g2⟩
  have : stk n (v0.toList ++ rest) = (v0.map (up n)).toList ++ stk n rest := by cases v0 <;> simp [stk]
  rw [this] at g1; exact g1
theorem W.callv {M' : Meth} {i k : Nat} {C : String} {fs : List (Key × Value)} {as rest : List Value} {Qc : Option Value → AHeap → Prop} (hd : D M pc (.invokevirtual i) 3 pc') (w : (Cond.methodLink M.1.cls i M'.1).before a0 Z = true) (wd : (Cond.declares M'.1).before a0 Z = true) (wi : (Cond.instanceMethod M'.1).before a0 Z = true) (wsel : (Cond.selects C M'.1 M'.1).before a0 Z = true) (K : OkM a0 Z M' as.length) (hk : H[k]? = some (.inl (C, fs))) (hs : st = as.reverse ++ .ref k :: rest) (hz : ls.length = M.2.2.1) (hf : fitsRoom M M' rest ce sl = true)
    (hM : W l Z n M' 0 (entryL (.ref k :: as) M'.2.2.1) [] H 0 0 Qc) (kk : ∀ v H', Qc v H' → WB b l Z n M pc' ls (v.toList ++ rest) H' (ce + M'.2.2.2.2.cells) (sl + M'.2.2.2.2.slots) Q) : WB b l Z n M pc ls st H ce sl Q := by
  obtain ⟨hd, rfl⟩ := hd
  subst hs
  intro p e s m args below meth c Cx T locs X hH hF
  obtain ⟨f1, f2, f3, f4⟩ := fits_ hf
  obtain ⟨cq, kq, qa, qb, qc⟩ := isOf (T := T) Cx.2.1 rfl (hH.2 k _ hk rfl).1
  obtain ⟨_, _, ⟨T', L', c', s'⟩, -, X', ⟨Lc, ⟨v0, H', hv, q1, q2, q3⟩, l1, l2, l3⟩, stp⟩ := X.virtualBack Cx.1 (y := M'.1) (z := M'.1) Cx.2.2.1 (mvT Cx.2.1 w) (mvT Cx.2.1 wd) (notFace_of_selects (args := #[]) (mvT Cx.2.1 wsel)) (mvT Cx.2.1 wsel) (mvT Cx.2.1 wi) K.2.2.2.1 (backOf (Q := RetQ Z n Qc) (W := wt rest) (W.metF hM K.2.2.1 hH []) Cx.2.1 K.1 K.2.1 f1 f2) qa qc (g := mkF m pc (loc n ls) (stk n (as.reverse ++ .ref k :: rest))) rfl
    ((size_loc n ls).trans (hz.trans Cx.2.2.2.2.1.symm)) (Steps.refl _) (argsL := as.map (up n)) (rest := stk n rest) (fun sig h => by rw [List.length_map]; exact K.2.2.2.2 sig h) (by simp [stk, List.map_append, List.map_reverse, up]) (by rw [wt_up]; exact Nat.le_of_eq (Nat.zero_add _)) (hb Cx.2.2.2.1 hd) (fun _ _ => ⟨rfl, rfl, f3, f4⟩)
  dsimp only [Pt.U, Pt.locs, Pt.cells, Pt.slots] at X' l1 l2 l3 stp q2
  subst l1 l2 l3 hv
  obtain ⟨s₂, v, L, H'', g1, g2⟩ := kk v0 H' q1 p e s m args below meth c Cx T' _ X' q2 (Fr.app hF q3)
  refine ⟨s₂, v, L, H'', stp.trans ?_, g2⟩
  have : stk n (v0.toList ++ rest) = (v0.map (up n)).toList ++ stk n rest := by cases v0 <;> simp [stk]
  rw [this] at g1; exact g1
theorem W.callp {M' : Meth} {i k kk0 : Nat} {fs : List (Key × Value)} {as rest : List Value} {Qc : Option Value → AHeap → Prop} (hd : D M pc (.invokevirtual i) 3 pc') (w : (Cond.methodLink M.1.cls i M'.1).before a0 Z = true) (wi : (Cond.instanceMethod M'.1).before a0 Z = true) (wp : (Cond.privateMethod M'.1).before a0 Z = true) (wk : (Cond.instantiable M'.1.cls kk0).before a0 Z = true) (K : OkM a0 Z M' as.length) (hk : H[k]? = some (.inl (M'.1.cls, fs))) (hs : st = as.reverse ++ .ref k :: rest) (hz : ls.length = M.2.2.1) (hf : fitsRoom M M' rest ce sl = true)
    (hM : W l Z n M' 0 (entryL (.ref k :: as) M'.2.2.1) [] H 0 0 Qc) (kk : ∀ v H', Qc v H' → WB b l Z n M pc' ls (v.toList ++ rest) H' (ce + M'.2.2.2.2.cells) (sl + M'.2.2.2.2.slots) Q) : WB b l Z n M pc ls st H ce sl Q := by
  obtain ⟨hd, rfl⟩ := hd
  subst hs
  intro p e s m args below meth c Cx T locs X hH hF
  obtain ⟨f1, f2, f3, f4⟩ := fits_ hf
  obtain ⟨cell, hc1, hc2⟩ := (hH.2 k _ hk rfl).1.cell
  have hpriv : s.PrivateAt M'.1 := Cond.privateMethod_at (mvP Cx.2.1 wp (args := #[]))
  obtain ⟨c2, k2, i1, i2, i3, i4, -⟩ := Cond.instantiable_spec (mvT (args := args) Cx.2.1 wk)
  have hni : k2.isInterface = false := by simp only [Bool.or_eq_false_iff] at i4; exact i4.1
  have hsel : (Cond.selects M'.1.cls M'.1 M'.1).before args s = true := selects_self_of_private i1 i2 hni hpriv (mvT Cx.2.1 wi) K.2.2.2.1
  obtain ⟨_, _, ⟨T', L', c', s'⟩, -, X', ⟨Lc, ⟨v0, H', hv, q1, q2, q3⟩, l1, l2, l3⟩, stp⟩ := X.privateBack Cx.1 (y := M'.1) Cx.2.2.1 (mvT Cx.2.1 w) (mvT Cx.2.1 wi) hsel hpriv (mvT Cx.2.1 K.1) K.2.2.2.1 (backOf (Q := RetQ Z n Qc) (W := wt rest) (W.metF hM K.2.2.1 hH []) Cx.2.1 K.1 K.2.1 f1 f2) (g := mkF m pc (loc n ls) (stk n (as.reverse ++ .ref k :: rest))) rfl
    ((size_loc n ls).trans (hz.trans Cx.2.2.2.2.1.symm)) (Steps.refl _) (a := n + k) hc1 hc2 (argsL := as.map (up n)) (rest := stk n rest) (fun sig h => by rw [List.length_map]; exact K.2.2.2.2 sig h) (by simp [stk, List.map_append, List.map_reverse, up]) (by rw [wt_up]; exact Nat.le_of_eq (Nat.zero_add _)) (hb Cx.2.2.2.1 hd) (fun _ _ => ⟨rfl, rfl, f3, f4⟩)
  dsimp only [Pt.U, Pt.locs, Pt.cells, Pt.slots] at X' l1 l2 l3 stp q2
  subst l1 l2 l3 hv
  obtain ⟨s₂, v, L, H'', g1, g2⟩ := kk v0 H' q1 p e s m args below meth c Cx T' _ X' q2 (Fr.app hF q3)
  refine ⟨s₂, v, L, H'', stp.trans ?_, g2⟩
  have : stk n (v0.toList ++ rest) = (v0.map (up n)).toList ++ stk n rest := by cases v0 <;> simp [stk]
  rw [this] at g1; exact g1
theorem W.init {M' : Meth} {i k : Nat} {as rest : List Value} {Qc : Option Value → AHeap → Prop} (hd : D M pc (.invokespecial i) 3 pc') (hnm : M'.1.name = "<init>") (hrt : M'.2.2.2.1 = none) (w : (Cond.methodLink M.1.cls i M'.1).before a0 Z = true) (wi : (Cond.instanceMethod M'.1).before a0 Z = true) (K : OkM a0 Z M' as.length) (hs : st = as.reverse ++ .ref k :: rest) (hz : ls.length = M.2.2.1) (hf : fitsRoom M M' rest ce sl = true)
    (hM : W l Z n M' 0 (entryL (.ref k :: as) M'.2.2.1) [] H 0 0 Qc) (kk : ∀ v H', Qc v H' → WB b l Z n M pc' ls (v.toList ++ rest) H' (ce + M'.2.2.2.2.cells) (sl + M'.2.2.2.2.slots) Q) : WB b l Z n M pc ls st H ce sl Q := by
  obtain ⟨hd, rfl⟩ := hd
  subst hs
  intro p e s m args below meth c Cx T locs X hH hF
  obtain ⟨f1, f2, f3, f4⟩ := fits_ hf
  have wc := K.1
  rw [hrt] at wc
  obtain ⟨_, _, ⟨T', L', c', s'⟩, -, X', ⟨Lc, ⟨v0, H', hv, q1, q2, q3⟩, l1, l2, l3⟩, stp⟩ := X.specialBack Cx.1 (y := M'.1) hnm Cx.2.2.1 (mvT Cx.2.1 w) (mvT Cx.2.1 wi) (mvT Cx.2.1 wc) K.2.2.2.1 (backOf (Q := RetQ Z n Qc) (W := wt rest) (W.metF hM K.2.2.1 hH []) Cx.2.1 K.1 K.2.1 f1 f2) (g := mkF m pc (loc n ls) (stk n (as.reverse ++ .ref k :: rest))) rfl
    ((size_loc n ls).trans (hz.trans Cx.2.2.2.2.1.symm)) (Steps.refl _) (a := n + k) (argsL := as.map (up n)) (rest := stk n rest) (fun sig h => by rw [List.length_map]; exact K.2.2.2.2 sig h) (by simp [stk, List.map_append, List.map_reverse, up]) (by rw [wt_up]; exact Nat.le_of_eq (Nat.zero_add _)) (hb Cx.2.2.2.1 hd) (fun _ _ => ⟨rfl, rfl, f3, f4⟩)
  dsimp only [Pt.U, Pt.locs, Pt.cells, Pt.slots] at X' l1 l2 l3 stp q2
  subst l1 l2 l3 hv
  obtain ⟨s₂, v, L, H'', g1, g2⟩ := kk v0 H' q1 p e s m args below meth c Cx T' _ X' q2 (Fr.app hF q3)
  refine ⟨s₂, v, L, H'', stp.trans ?_, g2⟩
  have : stk n (v0.toList ++ rest) = (v0.map (up n)).toList ++ stk n rest := by cases v0 <;> simp [stk]
  rw [this] at g1; exact g1
theorem W.initO {i k : Nat} {rest : List Value} (hd : D M pc (.invokespecial i) 3 pc') (w1 : (Cond.methodLink M.1.cls i Lib.objectInit).before a0 Z = true) (w2 : (Cond.instanceMethod Lib.objectInit).before a0 Z = true) (w3 : (Cond.code Lib.objectInit ⟨#[0xb1]⟩ 1 none).before a0 Z = true) (hz : ls.length = M.2.2.1) (hf : decide (1 ≤ M.2.2.2.2.frames) && decide (wt rest + 12 ≤ M.2.2.2.2.locals) = true)
    (kk : WB b l Z n M pc' ls rest H ce sl Q) : WB b l Z n M pc ls (.ref k :: rest) H ce sl Q := by
  obtain ⟨hd, rfl⟩ := hd
  simp only [Bool.and_eq_true, decide_eq_true_eq] at hf
  refine W.step (fun p e s m args below meth c Cx T locs X hH hF => ?_) kk
  obtain ⟨T', X', e', stp⟩ := RoadKit.initO X Cx.1 Cx.2.1 Cx.2.2.1 w1 w2 w3 rfl (g := mkF m pc (loc n ls) (stk n (.ref k :: rest))) rfl ((size_loc n ls).trans (hz.trans Cx.2.2.2.2.1.symm)) rfl (hb Cx.2.2.2.1 hd) hf.1 (W := wt rest) (by rw [wt_up]; exact Nat.le_of_eq (Nat.zero_add _)) hf.2
  exact ⟨T', locs, X', e' ▸ hH, hF, stp⟩
/-- from W of the whole method to the run's end, over the heap at the start -/
theorem W.start {as : List Value} (hW : WB b l Z Z.heap.size M 0 (entryL as M.2.2.1) [] [] 0 0 Q) (pn : plainName M.1.cls = true) (ws : List Jvm.Cond) :
    MetFree l M.1 (head1 (Cond.code M.1 M.2.1 M.2.2.1 M.2.2.2.1 :: ws) M.2.2.2.2) (fun a U => a = (as.map (up Z.heap.size)).toArray ∧ Z.Warmed39 U.vm ∧ U.heap = Z.heap) (fun _ _ _ _ _ => True)
      (fun _ U o U' => ∃ v L, o = .returned v ∧ (∃ v0 H', v = v0.map (up Z.heap.size) ∧ Q v0 H' ∧ HR Z Z.heap.size U'.heap H' ∧ Fr Z.heap.size L) ∧ EndR b U o U' L M.2.2.2.2.cells M.2.2.2.2.slots) :=
  W.met hW (plainFor_of_name pn) ⟨rfl, fun k o h _ => by cases h⟩ ws

/-- what it returns, and the heap it leaves -/
def Is (v : Option Value) (H1 : AHeap) : Option Value → AHeap → Prop := fun v' H' => v' = v ∧ H' = H1
theorem W.callsV {M' : Meth} {i : Nat} {as rest : List Value} {u : Value} {H1 : AHeap} (hd : D M pc (.invokestatic i) 3 pc') (w : (Cond.methodLink M.1.cls i M'.1).before a0 Z = true) (ws : (Cond.static M'.1).before a0 Z = true) (hM : W l Z n M' 0 (entryL as M'.2.2.1) [] H 0 0 (Is (some u) H1)) (K : OkM a0 Z M' as.length) (hs : st = as.reverse ++ rest) (hz : ls.length = M.2.2.1) (hf : fitsRoom M M' rest ce sl = true)
    (kk : WB b l Z n M pc' ls (u :: rest) H1 (ce + M'.2.2.2.2.cells) (sl + M'.2.2.2.2.slots) Q) : WB b l Z n M pc ls st H ce sl Q := W.calls hd w ws K hs hz hf hM fun v H' q => by obtain ⟨rfl, rfl⟩ := q; exact kk
theorem W.callsN {M' : Meth} {i : Nat} {as rest : List Value} {H1 : AHeap} (hd : D M pc (.invokestatic i) 3 pc') (w : (Cond.methodLink M.1.cls i M'.1).before a0 Z = true) (ws : (Cond.static M'.1).before a0 Z = true) (hM : W l Z n M' 0 (entryL as M'.2.2.1) [] H 0 0 (Is none H1)) (K : OkM a0 Z M' as.length) (hs : st = as.reverse ++ rest) (hz : ls.length = M.2.2.1) (hf : fitsRoom M M' rest ce sl = true)
    (kk : WB b l Z n M pc' ls rest H1 (ce + M'.2.2.2.2.cells) (sl + M'.2.2.2.2.slots) Q) : WB b l Z n M pc ls st H ce sl Q := W.calls hd w ws K hs hz hf hM fun v H' q => by obtain ⟨rfl, rfl⟩ := q; exact kk
theorem W.callvV {M' : Meth} {i k : Nat} {C : String} {fs : List (Key × Value)} {as rest : List Value} {u : Value} {H1 : AHeap} (hd : D M pc (.invokevirtual i) 3 pc') (w : (Cond.methodLink M.1.cls i M'.1).before a0 Z = true) (wd : (Cond.declares M'.1).before a0 Z = true) (wi : (Cond.instanceMethod M'.1).before a0 Z = true) (wsel : (Cond.selects C M'.1 M'.1).before a0 Z = true) (hM : W l Z n M' 0 (entryL (.ref k :: as) M'.2.2.1) [] H 0 0 (Is (some u) H1)) (K : OkM a0 Z M' as.length) (hk : H[k]? = some (.inl (C, fs))) (hs : st = as.reverse ++ .ref k :: rest) (hz : ls.length = M.2.2.1) (hf : fitsRoom M M' rest ce sl = true)
    (kk : WB b l Z n M pc' ls (u :: rest) H1 (ce + M'.2.2.2.2.cells) (sl + M'.2.2.2.2.slots) Q) : WB b l Z n M pc ls st H ce sl Q := W.callv hd w wd wi wsel K hk hs hz hf hM fun v H' q => by obtain ⟨rfl, rfl⟩ := q; exact kk
theorem W.callvN {M' : Meth} {i k : Nat} {C : String} {fs : List (Key × Value)} {as rest : List Value} {H1 : AHeap} (hd : D M pc (.invokevirtual i) 3 pc') (w : (Cond.methodLink M.1.cls i M'.1).before a0 Z = true) (wd : (Cond.declares M'.1).before a0 Z = true) (wi : (Cond.instanceMethod M'.1).before a0 Z = true) (wsel : (Cond.selects C M'.1 M'.1).before a0 Z = true) (hM : W l Z n M' 0 (entryL (.ref k :: as) M'.2.2.1) [] H 0 0 (Is none H1)) (K : OkM a0 Z M' as.length) (hk : H[k]? = some (.inl (C, fs))) (hs : st = as.reverse ++ .ref k :: rest) (hz : ls.length = M.2.2.1) (hf : fitsRoom M M' rest ce sl = true)
    (kk : WB b l Z n M pc' ls rest H1 (ce + M'.2.2.2.2.cells) (sl + M'.2.2.2.2.slots) Q) : WB b l Z n M pc ls st H ce sl Q := W.callv hd w wd wi wsel K hk hs hz hf hM fun v H' q => by obtain ⟨rfl, rfl⟩ := q; exact kk
theorem W.callpV {M' : Meth} {i k kk0 : Nat} {fs : List (Key × Value)} {as rest : List Value} {u : Value} {H1 : AHeap} (hd : D M pc (.invokevirtual i) 3 pc') (w : (Cond.methodLink M.1.cls i M'.1).before a0 Z = true) (wi : (Cond.instanceMethod M'.1).before a0 Z = true) (wp : (Cond.privateMethod M'.1).before a0 Z = true) (wk : (Cond.instantiable M'.1.cls kk0).before a0 Z = true) (hM : W l Z n M' 0 (entryL (.ref k :: as) M'.2.2.1) [] H 0 0 (Is (some u) H1)) (K : OkM a0 Z M' as.length) (hk : H[k]? = some (.inl (M'.1.cls, fs))) (hs : st = as.reverse ++ .ref k :: rest) (hz : ls.length = M.2.2.1) (hf : fitsRoom M M' rest ce sl = true)
    (kk : WB b l Z n M pc' ls (u :: rest) H1 (ce + M'.2.2.2.2.cells) (sl + M'.2.2.2.2.slots) Q) : WB b l Z n M pc ls st H ce sl Q := W.callp hd w wi wp wk K hk hs hz hf hM fun v H' q => by obtain ⟨rfl, rfl⟩ := q; exact kk
theorem W.callpN {M' : Meth} {i k kk0 : Nat} {fs : List (Key × Value)} {as rest : List Value} {H1 : AHeap} (hd : D M pc (.invokevirtual i) 3 pc') (w : (Cond.methodLink M.1.cls i M'.1).before a0 Z = true) (wi : (Cond.instanceMethod M'.1).before a0 Z = true) (wp : (Cond.privateMethod M'.1).before a0 Z = true) (wk : (Cond.instantiable M'.1.cls kk0).before a0 Z = true) (hM : W l Z n M' 0 (entryL (.ref k :: as) M'.2.2.1) [] H 0 0 (Is none H1)) (K : OkM a0 Z M' as.length) (hk : H[k]? = some (.inl (M'.1.cls, fs))) (hs : st = as.reverse ++ .ref k :: rest) (hz : ls.length = M.2.2.1) (hf : fitsRoom M M' rest ce sl = true)
    (kk : WB b l Z n M pc' ls rest H1 (ce + M'.2.2.2.2.cells) (sl + M'.2.2.2.2.slots) Q) : WB b l Z n M pc ls st H ce sl Q := W.callp hd w wi wp wk K hk hs hz hf hM fun v H' q => by obtain ⟨rfl, rfl⟩ := q; exact kk
theorem W.initN {M' : Meth} {i k : Nat} {as rest : List Value} {H1 : AHeap} (hd : D M pc (.invokespecial i) 3 pc') (hnm : M'.1.name = "<init>") (hrt : M'.2.2.2.1 = none) (w : (Cond.methodLink M.1.cls i M'.1).before a0 Z = true) (wi : (Cond.instanceMethod M'.1).before a0 Z = true) (hM : W l Z n M' 0 (entryL (.ref k :: as) M'.2.2.1) [] H 0 0 (Is none H1)) (K : OkM a0 Z M' as.length) (hs : st = as.reverse ++ .ref k :: rest) (hz : ls.length = M.2.2.1) (hf : fitsRoom M M' rest ce sl = true)
    (kk : WB b l Z n M pc' ls rest H1 (ce + M'.2.2.2.2.cells) (sl + M'.2.2.2.2.slots) Q) : WB b l Z n M pc ls st H ce sl Q := W.init hd hnm hrt w wi K hs hz hf hM fun v H' q => by obtain ⟨rfl, rfl⟩ := q; exact kk
theorem W.callpX {M' : Meth} {i k kk0 : Nat} {fs : List (Key × Value)} {as rest : List Value} {P : Value → AHeap → Prop} (hd : D M pc (.invokevirtual i) 3 pc') (w : (Cond.methodLink M.1.cls i M'.1).before a0 Z = true) (wi : (Cond.instanceMethod M'.1).before a0 Z = true) (wp : (Cond.privateMethod M'.1).before a0 Z = true) (wk : (Cond.instantiable M'.1.cls kk0).before a0 Z = true) (hM : W l Z n M' 0 (entryL (.ref k :: as) M'.2.2.1) [] H 0 0 (fun v H' => ∃ u, v = some u ∧ P u H')) (K : OkM a0 Z M' as.length) (hk : H[k]? = some (.inl (M'.1.cls, fs))) (hs : st = as.reverse ++ .ref k :: rest) (hz : ls.length = M.2.2.1) (hf : fitsRoom M M' rest ce sl = true)
    (kk : ∀ u H', P u H' → WB b l Z n M pc' ls (u :: rest) H' (ce + M'.2.2.2.2.cells) (sl + M'.2.2.2.2.slots) Q) : WB b l Z n M pc ls st H ce sl Q := W.callp hd w wi wp wk K hk hs hz hf hM fun v H' q => by obtain ⟨u, rfl, q⟩ := q; exact kk u H' q
theorem W.callsX {M' : Meth} {i : Nat} {as rest : List Value} {P : Value → AHeap → Prop} (hd : D M pc (.invokestatic i) 3 pc') (w : (Cond.methodLink M.1.cls i M'.1).before a0 Z = true) (ws : (Cond.static M'.1).before a0 Z = true) (hM : W l Z n M' 0 (entryL as M'.2.2.1) [] H 0 0 (fun v H' => ∃ u, v = some u ∧ P u H')) (K : OkM a0 Z M' as.length) (hs : st = as.reverse ++ rest) (hz : ls.length = M.2.2.1) (hf : fitsRoom M M' rest ce sl = true)
    (kk : ∀ u H', P u H' → WB b l Z n M pc' ls (u :: rest) H' (ce + M'.2.2.2.2.cells) (sl + M'.2.2.2.2.slots) Q) : WB b l Z n M pc ls st H ce sl Q := W.calls hd w ws K hs hz hf hM fun v H' q => by obtain ⟨u, rfl, q⟩ := q; exact kk u H' q
theorem W.callsY {M' : Meth} {i : Nat} {as rest : List Value} {P : AHeap → Prop} (hd : D M pc (.invokestatic i) 3 pc') (w : (Cond.methodLink M.1.cls i M'.1).before a0 Z = true) (ws : (Cond.static M'.1).before a0 Z = true) (hM : W l Z n M' 0 (entryL as M'.2.2.1) [] H 0 0 (fun v H' => v = none ∧ P H')) (K : OkM a0 Z M' as.length) (hs : st = as.reverse ++ rest) (hz : ls.length = M.2.2.1) (hf : fitsRoom M M' rest ce sl = true)
    (kk : ∀ H', P H' → WB b l Z n M pc' ls rest H' (ce + M'.2.2.2.2.cells) (sl + M'.2.2.2.2.slots) Q) : WB b l Z n M pc ls st H ce sl Q := W.calls hd w ws K hs hz hf hM fun v H' q => by obtain ⟨rfl, q⟩ := q; exact kk H' q
theorem W.callvX {M' : Meth} {i k : Nat} {C : String} {fs : List (Key × Value)} {as rest : List Value} {P : Value → AHeap → Prop} (hd : D M pc (.invokevirtual i) 3 pc') (w : (Cond.methodLink M.1.cls i M'.1).before a0 Z = true) (wd : (Cond.declares M'.1).before a0 Z = true) (wi : (Cond.instanceMethod M'.1).before a0 Z = true) (wsel : (Cond.selects C M'.1 M'.1).before a0 Z = true) (hM : W l Z n M' 0 (entryL (.ref k :: as) M'.2.2.1) [] H 0 0 (fun v H' => ∃ u, v = some u ∧ P u H')) (K : OkM a0 Z M' as.length) (hk : H[k]? = some (.inl (C, fs))) (hs : st = as.reverse ++ .ref k :: rest) (hz : ls.length = M.2.2.1) (hf : fitsRoom M M' rest ce sl = true)
    (kk : ∀ u H', P u H' → WB b l Z n M pc' ls (u :: rest) H' (ce + M'.2.2.2.2.cells) (sl + M'.2.2.2.2.slots) Q) : WB b l Z n M pc ls st H ce sl Q := W.callv hd w wd wi wsel K hk hs hz hf hM fun v H' q => by obtain ⟨u, rfl, q⟩ := q; exact kk u H' q
theorem W.callvY {M' : Meth} {i k : Nat} {C : String} {fs : List (Key × Value)} {as rest : List Value} {P : AHeap → Prop} (hd : D M pc (.invokevirtual i) 3 pc') (w : (Cond.methodLink M.1.cls i M'.1).before a0 Z = true) (wd : (Cond.declares M'.1).before a0 Z = true) (wi : (Cond.instanceMethod M'.1).before a0 Z = true) (wsel : (Cond.selects C M'.1 M'.1).before a0 Z = true) (hM : W l Z n M' 0 (entryL (.ref k :: as) M'.2.2.1) [] H 0 0 (fun v H' => v = none ∧ P H')) (K : OkM a0 Z M' as.length) (hk : H[k]? = some (.inl (C, fs))) (hs : st = as.reverse ++ .ref k :: rest) (hz : ls.length = M.2.2.1) (hf : fitsRoom M M' rest ce sl = true)
    (kk : ∀ H', P H' → WB b l Z n M pc' ls rest H' (ce + M'.2.2.2.2.cells) (sl + M'.2.2.2.2.slots) Q) : WB b l Z n M pc ls st H ce sl Q := W.callv hd w wd wi wsel K hk hs hz hf hM fun v H' q => by obtain ⟨rfl, q⟩ := q; exact kk H' q
/-- ldc of a String: behind it the walk goes on over the tables that the constant left -/
theorem W.ldcStr {i nn : Nat} {text : String} (hd : D M pc (.ldc i) 2 pc') (w : (Cond.stringLink M.1.cls i text).before a0 Z = true) (wS : ∀ a ∈ Bundle.stringAtoms, a.before a0 Z = true) (hn : 4 * text.toList.length ≤ nn) (hbig : nn ≤ 536870912) (hc : ce + 2 ≤ M.2.2.2.2.cells) (hl : sl + (nn + 4) ≤ M.2.2.2.2.slots)
    (kk : ∀ (a : Addr) (d : Nat), WB false l Z n M pc' ls (.retAddr a :: st) (H ++ List.replicate d junk) (ce + 2) (sl + (nn + 4)) (fun v H' => Q v H' ∧ H.length + d ≤ H'.length)) : WB true l Z n M pc ls st H ce sl Q := by
  obtain ⟨hd, rfl⟩ := hd
  intro p e s m args below meth c C T locs X hH hF
  have X0 : Stand p l e M.2.2.2.2 (s.setVm s.vm) m args below meth c T locs ce sl := X
  obtain ⟨a, T', h', k1, X', e', E, hS', hk1, hZ', hown', stp⟩ := ldcS (Z := Z) (a0 := a0) X0 C.1 C.2.1 (own := M.1.cls) (text := text) (index := i) C.2.2.1 w wS rfl (k0 := 0) ((State.WarmedH.refl s).since 0) (Nat.zero_le _) (g := mkF m pc (loc n ls) (stk n st)) rfl (hb C.2.2.2.1 hd) hn hbig hc hl
  subst e'
  have hH' : HR Z n T'.heap (H ++ List.replicate (T'.heap.size - T.heap.size) junk) := by
    have h1 := E.1
    refine ⟨by rw [List.length_append, List.length_replicate]; have := hH.1; omega, fun k o hk hJ => ?_⟩
    rw [List.getElem?_append] at hk
    split at hk
    · exact (hH.2 k o hk hJ).ext E
    · have := List.eq_of_mem_replicate (List.mem_of_getElem? hk)
      rw [this] at hJ; cases hJ
  obtain ⟨s₂, v, L, H'', g1, g2, g3, ⟨g4, g4'⟩, g5, g6, g7⟩ := kk a (T'.heap.size - T.heap.size) p e (s.setVm T'.vm) m args below meth c ⟨C.1, hZ', hown', C.2.2.2⟩ T' locs X' hH' hF
  have hsz : k1 ≤ s₂.heap.size := by have h1 := E.1; have h2 := hH.1; have h3 := g5.1; omega
  obtain ⟨q1, q2, q3⟩ := hS'.ended (U := s₂) g7.2.1 hsz g7.2.2
  exact ⟨s₂, v, L, H'', stp _ g1, g2, g3, g4, g5, g6, g7.1, q1, q2, q3⟩
theorem nar_ref (n : Nat) {v : Value} {c : String} (h : v.isRef = true) : narrow (.object c) (up n v) = up n v := by
  cases v <;> first | rfl | (simp [Value.isRef] at h)
theorem fits_ref' (n : Nat) {v : Value} {c : String} (h : v.isRef = true) : fits (.object c) (up n v) = true := by
  cases v <;> first | rfl | (simp [Value.isRef] at h)
theorem rfn_of {v : Value} (h : v.isRef = true) : rfn v = true := by cases v <;> first | rfl | (simp [Value.isRef] at h)
end Rules
/-! bits of ints and longs -/
theorem bx32 {a b : Int32} (h : ∀ i, i < 32 → a.toBitVec.getLsbD i = b.toBitVec.getLsbD i) : a = b := Int32.toBitVec_inj.mp (BitVec.eq_of_getLsbD_eq h)
theorem bx64 {a b : Int64} (h : ∀ i, i < 64 → a.toBitVec.getLsbD i = b.toBitVec.getLsbD i) : a = b := Int64.toBitVec_inj.mp (BitVec.eq_of_getLsbD_eq h)
theorem sm32 : ∀ m : Fin 32, ((BitVec.ofNat 32 m.1).smod 32).toNat = m.1 := by decide
theorem sm64 : ∀ m : Fin 64, ((BitVec.ofNat 64 m.1).smod 64).toNat = m.1 := by decide
theorem amt32 {k : Int32} {m : Nat} (hk : k.toBitVec.toNat = m) (hm : m < 32) : (k.toBitVec.smod 32).toNat = m := by
  have : k.toBitVec = BitVec.ofNat 32 m := BitVec.eq_of_toNat_eq (by rw [hk, BitVec.toNat_ofNat]; omega)
  rw [this]; exact sm32 ⟨m, hm⟩
theorem amt64 {k : Int64} {m : Nat} (hk : k.toBitVec.toNat = m) (hm : m < 64) : (k.toBitVec.smod 64).toNat = m := by
  have : k.toBitVec = BitVec.ofNat 64 m := BitVec.eq_of_toNat_eq (by rw [hk, BitVec.toNat_ofNat]; omega)
  rw [this]; exact sm64 ⟨m, hm⟩
theorem shl_bit {x k : Int32} {m : Nat} (hk : k.toBitVec.toNat = m) (hm : m < 32) (i : Nat) : (x <<< k).toBitVec.getLsbD i = (decide (i < 32) && !decide (i < m) && x.toBitVec.getLsbD (i - m)) := by
  show (x.toBitVec <<< (k.toBitVec.smod 32)).getLsbD i = _
  rw [BitVec.shiftLeft_eq', amt32 hk hm, BitVec.getLsbD_shiftLeft]
theorem shlL_bit {x k : Int64} {m : Nat} (hk : k.toBitVec.toNat = m) (hm : m < 64) (i : Nat) : (x <<< k).toBitVec.getLsbD i = (decide (i < 64) && !decide (i < m) && x.toBitVec.getLsbD (i - m)) := by
  show (x.toBitVec <<< (k.toBitVec.smod 64)).getLsbD i = _
  rw [BitVec.shiftLeft_eq', amt64 hk hm, BitVec.getLsbD_shiftLeft]
theorem ushr_bit {v k : Int32} {m : Nat} (hk : (k &&& 31).toBitVec.toNat = m) (i : Nat) : (XT.ushr v k).toBitVec.getLsbD i = v.toBitVec.getLsbD (m + i) := by
  have hm : m < 32 := by
    subst hk
    have : (k &&& 31).toBitVec = k.toBitVec &&& 31#32 := rfl
    rw [this, BitVec.toNat_and]
    exact Nat.lt_of_le_of_lt Nat.and_le_right (by decide)
  show (v.toBitVec >>> ((k &&& 31).toBitVec % 32)).getLsbD i = _
  have h2 : ((k &&& 31).toBitVec % 32).toNat = m := by rw [BitVec.toNat_umod, hk]; exact Nat.mod_eq_of_lt hm
  rw [BitVec.ushiftRight_eq', h2, BitVec.getLsbD_ushiftRight]
theorem ushrL_bit {v : Int64} {k : Int32} {m : Nat} (hk : (k.toInt64 &&& 63).toBitVec.toNat = m) (i : Nat) : (XT.ushrL v k).toBitVec.getLsbD i = v.toBitVec.getLsbD (m + i) := by
  have hm : m < 64 := by
    subst hk
    have : (k.toInt64 &&& 63).toBitVec = k.toInt64.toBitVec &&& 63#64 := rfl
    rw [this, BitVec.toNat_and]
    exact Nat.lt_of_le_of_lt Nat.and_le_right (by decide)
  show (v.toBitVec >>> ((k.toInt64 &&& 63).toBitVec % 64)).getLsbD i = _
  have h2 : ((k.toInt64 &&& 63).toBitVec % 64).toNat = m := by rw [BitVec.toNat_umod, hk]; exact Nat.mod_eq_of_lt hm
  rw [BitVec.ushiftRight_eq', h2, BitVec.getLsbD_ushiftRight]
theorem byte_bit (x : Int32) (i : Nat) : (x.toInt8.toInt32).toBitVec.getLsbD i = (decide (i < 32) && x.toBitVec.getLsbD (if i < 8 then i else 7)) := by
  show ((x.toBitVec.signExtend 8).signExtend 32).getLsbD i = _
  rw [BitVec.getLsbD_signExtend, BitVec.msb_eq_getLsbD_last, BitVec.getLsbD_signExtend, BitVec.getLsbD_signExtend]
  by_cases h : i < 8
  · simp [h, show i < 32 by omega]
  · simp [h]
theorem and_bit (x y : Int32) (i : Nat) : (x &&& y).toBitVec.getLsbD i = (x.toBitVec.getLsbD i && y.toBitVec.getLsbD i) := BitVec.getLsbD_and
theorem or_bit (x y : Int32) (i : Nat) : (x ||| y).toBitVec.getLsbD i = (x.toBitVec.getLsbD i || y.toBitVec.getLsbD i) := BitVec.getLsbD_or
theorem andL_bit (x y : Int64) (i : Nat) : (x &&& y).toBitVec.getLsbD i = (x.toBitVec.getLsbD i && y.toBitVec.getLsbD i) := BitVec.getLsbD_and
theorem orL_bit (x y : Int64) (i : Nat) : (x ||| y).toBitVec.getLsbD i = (x.toBitVec.getLsbD i || y.toBitVec.getLsbD i) := BitVec.getLsbD_or
theorem i2l_bit (x : Int32) (i : Nat) : x.toInt64.toBitVec.getLsbD i = (decide (i < 64) && x.toBitVec.getLsbD (if i < 32 then i else 31)) := by
  show (x.toBitVec.signExtend 64).getLsbD i = _
  rw [BitVec.getLsbD_signExtend, BitVec.msb_eq_getLsbD_last]
  by_cases h : i < 32 <;> simp [h]
theorem l2i_bit (x : Int64) (i : Nat) : x.toInt32.toBitVec.getLsbD i = (decide (i < 32) && x.toBitVec.getLsbD i) := by
  show (x.toBitVec.signExtend 32).getLsbD i = _
  rw [BitVec.getLsbD_signExtend]
  by_cases h : i < 32
  · simp [h, show i < 64 by omega]
  · simp [h]
theorem lit_bit (m i : Nat) : (Int32.ofNat m).toBitVec.getLsbD i = (decide (i < 32) && m.testBit i) := by
  show (BitVec.ofNat 32 m).getLsbD i = _
  rw [BitVec.getLsbD_ofNat]
theorem litL_bit (m i : Nat) : (Int64.ofNat m).toBitVec.getLsbD i = (decide (i < 64) && m.testBit i) := by
  show (BitVec.ofNat 64 m).getLsbD i = _
  rw [BitVec.getLsbD_ofNat]
theorem m255 (i : Nat) : (255 : Int32).toBitVec.getLsbD i = decide (i < 8) := by
  have : (255 : Int32) = Int32.ofNat (2 ^ 8 - 1) := rfl
  rw [this, lit_bit, Nat.testBit_two_pow_sub_one]
  by_cases h : i < 8 <;> simp [h]; omega
theorem and_nat (x y : Int32) (m : Nat) (hy : y.toBitVec.toNat = m) : (x &&& y).toBitVec.toNat ≤ m := by
  show (x.toBitVec &&& y.toBitVec).toNat ≤ m
  rw [BitVec.toNat_and, hy]; exact Nat.and_le_right
theorem of_nat32 {x : Int32} {m : Nat} (h : x.toBitVec.toNat = m) : x = Int32.ofNat m := by
  apply Int32.toBitVec_inj.mp
  apply BitVec.eq_of_toNat_eq
  show _ = (BitVec.ofNat 32 m).toNat
  rw [BitVec.toNat_ofNat, h]
  have := x.toBitVec.isLt
  omega
theorem and_three (x : Int32) : x &&& 3 = 0 ∨ x &&& 3 = 1 ∨ x &&& 3 = 2 ∨ x &&& 3 = 3 := by
  have h := and_nat x 3 3 rfl
  have hc : (x &&& 3).toBitVec.toNat = 0 ∨ (x &&& 3).toBitVec.toNat = 1 ∨ (x &&& 3).toBitVec.toNat = 2 ∨ (x &&& 3).toBitVec.toNat = 3 := by omega
  rcases hc with q | q | q | q
  · exact Or.inl (of_nat32 q)
  · exact Or.inr (Or.inl (of_nat32 q))
  · exact Or.inr (Or.inr (Or.inl (of_nat32 q)))
  · exact Or.inr (Or.inr (Or.inr (of_nat32 q)))
theorem nar_byte (y : Int32) : nar .byte (y.toInt8.toInt32) = y.toInt8.toInt32 := by
  show y.toInt8.toInt32.toInt8.toInt32 = y.toInt8.toInt32
  simp
theorem ushr_zero (x : Int32) (k : Int32) (hk : (k &&& 31).toBitVec.toNat = 0) : XT.ushr x k = x := bx32 fun i _ => by rw [ushr_bit hk, Nat.zero_add]
theorem rem_nat (x d : Int32) (m : Nat) (hx : 0 ≤ x.toInt) (hd : d.toInt = m) (hm : 0 < m) (hb : m < 2 ^ 31) : ∃ k, k < m ∧ x % d = Int32.ofNat k := by
  have h1 : (x % d).toInt = x.toInt % m := by rw [Int32.toInt_mod, hd, Int.tmod_eq_emod_of_nonneg hx]
  have h2 := Int.emod_nonneg x.toInt (show (m : Int) ≠ 0 by omega)
  have h3 := Int.emod_lt_of_pos x.toInt (show (0 : Int) < m by omega)
  refine ⟨(x.toInt % m).toNat, by omega, ?_⟩
  apply Int32.toInt_inj.mp
  rw [h1, Int32.toInt_ofNat_of_lt (by omega)]
  omega
end Jvm.OwnW
namespace Jvm.Pilot.@@N@@
open Jvm Jvm.ClassFile Sem Op Lib Jvm.Free Jvm.Stand Jvm.LawKit Jvm.RoadKit Bundle Jvm.Pilot.@@N@@.Jvm.D Jvm.OwnW

theorem wd {c : Jvm.Cond} (k : Nat) (h : tables_1[k]? = some c) : c ∈ tables_1 := List.mem_of_getElem? h
def m0 : Meth := (x, code, maxLocals, ret, room_1)
def m1 : Meth := (⟨"com/example/yorktown/yorktown/SymbolRules", "<init>", "(Ljava/lang/String;I[I[I)V"⟩, prog_57_method_1_code, 5, none, { frames := 1, cells := 0, slots := 0, locals := 20 })
def m3 : Meth := (⟨"com/example/yorktown/yorktown/SymbolRules", "child", "(II)I"⟩, prog_57_method_6_code, 3, some .int, { frames := 0, cells := 0, slots := 0, locals := 0 })
theorem d0_0 : D m0 0 (.lload_n 0) 1 1 := ⟨by decide +kernel, rfl⟩
theorem d0_1 : D m0 1 (.l2i) 1 2 := ⟨by decide +kernel, rfl⟩
theorem d0_2 : D m0 2 (.istore 7) 2 4 := ⟨by decide +kernel, rfl⟩
theorem d0_4 : D m0 4 (.lload_n 0) 1 5 := ⟨by decide +kernel, rfl⟩
theorem d0_5 : D m0 5 (.bipush 32) 2 7 := ⟨by decide +kernel, rfl⟩
theorem d0_7 : D m0 7 (.lushr) 1 8 := ⟨by decide +kernel, rfl⟩
theorem d0_8 : D m0 8 (.l2i) 1 9 := ⟨by decide +kernel, rfl⟩
theorem d0_9 : D m0 9 (.istore 8) 2 11 := ⟨by decide +kernel, rfl⟩
theorem d0_11 : D m0 11 (.lload_n 2) 1 12 := ⟨by decide +kernel, rfl⟩
theorem d0_12 : D m0 12 (.l2i) 1 13 := ⟨by decide +kernel, rfl⟩
theorem d0_13 : D m0 13 (.istore 9) 2 15 := ⟨by decide +kernel, rfl⟩
theorem d0_15 : D m0 15 (.lload_n 2) 1 16 := ⟨by decide +kernel, rfl⟩
theorem d0_16 : D m0 16 (.bipush 32) 2 18 := ⟨by decide +kernel, rfl⟩
theorem d0_18 : D m0 18 (.lushr) 1 19 := ⟨by decide +kernel, rfl⟩
theorem d0_19 : D m0 19 (.l2i) 1 20 := ⟨by decide +kernel, rfl⟩
theorem d0_20 : D m0 20 (.istore 10) 2 22 := ⟨by decide +kernel, rfl⟩
theorem d0_22 : D m0 22 (.lload 4) 2 24 := ⟨by decide +kernel, rfl⟩
theorem d0_24 : D m0 24 (.l2i) 1 25 := ⟨by decide +kernel, rfl⟩
theorem d0_25 : D m0 25 (.istore 11) 2 27 := ⟨by decide +kernel, rfl⟩
theorem d0_27 : D m0 27 (.lload 4) 2 29 := ⟨by decide +kernel, rfl⟩
theorem d0_29 : D m0 29 (.bipush 32) 2 31 := ⟨by decide +kernel, rfl⟩
theorem d0_31 : D m0 31 (.lushr) 1 32 := ⟨by decide +kernel, rfl⟩
theorem d0_32 : D m0 32 (.l2i) 1 33 := ⟨by decide +kernel, rfl⟩
theorem d0_33 : D m0 33 (.istore 12) 2 35 := ⟨by decide +kernel, rfl⟩
theorem d0_35 : D m0 35 (.iconst 1) 1 36 := ⟨by decide +kernel, rfl⟩
theorem d0_36 : D m0 36 (.iload 6) 2 38 := ⟨by decide +kernel, rfl⟩
theorem d0_38 : D m0 38 (.ldc 7) 2 40 := ⟨by decide +kernel, rfl⟩
theorem d0_40 : D m0 40 (.iand) 1 41 := ⟨by decide +kernel, rfl⟩
theorem d0_41 : D m0 41 (.iconst 3) 1 42 := ⟨by decide +kernel, rfl⟩
theorem d0_42 : D m0 42 (.irem) 1 43 := ⟨by decide +kernel, rfl⟩
theorem d0_43 : D m0 43 (.iadd) 1 44 := ⟨by decide +kernel, rfl⟩
theorem d0_44 : D m0 44 (.istore 13) 2 46 := ⟨by decide +kernel, rfl⟩
theorem d0_46 : D m0 46 (.bipush 6) 2 48 := ⟨by decide +kernel, rfl⟩
theorem d0_48 : D m0 48 (.newarray .int) 2 50 := ⟨by decide +kernel, rfl⟩
theorem d0_50 : D m0 50 (.dup) 1 51 := ⟨by decide +kernel, rfl⟩
theorem d0_51 : D m0 51 (.iconst 0) 1 52 := ⟨by decide +kernel, rfl⟩
theorem d0_52 : D m0 52 (.iload 7) 2 54 := ⟨by decide +kernel, rfl⟩
theorem d0_54 : D m0 54 (.iastore) 1 55 := ⟨by decide +kernel, rfl⟩
theorem d0_55 : D m0 55 (.dup) 1 56 := ⟨by decide +kernel, rfl⟩
theorem d0_56 : D m0 56 (.iconst 1) 1 57 := ⟨by decide +kernel, rfl⟩
theorem d0_57 : D m0 57 (.iload 8) 2 59 := ⟨by decide +kernel, rfl⟩
theorem d0_59 : D m0 59 (.iastore) 1 60 := ⟨by decide +kernel, rfl⟩
theorem d0_60 : D m0 60 (.dup) 1 61 := ⟨by decide +kernel, rfl⟩
theorem d0_61 : D m0 61 (.iconst 2) 1 62 := ⟨by decide +kernel, rfl⟩
theorem d0_62 : D m0 62 (.iload 9) 2 64 := ⟨by decide +kernel, rfl⟩
theorem d0_64 : D m0 64 (.iastore) 1 65 := ⟨by decide +kernel, rfl⟩
theorem d0_65 : D m0 65 (.dup) 1 66 := ⟨by decide +kernel, rfl⟩
theorem d0_66 : D m0 66 (.iconst 3) 1 67 := ⟨by decide +kernel, rfl⟩
theorem d0_67 : D m0 67 (.iload 10) 2 69 := ⟨by decide +kernel, rfl⟩
theorem d0_69 : D m0 69 (.iastore) 1 70 := ⟨by decide +kernel, rfl⟩
theorem d0_70 : D m0 70 (.dup) 1 71 := ⟨by decide +kernel, rfl⟩
theorem d0_71 : D m0 71 (.iconst 4) 1 72 := ⟨by decide +kernel, rfl⟩
theorem d0_72 : D m0 72 (.iload 11) 2 74 := ⟨by decide +kernel, rfl⟩
theorem d0_74 : D m0 74 (.iastore) 1 75 := ⟨by decide +kernel, rfl⟩
theorem d0_75 : D m0 75 (.dup) 1 76 := ⟨by decide +kernel, rfl⟩
theorem d0_76 : D m0 76 (.iconst 5) 1 77 := ⟨by decide +kernel, rfl⟩
theorem d0_77 : D m0 77 (.iload 12) 2 79 := ⟨by decide +kernel, rfl⟩
theorem d0_79 : D m0 79 (.iastore) 1 80 := ⟨by decide +kernel, rfl⟩
theorem d0_80 : D m0 80 (.astore 14) 2 82 := ⟨by decide +kernel, rfl⟩
theorem d0_82 : D m0 82 (.iconst 2) 1 83 := ⟨by decide +kernel, rfl⟩
theorem d0_83 : D m0 83 (.newarray .int) 2 85 := ⟨by decide +kernel, rfl⟩
theorem d0_85 : D m0 85 (.astore 15) 2 87 := ⟨by decide +kernel, rfl⟩
theorem d0_87 : D m0 87 (.new 8) 3 90 := ⟨by decide +kernel, rfl⟩
theorem d0_90 : D m0 90 (.dup) 1 91 := ⟨by decide +kernel, rfl⟩
theorem d0_91 : D m0 91 (.ldc 10) 2 93 := ⟨by decide +kernel, rfl⟩
theorem d0_93 : D m0 93 (.iload 13) 2 95 := ⟨by decide +kernel, rfl⟩
theorem d0_95 : D m0 95 (.aload 14) 2 97 := ⟨by decide +kernel, rfl⟩
theorem d0_97 : D m0 97 (.aload 15) 2 99 := ⟨by decide +kernel, rfl⟩
theorem d0_99 : D m0 99 (.invokespecial 12) 3 102 := ⟨by decide +kernel, rfl⟩
theorem d0_102 : D m0 102 (.astore 16) 2 104 := ⟨by decide +kernel, rfl⟩
theorem d0_104 : D m0 104 (.aload 16) 2 106 := ⟨by decide +kernel, rfl⟩
theorem d0_106 : D m0 106 (.iconst 0) 1 107 := ⟨by decide +kernel, rfl⟩
theorem d0_107 : D m0 107 (.iconst 0) 1 108 := ⟨by decide +kernel, rfl⟩
theorem d0_108 : D m0 108 (.invokevirtual 15) 3 111 := ⟨by decide +kernel, rfl⟩
theorem d0_111 : D m0 111 (.iload 7) 2 113 := ⟨by decide +kernel, rfl⟩
theorem d0_113 : DB m0 113 (.if_icmp .ne 7) 7 116 120 := ⟨by decide +kernel, rfl, by decide, by decide⟩
theorem d0_116 : D m0 116 (.iconst 1) 1 117 := ⟨by decide +kernel, rfl⟩
theorem d0_117 : DB m0 117 (.goto 4) 4 120 121 := ⟨by decide +kernel, rfl, by decide, by decide⟩
theorem d0_120 : D m0 120 (.iconst 0) 1 121 := ⟨by decide +kernel, rfl⟩
theorem d0_121 : D m0 121 (.istore 17) 2 123 := ⟨by decide +kernel, rfl⟩
theorem d0_123 : D m0 123 (.iload 13) 2 125 := ⟨by decide +kernel, rfl⟩
theorem d0_125 : D m0 125 (.iconst 1) 1 126 := ⟨by decide +kernel, rfl⟩
theorem d0_126 : DB m0 126 (.if_icmp .ne 10) 10 129 136 := ⟨by decide +kernel, rfl, by decide, by decide⟩
theorem d0_129 : D m0 129 (.iload 8) 2 131 := ⟨by decide +kernel, rfl⟩
theorem d0_131 : D m0 131 (.istore 18) 2 133 := ⟨by decide +kernel, rfl⟩
theorem d0_133 : DB m0 133 (.goto 20) 20 136 153 := ⟨by decide +kernel, rfl, by decide, by decide⟩
theorem d0_136 : D m0 136 (.iload 13) 2 138 := ⟨by decide +kernel, rfl⟩
theorem d0_138 : D m0 138 (.iconst 2) 1 139 := ⟨by decide +kernel, rfl⟩
theorem d0_139 : DB m0 139 (.if_icmp .ne 10) 10 142 149 := ⟨by decide +kernel, rfl, by decide, by decide⟩
theorem d0_142 : D m0 142 (.iload 9) 2 144 := ⟨by decide +kernel, rfl⟩
theorem d0_144 : D m0 144 (.istore 18) 2 146 := ⟨by decide +kernel, rfl⟩
theorem d0_146 : DB m0 146 (.goto 7) 7 149 153 := ⟨by decide +kernel, rfl, by decide, by decide⟩
theorem d0_149 : D m0 149 (.iload 10) 2 151 := ⟨by decide +kernel, rfl⟩
theorem d0_151 : D m0 151 (.istore 18) 2 153 := ⟨by decide +kernel, rfl⟩
theorem d0_153 : D m0 153 (.iload 17) 2 155 := ⟨by decide +kernel, rfl⟩
theorem d0_155 : DB m0 155 (.ifCond .eq 19) 19 158 174 := ⟨by decide +kernel, rfl, by decide, by decide⟩
theorem d0_158 : D m0 158 (.aload 16) 2 160 := ⟨by decide +kernel, rfl⟩
theorem d0_160 : D m0 160 (.iconst 1) 1 161 := ⟨by decide +kernel, rfl⟩
theorem d0_161 : D m0 161 (.iconst 0) 1 162 := ⟨by decide +kernel, rfl⟩
theorem d0_162 : D m0 162 (.invokevirtual 15) 3 165 := ⟨by decide +kernel, rfl⟩
theorem d0_165 : D m0 165 (.iload 18) 2 167 := ⟨by decide +kernel, rfl⟩
theorem d0_167 : DB m0 167 (.if_icmp .ne 7) 7 170 174 := ⟨by decide +kernel, rfl, by decide, by decide⟩
theorem d0_170 : D m0 170 (.iconst 1) 1 171 := ⟨by decide +kernel, rfl⟩
theorem d0_171 : DB m0 171 (.goto 4) 4 174 175 := ⟨by decide +kernel, rfl, by decide, by decide⟩
theorem d0_174 : D m0 174 (.iconst 0) 1 175 := ⟨by decide +kernel, rfl⟩
theorem d0_175 : D m0 175 (.istore 17) 2 177 := ⟨by decide +kernel, rfl⟩
theorem d0_177 : D m0 177 (.iload 13) 2 179 := ⟨by decide +kernel, rfl⟩
theorem d0_179 : D m0 179 (.iconst 2) 1 180 := ⟨by decide +kernel, rfl⟩
theorem d0_180 : DB m0 180 (.if_icmp .lt 68) 68 183 248 := ⟨by decide +kernel, rfl, by decide, by decide⟩
theorem d0_183 : D m0 183 (.iload 17) 2 185 := ⟨by decide +kernel, rfl⟩
theorem d0_185 : DB m0 185 (.ifCond .eq 19) 19 188 204 := ⟨by decide +kernel, rfl, by decide, by decide⟩
theorem d0_188 : D m0 188 (.aload 16) 2 190 := ⟨by decide +kernel, rfl⟩
theorem d0_190 : D m0 190 (.iconst 0) 1 191 := ⟨by decide +kernel, rfl⟩
theorem d0_191 : D m0 191 (.iconst 1) 1 192 := ⟨by decide +kernel, rfl⟩
theorem d0_192 : D m0 192 (.invokevirtual 15) 3 195 := ⟨by decide +kernel, rfl⟩
theorem d0_195 : D m0 195 (.iload 8) 2 197 := ⟨by decide +kernel, rfl⟩
theorem d0_197 : DB m0 197 (.if_icmp .ne 7) 7 200 204 := ⟨by decide +kernel, rfl, by decide, by decide⟩
theorem d0_200 : D m0 200 (.iconst 1) 1 201 := ⟨by decide +kernel, rfl⟩
theorem d0_201 : DB m0 201 (.goto 4) 4 204 205 := ⟨by decide +kernel, rfl, by decide, by decide⟩
theorem d0_204 : D m0 204 (.iconst 0) 1 205 := ⟨by decide +kernel, rfl⟩
theorem d0_205 : D m0 205 (.istore 17) 2 207 := ⟨by decide +kernel, rfl⟩
theorem d0_207 : D m0 207 (.iload 13) 2 209 := ⟨by decide +kernel, rfl⟩
theorem d0_209 : D m0 209 (.iconst 2) 1 210 := ⟨by decide +kernel, rfl⟩
theorem d0_210 : DB m0 210 (.if_icmp .ne 10) 10 213 220 := ⟨by decide +kernel, rfl, by decide, by decide⟩
theorem d0_213 : D m0 213 (.iload 10) 2 215 := ⟨by decide +kernel, rfl⟩
theorem d0_215 : D m0 215 (.istore 19) 2 217 := ⟨by decide +kernel, rfl⟩
theorem d0_217 : DB m0 217 (.goto 7) 7 220 224 := ⟨by decide +kernel, rfl, by decide, by decide⟩
theorem d0_220 : D m0 220 (.iload 11) 2 222 := ⟨by decide +kernel, rfl⟩
theorem d0_222 : D m0 222 (.istore 19) 2 224 := ⟨by decide +kernel, rfl⟩
theorem d0_224 : D m0 224 (.iload 17) 2 226 := ⟨by decide +kernel, rfl⟩
theorem d0_226 : DB m0 226 (.ifCond .eq 19) 19 229 245 := ⟨by decide +kernel, rfl, by decide, by decide⟩
theorem d0_229 : D m0 229 (.aload 16) 2 231 := ⟨by decide +kernel, rfl⟩
theorem d0_231 : D m0 231 (.iconst 1) 1 232 := ⟨by decide +kernel, rfl⟩
theorem d0_232 : D m0 232 (.iconst 1) 1 233 := ⟨by decide +kernel, rfl⟩
theorem d0_233 : D m0 233 (.invokevirtual 15) 3 236 := ⟨by decide +kernel, rfl⟩
theorem d0_236 : D m0 236 (.iload 19) 2 238 := ⟨by decide +kernel, rfl⟩
theorem d0_238 : DB m0 238 (.if_icmp .ne 7) 7 241 245 := ⟨by decide +kernel, rfl, by decide, by decide⟩
theorem d0_241 : D m0 241 (.iconst 1) 1 242 := ⟨by decide +kernel, rfl⟩
theorem d0_242 : DB m0 242 (.goto 4) 4 245 246 := ⟨by decide +kernel, rfl, by decide, by decide⟩
theorem d0_245 : D m0 245 (.iconst 0) 1 246 := ⟨by decide +kernel, rfl⟩
theorem d0_246 : D m0 246 (.istore 17) 2 248 := ⟨by decide +kernel, rfl⟩
theorem d0_248 : D m0 248 (.iload 13) 2 250 := ⟨by decide +kernel, rfl⟩
theorem d0_250 : D m0 250 (.iconst 3) 1 251 := ⟨by decide +kernel, rfl⟩
theorem d0_251 : DB m0 251 (.if_icmp .ne 51) 51 254 302 := ⟨by decide +kernel, rfl, by decide, by decide⟩
theorem d0_254 : D m0 254 (.iload 17) 2 256 := ⟨by decide +kernel, rfl⟩
theorem d0_256 : DB m0 256 (.ifCond .eq 19) 19 259 275 := ⟨by decide +kernel, rfl, by decide, by decide⟩
theorem d0_259 : D m0 259 (.aload 16) 2 261 := ⟨by decide +kernel, rfl⟩
theorem d0_261 : D m0 261 (.iconst 0) 1 262 := ⟨by decide +kernel, rfl⟩
theorem d0_262 : D m0 262 (.iconst 2) 1 263 := ⟨by decide +kernel, rfl⟩
theorem d0_263 : D m0 263 (.invokevirtual 15) 3 266 := ⟨by decide +kernel, rfl⟩
theorem d0_266 : D m0 266 (.iload 9) 2 268 := ⟨by decide +kernel, rfl⟩
theorem d0_268 : DB m0 268 (.if_icmp .ne 7) 7 271 275 := ⟨by decide +kernel, rfl, by decide, by decide⟩
theorem d0_271 : D m0 271 (.iconst 1) 1 272 := ⟨by decide +kernel, rfl⟩
theorem d0_272 : DB m0 272 (.goto 4) 4 275 276 := ⟨by decide +kernel, rfl, by decide, by decide⟩
theorem d0_275 : D m0 275 (.iconst 0) 1 276 := ⟨by decide +kernel, rfl⟩
theorem d0_276 : D m0 276 (.istore 17) 2 278 := ⟨by decide +kernel, rfl⟩
theorem d0_278 : D m0 278 (.iload 17) 2 280 := ⟨by decide +kernel, rfl⟩
theorem d0_280 : DB m0 280 (.ifCond .eq 19) 19 283 299 := ⟨by decide +kernel, rfl, by decide, by decide⟩
theorem d0_283 : D m0 283 (.aload 16) 2 285 := ⟨by decide +kernel, rfl⟩
theorem d0_285 : D m0 285 (.iconst 1) 1 286 := ⟨by decide +kernel, rfl⟩
theorem d0_286 : D m0 286 (.iconst 2) 1 287 := ⟨by decide +kernel, rfl⟩
theorem d0_287 : D m0 287 (.invokevirtual 15) 3 290 := ⟨by decide +kernel, rfl⟩
theorem d0_290 : D m0 290 (.iload 12) 2 292 := ⟨by decide +kernel, rfl⟩
theorem d0_292 : DB m0 292 (.if_icmp .ne 7) 7 295 299 := ⟨by decide +kernel, rfl, by decide, by decide⟩
theorem d0_295 : D m0 295 (.iconst 1) 1 296 := ⟨by decide +kernel, rfl⟩
theorem d0_296 : DB m0 296 (.goto 4) 4 299 300 := ⟨by decide +kernel, rfl, by decide, by decide⟩
theorem d0_299 : D m0 299 (.iconst 0) 1 300 := ⟨by decide +kernel, rfl⟩
theorem d0_300 : D m0 300 (.istore 17) 2 302 := ⟨by decide +kernel, rfl⟩
theorem d0_302 : D m0 302 (.iload 17) 2 304 := ⟨by decide +kernel, rfl⟩
theorem d0_304 : D m0 304 (.ireturn) 1 305 := ⟨by decide +kernel, rfl⟩
theorem d1_0 : D m1 0 (.aload_n 0) 1 1 := ⟨by decide +kernel, rfl⟩
theorem d1_1 : D m1 1 (.invokespecial 1) 3 4 := ⟨by decide +kernel, rfl⟩
theorem d1_4 : D m1 4 (.aload_n 0) 1 5 := ⟨by decide +kernel, rfl⟩
theorem d1_5 : D m1 5 (.aload_n 1) 1 6 := ⟨by decide +kernel, rfl⟩
theorem d1_6 : D m1 6 (.putfield 7) 3 9 := ⟨by decide +kernel, rfl⟩
theorem d1_9 : D m1 9 (.aload_n 0) 1 10 := ⟨by decide +kernel, rfl⟩
theorem d1_10 : D m1 10 (.iload_n 2) 1 11 := ⟨by decide +kernel, rfl⟩
theorem d1_11 : D m1 11 (.putfield 13) 3 14 := ⟨by decide +kernel, rfl⟩
theorem d1_14 : D m1 14 (.aload_n 0) 1 15 := ⟨by decide +kernel, rfl⟩
theorem d1_15 : D m1 15 (.aload_n 3) 1 16 := ⟨by decide +kernel, rfl⟩
theorem d1_16 : D m1 16 (.putfield 17) 3 19 := ⟨by decide +kernel, rfl⟩
theorem d1_19 : D m1 19 (.aload_n 0) 1 20 := ⟨by decide +kernel, rfl⟩
theorem d1_20 : D m1 20 (.aload 4) 2 22 := ⟨by decide +kernel, rfl⟩
theorem d1_22 : D m1 22 (.putfield 21) 3 25 := ⟨by decide +kernel, rfl⟩
theorem d1_25 : D m1 25 (.return_) 1 26 := ⟨by decide +kernel, rfl⟩
theorem d3_0 : D m3 0 (.aload_n 0) 1 1 := ⟨by decide +kernel, rfl⟩
theorem d3_1 : D m3 1 (.getfield 17) 3 4 := ⟨by decide +kernel, rfl⟩
theorem d3_4 : D m3 4 (.iload_n 1) 1 5 := ⟨by decide +kernel, rfl⟩
theorem d3_5 : D m3 5 (.aload_n 0) 1 6 := ⟨by decide +kernel, rfl⟩
theorem d3_6 : D m3 6 (.getfield 13) 3 9 := ⟨by decide +kernel, rfl⟩
theorem d3_9 : D m3 9 (.imul) 1 10 := ⟨by decide +kernel, rfl⟩
theorem d3_10 : D m3 10 (.iload_n 2) 1 11 := ⟨by decide +kernel, rfl⟩
theorem d3_11 : D m3 11 (.iadd) 1 12 := ⟨by decide +kernel, rfl⟩
theorem d3_12 : D m3 12 (.iaload) 1 13 := ⟨by decide +kernel, rfl⟩
theorem d3_13 : D m3 13 (.ireturn) 1 14 := ⟨by decide +kernel, rfl⟩
theorem pn0 : plainName "com/example/yorktown/yorktown/SymbolRulesChildPinLaw" = true := by first | (simp [plainName, overriddenIn]; done) | decide +kernel
theorem pn1 : plainName "com/example/yorktown/yorktown/SymbolRules" = true := by first | (simp [plainName, overriddenIn]; done) | decide +kernel
theorem pd1 : parseMethodDescriptor "(Ljava/lang/String;I[I[I)V" = some ⟨[(.object "java/lang/String"), .int, (.array .int), (.array .int)], none⟩ := by decide +kernel
theorem ok1 {Z : State} {a0 : Array Value} (hw : ∀ d ∈ tables_1, d.before a0 Z = true) : OkM a0 Z m1 4 := ⟨hw _ (wd 15 rfl), hw _ (wd 4 rfl), plainFor_of_name pn1, ⟨by decide, by decide⟩, arity pd1 rfl⟩
theorem pd3 : parseMethodDescriptor "(II)I" = some ⟨[.int, .int], some .int⟩ := by decide +kernel
theorem ok3 {Z : State} {a0 : Array Value} (hw : ∀ d ∈ tables_1, d.before a0 Z = true) : OkM a0 Z m3 2 := ⟨hw _ (wd 31 rfl), hw _ (wd 4 rfl), plainFor_of_name pn1, ⟨by decide, by decide⟩, arity pd3 rfl⟩
def fs0 : List (Key × Value) := [(("com/example/yorktown/yorktown/SymbolRules", "symbol", "Ljava/lang/String;"), .null), (("com/example/yorktown/yorktown/SymbolRules", "arity", "I"), .int 0), (("com/example/yorktown/yorktown/SymbolRules", "children", "[I"), .null), (("com/example/yorktown/yorktown/SymbolRules", "targets", "[I"), .null)]
theorem okc0 {Z : State} {a0 : Array Value} (hw : ∀ d ∈ tables_1, d.before a0 Z = true) : OkC a0 Z "com/example/yorktown/yorktown/SymbolRules" 8 fs0 := by
  refine ⟨hw _ (wd 3 rfl), hw _ (wd 4 rfl), fun q hq => ?_, by simp [fs0]⟩
  simp only [fs0, List.mem_cons, List.not_mem_nil, or_false] at hq
  rcases hq with rfl | rfl | rfl | rfl
  · exact ⟨(.object "java/lang/String"), Or.inr (hw _ (wd 20 rfl)), by decide, rfl⟩
  · exact ⟨.int, Or.inr (hw _ (wd 22 rfl)), by decide, rfl⟩
  · exact ⟨(.array .int), Or.inr (hw _ (wd 24 rfl)), by decide, rfl⟩
  · exact ⟨(.array .int), Or.inr (hw _ (wd 26 rfl)), by decide, rfl⟩
theorem own_wS {Z : State} {a0 : Array Value} (hw : ∀ d ∈ tables_1, d.before a0 Z = true) : ∀ a ∈ Bundle.stringAtoms, a.before a0 Z = true := by
  intro a ha
  simp only [Bundle.stringAtoms, List.mem_cons, List.not_mem_nil, or_false] at ha
  rcases ha with rfl | rfl | rfl | rfl | rfl | rfl | rfl
  · exact hw _ (wd 6 rfl)
  · exact hw _ (wd 7 rfl)
  · exact hw _ (wd 8 rfl)
  · exact hw _ (wd 9 rfl)
  · exact hw _ (wd 10 rfl)
  · exact hw _ (wd 11 rfl)
  · exact hw _ (wd 12 rfl)
theorem own_p (s : Int32) : (s &&& 2147483647) % 3 = 0 ∨ (s &&& 2147483647) % 3 = 1 ∨ (s &&& 2147483647) % 3 = 2 := by
  obtain ⟨k, hk, e⟩ := rem_nat (s &&& 2147483647) 3 3 ((c_andS s 2147483647).2.2 (by decide)) rfl (by decide) (by decide)
  have hc : k = 0 ∨ k = 1 ∨ k = 2 := by omega
  rcases hc with rfl | rfl | rfl
  · exact Or.inl e
  · exact Or.inr (Or.inl e)
  · exact Or.inr (Or.inr e)
set_option maxRecDepth 65536 in
set_option maxHeartbeats 40000000 in
theorem c1_0 {l : Launch} {Z : State} {a0 : Array Value} {n : Nat} (hw : ∀ d ∈ tables_1, d.before a0 Z = true) (x0 : Addr) (x1 : Int32) (x2 : Int32) (x3 : Int32) (x4 : Int32) (x5 : Int32) (x6 : Int32) (T : AHeap) : W l Z n m1 0 (entryL [(.ref 2), (.retAddr x0), (.int (1)), (.ref 0), (.ref 1)] 5) [] ([.inr (.int, [(.int (x1)), (.int (x2)), (.int (x3)), (.int (x4)), (.int (x5)), (.int (x6))]), .inr (.int, [(.int (0)), (.int (0))]), .inl ("com/example/yorktown/yorktown/SymbolRules", [(("com/example/yorktown/yorktown/SymbolRules", "symbol", "Ljava/lang/String;"), .null), (("com/example/yorktown/yorktown/SymbolRules", "arity", "I"), (.int (0))), (("com/example/yorktown/yorktown/SymbolRules", "children", "[I"), .null), (("com/example/yorktown/yorktown/SymbolRules", "targets", "[I"), .null)])] ++ T) 0 0 (Is none ([.inr (.int, [(.int (x1)), (.int (x2)), (.int (x3)), (.int (x4)), (.int (x5)), (.int (x6))]), .inr (.int, [(.int (0)), (.int (0))]), .inl ("com/example/yorktown/yorktown/SymbolRules", [(("com/example/yorktown/yorktown/SymbolRules", "symbol", "Ljava/lang/String;"), (.retAddr x0)), (("com/example/yorktown/yorktown/SymbolRules", "arity", "I"), (.int (1))), (("com/example/yorktown/yorktown/SymbolRules", "children", "[I"), (.ref 0)), (("com/example/yorktown/yorktown/SymbolRules", "targets", "[I"), (.ref 1))])] ++ T)) := by
  show W l Z n m1 0 [(.val (.ref 2)), (.val (.retAddr x0)), (.val (.int (1))), (.val (.ref 0)), (.val (.ref 1))] [] ([.inr (.int, [(.int (x1)), (.int (x2)), (.int (x3)), (.int (x4)), (.int (x5)), (.int (x6))]), .inr (.int, [(.int (0)), (.int (0))]), .inl ("com/example/yorktown/yorktown/SymbolRules", [(("com/example/yorktown/yorktown/SymbolRules", "symbol", "Ljava/lang/String;"), .null), (("com/example/yorktown/yorktown/SymbolRules", "arity", "I"), (.int (0))), (("com/example/yorktown/yorktown/SymbolRules", "children", "[I"), .null), (("com/example/yorktown/yorktown/SymbolRules", "targets", "[I"), .null)])] ++ T) 0 0 _
  refine W.aloadN d1_0 rfl rfl ?_
  refine W.initO d1_1 (hw _ (wd 16 rfl)) (hw _ (wd 17 rfl)) (hw _ (wd 18 rfl)) rfl rfl ?_
  refine W.aloadN d1_4 rfl rfl ?_
  refine W.aloadN d1_5 rfl rfl ?_
  refine W.putfield 0 d1_6 (hw _ (wd 19 rfl)) rfl rfl (Or.inr ⟨hw _ (wd 20 rfl), rfl, rfl⟩) (hw _ (wd 3 rfl)) (ty := (.object "java/lang/String")) (by decide) (fun _ => rfl) (fun _ => rfl) ?_
  refine W.aloadN d1_9 rfl rfl ?_
  refine W.iloadN d1_10 rfl ?_
  refine W.putfield 1 d1_11 (hw _ (wd 21 rfl)) rfl rfl (Or.inr ⟨hw _ (wd 22 rfl), rfl, rfl⟩) (hw _ (wd 3 rfl)) (ty := .int) (by decide) (fun _ => rfl) (fun _ => rfl) ?_
  refine W.aloadN d1_14 rfl rfl ?_
  refine W.aloadN d1_15 rfl rfl ?_
  refine W.putfield 2 d1_16 (hw _ (wd 23 rfl)) rfl rfl (Or.inr ⟨hw _ (wd 24 rfl), rfl, rfl⟩) (hw _ (wd 3 rfl)) (ty := (.array .int)) (by decide) (fun _ => rfl) (fun _ => rfl) ?_
  refine W.aloadN d1_19 rfl rfl ?_
  refine W.aload d1_20 rfl rfl ?_
  refine W.putfield 3 d1_22 (hw _ (wd 25 rfl)) rfl rfl (Or.inr ⟨hw _ (wd 26 rfl), rfl, rfl⟩) (hw _ (wd 3 rfl)) (ty := (.array .int)) (by decide) (fun _ => rfl) (fun _ => rfl) ?_
  show WB _ l Z n m1 25 [(.val (.ref 2)), (.val (.retAddr x0)), (.val (.int (1))), (.val (.ref 0)), (.val (.ref 1))] [] ([.inr (.int, [(.int (x1)), (.int (x2)), (.int (x3)), (.int (x4)), (.int (x5)), (.int (x6))]), .inr (.int, [(.int (0)), (.int (0))]), .inl ("com/example/yorktown/yorktown/SymbolRules", [(("com/example/yorktown/yorktown/SymbolRules", "symbol", "Ljava/lang/String;"), (.retAddr x0)), (("com/example/yorktown/yorktown/SymbolRules", "arity", "I"), (.int (1))), (("com/example/yorktown/yorktown/SymbolRules", "children", "[I"), (.ref 0)), (("com/example/yorktown/yorktown/SymbolRules", "targets", "[I"), (.ref 1))])] ++ T) _ _ _
  exact W.leave d1_25 rfl (by decide) (by decide) (⟨rfl, rfl⟩)
set_option maxRecDepth 65536 in
set_option maxHeartbeats 40000000 in
theorem c3_1 {l : Launch} {Z : State} {a0 : Array Value} {n : Nat} (hw : ∀ d ∈ tables_1, d.before a0 Z = true) (x0 : Int32) (x1 : Int32) (x2 : Int32) (x3 : Int32) (x4 : Int32) (x5 : Int32) (x6 : Addr) (T : AHeap) : W l Z n m3 0 (entryL [(.ref 2), (.int (0)), (.int (0))] 3) [] ([.inr (.int, [(.int (x0)), (.int (x1)), (.int (x2)), (.int (x3)), (.int (x4)), (.int (x5))]), .inr (.int, [(.int (0)), (.int (0))]), .inl ("com/example/yorktown/yorktown/SymbolRules", [(("com/example/yorktown/yorktown/SymbolRules", "symbol", "Ljava/lang/String;"), (.retAddr x6)), (("com/example/yorktown/yorktown/SymbolRules", "arity", "I"), (.int (1))), (("com/example/yorktown/yorktown/SymbolRules", "children", "[I"), (.ref 0)), (("com/example/yorktown/yorktown/SymbolRules", "targets", "[I"), (.ref 1))])] ++ T) 0 0 (Is (some (.int (x0))) ([.inr (.int, [(.int (x0)), (.int (x1)), (.int (x2)), (.int (x3)), (.int (x4)), (.int (x5))]), .inr (.int, [(.int (0)), (.int (0))]), .inl ("com/example/yorktown/yorktown/SymbolRules", [(("com/example/yorktown/yorktown/SymbolRules", "symbol", "Ljava/lang/String;"), (.retAddr x6)), (("com/example/yorktown/yorktown/SymbolRules", "arity", "I"), (.int (1))), (("com/example/yorktown/yorktown/SymbolRules", "children", "[I"), (.ref 0)), (("com/example/yorktown/yorktown/SymbolRules", "targets", "[I"), (.ref 1))])] ++ T)) := by
  show W l Z n m3 0 [(.val (.ref 2)), (.val (.int (0))), (.val (.int (0)))] [] ([.inr (.int, [(.int (x0)), (.int (x1)), (.int (x2)), (.int (x3)), (.int (x4)), (.int (x5))]), .inr (.int, [(.int (0)), (.int (0))]), .inl ("com/example/yorktown/yorktown/SymbolRules", [(("com/example/yorktown/yorktown/SymbolRules", "symbol", "Ljava/lang/String;"), (.retAddr x6)), (("com/example/yorktown/yorktown/SymbolRules", "arity", "I"), (.int (1))), (("com/example/yorktown/yorktown/SymbolRules", "children", "[I"), (.ref 0)), (("com/example/yorktown/yorktown/SymbolRules", "targets", "[I"), (.ref 1))])] ++ T) 0 0 _
  refine W.aloadN d3_0 rfl rfl ?_
  refine W.getfield 2 d3_1 (hw _ (wd 23 rfl)) rfl rfl ?_
  refine W.iloadN d3_4 rfl ?_
  refine W.aloadN d3_5 rfl rfl ?_
  refine W.getfield 1 d3_6 (hw _ (wd 21 rfl)) rfl rfl ?_
  refine W.imul d3_9 ?_
  refine W.iloadN d3_10 rfl ?_
  refine W.iadd d3_11 ?_
  refine W.iaload (i := 0) d3_12 rfl ⟨by decide, by decide⟩ rfl ?_
  exact W.ireturn d3_13 rfl (by decide) (by decide) (⟨rfl, rfl⟩)
set_option maxRecDepth 65536 in
set_option maxHeartbeats 40000000 in
theorem c3_2 {l : Launch} {Z : State} {a0 : Array Value} {n : Nat} (hw : ∀ d ∈ tables_1, d.before a0 Z = true) (x0 : Int32) (x1 : Int32) (x2 : Int32) (x3 : Int32) (x4 : Int32) (x5 : Int32) (x6 : Addr) (T : AHeap) : W l Z n m3 0 (entryL [(.ref 2), (.int (1)), (.int (0))] 3) [] ([.inr (.int, [(.int (x0)), (.int (x1)), (.int (x2)), (.int (x3)), (.int (x4)), (.int (x5))]), .inr (.int, [(.int (0)), (.int (0))]), .inl ("com/example/yorktown/yorktown/SymbolRules", [(("com/example/yorktown/yorktown/SymbolRules", "symbol", "Ljava/lang/String;"), (.retAddr x6)), (("com/example/yorktown/yorktown/SymbolRules", "arity", "I"), (.int (1))), (("com/example/yorktown/yorktown/SymbolRules", "children", "[I"), (.ref 0)), (("com/example/yorktown/yorktown/SymbolRules", "targets", "[I"), (.ref 1))])] ++ T) 0 0 (Is (some (.int (x1))) ([.inr (.int, [(.int (x0)), (.int (x1)), (.int (x2)), (.int (x3)), (.int (x4)), (.int (x5))]), .inr (.int, [(.int (0)), (.int (0))]), .inl ("com/example/yorktown/yorktown/SymbolRules", [(("com/example/yorktown/yorktown/SymbolRules", "symbol", "Ljava/lang/String;"), (.retAddr x6)), (("com/example/yorktown/yorktown/SymbolRules", "arity", "I"), (.int (1))), (("com/example/yorktown/yorktown/SymbolRules", "children", "[I"), (.ref 0)), (("com/example/yorktown/yorktown/SymbolRules", "targets", "[I"), (.ref 1))])] ++ T)) := by
  show W l Z n m3 0 [(.val (.ref 2)), (.val (.int (1))), (.val (.int (0)))] [] ([.inr (.int, [(.int (x0)), (.int (x1)), (.int (x2)), (.int (x3)), (.int (x4)), (.int (x5))]), .inr (.int, [(.int (0)), (.int (0))]), .inl ("com/example/yorktown/yorktown/SymbolRules", [(("com/example/yorktown/yorktown/SymbolRules", "symbol", "Ljava/lang/String;"), (.retAddr x6)), (("com/example/yorktown/yorktown/SymbolRules", "arity", "I"), (.int (1))), (("com/example/yorktown/yorktown/SymbolRules", "children", "[I"), (.ref 0)), (("com/example/yorktown/yorktown/SymbolRules", "targets", "[I"), (.ref 1))])] ++ T) 0 0 _
  refine W.aloadN d3_0 rfl rfl ?_
  refine W.getfield 2 d3_1 (hw _ (wd 23 rfl)) rfl rfl ?_
  refine W.iloadN d3_4 rfl ?_
  refine W.aloadN d3_5 rfl rfl ?_
  refine W.getfield 1 d3_6 (hw _ (wd 21 rfl)) rfl rfl ?_
  refine W.imul d3_9 ?_
  refine W.iloadN d3_10 rfl ?_
  refine W.iadd d3_11 ?_
  refine W.iaload (i := 1) d3_12 rfl ⟨by decide, by decide⟩ rfl ?_
  exact W.ireturn d3_13 rfl (by decide) (by decide) (⟨rfl, rfl⟩)
set_option maxRecDepth 65536 in
set_option maxHeartbeats 40000000 in
theorem c1_3 {l : Launch} {Z : State} {a0 : Array Value} {n : Nat} (hw : ∀ d ∈ tables_1, d.before a0 Z = true) (x0 : Addr) (x1 : Int32) (x2 : Int32) (x3 : Int32) (x4 : Int32) (x5 : Int32) (x6 : Int32) (T : AHeap) : W l Z n m1 0 (entryL [(.ref 2), (.retAddr x0), (.int (2)), (.ref 0), (.ref 1)] 5) [] ([.inr (.int, [(.int (x1)), (.int (x2)), (.int (x3)), (.int (x4)), (.int (x5)), (.int (x6))]), .inr (.int, [(.int (0)), (.int (0))]), .inl ("com/example/yorktown/yorktown/SymbolRules", [(("com/example/yorktown/yorktown/SymbolRules", "symbol", "Ljava/lang/String;"), .null), (("com/example/yorktown/yorktown/SymbolRules", "arity", "I"), (.int (0))), (("com/example/yorktown/yorktown/SymbolRules", "children", "[I"), .null), (("com/example/yorktown/yorktown/SymbolRules", "targets", "[I"), .null)])] ++ T) 0 0 (Is none ([.inr (.int, [(.int (x1)), (.int (x2)), (.int (x3)), (.int (x4)), (.int (x5)), (.int (x6))]), .inr (.int, [(.int (0)), (.int (0))]), .inl ("com/example/yorktown/yorktown/SymbolRules", [(("com/example/yorktown/yorktown/SymbolRules", "symbol", "Ljava/lang/String;"), (.retAddr x0)), (("com/example/yorktown/yorktown/SymbolRules", "arity", "I"), (.int (2))), (("com/example/yorktown/yorktown/SymbolRules", "children", "[I"), (.ref 0)), (("com/example/yorktown/yorktown/SymbolRules", "targets", "[I"), (.ref 1))])] ++ T)) := by
  show W l Z n m1 0 [(.val (.ref 2)), (.val (.retAddr x0)), (.val (.int (2))), (.val (.ref 0)), (.val (.ref 1))] [] ([.inr (.int, [(.int (x1)), (.int (x2)), (.int (x3)), (.int (x4)), (.int (x5)), (.int (x6))]), .inr (.int, [(.int (0)), (.int (0))]), .inl ("com/example/yorktown/yorktown/SymbolRules", [(("com/example/yorktown/yorktown/SymbolRules", "symbol", "Ljava/lang/String;"), .null), (("com/example/yorktown/yorktown/SymbolRules", "arity", "I"), (.int (0))), (("com/example/yorktown/yorktown/SymbolRules", "children", "[I"), .null), (("com/example/yorktown/yorktown/SymbolRules", "targets", "[I"), .null)])] ++ T) 0 0 _
  refine W.aloadN d1_0 rfl rfl ?_
  refine W.initO d1_1 (hw _ (wd 16 rfl)) (hw _ (wd 17 rfl)) (hw _ (wd 18 rfl)) rfl rfl ?_
  refine W.aloadN d1_4 rfl rfl ?_
  refine W.aloadN d1_5 rfl rfl ?_
  refine W.putfield 0 d1_6 (hw _ (wd 19 rfl)) rfl rfl (Or.inr ⟨hw _ (wd 20 rfl), rfl, rfl⟩) (hw _ (wd 3 rfl)) (ty := (.object "java/lang/String")) (by decide) (fun _ => rfl) (fun _ => rfl) ?_
  refine W.aloadN d1_9 rfl rfl ?_
  refine W.iloadN d1_10 rfl ?_
  refine W.putfield 1 d1_11 (hw _ (wd 21 rfl)) rfl rfl (Or.inr ⟨hw _ (wd 22 rfl), rfl, rfl⟩) (hw _ (wd 3 rfl)) (ty := .int) (by decide) (fun _ => rfl) (fun _ => rfl) ?_
  refine W.aloadN d1_14 rfl rfl ?_
  refine W.aloadN d1_15 rfl rfl ?_
  refine W.putfield 2 d1_16 (hw _ (wd 23 rfl)) rfl rfl (Or.inr ⟨hw _ (wd 24 rfl), rfl, rfl⟩) (hw _ (wd 3 rfl)) (ty := (.array .int)) (by decide) (fun _ => rfl) (fun _ => rfl) ?_
  refine W.aloadN d1_19 rfl rfl ?_
  refine W.aload d1_20 rfl rfl ?_
  refine W.putfield 3 d1_22 (hw _ (wd 25 rfl)) rfl rfl (Or.inr ⟨hw _ (wd 26 rfl), rfl, rfl⟩) (hw _ (wd 3 rfl)) (ty := (.array .int)) (by decide) (fun _ => rfl) (fun _ => rfl) ?_
  show WB _ l Z n m1 25 [(.val (.ref 2)), (.val (.retAddr x0)), (.val (.int (2))), (.val (.ref 0)), (.val (.ref 1))] [] ([.inr (.int, [(.int (x1)), (.int (x2)), (.int (x3)), (.int (x4)), (.int (x5)), (.int (x6))]), .inr (.int, [(.int (0)), (.int (0))]), .inl ("com/example/yorktown/yorktown/SymbolRules", [(("com/example/yorktown/yorktown/SymbolRules", "symbol", "Ljava/lang/String;"), (.retAddr x0)), (("com/example/yorktown/yorktown/SymbolRules", "arity", "I"), (.int (2))), (("com/example/yorktown/yorktown/SymbolRules", "children", "[I"), (.ref 0)), (("com/example/yorktown/yorktown/SymbolRules", "targets", "[I"), (.ref 1))])] ++ T) _ _ _
  exact W.leave d1_25 rfl (by decide) (by decide) (⟨rfl, rfl⟩)
set_option maxRecDepth 65536 in
set_option maxHeartbeats 40000000 in
theorem c3_4 {l : Launch} {Z : State} {a0 : Array Value} {n : Nat} (hw : ∀ d ∈ tables_1, d.before a0 Z = true) (x0 : Int32) (x1 : Int32) (x2 : Int32) (x3 : Int32) (x4 : Int32) (x5 : Int32) (x6 : Addr) (T : AHeap) : W l Z n m3 0 (entryL [(.ref 2), (.int (0)), (.int (0))] 3) [] ([.inr (.int, [(.int (x0)), (.int (x1)), (.int (x2)), (.int (x3)), (.int (x4)), (.int (x5))]), .inr (.int, [(.int (0)), (.int (0))]), .inl ("com/example/yorktown/yorktown/SymbolRules", [(("com/example/yorktown/yorktown/SymbolRules", "symbol", "Ljava/lang/String;"), (.retAddr x6)), (("com/example/yorktown/yorktown/SymbolRules", "arity", "I"), (.int (2))), (("com/example/yorktown/yorktown/SymbolRules", "children", "[I"), (.ref 0)), (("com/example/yorktown/yorktown/SymbolRules", "targets", "[I"), (.ref 1))])] ++ T) 0 0 (Is (some (.int (x0))) ([.inr (.int, [(.int (x0)), (.int (x1)), (.int (x2)), (.int (x3)), (.int (x4)), (.int (x5))]), .inr (.int, [(.int (0)), (.int (0))]), .inl ("com/example/yorktown/yorktown/SymbolRules", [(("com/example/yorktown/yorktown/SymbolRules", "symbol", "Ljava/lang/String;"), (.retAddr x6)), (("com/example/yorktown/yorktown/SymbolRules", "arity", "I"), (.int (2))), (("com/example/yorktown/yorktown/SymbolRules", "children", "[I"), (.ref 0)), (("com/example/yorktown/yorktown/SymbolRules", "targets", "[I"), (.ref 1))])] ++ T)) := by
  show W l Z n m3 0 [(.val (.ref 2)), (.val (.int (0))), (.val (.int (0)))] [] ([.inr (.int, [(.int (x0)), (.int (x1)), (.int (x2)), (.int (x3)), (.int (x4)), (.int (x5))]), .inr (.int, [(.int (0)), (.int (0))]), .inl ("com/example/yorktown/yorktown/SymbolRules", [(("com/example/yorktown/yorktown/SymbolRules", "symbol", "Ljava/lang/String;"), (.retAddr x6)), (("com/example/yorktown/yorktown/SymbolRules", "arity", "I"), (.int (2))), (("com/example/yorktown/yorktown/SymbolRules", "children", "[I"), (.ref 0)), (("com/example/yorktown/yorktown/SymbolRules", "targets", "[I"), (.ref 1))])] ++ T) 0 0 _
  refine W.aloadN d3_0 rfl rfl ?_
  refine W.getfield 2 d3_1 (hw _ (wd 23 rfl)) rfl rfl ?_
  refine W.iloadN d3_4 rfl ?_
  refine W.aloadN d3_5 rfl rfl ?_
  refine W.getfield 1 d3_6 (hw _ (wd 21 rfl)) rfl rfl ?_
  refine W.imul d3_9 ?_
  refine W.iloadN d3_10 rfl ?_
  refine W.iadd d3_11 ?_
  refine W.iaload (i := 0) d3_12 rfl ⟨by decide, by decide⟩ rfl ?_
  exact W.ireturn d3_13 rfl (by decide) (by decide) (⟨rfl, rfl⟩)
set_option maxRecDepth 65536 in
set_option maxHeartbeats 40000000 in
theorem c3_5 {l : Launch} {Z : State} {a0 : Array Value} {n : Nat} (hw : ∀ d ∈ tables_1, d.before a0 Z = true) (x0 : Int32) (x1 : Int32) (x2 : Int32) (x3 : Int32) (x4 : Int32) (x5 : Int32) (x6 : Addr) (T : AHeap) : W l Z n m3 0 (entryL [(.ref 2), (.int (1)), (.int (0))] 3) [] ([.inr (.int, [(.int (x0)), (.int (x1)), (.int (x2)), (.int (x3)), (.int (x4)), (.int (x5))]), .inr (.int, [(.int (0)), (.int (0))]), .inl ("com/example/yorktown/yorktown/SymbolRules", [(("com/example/yorktown/yorktown/SymbolRules", "symbol", "Ljava/lang/String;"), (.retAddr x6)), (("com/example/yorktown/yorktown/SymbolRules", "arity", "I"), (.int (2))), (("com/example/yorktown/yorktown/SymbolRules", "children", "[I"), (.ref 0)), (("com/example/yorktown/yorktown/SymbolRules", "targets", "[I"), (.ref 1))])] ++ T) 0 0 (Is (some (.int (x2))) ([.inr (.int, [(.int (x0)), (.int (x1)), (.int (x2)), (.int (x3)), (.int (x4)), (.int (x5))]), .inr (.int, [(.int (0)), (.int (0))]), .inl ("com/example/yorktown/yorktown/SymbolRules", [(("com/example/yorktown/yorktown/SymbolRules", "symbol", "Ljava/lang/String;"), (.retAddr x6)), (("com/example/yorktown/yorktown/SymbolRules", "arity", "I"), (.int (2))), (("com/example/yorktown/yorktown/SymbolRules", "children", "[I"), (.ref 0)), (("com/example/yorktown/yorktown/SymbolRules", "targets", "[I"), (.ref 1))])] ++ T)) := by
  show W l Z n m3 0 [(.val (.ref 2)), (.val (.int (1))), (.val (.int (0)))] [] ([.inr (.int, [(.int (x0)), (.int (x1)), (.int (x2)), (.int (x3)), (.int (x4)), (.int (x5))]), .inr (.int, [(.int (0)), (.int (0))]), .inl ("com/example/yorktown/yorktown/SymbolRules", [(("com/example/yorktown/yorktown/SymbolRules", "symbol", "Ljava/lang/String;"), (.retAddr x6)), (("com/example/yorktown/yorktown/SymbolRules", "arity", "I"), (.int (2))), (("com/example/yorktown/yorktown/SymbolRules", "children", "[I"), (.ref 0)), (("com/example/yorktown/yorktown/SymbolRules", "targets", "[I"), (.ref 1))])] ++ T) 0 0 _
  refine W.aloadN d3_0 rfl rfl ?_
  refine W.getfield 2 d3_1 (hw _ (wd 23 rfl)) rfl rfl ?_
  refine W.iloadN d3_4 rfl ?_
  refine W.aloadN d3_5 rfl rfl ?_
  refine W.getfield 1 d3_6 (hw _ (wd 21 rfl)) rfl rfl ?_
  refine W.imul d3_9 ?_
  refine W.iloadN d3_10 rfl ?_
  refine W.iadd d3_11 ?_
  refine W.iaload (i := 2) d3_12 rfl ⟨by decide, by decide⟩ rfl ?_
  exact W.ireturn d3_13 rfl (by decide) (by decide) (⟨rfl, rfl⟩)
set_option maxRecDepth 65536 in
set_option maxHeartbeats 40000000 in
theorem c3_6 {l : Launch} {Z : State} {a0 : Array Value} {n : Nat} (hw : ∀ d ∈ tables_1, d.before a0 Z = true) (x0 : Int32) (x1 : Int32) (x2 : Int32) (x3 : Int32) (x4 : Int32) (x5 : Int32) (x6 : Addr) (T : AHeap) : W l Z n m3 0 (entryL [(.ref 2), (.int (0)), (.int (1))] 3) [] ([.inr (.int, [(.int (x0)), (.int (x1)), (.int (x2)), (.int (x3)), (.int (x4)), (.int (x5))]), .inr (.int, [(.int (0)), (.int (0))]), .inl ("com/example/yorktown/yorktown/SymbolRules", [(("com/example/yorktown/yorktown/SymbolRules", "symbol", "Ljava/lang/String;"), (.retAddr x6)), (("com/example/yorktown/yorktown/SymbolRules", "arity", "I"), (.int (2))), (("com/example/yorktown/yorktown/SymbolRules", "children", "[I"), (.ref 0)), (("com/example/yorktown/yorktown/SymbolRules", "targets", "[I"), (.ref 1))])] ++ T) 0 0 (Is (some (.int (x1))) ([.inr (.int, [(.int (x0)), (.int (x1)), (.int (x2)), (.int (x3)), (.int (x4)), (.int (x5))]), .inr (.int, [(.int (0)), (.int (0))]), .inl ("com/example/yorktown/yorktown/SymbolRules", [(("com/example/yorktown/yorktown/SymbolRules", "symbol", "Ljava/lang/String;"), (.retAddr x6)), (("com/example/yorktown/yorktown/SymbolRules", "arity", "I"), (.int (2))), (("com/example/yorktown/yorktown/SymbolRules", "children", "[I"), (.ref 0)), (("com/example/yorktown/yorktown/SymbolRules", "targets", "[I"), (.ref 1))])] ++ T)) := by
  show W l Z n m3 0 [(.val (.ref 2)), (.val (.int (0))), (.val (.int (1)))] [] ([.inr (.int, [(.int (x0)), (.int (x1)), (.int (x2)), (.int (x3)), (.int (x4)), (.int (x5))]), .inr (.int, [(.int (0)), (.int (0))]), .inl ("com/example/yorktown/yorktown/SymbolRules", [(("com/example/yorktown/yorktown/SymbolRules", "symbol", "Ljava/lang/String;"), (.retAddr x6)), (("com/example/yorktown/yorktown/SymbolRules", "arity", "I"), (.int (2))), (("com/example/yorktown/yorktown/SymbolRules", "children", "[I"), (.ref 0)), (("com/example/yorktown/yorktown/SymbolRules", "targets", "[I"), (.ref 1))])] ++ T) 0 0 _
  refine W.aloadN d3_0 rfl rfl ?_
  refine W.getfield 2 d3_1 (hw _ (wd 23 rfl)) rfl rfl ?_
  refine W.iloadN d3_4 rfl ?_
  refine W.aloadN d3_5 rfl rfl ?_
  refine W.getfield 1 d3_6 (hw _ (wd 21 rfl)) rfl rfl ?_
  refine W.imul d3_9 ?_
  refine W.iloadN d3_10 rfl ?_
  refine W.iadd d3_11 ?_
  refine W.iaload (i := 1) d3_12 rfl ⟨by decide, by decide⟩ rfl ?_
  exact W.ireturn d3_13 rfl (by decide) (by decide) (⟨rfl, rfl⟩)
set_option maxRecDepth 65536 in
set_option maxHeartbeats 40000000 in
theorem c3_7 {l : Launch} {Z : State} {a0 : Array Value} {n : Nat} (hw : ∀ d ∈ tables_1, d.before a0 Z = true) (x0 : Int32) (x1 : Int32) (x2 : Int32) (x3 : Int32) (x4 : Int32) (x5 : Int32) (x6 : Addr) (T : AHeap) : W l Z n m3 0 (entryL [(.ref 2), (.int (1)), (.int (1))] 3) [] ([.inr (.int, [(.int (x0)), (.int (x1)), (.int (x2)), (.int (x3)), (.int (x4)), (.int (x5))]), .inr (.int, [(.int (0)), (.int (0))]), .inl ("com/example/yorktown/yorktown/SymbolRules", [(("com/example/yorktown/yorktown/SymbolRules", "symbol", "Ljava/lang/String;"), (.retAddr x6)), (("com/example/yorktown/yorktown/SymbolRules", "arity", "I"), (.int (2))), (("com/example/yorktown/yorktown/SymbolRules", "children", "[I"), (.ref 0)), (("com/example/yorktown/yorktown/SymbolRules", "targets", "[I"), (.ref 1))])] ++ T) 0 0 (Is (some (.int (x3))) ([.inr (.int, [(.int (x0)), (.int (x1)), (.int (x2)), (.int (x3)), (.int (x4)), (.int (x5))]), .inr (.int, [(.int (0)), (.int (0))]), .inl ("com/example/yorktown/yorktown/SymbolRules", [(("com/example/yorktown/yorktown/SymbolRules", "symbol", "Ljava/lang/String;"), (.retAddr x6)), (("com/example/yorktown/yorktown/SymbolRules", "arity", "I"), (.int (2))), (("com/example/yorktown/yorktown/SymbolRules", "children", "[I"), (.ref 0)), (("com/example/yorktown/yorktown/SymbolRules", "targets", "[I"), (.ref 1))])] ++ T)) := by
  show W l Z n m3 0 [(.val (.ref 2)), (.val (.int (1))), (.val (.int (1)))] [] ([.inr (.int, [(.int (x0)), (.int (x1)), (.int (x2)), (.int (x3)), (.int (x4)), (.int (x5))]), .inr (.int, [(.int (0)), (.int (0))]), .inl ("com/example/yorktown/yorktown/SymbolRules", [(("com/example/yorktown/yorktown/SymbolRules", "symbol", "Ljava/lang/String;"), (.retAddr x6)), (("com/example/yorktown/yorktown/SymbolRules", "arity", "I"), (.int (2))), (("com/example/yorktown/yorktown/SymbolRules", "children", "[I"), (.ref 0)), (("com/example/yorktown/yorktown/SymbolRules", "targets", "[I"), (.ref 1))])] ++ T) 0 0 _
  refine W.aloadN d3_0 rfl rfl ?_
  refine W.getfield 2 d3_1 (hw _ (wd 23 rfl)) rfl rfl ?_
  refine W.iloadN d3_4 rfl ?_
  refine W.aloadN d3_5 rfl rfl ?_
  refine W.getfield 1 d3_6 (hw _ (wd 21 rfl)) rfl rfl ?_
  refine W.imul d3_9 ?_
  refine W.iloadN d3_10 rfl ?_
  refine W.iadd d3_11 ?_
  refine W.iaload (i := 3) d3_12 rfl ⟨by decide, by decide⟩ rfl ?_
  exact W.ireturn d3_13 rfl (by decide) (by decide) (⟨rfl, rfl⟩)
set_option maxRecDepth 65536 in
set_option maxHeartbeats 40000000 in
theorem c1_8 {l : Launch} {Z : State} {a0 : Array Value} {n : Nat} (hw : ∀ d ∈ tables_1, d.before a0 Z = true) (x0 : Addr) (x1 : Int32) (x2 : Int32) (x3 : Int32) (x4 : Int32) (x5 : Int32) (x6 : Int32) (T : AHeap) : W l Z n m1 0 (entryL [(.ref 2), (.retAddr x0), (.int (3)), (.ref 0), (.ref 1)] 5) [] ([.inr (.int, [(.int (x1)), (.int (x2)), (.int (x3)), (.int (x4)), (.int (x5)), (.int (x6))]), .inr (.int, [(.int (0)), (.int (0))]), .inl ("com/example/yorktown/yorktown/SymbolRules", [(("com/example/yorktown/yorktown/SymbolRules", "symbol", "Ljava/lang/String;"), .null), (("com/example/yorktown/yorktown/SymbolRules", "arity", "I"), (.int (0))), (("com/example/yorktown/yorktown/SymbolRules", "children", "[I"), .null), (("com/example/yorktown/yorktown/SymbolRules", "targets", "[I"), .null)])] ++ T) 0 0 (Is none ([.inr (.int, [(.int (x1)), (.int (x2)), (.int (x3)), (.int (x4)), (.int (x5)), (.int (x6))]), .inr (.int, [(.int (0)), (.int (0))]), .inl ("com/example/yorktown/yorktown/SymbolRules", [(("com/example/yorktown/yorktown/SymbolRules", "symbol", "Ljava/lang/String;"), (.retAddr x0)), (("com/example/yorktown/yorktown/SymbolRules", "arity", "I"), (.int (3))), (("com/example/yorktown/yorktown/SymbolRules", "children", "[I"), (.ref 0)), (("com/example/yorktown/yorktown/SymbolRules", "targets", "[I"), (.ref 1))])] ++ T)) := by
  show W l Z n m1 0 [(.val (.ref 2)), (.val (.retAddr x0)), (.val (.int (3))), (.val (.ref 0)), (.val (.ref 1))] [] ([.inr (.int, [(.int (x1)), (.int (x2)), (.int (x3)), (.int (x4)), (.int (x5)), (.int (x6))]), .inr (.int, [(.int (0)), (.int (0))]), .inl ("com/example/yorktown/yorktown/SymbolRules", [(("com/example/yorktown/yorktown/SymbolRules", "symbol", "Ljava/lang/String;"), .null), (("com/example/yorktown/yorktown/SymbolRules", "arity", "I"), (.int (0))), (("com/example/yorktown/yorktown/SymbolRules", "children", "[I"), .null), (("com/example/yorktown/yorktown/SymbolRules", "targets", "[I"), .null)])] ++ T) 0 0 _
  refine W.aloadN d1_0 rfl rfl ?_
  refine W.initO d1_1 (hw _ (wd 16 rfl)) (hw _ (wd 17 rfl)) (hw _ (wd 18 rfl)) rfl rfl ?_
  refine W.aloadN d1_4 rfl rfl ?_
  refine W.aloadN d1_5 rfl rfl ?_
  refine W.putfield 0 d1_6 (hw _ (wd 19 rfl)) rfl rfl (Or.inr ⟨hw _ (wd 20 rfl), rfl, rfl⟩) (hw _ (wd 3 rfl)) (ty := (.object "java/lang/String")) (by decide) (fun _ => rfl) (fun _ => rfl) ?_
  refine W.aloadN d1_9 rfl rfl ?_
  refine W.iloadN d1_10 rfl ?_
  refine W.putfield 1 d1_11 (hw _ (wd 21 rfl)) rfl rfl (Or.inr ⟨hw _ (wd 22 rfl), rfl, rfl⟩) (hw _ (wd 3 rfl)) (ty := .int) (by decide) (fun _ => rfl) (fun _ => rfl) ?_
  refine W.aloadN d1_14 rfl rfl ?_
  refine W.aloadN d1_15 rfl rfl ?_
  refine W.putfield 2 d1_16 (hw _ (wd 23 rfl)) rfl rfl (Or.inr ⟨hw _ (wd 24 rfl), rfl, rfl⟩) (hw _ (wd 3 rfl)) (ty := (.array .int)) (by decide) (fun _ => rfl) (fun _ => rfl) ?_
  refine W.aloadN d1_19 rfl rfl ?_
  refine W.aload d1_20 rfl rfl ?_
  refine W.putfield 3 d1_22 (hw _ (wd 25 rfl)) rfl rfl (Or.inr ⟨hw _ (wd 26 rfl), rfl, rfl⟩) (hw _ (wd 3 rfl)) (ty := (.array .int)) (by decide) (fun _ => rfl) (fun _ => rfl) ?_
  show WB _ l Z n m1 25 [(.val (.ref 2)), (.val (.retAddr x0)), (.val (.int (3))), (.val (.ref 0)), (.val (.ref 1))] [] ([.inr (.int, [(.int (x1)), (.int (x2)), (.int (x3)), (.int (x4)), (.int (x5)), (.int (x6))]), .inr (.int, [(.int (0)), (.int (0))]), .inl ("com/example/yorktown/yorktown/SymbolRules", [(("com/example/yorktown/yorktown/SymbolRules", "symbol", "Ljava/lang/String;"), (.retAddr x0)), (("com/example/yorktown/yorktown/SymbolRules", "arity", "I"), (.int (3))), (("com/example/yorktown/yorktown/SymbolRules", "children", "[I"), (.ref 0)), (("com/example/yorktown/yorktown/SymbolRules", "targets", "[I"), (.ref 1))])] ++ T) _ _ _
  exact W.leave d1_25 rfl (by decide) (by decide) (⟨rfl, rfl⟩)
set_option maxRecDepth 65536 in
set_option maxHeartbeats 40000000 in
theorem c3_9 {l : Launch} {Z : State} {a0 : Array Value} {n : Nat} (hw : ∀ d ∈ tables_1, d.before a0 Z = true) (x0 : Int32) (x1 : Int32) (x2 : Int32) (x3 : Int32) (x4 : Int32) (x5 : Int32) (x6 : Addr) (T : AHeap) : W l Z n m3 0 (entryL [(.ref 2), (.int (0)), (.int (0))] 3) [] ([.inr (.int, [(.int (x0)), (.int (x1)), (.int (x2)), (.int (x3)), (.int (x4)), (.int (x5))]), .inr (.int, [(.int (0)), (.int (0))]), .inl ("com/example/yorktown/yorktown/SymbolRules", [(("com/example/yorktown/yorktown/SymbolRules", "symbol", "Ljava/lang/String;"), (.retAddr x6)), (("com/example/yorktown/yorktown/SymbolRules", "arity", "I"), (.int (3))), (("com/example/yorktown/yorktown/SymbolRules", "children", "[I"), (.ref 0)), (("com/example/yorktown/yorktown/SymbolRules", "targets", "[I"), (.ref 1))])] ++ T) 0 0 (Is (some (.int (x0))) ([.inr (.int, [(.int (x0)), (.int (x1)), (.int (x2)), (.int (x3)), (.int (x4)), (.int (x5))]), .inr (.int, [(.int (0)), (.int (0))]), .inl ("com/example/yorktown/yorktown/SymbolRules", [(("com/example/yorktown/yorktown/SymbolRules", "symbol", "Ljava/lang/String;"), (.retAddr x6)), (("com/example/yorktown/yorktown/SymbolRules", "arity", "I"), (.int (3))), (("com/example/yorktown/yorktown/SymbolRules", "children", "[I"), (.ref 0)), (("com/example/yorktown/yorktown/SymbolRules", "targets", "[I"), (.ref 1))])] ++ T)) := by
  show W l Z n m3 0 [(.val (.ref 2)), (.val (.int (0))), (.val (.int (0)))] [] ([.inr (.int, [(.int (x0)), (.int (x1)), (.int (x2)), (.int (x3)), (.int (x4)), (.int (x5))]), .inr (.int, [(.int (0)), (.int (0))]), .inl ("com/example/yorktown/yorktown/SymbolRules", [(("com/example/yorktown/yorktown/SymbolRules", "symbol", "Ljava/lang/String;"), (.retAddr x6)), (("com/example/yorktown/yorktown/SymbolRules", "arity", "I"), (.int (3))), (("com/example/yorktown/yorktown/SymbolRules", "children", "[I"), (.ref 0)), (("com/example/yorktown/yorktown/SymbolRules", "targets", "[I"), (.ref 1))])] ++ T) 0 0 _
  refine W.aloadN d3_0 rfl rfl ?_
  refine W.getfield 2 d3_1 (hw _ (wd 23 rfl)) rfl rfl ?_
  refine W.iloadN d3_4 rfl ?_
  refine W.aloadN d3_5 rfl rfl ?_
  refine W.getfield 1 d3_6 (hw _ (wd 21 rfl)) rfl rfl ?_
  refine W.imul d3_9 ?_
  refine W.iloadN d3_10 rfl ?_
  refine W.iadd d3_11 ?_
  refine W.iaload (i := 0) d3_12 rfl ⟨by decide, by decide⟩ rfl ?_
  exact W.ireturn d3_13 rfl (by decide) (by decide) (⟨rfl, rfl⟩)
set_option maxRecDepth 65536 in
set_option maxHeartbeats 40000000 in
theorem c3_10 {l : Launch} {Z : State} {a0 : Array Value} {n : Nat} (hw : ∀ d ∈ tables_1, d.before a0 Z = true) (x0 : Int32) (x1 : Int32) (x2 : Int32) (x3 : Int32) (x4 : Int32) (x5 : Int32) (x6 : Addr) (T : AHeap) : W l Z n m3 0 (entryL [(.ref 2), (.int (1)), (.int (0))] 3) [] ([.inr (.int, [(.int (x0)), (.int (x1)), (.int (x2)), (.int (x3)), (.int (x4)), (.int (x5))]), .inr (.int, [(.int (0)), (.int (0))]), .inl ("com/example/yorktown/yorktown/SymbolRules", [(("com/example/yorktown/yorktown/SymbolRules", "symbol", "Ljava/lang/String;"), (.retAddr x6)), (("com/example/yorktown/yorktown/SymbolRules", "arity", "I"), (.int (3))), (("com/example/yorktown/yorktown/SymbolRules", "children", "[I"), (.ref 0)), (("com/example/yorktown/yorktown/SymbolRules", "targets", "[I"), (.ref 1))])] ++ T) 0 0 (Is (some (.int (x3))) ([.inr (.int, [(.int (x0)), (.int (x1)), (.int (x2)), (.int (x3)), (.int (x4)), (.int (x5))]), .inr (.int, [(.int (0)), (.int (0))]), .inl ("com/example/yorktown/yorktown/SymbolRules", [(("com/example/yorktown/yorktown/SymbolRules", "symbol", "Ljava/lang/String;"), (.retAddr x6)), (("com/example/yorktown/yorktown/SymbolRules", "arity", "I"), (.int (3))), (("com/example/yorktown/yorktown/SymbolRules", "children", "[I"), (.ref 0)), (("com/example/yorktown/yorktown/SymbolRules", "targets", "[I"), (.ref 1))])] ++ T)) := by
  show W l Z n m3 0 [(.val (.ref 2)), (.val (.int (1))), (.val (.int (0)))] [] ([.inr (.int, [(.int (x0)), (.int (x1)), (.int (x2)), (.int (x3)), (.int (x4)), (.int (x5))]), .inr (.int, [(.int (0)), (.int (0))]), .inl ("com/example/yorktown/yorktown/SymbolRules", [(("com/example/yorktown/yorktown/SymbolRules", "symbol", "Ljava/lang/String;"), (.retAddr x6)), (("com/example/yorktown/yorktown/SymbolRules", "arity", "I"), (.int (3))), (("com/example/yorktown/yorktown/SymbolRules", "children", "[I"), (.ref 0)), (("com/example/yorktown/yorktown/SymbolRules", "targets", "[I"), (.ref 1))])] ++ T) 0 0 _
  refine W.aloadN d3_0 rfl rfl ?_
  refine W.getfield 2 d3_1 (hw _ (wd 23 rfl)) rfl rfl ?_
  refine W.iloadN d3_4 rfl ?_
  refine W.aloadN d3_5 rfl rfl ?_
  refine W.getfield 1 d3_6 (hw _ (wd 21 rfl)) rfl rfl ?_
  refine W.imul d3_9 ?_
  refine W.iloadN d3_10 rfl ?_
  refine W.iadd d3_11 ?_
  refine W.iaload (i := 3) d3_12 rfl ⟨by decide, by decide⟩ rfl ?_
  exact W.ireturn d3_13 rfl (by decide) (by decide) (⟨rfl, rfl⟩)
set_option maxRecDepth 65536 in
set_option maxHeartbeats 40000000 in
theorem c3_11 {l : Launch} {Z : State} {a0 : Array Value} {n : Nat} (hw : ∀ d ∈ tables_1, d.before a0 Z = true) (x0 : Int32) (x1 : Int32) (x2 : Int32) (x3 : Int32) (x4 : Int32) (x5 : Int32) (x6 : Addr) (T : AHeap) : W l Z n m3 0 (entryL [(.ref 2), (.int (0)), (.int (1))] 3) [] ([.inr (.int, [(.int (x0)), (.int (x1)), (.int (x2)), (.int (x3)), (.int (x4)), (.int (x5))]), .inr (.int, [(.int (0)), (.int (0))]), .inl ("com/example/yorktown/yorktown/SymbolRules", [(("com/example/yorktown/yorktown/SymbolRules", "symbol", "Ljava/lang/String;"), (.retAddr x6)), (("com/example/yorktown/yorktown/SymbolRules", "arity", "I"), (.int (3))), (("com/example/yorktown/yorktown/SymbolRules", "children", "[I"), (.ref 0)), (("com/example/yorktown/yorktown/SymbolRules", "targets", "[I"), (.ref 1))])] ++ T) 0 0 (Is (some (.int (x1))) ([.inr (.int, [(.int (x0)), (.int (x1)), (.int (x2)), (.int (x3)), (.int (x4)), (.int (x5))]), .inr (.int, [(.int (0)), (.int (0))]), .inl ("com/example/yorktown/yorktown/SymbolRules", [(("com/example/yorktown/yorktown/SymbolRules", "symbol", "Ljava/lang/String;"), (.retAddr x6)), (("com/example/yorktown/yorktown/SymbolRules", "arity", "I"), (.int (3))), (("com/example/yorktown/yorktown/SymbolRules", "children", "[I"), (.ref 0)), (("com/example/yorktown/yorktown/SymbolRules", "targets", "[I"), (.ref 1))])] ++ T)) := by
  show W l Z n m3 0 [(.val (.ref 2)), (.val (.int (0))), (.val (.int (1)))] [] ([.inr (.int, [(.int (x0)), (.int (x1)), (.int (x2)), (.int (x3)), (.int (x4)), (.int (x5))]), .inr (.int, [(.int (0)), (.int (0))]), .inl ("com/example/yorktown/yorktown/SymbolRules", [(("com/example/yorktown/yorktown/SymbolRules", "symbol", "Ljava/lang/String;"), (.retAddr x6)), (("com/example/yorktown/yorktown/SymbolRules", "arity", "I"), (.int (3))), (("com/example/yorktown/yorktown/SymbolRules", "children", "[I"), (.ref 0)), (("com/example/yorktown/yorktown/SymbolRules", "targets", "[I"), (.ref 1))])] ++ T) 0 0 _
  refine W.aloadN d3_0 rfl rfl ?_
  refine W.getfield 2 d3_1 (hw _ (wd 23 rfl)) rfl rfl ?_
  refine W.iloadN d3_4 rfl ?_
  refine W.aloadN d3_5 rfl rfl ?_
  refine W.getfield 1 d3_6 (hw _ (wd 21 rfl)) rfl rfl ?_
  refine W.imul d3_9 ?_
  refine W.iloadN d3_10 rfl ?_
  refine W.iadd d3_11 ?_
  refine W.iaload (i := 1) d3_12 rfl ⟨by decide, by decide⟩ rfl ?_
  exact W.ireturn d3_13 rfl (by decide) (by decide) (⟨rfl, rfl⟩)
set_option maxRecDepth 65536 in
set_option maxHeartbeats 40000000 in
theorem c3_12 {l : Launch} {Z : State} {a0 : Array Value} {n : Nat} (hw : ∀ d ∈ tables_1, d.before a0 Z = true) (x0 : Int32) (x1 : Int32) (x2 : Int32) (x3 : Int32) (x4 : Int32) (x5 : Int32) (x6 : Addr) (T : AHeap) : W l Z n m3 0 (entryL [(.ref 2), (.int (1)), (.int (1))] 3) [] ([.inr (.int, [(.int (x0)), (.int (x1)), (.int (x2)), (.int (x3)), (.int (x4)), (.int (x5))]), .inr (.int, [(.int (0)), (.int (0))]), .inl ("com/example/yorktown/yorktown/SymbolRules", [(("com/example/yorktown/yorktown/SymbolRules", "symbol", "Ljava/lang/String;"), (.retAddr x6)), (("com/example/yorktown/yorktown/SymbolRules", "arity", "I"), (.int (3))), (("com/example/yorktown/yorktown/SymbolRules", "children", "[I"), (.ref 0)), (("com/example/yorktown/yorktown/SymbolRules", "targets", "[I"), (.ref 1))])] ++ T) 0 0 (Is (some (.int (x4))) ([.inr (.int, [(.int (x0)), (.int (x1)), (.int (x2)), (.int (x3)), (.int (x4)), (.int (x5))]), .inr (.int, [(.int (0)), (.int (0))]), .inl ("com/example/yorktown/yorktown/SymbolRules", [(("com/example/yorktown/yorktown/SymbolRules", "symbol", "Ljava/lang/String;"), (.retAddr x6)), (("com/example/yorktown/yorktown/SymbolRules", "arity", "I"), (.int (3))), (("com/example/yorktown/yorktown/SymbolRules", "children", "[I"), (.ref 0)), (("com/example/yorktown/yorktown/SymbolRules", "targets", "[I"), (.ref 1))])] ++ T)) := by
  show W l Z n m3 0 [(.val (.ref 2)), (.val (.int (1))), (.val (.int (1)))] [] ([.inr (.int, [(.int (x0)), (.int (x1)), (.int (x2)), (.int (x3)), (.int (x4)), (.int (x5))]), .inr (.int, [(.int (0)), (.int (0))]), .inl ("com/example/yorktown/yorktown/SymbolRules", [(("com/example/yorktown/yorktown/SymbolRules", "symbol", "Ljava/lang/String;"), (.retAddr x6)), (("com/example/yorktown/yorktown/SymbolRules", "arity", "I"), (.int (3))), (("com/example/yorktown/yorktown/SymbolRules", "children", "[I"), (.ref 0)), (("com/example/yorktown/yorktown/SymbolRules", "targets", "[I"), (.ref 1))])] ++ T) 0 0 _
  refine W.aloadN d3_0 rfl rfl ?_
  refine W.getfield 2 d3_1 (hw _ (wd 23 rfl)) rfl rfl ?_
  refine W.iloadN d3_4 rfl ?_
  refine W.aloadN d3_5 rfl rfl ?_
  refine W.getfield 1 d3_6 (hw _ (wd 21 rfl)) rfl rfl ?_
  refine W.imul d3_9 ?_
  refine W.iloadN d3_10 rfl ?_
  refine W.iadd d3_11 ?_
  refine W.iaload (i := 4) d3_12 rfl ⟨by decide, by decide⟩ rfl ?_
  exact W.ireturn d3_13 rfl (by decide) (by decide) (⟨rfl, rfl⟩)
set_option maxRecDepth 65536 in
set_option maxHeartbeats 40000000 in
theorem c3_13 {l : Launch} {Z : State} {a0 : Array Value} {n : Nat} (hw : ∀ d ∈ tables_1, d.before a0 Z = true) (x0 : Int32) (x1 : Int32) (x2 : Int32) (x3 : Int32) (x4 : Int32) (x5 : Int32) (x6 : Addr) (T : AHeap) : W l Z n m3 0 (entryL [(.ref 2), (.int (0)), (.int (2))] 3) [] ([.inr (.int, [(.int (x0)), (.int (x1)), (.int (x2)), (.int (x3)), (.int (x4)), (.int (x5))]), .inr (.int, [(.int (0)), (.int (0))]), .inl ("com/example/yorktown/yorktown/SymbolRules", [(("com/example/yorktown/yorktown/SymbolRules", "symbol", "Ljava/lang/String;"), (.retAddr x6)), (("com/example/yorktown/yorktown/SymbolRules", "arity", "I"), (.int (3))), (("com/example/yorktown/yorktown/SymbolRules", "children", "[I"), (.ref 0)), (("com/example/yorktown/yorktown/SymbolRules", "targets", "[I"), (.ref 1))])] ++ T) 0 0 (Is (some (.int (x2))) ([.inr (.int, [(.int (x0)), (.int (x1)), (.int (x2)), (.int (x3)), (.int (x4)), (.int (x5))]), .inr (.int, [(.int (0)), (.int (0))]), .inl ("com/example/yorktown/yorktown/SymbolRules", [(("com/example/yorktown/yorktown/SymbolRules", "symbol", "Ljava/lang/String;"), (.retAddr x6)), (("com/example/yorktown/yorktown/SymbolRules", "arity", "I"), (.int (3))), (("com/example/yorktown/yorktown/SymbolRules", "children", "[I"), (.ref 0)), (("com/example/yorktown/yorktown/SymbolRules", "targets", "[I"), (.ref 1))])] ++ T)) := by
  show W l Z n m3 0 [(.val (.ref 2)), (.val (.int (0))), (.val (.int (2)))] [] ([.inr (.int, [(.int (x0)), (.int (x1)), (.int (x2)), (.int (x3)), (.int (x4)), (.int (x5))]), .inr (.int, [(.int (0)), (.int (0))]), .inl ("com/example/yorktown/yorktown/SymbolRules", [(("com/example/yorktown/yorktown/SymbolRules", "symbol", "Ljava/lang/String;"), (.retAddr x6)), (("com/example/yorktown/yorktown/SymbolRules", "arity", "I"), (.int (3))), (("com/example/yorktown/yorktown/SymbolRules", "children", "[I"), (.ref 0)), (("com/example/yorktown/yorktown/SymbolRules", "targets", "[I"), (.ref 1))])] ++ T) 0 0 _
  refine W.aloadN d3_0 rfl rfl ?_
  refine W.getfield 2 d3_1 (hw _ (wd 23 rfl)) rfl rfl ?_
  refine W.iloadN d3_4 rfl ?_
  refine W.aloadN d3_5 rfl rfl ?_
  refine W.getfield 1 d3_6 (hw _ (wd 21 rfl)) rfl rfl ?_
  refine W.imul d3_9 ?_
  refine W.iloadN d3_10 rfl ?_
  refine W.iadd d3_11 ?_
  refine W.iaload (i := 2) d3_12 rfl ⟨by decide, by decide⟩ rfl ?_
  exact W.ireturn d3_13 rfl (by decide) (by decide) (⟨rfl, rfl⟩)
set_option maxRecDepth 65536 in
set_option maxHeartbeats 40000000 in
theorem c3_14 {l : Launch} {Z : State} {a0 : Array Value} {n : Nat} (hw : ∀ d ∈ tables_1, d.before a0 Z = true) (x0 : Int32) (x1 : Int32) (x2 : Int32) (x3 : Int32) (x4 : Int32) (x5 : Int32) (x6 : Addr) (T : AHeap) : W l Z n m3 0 (entryL [(.ref 2), (.int (1)), (.int (2))] 3) [] ([.inr (.int, [(.int (x0)), (.int (x1)), (.int (x2)), (.int (x3)), (.int (x4)), (.int (x5))]), .inr (.int, [(.int (0)), (.int (0))]), .inl ("com/example/yorktown/yorktown/SymbolRules", [(("com/example/yorktown/yorktown/SymbolRules", "symbol", "Ljava/lang/String;"), (.retAddr x6)), (("com/example/yorktown/yorktown/SymbolRules", "arity", "I"), (.int (3))), (("com/example/yorktown/yorktown/SymbolRules", "children", "[I"), (.ref 0)), (("com/example/yorktown/yorktown/SymbolRules", "targets", "[I"), (.ref 1))])] ++ T) 0 0 (Is (some (.int (x5))) ([.inr (.int, [(.int (x0)), (.int (x1)), (.int (x2)), (.int (x3)), (.int (x4)), (.int (x5))]), .inr (.int, [(.int (0)), (.int (0))]), .inl ("com/example/yorktown/yorktown/SymbolRules", [(("com/example/yorktown/yorktown/SymbolRules", "symbol", "Ljava/lang/String;"), (.retAddr x6)), (("com/example/yorktown/yorktown/SymbolRules", "arity", "I"), (.int (3))), (("com/example/yorktown/yorktown/SymbolRules", "children", "[I"), (.ref 0)), (("com/example/yorktown/yorktown/SymbolRules", "targets", "[I"), (.ref 1))])] ++ T)) := by
  show W l Z n m3 0 [(.val (.ref 2)), (.val (.int (1))), (.val (.int (2)))] [] ([.inr (.int, [(.int (x0)), (.int (x1)), (.int (x2)), (.int (x3)), (.int (x4)), (.int (x5))]), .inr (.int, [(.int (0)), (.int (0))]), .inl ("com/example/yorktown/yorktown/SymbolRules", [(("com/example/yorktown/yorktown/SymbolRules", "symbol", "Ljava/lang/String;"), (.retAddr x6)), (("com/example/yorktown/yorktown/SymbolRules", "arity", "I"), (.int (3))), (("com/example/yorktown/yorktown/SymbolRules", "children", "[I"), (.ref 0)), (("com/example/yorktown/yorktown/SymbolRules", "targets", "[I"), (.ref 1))])] ++ T) 0 0 _
  refine W.aloadN d3_0 rfl rfl ?_
  refine W.getfield 2 d3_1 (hw _ (wd 23 rfl)) rfl rfl ?_
  refine W.iloadN d3_4 rfl ?_
  refine W.aloadN d3_5 rfl rfl ?_
  refine W.getfield 1 d3_6 (hw _ (wd 21 rfl)) rfl rfl ?_
  refine W.imul d3_9 ?_
  refine W.iloadN d3_10 rfl ?_
  refine W.iadd d3_11 ?_
  refine W.iaload (i := 5) d3_12 rfl ⟨by decide, by decide⟩ rfl ?_
  exact W.ireturn d3_13 rfl (by decide) (by decide) (⟨rfl, rfl⟩)
set_option maxRecDepth 65536 in
set_option maxHeartbeats 40000000 in
theorem w_law {l : Launch} {Z : State} {a0 : Array Value} {n : Nat} (hw : ∀ d ∈ tables_1, d.before a0 Z = true) (p q0 s : Int64) (f : Int32) : WB true l Z n m0 0 (entryL [.long p, .long q0, .long s, .int f] 20) [] [] 0 0 (fun v _ => v = some (.int 1)) := by
  show WB true l Z n m0 0 [(.val (.long (p))), .second, (.val (.long (q0))), .second, (.val (.long (s))), .second, (.val (.int (f))), .unset, .unset, .unset, .unset, .unset, .unset, .unset, .unset, .unset, .unset, .unset, .unset, .unset] [] [] 0 0 _
  refine W.lloadN d0_0 rfl ?_
  refine W.l2i d0_1 ?_
  refine W.istore d0_2 rfl ?_
  refine W.lloadN d0_4 rfl ?_
  refine W.bipush 32 d0_5 rfl ?_
  refine W.lushr d0_7 ?_
  refine W.l2i d0_8 ?_
  refine W.istore d0_9 rfl ?_
  refine W.lloadN d0_11 rfl ?_
  refine W.l2i d0_12 ?_
  refine W.istore d0_13 rfl ?_
  refine W.lloadN d0_15 rfl ?_
  refine W.bipush 32 d0_16 rfl ?_
  refine W.lushr d0_18 ?_
  refine W.l2i d0_19 ?_
  refine W.istore d0_20 rfl ?_
  show WB _ l Z n m0 22 [(.val (.long (p))), .second, (.val (.long (q0))), .second, (.val (.long (s))), .second, (.val (.int (f))), (.val (.int (p.toInt32))), (.val (.int ((XT.ushrL p 32).toInt32))), (.val (.int (q0.toInt32))), (.val (.int ((XT.ushrL q0 32).toInt32))), .unset, .unset, .unset, .unset, .unset, .unset, .unset, .unset, .unset] [] [] _ _ _
  refine W.lload d0_22 rfl ?_
  refine W.l2i d0_24 ?_
  refine W.istore d0_25 rfl ?_
  refine W.lload d0_27 rfl ?_
  refine W.bipush 32 d0_29 rfl ?_
  refine W.lushr d0_31 ?_
  refine W.l2i d0_32 ?_
  refine W.istore d0_33 rfl ?_
  refine W.iconst 1 d0_35 rfl ?_
  refine W.iload d0_36 rfl ?_
  refine W.ldc d0_38 (hw _ (wd 0 rfl)) ?_
  refine W.iand d0_40 ?_
  refine W.iconst 3 d0_41 rfl ?_
  refine W.irem d0_42 (by decide) ?_
  rcases own_p f with q | q | q
  · rw [q]
    refine W.iadd d0_43 ?_
    refine W.istore d0_44 rfl ?_
    refine W.bipush 6 d0_46 rfl ?_
    refine W.newarray (N := 0) (cnt := 6) (cap := 6) d0_48 (hw _ (wd 1 rfl)) ⟨by decide, by decide⟩ rfl (Nat.le_refl _) (by decide) (by decide) (by decide) ?_
    show WB _ l Z n m0 50 [(.val (.long (p))), .second, (.val (.long (q0))), .second, (.val (.long (s))), .second, (.val (.int (f))), (.val (.int (p.toInt32))), (.val (.int ((XT.ushrL p 32).toInt32))), (.val (.int (q0.toInt32))), (.val (.int ((XT.ushrL q0 32).toInt32))), (.val (.int (s.toInt32))), (.val (.int ((XT.ushrL s 32).toInt32))), (.val (.int (1 + 0))), .unset, .unset, .unset, .unset, .unset, .unset] [(.ref 0)] [.inr (.int, [(.int (0)), (.int (0)), (.int (0)), (.int (0)), (.int (0)), (.int (0))])] _ _ _
    refine W.dup d0_50 rfl ?_
    refine W.iconst 0 d0_51 rfl ?_
    refine W.iload d0_52 rfl ?_
    refine W.iastore (i := 0) d0_54 rfl ⟨by decide, by decide⟩ (by simp) ?_
    refine W.dup d0_55 rfl ?_
    refine W.iconst 1 d0_56 rfl ?_
    refine W.iload d0_57 rfl ?_
    refine W.iastore (i := 1) d0_59 rfl ⟨by decide, by decide⟩ (by simp) ?_
    refine W.dup d0_60 rfl ?_
    refine W.iconst 2 d0_61 rfl ?_
    refine W.iload d0_62 rfl ?_
    refine W.iastore (i := 2) d0_64 rfl ⟨by decide, by decide⟩ (by simp) ?_
    refine W.dup d0_65 rfl ?_
    refine W.iconst 3 d0_66 rfl ?_
    refine W.iload d0_67 rfl ?_
    refine W.iastore (i := 3) d0_69 rfl ⟨by decide, by decide⟩ (by simp) ?_
    show WB _ l Z n m0 70 [(.val (.long (p))), .second, (.val (.long (q0))), .second, (.val (.long (s))), .second, (.val (.int (f))), (.val (.int (p.toInt32))), (.val (.int ((XT.ushrL p 32).toInt32))), (.val (.int (q0.toInt32))), (.val (.int ((XT.ushrL q0 32).toInt32))), (.val (.int (s.toInt32))), (.val (.int ((XT.ushrL s 32).toInt32))), (.val (.int (1 + 0))), .unset, .unset, .unset, .unset, .unset, .unset] [(.ref 0)] [.inr (.int, [(.int (p.toInt32)), (.int ((XT.ushrL p 32).toInt32)), (.int (q0.toInt32)), (.int ((XT.ushrL q0 32).toInt32)), (.int (0)), (.int (0))])] _ _ _
    refine W.dup d0_70 rfl ?_
    refine W.iconst 4 d0_71 rfl ?_
    refine W.iload d0_72 rfl ?_
    refine W.iastore (i := 4) d0_74 rfl ⟨by decide, by decide⟩ (by simp) ?_
    refine W.dup d0_75 rfl ?_
    refine W.iconst 5 d0_76 rfl ?_
    refine W.iload d0_77 rfl ?_
    refine W.iastore (i := 5) d0_79 rfl ⟨by decide, by decide⟩ (by simp) ?_
    refine W.astore d0_80 rfl rfl ?_
    refine W.iconst 2 d0_82 rfl ?_
    refine W.newarray (N := 1) (cnt := 2) (cap := 2) d0_83 (hw _ (wd 1 rfl)) ⟨by decide, by decide⟩ rfl (Nat.le_refl _) (by decide) (by decide) (by decide) ?_
    show WB _ l Z n m0 85 [(.val (.long (p))), .second, (.val (.long (q0))), .second, (.val (.long (s))), .second, (.val (.int (f))), (.val (.int (p.toInt32))), (.val (.int ((XT.ushrL p 32).toInt32))), (.val (.int (q0.toInt32))), (.val (.int ((XT.ushrL q0 32).toInt32))), (.val (.int (s.toInt32))), (.val (.int ((XT.ushrL s 32).toInt32))), (.val (.int (1 + 0))), (.val (.ref 0)), .unset, .unset, .unset, .unset, .unset] [(.ref 1)] [.inr (.int, [(.int (p.toInt32)), (.int ((XT.ushrL p 32).toInt32)), (.int (q0.toInt32)), (.int ((XT.ushrL q0 32).toInt32)), (.int (s.toInt32)), (.int ((XT.ushrL s 32).toInt32))]), .inr (.int, [(.int (0)), (.int (0))])] _ _ _
    refine W.astore d0_85 rfl rfl ?_
    refine W.new (N := 2) d0_87 (hw _ (wd 2 rfl)) (okc0 hw) rfl (by decide) (by decide) ?_
    refine W.dup d0_90 rfl ?_
    refine W.ldcStr (nn := 64) d0_91 (hw _ (wd 5 rfl)) (own_wS hw) (by decide) (by decide) (by decide) (by decide) ?_
    intro a d
    refine W.iload d0_93 rfl ?_
    refine W.aload d0_95 rfl rfl ?_
    refine W.aload d0_97 rfl rfl ?_
    refine W.initN (M' := m1) d0_99 rfl rfl (hw _ (wd 13 rfl)) (hw _ (wd 14 rfl)) (c1_0 hw a p.toInt32 ((XT.ushrL p 32).toInt32) q0.toInt32 ((XT.ushrL q0 32).toInt32) s.toInt32 ((XT.ushrL s 32).toInt32) (List.replicate d junk)) (ok1 hw) rfl rfl rfl ?_
    refine W.astore d0_102 rfl rfl ?_
    refine W.aload d0_104 rfl rfl ?_
    refine W.iconst 0 d0_106 rfl ?_
    refine W.iconst 0 d0_107 rfl ?_
    refine W.callvV (M' := m3) d0_108 (hw _ (wd 27 rfl)) (hw _ (wd 28 rfl)) (hw _ (wd 29 rfl)) (hw _ (wd 30 rfl)) (c3_1 hw p.toInt32 ((XT.ushrL p 32).toInt32) q0.toInt32 ((XT.ushrL q0 32).toInt32) s.toInt32 ((XT.ushrL s 32).toInt32) a (List.replicate d junk)) (ok3 hw) rfl rfl rfl rfl ?_
    refine W.iload d0_111 rfl ?_
    refine W.icmp_ne d0_113 (fun h => False.elim (h rfl)) (fun h113 => ?_)
    refine W.iconst 1 d0_116 rfl ?_
    refine W.goto d0_117 ?_
    refine W.istore d0_121 rfl ?_
    show WB _ l Z n m0 123 [(.val (.long (p))), .second, (.val (.long (q0))), .second, (.val (.long (s))), .second, (.val (.int (f))), (.val (.int (p.toInt32))), (.val (.int ((XT.ushrL p 32).toInt32))), (.val (.int (q0.toInt32))), (.val (.int ((XT.ushrL q0 32).toInt32))), (.val (.int (s.toInt32))), (.val (.int ((XT.ushrL s 32).toInt32))), (.val (.int (1 + 0))), (.val (.ref 0)), (.val (.ref 1)), (.val (.ref 2)), (.val (.int (1))), .unset, .unset] [] ([.inr (.int, [(.int (p.toInt32)), (.int (((XT.ushrL p 32).toInt32))), (.int (q0.toInt32)), (.int (((XT.ushrL q0 32).toInt32))), (.int (s.toInt32)), (.int (((XT.ushrL s 32).toInt32)))]), .inr (.int, [(.int (0)), (.int (0))]), .inl ("com/example/yorktown/yorktown/SymbolRules", [(("com/example/yorktown/yorktown/SymbolRules", "symbol", "Ljava/lang/String;"), (.retAddr a)), (("com/example/yorktown/yorktown/SymbolRules", "arity", "I"), (.int (1))), (("com/example/yorktown/yorktown/SymbolRules", "children", "[I"), (.ref 0)), (("com/example/yorktown/yorktown/SymbolRules", "targets", "[I"), (.ref 1))])] ++ List.replicate d junk) _ _ _
    refine W.iload d0_123 rfl ?_
    refine W.iconst 1 d0_125 rfl ?_
    refine W.icmp_ne d0_126 (fun h => False.elim (by revert h; decide)) (fun h126 => ?_)
    refine W.iload d0_129 rfl ?_
    refine W.istore d0_131 rfl ?_
    refine W.goto d0_133 ?_
    refine W.iload d0_153 rfl ?_
    refine W.if_eq d0_155 (fun h => False.elim (by revert h; decide)) (fun h155 => ?_)
    refine W.aload d0_158 rfl rfl ?_
    refine W.iconst 1 d0_160 rfl ?_
    refine W.iconst 0 d0_161 rfl ?_
    refine W.callvV (M' := m3) d0_162 (hw _ (wd 27 rfl)) (hw _ (wd 28 rfl)) (hw _ (wd 29 rfl)) (hw _ (wd 30 rfl)) (c3_2 hw p.toInt32 ((XT.ushrL p 32).toInt32) q0.toInt32 ((XT.ushrL q0 32).toInt32) s.toInt32 ((XT.ushrL s 32).toInt32) a (List.replicate d junk)) (ok3 hw) rfl rfl rfl rfl ?_
    refine W.iload d0_165 rfl ?_
    refine W.icmp_ne d0_167 (fun h => False.elim (h rfl)) (fun h167 => ?_)
    refine W.iconst 1 d0_170 rfl ?_
    refine W.goto d0_171 ?_
    refine W.istore d0_175 rfl ?_
    refine W.iload d0_177 rfl ?_
    refine W.iconst 2 d0_179 rfl ?_
    refine W.icmp_lt d0_180 (fun h180 => ?_) (fun h => False.elim (by revert h; decide))
    refine W.iload d0_248 rfl ?_
    refine W.iconst 3 d0_250 rfl ?_
    refine W.icmp_ne d0_251 (fun h251 => ?_) (fun h => False.elim (by revert h; decide))
    refine W.iload d0_302 rfl ?_
    exact W.nreturn .boolean d0_304 rfl (by simp) (by decide) (by decide) (⟨rfl, by first | (simp; done) | (simp; omega)⟩)
  · rw [q]
    refine W.iadd d0_43 ?_
    refine W.istore d0_44 rfl ?_
    refine W.bipush 6 d0_46 rfl ?_
    refine W.newarray (N := 0) (cnt := 6) (cap := 6) d0_48 (hw _ (wd 1 rfl)) ⟨by decide, by decide⟩ rfl (Nat.le_refl _) (by decide) (by decide) (by decide) ?_
    show WB _ l Z n m0 50 [(.val (.long (p))), .second, (.val (.long (q0))), .second, (.val (.long (s))), .second, (.val (.int (f))), (.val (.int (p.toInt32))), (.val (.int ((XT.ushrL p 32).toInt32))), (.val (.int (q0.toInt32))), (.val (.int ((XT.ushrL q0 32).toInt32))), (.val (.int (s.toInt32))), (.val (.int ((XT.ushrL s 32).toInt32))), (.val (.int (1 + 1))), .unset, .unset, .unset, .unset, .unset, .unset] [(.ref 0)] [.inr (.int, [(.int (0)), (.int (0)), (.int (0)), (.int (0)), (.int (0)), (.int (0))])] _ _ _
    refine W.dup d0_50 rfl ?_
    refine W.iconst 0 d0_51 rfl ?_
    refine W.iload d0_52 rfl ?_
    refine W.iastore (i := 0) d0_54 rfl ⟨by decide, by decide⟩ (by simp) ?_
    refine W.dup d0_55 rfl ?_
    refine W.iconst 1 d0_56 rfl ?_
    refine W.iload d0_57 rfl ?_
    refine W.iastore (i := 1) d0_59 rfl ⟨by decide, by decide⟩ (by simp) ?_
    refine W.dup d0_60 rfl ?_
    refine W.iconst 2 d0_61 rfl ?_
    refine W.iload d0_62 rfl ?_
    refine W.iastore (i := 2) d0_64 rfl ⟨by decide, by decide⟩ (by simp) ?_
    refine W.dup d0_65 rfl ?_
    refine W.iconst 3 d0_66 rfl ?_
    refine W.iload d0_67 rfl ?_
    refine W.iastore (i := 3) d0_69 rfl ⟨by decide, by decide⟩ (by simp) ?_
    show WB _ l Z n m0 70 [(.val (.long (p))), .second, (.val (.long (q0))), .second, (.val (.long (s))), .second, (.val (.int (f))), (.val (.int (p.toInt32))), (.val (.int ((XT.ushrL p 32).toInt32))), (.val (.int (q0.toInt32))), (.val (.int ((XT.ushrL q0 32).toInt32))), (.val (.int (s.toInt32))), (.val (.int ((XT.ushrL s 32).toInt32))), (.val (.int (1 + 1))), .unset, .unset, .unset, .unset, .unset, .unset] [(.ref 0)] [.inr (.int, [(.int (p.toInt32)), (.int ((XT.ushrL p 32).toInt32)), (.int (q0.toInt32)), (.int ((XT.ushrL q0 32).toInt32)), (.int (0)), (.int (0))])] _ _ _
    refine W.dup d0_70 rfl ?_
    refine W.iconst 4 d0_71 rfl ?_
    refine W.iload d0_72 rfl ?_
    refine W.iastore (i := 4) d0_74 rfl ⟨by decide, by decide⟩ (by simp) ?_
    refine W.dup d0_75 rfl ?_
    refine W.iconst 5 d0_76 rfl ?_
    refine W.iload d0_77 rfl ?_
    refine W.iastore (i := 5) d0_79 rfl ⟨by decide, by decide⟩ (by simp) ?_
    refine W.astore d0_80 rfl rfl ?_
    refine W.iconst 2 d0_82 rfl ?_
    refine W.newarray (N := 1) (cnt := 2) (cap := 2) d0_83 (hw _ (wd 1 rfl)) ⟨by decide, by decide⟩ rfl (Nat.le_refl _) (by decide) (by decide) (by decide) ?_
    show WB _ l Z n m0 85 [(.val (.long (p))), .second, (.val (.long (q0))), .second, (.val (.long (s))), .second, (.val (.int (f))), (.val (.int (p.toInt32))), (.val (.int ((XT.ushrL p 32).toInt32))), (.val (.int (q0.toInt32))), (.val (.int ((XT.ushrL q0 32).toInt32))), (.val (.int (s.toInt32))), (.val (.int ((XT.ushrL s 32).toInt32))), (.val (.int (1 + 1))), (.val (.ref 0)), .unset, .unset, .unset, .unset, .unset] [(.ref 1)] [.inr (.int, [(.int (p.toInt32)), (.int ((XT.ushrL p 32).toInt32)), (.int (q0.toInt32)), (.int ((XT.ushrL q0 32).toInt32)), (.int (s.toInt32)), (.int ((XT.ushrL s 32).toInt32))]), .inr (.int, [(.int (0)), (.int (0))])] _ _ _
    refine W.astore d0_85 rfl rfl ?_
    refine W.new (N := 2) d0_87 (hw _ (wd 2 rfl)) (okc0 hw) rfl (by decide) (by decide) ?_
    refine W.dup d0_90 rfl ?_
    refine W.ldcStr (nn := 64) d0_91 (hw _ (wd 5 rfl)) (own_wS hw) (by decide) (by decide) (by decide) (by decide) ?_
    intro a d
    refine W.iload d0_93 rfl ?_
    refine W.aload d0_95 rfl rfl ?_
    refine W.aload d0_97 rfl rfl ?_
    refine W.initN (M' := m1) d0_99 rfl rfl (hw _ (wd 13 rfl)) (hw _ (wd 14 rfl)) (c1_3 hw a p.toInt32 ((XT.ushrL p 32).toInt32) q0.toInt32 ((XT.ushrL q0 32).toInt32) s.toInt32 ((XT.ushrL s 32).toInt32) (List.replicate d junk)) (ok1 hw) rfl rfl rfl ?_
    refine W.astore d0_102 rfl rfl ?_
    refine W.aload d0_104 rfl rfl ?_
    refine W.iconst 0 d0_106 rfl ?_
    refine W.iconst 0 d0_107 rfl ?_
    refine W.callvV (M' := m3) d0_108 (hw _ (wd 27 rfl)) (hw _ (wd 28 rfl)) (hw _ (wd 29 rfl)) (hw _ (wd 30 rfl)) (c3_4 hw p.toInt32 ((XT.ushrL p 32).toInt32) q0.toInt32 ((XT.ushrL q0 32).toInt32) s.toInt32 ((XT.ushrL s 32).toInt32) a (List.replicate d junk)) (ok3 hw) rfl rfl rfl rfl ?_
    refine W.iload d0_111 rfl ?_
    refine W.icmp_ne d0_113 (fun h => False.elim (h rfl)) (fun h113 => ?_)
    refine W.iconst 1 d0_116 rfl ?_
    refine W.goto d0_117 ?_
    refine W.istore d0_121 rfl ?_
    show WB _ l Z n m0 123 [(.val (.long (p))), .second, (.val (.long (q0))), .second, (.val (.long (s))), .second, (.val (.int (f))), (.val (.int (p.toInt32))), (.val (.int ((XT.ushrL p 32).toInt32))), (.val (.int (q0.toInt32))), (.val (.int ((XT.ushrL q0 32).toInt32))), (.val (.int (s.toInt32))), (.val (.int ((XT.ushrL s 32).toInt32))), (.val (.int (1 + 1))), (.val (.ref 0)), (.val (.ref 1)), (.val (.ref 2)), (.val (.int (1))), .unset, .unset] [] ([.inr (.int, [(.int (p.toInt32)), (.int (((XT.ushrL p 32).toInt32))), (.int (q0.toInt32)), (.int (((XT.ushrL q0 32).toInt32))), (.int (s.toInt32)), (.int (((XT.ushrL s 32).toInt32)))]), .inr (.int, [(.int (0)), (.int (0))]), .inl ("com/example/yorktown/yorktown/SymbolRules", [(("com/example/yorktown/yorktown/SymbolRules", "symbol", "Ljava/lang/String;"), (.retAddr a)), (("com/example/yorktown/yorktown/SymbolRules", "arity", "I"), (.int (2))), (("com/example/yorktown/yorktown/SymbolRules", "children", "[I"), (.ref 0)), (("com/example/yorktown/yorktown/SymbolRules", "targets", "[I"), (.ref 1))])] ++ List.replicate d junk) _ _ _
    refine W.iload d0_123 rfl ?_
    refine W.iconst 1 d0_125 rfl ?_
    refine W.icmp_ne d0_126 (fun h126 => ?_) (fun h => False.elim (by revert h; decide))
    refine W.iload d0_136 rfl ?_
    refine W.iconst 2 d0_138 rfl ?_
    refine W.icmp_ne d0_139 (fun h => False.elim (by revert h; decide)) (fun h139 => ?_)
    refine W.iload d0_142 rfl ?_
    refine W.istore d0_144 rfl ?_
    refine W.goto d0_146 ?_
    refine W.iload d0_153 rfl ?_
    refine W.if_eq d0_155 (fun h => False.elim (by revert h; decide)) (fun h155 => ?_)
    refine W.aload d0_158 rfl rfl ?_
    refine W.iconst 1 d0_160 rfl ?_
    refine W.iconst 0 d0_161 rfl ?_
    refine W.callvV (M' := m3) d0_162 (hw _ (wd 27 rfl)) (hw _ (wd 28 rfl)) (hw _ (wd 29 rfl)) (hw _ (wd 30 rfl)) (c3_5 hw p.toInt32 ((XT.ushrL p 32).toInt32) q0.toInt32 ((XT.ushrL q0 32).toInt32) s.toInt32 ((XT.ushrL s 32).toInt32) a (List.replicate d junk)) (ok3 hw) rfl rfl rfl rfl ?_
    refine W.iload d0_165 rfl ?_
    refine W.icmp_ne d0_167 (fun h => False.elim (h rfl)) (fun h167 => ?_)
    refine W.iconst 1 d0_170 rfl ?_
    refine W.goto d0_171 ?_
    refine W.istore d0_175 rfl ?_
    refine W.iload d0_177 rfl ?_
    refine W.iconst 2 d0_179 rfl ?_
    refine W.icmp_lt d0_180 (fun h => False.elim (by revert h; decide)) (fun h180 => ?_)
    refine W.iload d0_183 rfl ?_
    refine W.if_eq d0_185 (fun h => False.elim (by revert h; decide)) (fun h185 => ?_)
    refine W.aload d0_188 rfl rfl ?_
    refine W.iconst 0 d0_190 rfl ?_
    refine W.iconst 1 d0_191 rfl ?_
    refine W.callvV (M' := m3) d0_192 (hw _ (wd 27 rfl)) (hw _ (wd 28 rfl)) (hw _ (wd 29 rfl)) (hw _ (wd 30 rfl)) (c3_6 hw p.toInt32 ((XT.ushrL p 32).toInt32) q0.toInt32 ((XT.ushrL q0 32).toInt32) s.toInt32 ((XT.ushrL s 32).toInt32) a (List.replicate d junk)) (ok3 hw) rfl rfl rfl rfl ?_
    refine W.iload d0_195 rfl ?_
    refine W.icmp_ne d0_197 (fun h => False.elim (h rfl)) (fun h197 => ?_)
    refine W.iconst 1 d0_200 rfl ?_
    refine W.goto d0_201 ?_
    refine W.istore d0_205 rfl ?_
    refine W.iload d0_207 rfl ?_
    refine W.iconst 2 d0_209 rfl ?_
    refine W.icmp_ne d0_210 (fun h => False.elim (by revert h; decide)) (fun h210 => ?_)
    refine W.iload d0_213 rfl ?_
    refine W.istore d0_215 rfl ?_
    show WB _ l Z n m0 217 [(.val (.long (p))), .second, (.val (.long (q0))), .second, (.val (.long (s))), .second, (.val (.int (f))), (.val (.int (p.toInt32))), (.val (.int ((XT.ushrL p 32).toInt32))), (.val (.int (q0.toInt32))), (.val (.int ((XT.ushrL q0 32).toInt32))), (.val (.int (s.toInt32))), (.val (.int ((XT.ushrL s 32).toInt32))), (.val (.int (1 + 1))), (.val (.ref 0)), (.val (.ref 1)), (.val (.ref 2)), (.val (.int (1))), (.val (.int (q0.toInt32))), (.val (.int ((XT.ushrL q0 32).toInt32)))] [] ([.inr (.int, [(.int (p.toInt32)), (.int (((XT.ushrL p 32).toInt32))), (.int (q0.toInt32)), (.int (((XT.ushrL q0 32).toInt32))), (.int (s.toInt32)), (.int (((XT.ushrL s 32).toInt32)))]), .inr (.int, [(.int (0)), (.int (0))]), .inl ("com/example/yorktown/yorktown/SymbolRules", [(("com/example/yorktown/yorktown/SymbolRules", "symbol", "Ljava/lang/String;"), (.retAddr a)), (("com/example/yorktown/yorktown/SymbolRules", "arity", "I"), (.int (2))), (("com/example/yorktown/yorktown/SymbolRules", "children", "[I"), (.ref 0)), (("com/example/yorktown/yorktown/SymbolRules", "targets", "[I"), (.ref 1))])] ++ List.replicate d junk) _ _ _
    refine W.goto d0_217 ?_
    refine W.iload d0_224 rfl ?_
    refine W.if_eq d0_226 (fun h => False.elim (by revert h; decide)) (fun h226 => ?_)
    refine W.aload d0_229 rfl rfl ?_
    refine W.iconst 1 d0_231 rfl ?_
    refine W.iconst 1 d0_232 rfl ?_
    refine W.callvV (M' := m3) d0_233 (hw _ (wd 27 rfl)) (hw _ (wd 28 rfl)) (hw _ (wd 29 rfl)) (hw _ (wd 30 rfl)) (c3_7 hw p.toInt32 ((XT.ushrL p 32).toInt32) q0.toInt32 ((XT.ushrL q0 32).toInt32) s.toInt32 ((XT.ushrL s 32).toInt32) a (List.replicate d junk)) (ok3 hw) rfl rfl rfl rfl ?_
    refine W.iload d0_236 rfl ?_
    refine W.icmp_ne d0_238 (fun h => False.elim (h rfl)) (fun h238 => ?_)
    refine W.iconst 1 d0_241 rfl ?_
    refine W.goto d0_242 ?_
    refine W.istore d0_246 rfl ?_
    refine W.iload d0_248 rfl ?_
    refine W.iconst 3 d0_250 rfl ?_
    refine W.icmp_ne d0_251 (fun h251 => ?_) (fun h => False.elim (by revert h; decide))
    refine W.iload d0_302 rfl ?_
    exact W.nreturn .boolean d0_304 rfl (by simp) (by decide) (by decide) (⟨rfl, by first | (simp; done) | (simp; omega)⟩)
  · rw [q]
    refine W.iadd d0_43 ?_
    refine W.istore d0_44 rfl ?_
    refine W.bipush 6 d0_46 rfl ?_
    refine W.newarray (N := 0) (cnt := 6) (cap := 6) d0_48 (hw _ (wd 1 rfl)) ⟨by decide, by decide⟩ rfl (Nat.le_refl _) (by decide) (by decide) (by decide) ?_
    show WB _ l Z n m0 50 [(.val (.long (p))), .second, (.val (.long (q0))), .second, (.val (.long (s))), .second, (.val (.int (f))), (.val (.int (p.toInt32))), (.val (.int ((XT.ushrL p 32).toInt32))), (.val (.int (q0.toInt32))), (.val (.int ((XT.ushrL q0 32).toInt32))), (.val (.int (s.toInt32))), (.val (.int ((XT.ushrL s 32).toInt32))), (.val (.int (1 + 2))), .unset, .unset, .unset, .unset, .unset, .unset] [(.ref 0)] [.inr (.int, [(.int (0)), (.int (0)), (.int (0)), (.int (0)), (.int (0)), (.int (0))])] _ _ _
    refine W.dup d0_50 rfl ?_
    refine W.iconst 0 d0_51 rfl ?_
    refine W.iload d0_52 rfl ?_
    refine W.iastore (i := 0) d0_54 rfl ⟨by decide, by decide⟩ (by simp) ?_
    refine W.dup d0_55 rfl ?_
    refine W.iconst 1 d0_56 rfl ?_
    refine W.iload d0_57 rfl ?_
    refine W.iastore (i := 1) d0_59 rfl ⟨by decide, by decide⟩ (by simp) ?_
    refine W.dup d0_60 rfl ?_
    refine W.iconst 2 d0_61 rfl ?_
    refine W.iload d0_62 rfl ?_
    refine W.iastore (i := 2) d0_64 rfl ⟨by decide, by decide⟩ (by simp) ?_
    refine W.dup d0_65 rfl ?_
    refine W.iconst 3 d0_66 rfl ?_
    refine W.iload d0_67 rfl ?_
    refine W.iastore (i := 3) d0_69 rfl ⟨by decide, by decide⟩ (by simp) ?_
    show WB _ l Z n m0 70 [(.val (.long (p))), .second, (.val (.long (q0))), .second, (.val (.long (s))), .second, (.val (.int (f))), (.val (.int (p.toInt32))), (.val (.int ((XT.ushrL p 32).toInt32))), (.val (.int (q0.toInt32))), (.val (.int ((XT.ushrL q0 32).toInt32))), (.val (.int (s.toInt32))), (.val (.int ((XT.ushrL s 32).toInt32))), (.val (.int (1 + 2))), .unset, .unset, .unset, .unset, .unset, .unset] [(.ref 0)] [.inr (.int, [(.int (p.toInt32)), (.int ((XT.ushrL p 32).toInt32)), (.int (q0.toInt32)), (.int ((XT.ushrL q0 32).toInt32)), (.int (0)), (.int (0))])] _ _ _
    refine W.dup d0_70 rfl ?_
    refine W.iconst 4 d0_71 rfl ?_
    refine W.iload d0_72 rfl ?_
    refine W.iastore (i := 4) d0_74 rfl ⟨by decide, by decide⟩ (by simp) ?_
    refine W.dup d0_75 rfl ?_
    refine W.iconst 5 d0_76 rfl ?_
    refine W.iload d0_77 rfl ?_
    refine W.iastore (i := 5) d0_79 rfl ⟨by decide, by decide⟩ (by simp) ?_
    refine W.astore d0_80 rfl rfl ?_
    refine W.iconst 2 d0_82 rfl ?_
    refine W.newarray (N := 1) (cnt := 2) (cap := 2) d0_83 (hw _ (wd 1 rfl)) ⟨by decide, by decide⟩ rfl (Nat.le_refl _) (by decide) (by decide) (by decide) ?_
    show WB _ l Z n m0 85 [(.val (.long (p))), .second, (.val (.long (q0))), .second, (.val (.long (s))), .second, (.val (.int (f))), (.val (.int (p.toInt32))), (.val (.int ((XT.ushrL p 32).toInt32))), (.val (.int (q0.toInt32))), (.val (.int ((XT.ushrL q0 32).toInt32))), (.val (.int (s.toInt32))), (.val (.int ((XT.ushrL s 32).toInt32))), (.val (.int (1 + 2))), (.val (.ref 0)), .unset, .unset, .unset, .unset, .unset] [(.ref 1)] [.inr (.int, [(.int (p.toInt32)), (.int ((XT.ushrL p 32).toInt32)), (.int (q0.toInt32)), (.int ((XT.ushrL q0 32).toInt32)), (.int (s.toInt32)), (.int ((XT.ushrL s 32).toInt32))]), .inr (.int, [(.int (0)), (.int (0))])] _ _ _
    refine W.astore d0_85 rfl rfl ?_
    refine W.new (N := 2) d0_87 (hw _ (wd 2 rfl)) (okc0 hw) rfl (by decide) (by decide) ?_
    refine W.dup d0_90 rfl ?_
    refine W.ldcStr (nn := 64) d0_91 (hw _ (wd 5 rfl)) (own_wS hw) (by decide) (by decide) (by decide) (by decide) ?_
    intro a d
    refine W.iload d0_93 rfl ?_
    refine W.aload d0_95 rfl rfl ?_
    refine W.aload d0_97 rfl rfl ?_
    refine W.initN (M' := m1) d0_99 rfl rfl (hw _ (wd 13 rfl)) (hw _ (wd 14 rfl)) (c1_8 hw a p.toInt32 ((XT.ushrL p 32).toInt32) q0.toInt32 ((XT.ushrL q0 32).toInt32) s.toInt32 ((XT.ushrL s 32).toInt32) (List.replicate d junk)) (ok1 hw) rfl rfl rfl ?_
    refine W.astore d0_102 rfl rfl ?_
    refine W.aload d0_104 rfl rfl ?_
    refine W.iconst 0 d0_106 rfl ?_
    refine W.iconst 0 d0_107 rfl ?_
    refine W.callvV (M' := m3) d0_108 (hw _ (wd 27 rfl)) (hw _ (wd 28 rfl)) (hw _ (wd 29 rfl)) (hw _ (wd 30 rfl)) (c3_9 hw p.toInt32 ((XT.ushrL p 32).toInt32) q0.toInt32 ((XT.ushrL q0 32).toInt32) s.toInt32 ((XT.ushrL s 32).toInt32) a (List.replicate d junk)) (ok3 hw) rfl rfl rfl rfl ?_
    refine W.iload d0_111 rfl ?_
    refine W.icmp_ne d0_113 (fun h => False.elim (h rfl)) (fun h113 => ?_)
    refine W.iconst 1 d0_116 rfl ?_
    refine W.goto d0_117 ?_
    refine W.istore d0_121 rfl ?_
    show WB _ l Z n m0 123 [(.val (.long (p))), .second, (.val (.long (q0))), .second, (.val (.long (s))), .second, (.val (.int (f))), (.val (.int (p.toInt32))), (.val (.int ((XT.ushrL p 32).toInt32))), (.val (.int (q0.toInt32))), (.val (.int ((XT.ushrL q0 32).toInt32))), (.val (.int (s.toInt32))), (.val (.int ((XT.ushrL s 32).toInt32))), (.val (.int (1 + 2))), (.val (.ref 0)), (.val (.ref 1)), (.val (.ref 2)), (.val (.int (1))), .unset, .unset] [] ([.inr (.int, [(.int (p.toInt32)), (.int (((XT.ushrL p 32).toInt32))), (.int (q0.toInt32)), (.int (((XT.ushrL q0 32).toInt32))), (.int (s.toInt32)), (.int (((XT.ushrL s 32).toInt32)))]), .inr (.int, [(.int (0)), (.int (0))]), .inl ("com/example/yorktown/yorktown/SymbolRules", [(("com/example/yorktown/yorktown/SymbolRules", "symbol", "Ljava/lang/String;"), (.retAddr a)), (("com/example/yorktown/yorktown/SymbolRules", "arity", "I"), (.int (3))), (("com/example/yorktown/yorktown/SymbolRules", "children", "[I"), (.ref 0)), (("com/example/yorktown/yorktown/SymbolRules", "targets", "[I"), (.ref 1))])] ++ List.replicate d junk) _ _ _
    refine W.iload d0_123 rfl ?_
    refine W.iconst 1 d0_125 rfl ?_
    refine W.icmp_ne d0_126 (fun h126 => ?_) (fun h => False.elim (by revert h; decide))
    refine W.iload d0_136 rfl ?_
    refine W.iconst 2 d0_138 rfl ?_
    refine W.icmp_ne d0_139 (fun h139 => ?_) (fun h => False.elim (by revert h; decide))
    refine W.iload d0_149 rfl ?_
    refine W.istore d0_151 rfl ?_
    refine W.iload d0_153 rfl ?_
    refine W.if_eq d0_155 (fun h => False.elim (by revert h; decide)) (fun h155 => ?_)
    refine W.aload d0_158 rfl rfl ?_
    refine W.iconst 1 d0_160 rfl ?_
    refine W.iconst 0 d0_161 rfl ?_
    refine W.callvV (M' := m3) d0_162 (hw _ (wd 27 rfl)) (hw _ (wd 28 rfl)) (hw _ (wd 29 rfl)) (hw _ (wd 30 rfl)) (c3_10 hw p.toInt32 ((XT.ushrL p 32).toInt32) q0.toInt32 ((XT.ushrL q0 32).toInt32) s.toInt32 ((XT.ushrL s 32).toInt32) a (List.replicate d junk)) (ok3 hw) rfl rfl rfl rfl ?_
    refine W.iload d0_165 rfl ?_
    refine W.icmp_ne d0_167 (fun h => False.elim (h rfl)) (fun h167 => ?_)
    refine W.iconst 1 d0_170 rfl ?_
    refine W.goto d0_171 ?_
    refine W.istore d0_175 rfl ?_
    refine W.iload d0_177 rfl ?_
    refine W.iconst 2 d0_179 rfl ?_
    refine W.icmp_lt d0_180 (fun h => False.elim (by revert h; decide)) (fun h180 => ?_)
    refine W.iload d0_183 rfl ?_
    refine W.if_eq d0_185 (fun h => False.elim (by revert h; decide)) (fun h185 => ?_)
    refine W.aload d0_188 rfl rfl ?_
    refine W.iconst 0 d0_190 rfl ?_
    refine W.iconst 1 d0_191 rfl ?_
    refine W.callvV (M' := m3) d0_192 (hw _ (wd 27 rfl)) (hw _ (wd 28 rfl)) (hw _ (wd 29 rfl)) (hw _ (wd 30 rfl)) (c3_11 hw p.toInt32 ((XT.ushrL p 32).toInt32) q0.toInt32 ((XT.ushrL q0 32).toInt32) s.toInt32 ((XT.ushrL s 32).toInt32) a (List.replicate d junk)) (ok3 hw) rfl rfl rfl rfl ?_
    refine W.iload d0_195 rfl ?_
    refine W.icmp_ne d0_197 (fun h => False.elim (h rfl)) (fun h197 => ?_)
    refine W.iconst 1 d0_200 rfl ?_
    refine W.goto d0_201 ?_
    refine W.istore d0_205 rfl ?_
    refine W.iload d0_207 rfl ?_
    refine W.iconst 2 d0_209 rfl ?_
    refine W.icmp_ne d0_210 (fun h210 => ?_) (fun h => False.elim (by revert h; decide))
    refine W.iload d0_220 rfl ?_
    refine W.istore d0_222 rfl ?_
    show WB _ l Z n m0 224 [(.val (.long (p))), .second, (.val (.long (q0))), .second, (.val (.long (s))), .second, (.val (.int (f))), (.val (.int (p.toInt32))), (.val (.int ((XT.ushrL p 32).toInt32))), (.val (.int (q0.toInt32))), (.val (.int ((XT.ushrL q0 32).toInt32))), (.val (.int (s.toInt32))), (.val (.int ((XT.ushrL s 32).toInt32))), (.val (.int (1 + 2))), (.val (.ref 0)), (.val (.ref 1)), (.val (.ref 2)), (.val (.int (1))), (.val (.int ((XT.ushrL q0 32).toInt32))), (.val (.int (s.toInt32)))] [] ([.inr (.int, [(.int (p.toInt32)), (.int (((XT.ushrL p 32).toInt32))), (.int (q0.toInt32)), (.int (((XT.ushrL q0 32).toInt32))), (.int (s.toInt32)), (.int (((XT.ushrL s 32).toInt32)))]), .inr (.int, [(.int (0)), (.int (0))]), .inl ("com/example/yorktown/yorktown/SymbolRules", [(("com/example/yorktown/yorktown/SymbolRules", "symbol", "Ljava/lang/String;"), (.retAddr a)), (("com/example/yorktown/yorktown/SymbolRules", "arity", "I"), (.int (3))), (("com/example/yorktown/yorktown/SymbolRules", "children", "[I"), (.ref 0)), (("com/example/yorktown/yorktown/SymbolRules", "targets", "[I"), (.ref 1))])] ++ List.replicate d junk) _ _ _
    refine W.iload d0_224 rfl ?_
    refine W.if_eq d0_226 (fun h => False.elim (by revert h; decide)) (fun h226 => ?_)
    refine W.aload d0_229 rfl rfl ?_
    refine W.iconst 1 d0_231 rfl ?_
    refine W.iconst 1 d0_232 rfl ?_
    refine W.callvV (M' := m3) d0_233 (hw _ (wd 27 rfl)) (hw _ (wd 28 rfl)) (hw _ (wd 29 rfl)) (hw _ (wd 30 rfl)) (c3_12 hw p.toInt32 ((XT.ushrL p 32).toInt32) q0.toInt32 ((XT.ushrL q0 32).toInt32) s.toInt32 ((XT.ushrL s 32).toInt32) a (List.replicate d junk)) (ok3 hw) rfl rfl rfl rfl ?_
    refine W.iload d0_236 rfl ?_
    refine W.icmp_ne d0_238 (fun h => False.elim (h rfl)) (fun h238 => ?_)
    refine W.iconst 1 d0_241 rfl ?_
    refine W.goto d0_242 ?_
    refine W.istore d0_246 rfl ?_
    refine W.iload d0_248 rfl ?_
    refine W.iconst 3 d0_250 rfl ?_
    refine W.icmp_ne d0_251 (fun h => False.elim (by revert h; decide)) (fun h251 => ?_)
    refine W.iload d0_254 rfl ?_
    refine W.if_eq d0_256 (fun h => False.elim (by revert h; decide)) (fun h256 => ?_)
    refine W.aload d0_259 rfl rfl ?_
    refine W.iconst 0 d0_261 rfl ?_
    refine W.iconst 2 d0_262 rfl ?_
    refine W.callvV (M' := m3) d0_263 (hw _ (wd 27 rfl)) (hw _ (wd 28 rfl)) (hw _ (wd 29 rfl)) (hw _ (wd 30 rfl)) (c3_13 hw p.toInt32 ((XT.ushrL p 32).toInt32) q0.toInt32 ((XT.ushrL q0 32).toInt32) s.toInt32 ((XT.ushrL s 32).toInt32) a (List.replicate d junk)) (ok3 hw) rfl rfl rfl rfl ?_
    refine W.iload d0_266 rfl ?_
    refine W.icmp_ne d0_268 (fun h => False.elim (h rfl)) (fun h268 => ?_)
    refine W.iconst 1 d0_271 rfl ?_
    refine W.goto d0_272 ?_
    refine W.istore d0_276 rfl ?_
    refine W.iload d0_278 rfl ?_
    refine W.if_eq d0_280 (fun h => False.elim (by revert h; decide)) (fun h280 => ?_)
    refine W.aload d0_283 rfl rfl ?_
    refine W.iconst 1 d0_285 rfl ?_
    refine W.iconst 2 d0_286 rfl ?_
    refine W.callvV (M' := m3) d0_287 (hw _ (wd 27 rfl)) (hw _ (wd 28 rfl)) (hw _ (wd 29 rfl)) (hw _ (wd 30 rfl)) (c3_14 hw p.toInt32 ((XT.ushrL p 32).toInt32) q0.toInt32 ((XT.ushrL q0 32).toInt32) s.toInt32 ((XT.ushrL s 32).toInt32) a (List.replicate d junk)) (ok3 hw) rfl rfl rfl rfl ?_
    refine W.iload d0_290 rfl ?_
    refine W.icmp_ne d0_292 (fun h => False.elim (h rfl)) (fun h292 => ?_)
    refine W.iconst 1 d0_295 rfl ?_
    refine W.goto d0_296 ?_
    refine W.istore d0_300 rfl ?_
    refine W.iload d0_302 rfl ?_
    exact W.nreturn .boolean d0_304 rfl (by simp) (by decide) (by decide) (⟨rfl, by first | (simp; done) | (simp; omega)⟩)
set_option maxRecDepth 65536 in
set_option maxHeartbeats 40000000 in
theorem comes_1 {Post : Tables → Env → Array Value → State → Outcome → State → Prop} (hpost : ∀ tb e args s v u, (limb_1_1.after args s (.returned v) u = true ∧ limb_1_2.after args s (.returned v) u = true ∧ True) → FramedW s (.returned v) u (Jvm.fieldLocs frame_1_writes args s ++ Jvm.arrayLocs frame_1_arrays args s ++ Jvm.staticLocs frame_1_statics s) 16 1152 → Post tb e args s (.returned v) u) :
    ArmFor flags0 classFile x code maxLocals ret World_1 tables_1 room_1 Calls_1 rest_1 Pre_1 Post := by
  intro l hfl _ _ p e ha hc hk s m args below hf hA hF happ hP
  obtain ⟨hcalls, hrest, hpre⟩ := hP
  obtain ⟨-, -, -, hnamed, -, -, -, hat⟩ := (Spec.applies_iff hf).mp happ
  obtain ⟨hg, hn⟩ := and_e (Cond.before_iff.mp (show (Jvm.Cond.and given_1 narrow_1).before args s = true from hpre))
  obtain ⟨hcnt, g0⟩ := and_e hg
  obtain ⟨q0, g1⟩ := and_e g0
  obtain ⟨q1, g2⟩ := and_e g1
  obtain ⟨q2, g3⟩ := and_e g2
  obtain ⟨w0, w1, w2, w3, rfl⟩ : ∃ w0 w1 w2 w3 : Value, args = #[w0, w1, w2, w3] := by
    have hs : args.size = 4 := by simpa [Cond.value, given_1] using hcnt
    obtain ⟨L⟩ := args
    match L, hs with
    | [w0, w1, w2, w3], _ => exact ⟨w0, w1, w2, w3, rfl⟩
  have hw := fun d (hd : d ∈ tables_1) => atoms_spec (ws := Jvm.Cond.code x code maxLocals ret :: tables_1) hat d (List.mem_cons_of_mem _ hd)
  obtain ⟨i0, ei0⟩ := isL_v q0
  obtain rfl : w0 = (.long i0) := Option.some.inj ei0
  obtain ⟨i1, ei1⟩ := isL_v q1
  obtain rfl : w1 = (.long i1) := Option.some.inj ei1
  obtain ⟨i2, ei2⟩ := isL_v q2
  obtain rfl : w2 = (.long i2) := Option.some.inj ei2
  obtain ⟨i3, ei3⟩ := is_v g3
  obtain rfl : w3 = (.int i3) := Option.some.inj ei3
  obtain ⟨n, o, h1, h2, h3, _, L, rfl, ⟨v0, H', rfl, rfl, hH, N⟩, hq⟩ := W.start (M := m0) (w_law (l := l) hw i0 i1 i2 i3) pn0 tables_1 p e ha hc hk s m _ below hf ((Spec.applies_iff_loose hf).mp happ).1 ⟨rfl, State.Warmed39.refl s, rfl⟩ trivial
  refine ⟨n, _, h1, h2, h3, hpost _ _ _ _ _ _ ⟨Cond.after_iff.mpr rfl, Cond.after_iff.mpr (eq_i res_at (Term.int_eval (1)) rfl), trivial⟩ ⟨hq.1, hq.2.1, hq.2.2.1, (hq.2.2.2.sift fun y hy => Or.inr (N y hy)).mono (by decide) (by decide)⟩⟩
theorem main_1_1 : Claimed_1_1 := comes_1 fun _ _ _ _ _ _ h hF => ⟨h.1, hF⟩
theorem main_1_2 : Claimed_1_2 := comes_1 fun _ _ _ _ _ _ h hF => ⟨h.2.1, hF⟩
end Jvm.Pilot.@@N@@
namespace Jvm.Pilot.@@N@@
open Jvm Jvm.ClassFile Sem Op Lib Jvm.Free Jvm.Stand Jvm.Pilot.@@N@@.Jvm.D
/-! MADE BY PROGRAM (witnessworld.py) out of the Statement's table words and the real class files: 14 classes; the members and pool entries that the words name. The judged class is class 1, her method 1. -/
namespace start1
open Jvm.ClassFile
def u (s : String) : CpInfo := .utf8 (stringToUtf16 s)
/-- a pool by its gaps: so many unusable entries, then the entry; so many at the end -/
def gap : Nat → List CpInfo → List CpInfo
  | 0, r => r
  | n + 1, r => .unusable :: gap n r
def poolList (es : List (Nat × CpInfo)) (last : Nat) : List CpInfo := es.foldr (fun e r => gap e.1 (e.2 :: r)) (gap last [])
def pool (es : List (Nat × CpInfo)) (last : Nat) : Array CpInfo := ⟨poolList es last⟩
def fileOf (pool : Array CpInfo) (this : Nat) (attrs : Array Attribute := #[]) (ms : Array MethodInfo := #[]) (fl : Nat := 33) (sup : Nat := 0) (ifs : Array Nat := #[]) (fds : Array FieldInfo := #[]) : ClassFile where
  minorVersion := 0
  majorVersion := 65
  constantPool := pool
  accessFlags := fl
  thisClass := this
  superClass := sup
  interfaces := ifs
  fields := fds
  methods := ms
  attributes := attrs
def plain (name : String) (sup : Option ClassId) : Class where
  name := name
  kind := .ordinary
  loader := none
  accessFlags := 33
  super := sup
  interfaces := #[]
  cf := none
  fields := #[]
  methods := #[]
  instanceTypes := #[]
  staticTypes := #[]
  resolved := #[]
  callSites := []
  init := .initialized
  statics := none
  mirror := none

def pool0 : Array CpInfo := pool [(5, u "<init>"), (0, u "()V"), (1, .class_ 10), (1, u "java/lang/Object")] 113

def k0c0 : Code := { maxStack := 0, maxLocals := 1, code := object_method_1_code, exceptionTable := #[], attributes := #[] }
def k0m0 : Method := { name := "<init>", desc := "()V", sig := { parameters := [], returnType := none }, accessFlags := 1, code := some k0c0 }
/-- java/lang/Object -/
def k0 : Class := { plain "java/lang/Object" none with
  accessFlags := 33
  interfaces := #[]
  cf := some (fileOf pool0 8 #[] #[{ accessFlags := 1, nameIndex := 5, descriptorIndex := 6, attributes := #[] }] 33 0 #[] #[])
  fields := #[]
  methods := #[k0m0]
  instanceTypes := #[]
  staticTypes := #[]
  resolved := Array.replicate 124 none
  statics := none }

def pool1 : Array CpInfo := pool [(2, .class_ 4), (1, u "java/lang/Object"), (0, u "<init>"), (0, u "()V"), (0, .integer 2147483647), (0, .class_ 9), (0, u "com/example/yorktown/yorktown/SymbolRules"), (0, .string 11), (0, u "f"), (0, .methodref 8 13), (0, .nameAndType 5 14), (0, u "(Ljava/lang/String;I[I[I)V"), (0, .methodref 8 16), (0, .nameAndType 17 18), (0, u "child"), (0, u "(II)I"), (0, .class_ 20), (0, u "com/example/yorktown/yorktown/SymbolRulesChildPinLaw"), (2, u "law"), (0, u "(JJJI)Z")] 5

def k1m0 : Method := { name := "<init>", desc := "()V", sig := { parameters := [], returnType := none }, accessFlags := 2, code := none }
def k1c1 : Code := { maxStack := 6, maxLocals := 20, code := code, exceptionTable := #[], attributes := #[] }
def k1m1 : Method := { name := "law", desc := "(JJJI)Z", sig := { parameters := [.long, .long, .long, .int], returnType := some .boolean }, accessFlags := 9, code := some k1c1 }
/-- com/example/yorktown/yorktown/SymbolRulesChildPinLaw -/
def k1 : Class := { plain "com/example/yorktown/yorktown/SymbolRulesChildPinLaw" (some 0) with
  accessFlags := 49
  interfaces := #[]
  cf := some (fileOf pool1 19 #[] #[{ accessFlags := 2, nameIndex := 5, descriptorIndex := 6, attributes := #[] }, { accessFlags := 9, nameIndex := 23, descriptorIndex := 24, attributes := #[] }] 49 2 #[] #[])
  fields := #[]
  methods := #[k1m0, k1m1]
  instanceTypes := #[]
  staticTypes := #[]
  resolved := Array.replicate 30 none
  statics := none }

def pool2 : Array CpInfo := pool [(1, .methodref 2 3), (0, .class_ 4), (0, .nameAndType 5 6), (0, u "java/lang/Object"), (0, u "<init>"), (0, u "()V"), (0, .fieldref 8 9), (0, .class_ 10), (0, .nameAndType 11 12), (0, u "com/example/yorktown/yorktown/SymbolRules"), (0, u "symbol"), (0, u "Ljava/lang/String;"), (0, .fieldref 8 14), (0, .nameAndType 15 16), (0, u "arity"), (0, u "I"), (0, .fieldref 8 18), (0, .nameAndType 19 20), (0, u "children"), (0, u "[I"), (0, .fieldref 8 22), (0, .nameAndType 23 20), (0, u "targets"), (2, u "(Ljava/lang/String;I[I[I)V"), (19, u "lookup"), (0, u "Lcom/example/yorktown/yorktown/RuleIndex;"), (15, u "sameChildren"), (2, .class_ 68), (1, u "com/example/yorktown/yorktown/SymbolRules$SameChildren"), (17, u "readers"), (6, .class_ 95), (1, u "com/example/yorktown/yorktown/SymbolRules$Column"), (42, u "byTarget"), (0, u "Lcom/example/yorktown/yorktown/SymbolRules$Column;"), (13, u "Lcom/example/yorktown/yorktown/SymbolRules$SameChildren;"), (13, u "[Lcom/example/yorktown/yorktown/SymbolRules$Column;"), (7, u "LOOKUP_COST"), (7, u "child"), (0, u "(II)I")] 55

def k2c0 : Code := { maxStack := 2, maxLocals := 5, code := prog_57_method_1_code, exceptionTable := #[], attributes := #[] }
def k2m0 : Method := { name := "<init>", desc := "(Ljava/lang/String;I[I[I)V", sig := { parameters := [(.object "java/lang/String"), .int, (.array .int), (.array .int)], returnType := none }, accessFlags := 0, code := some k2c0 }
def k2c1 : Code := { maxStack := 3, maxLocals := 3, code := prog_57_method_6_code, exceptionTable := #[], attributes := #[] }
def k2m1 : Method := { name := "child", desc := "(II)I", sig := { parameters := [.int, .int], returnType := some .int }, accessFlags := 0, code := some k2c1 }
/-- com/example/yorktown/yorktown/SymbolRules -/
def k2 : Class := { plain "com/example/yorktown/yorktown/SymbolRules" (some 0) with
  accessFlags := 48
  interfaces := #[]
  cf := some (fileOf pool2 8 #[.nestMembers #[93, 66]] #[{ accessFlags := 0, nameIndex := 5, descriptorIndex := 26, attributes := #[] }, { accessFlags := 0, nameIndex := 183, descriptorIndex := 184, attributes := #[] }] 48 2 #[] #[{ accessFlags := 26, nameIndex := 175, descriptorIndex := 16, attributes := #[] }, { accessFlags := 18, nameIndex := 11, descriptorIndex := 12, attributes := #[] }, { accessFlags := 18, nameIndex := 15, descriptorIndex := 16, attributes := #[] }, { accessFlags := 18, nameIndex := 19, descriptorIndex := 20, attributes := #[] }, { accessFlags := 18, nameIndex := 23, descriptorIndex := 20, attributes := #[] }, { accessFlags := 66, nameIndex := 86, descriptorIndex := 167, attributes := #[] }, { accessFlags := 66, nameIndex := 138, descriptorIndex := 139, attributes := #[] }, { accessFlags := 66, nameIndex := 46, descriptorIndex := 47, attributes := #[] }, { accessFlags := 66, nameIndex := 63, descriptorIndex := 153, attributes := #[] }])
  fields := #[{ name := "LOOKUP_COST", type := .int, accessFlags := 26, slot := 0, constantValue := 0 }, { name := "symbol", type := (.object "java/lang/String"), accessFlags := 18, slot := 0, constantValue := 0 }, { name := "arity", type := .int, accessFlags := 18, slot := 1, constantValue := 0 }, { name := "children", type := (.array .int), accessFlags := 18, slot := 2, constantValue := 0 }, { name := "targets", type := (.array .int), accessFlags := 18, slot := 3, constantValue := 0 }, { name := "readers", type := (.array (.object "com/example/yorktown/yorktown/SymbolRules$Column")), accessFlags := 66, slot := 4, constantValue := 0 }, { name := "byTarget", type := (.object "com/example/yorktown/yorktown/SymbolRules$Column"), accessFlags := 66, slot := 5, constantValue := 0 }, { name := "lookup", type := (.object "com/example/yorktown/yorktown/RuleIndex"), accessFlags := 66, slot := 6, constantValue := 0 }, { name := "sameChildren", type := (.object "com/example/yorktown/yorktown/SymbolRules$SameChildren"), accessFlags := 66, slot := 7, constantValue := 0 }]
  methods := #[k2m0, k2m1]
  instanceTypes := #[(.object "java/lang/String"), .int, (.array .int), (.array .int), (.array (.object "com/example/yorktown/yorktown/SymbolRules$Column")), (.object "com/example/yorktown/yorktown/SymbolRules$Column"), (.object "com/example/yorktown/yorktown/RuleIndex"), (.object "com/example/yorktown/yorktown/SymbolRules$SameChildren")]
  staticTypes := #[.int]
  resolved := Array.replicate 240 none
  statics := none }

def pool3 : Array CpInfo := pool [(1, .class_ 2), (0, u "java/io/Serializable"), (0, .class_ 4), (0, u "java/lang/Object")] 2

/-- java/io/Serializable -/
def k3 : Class := { plain "java/io/Serializable" (some 0) with
  accessFlags := 1537
  interfaces := #[]
  cf := some (fileOf pool3 1 #[] #[] 1537 3 #[] #[])
  fields := #[]
  methods := #[]
  instanceTypes := #[]
  staticTypes := #[]
  resolved := Array.replicate 7 none
  statics := none }

def pool4 : Array CpInfo := pool [(1, .class_ 2), (0, u "java/lang/Comparable"), (0, .class_ 4), (0, u "java/lang/Object")] 7

/-- java/lang/Comparable -/
def k4 : Class := { plain "java/lang/Comparable" (some 0) with
  accessFlags := 1537
  interfaces := #[]
  cf := some (fileOf pool4 1 #[] #[] 1537 3 #[] #[])
  fields := #[]
  methods := #[]
  instanceTypes := #[]
  staticTypes := #[]
  resolved := Array.replicate 12 none
  statics := none }

def pool5 : Array CpInfo := pool [(2, .class_ 4), (1, u "java/lang/CharSequence"), (42, .class_ 48), (0, u "java/lang/CharSequence$1CodePointIterator"), (10, .class_ 60), (0, u "java/lang/CharSequence$1CharIterator"), (5, .class_ 67), (0, u "java/lang/Object")] 63

/-- java/lang/CharSequence -/
def k5 : Class := { plain "java/lang/CharSequence" (some 0) with
  accessFlags := 1537
  interfaces := #[]
  cf := some (fileOf pool5 2 #[.nestMembers #[47, 59]] #[] 1537 66 #[] #[])
  fields := #[]
  methods := #[]
  instanceTypes := #[]
  staticTypes := #[]
  resolved := Array.replicate 131 none
  statics := none }

def pool6 : Array CpInfo := pool [(1, .class_ 2), (0, u "java/lang/constant/Constable"), (0, .class_ 4), (0, u "java/lang/Object")] 6

/-- java/lang/constant/Constable -/
def k6 : Class := { plain "java/lang/constant/Constable" (some 0) with
  accessFlags := 1537
  interfaces := #[]
  cf := some (fileOf pool6 1 #[] #[] 1537 3 #[] #[])
  fields := #[]
  methods := #[]
  instanceTypes := #[]
  staticTypes := #[]
  resolved := Array.replicate 11 none
  statics := none }

def pool7 : Array CpInfo := pool [(1, .class_ 2), (0, u "java/lang/constant/ConstantDesc"), (0, .class_ 4), (0, u "java/lang/Object")] 32

/-- java/lang/constant/ConstantDesc -/
def k7 : Class := { plain "java/lang/constant/ConstantDesc" (some 0) with
  accessFlags := 1537
  interfaces := #[]
  cf := some (fileOf pool7 1 #[] #[] 1537 3 #[] #[])
  fields := #[]
  methods := #[]
  instanceTypes := #[]
  staticTypes := #[]
  resolved := Array.replicate 37 none
  statics := none }

def pool8 : Array CpInfo := pool [(2, .class_ 4), (1, u "java/lang/Object"), (0, u "<init>"), (0, u "()V"), (3, .class_ 12), (1, u "java/lang/String"), (0, u "value"), (0, u "[B"), (2, u "coder"), (0, u "B"), (2, u "hash"), (0, u "I"), (2, u "hashIsZero"), (0, u "Z"), (13, u "COMPACT_STRINGS"), (534, .class_ 576), (0, u "java/lang/CharSequence"), (22, u "CASE_INSENSITIVE_ORDER"), (0, u "Ljava/util/Comparator;"), (500, u "serialPersistentFields"), (0, u "[Ljava/io/ObjectStreamField;"), (0, .class_ 1104), (0, u "java/lang/String$CaseInsensitiveComparator"), (1, .class_ 1107), (0, u "java/io/Serializable"), (0, .class_ 1109), (0, u "java/lang/Comparable"), (0, .class_ 1111), (0, u "java/lang/constant/Constable"), (0, .class_ 1113), (0, u "java/lang/constant/ConstantDesc"), (2, u "serialVersionUID"), (0, u "J"), (3, u "REPL"), (0, u "C"), (2, u "LATIN1"), (1, u "UTF16")] 323

def k8m0 : Method := { name := "<init>", desc := "()V", sig := { parameters := [], returnType := none }, accessFlags := 1, code := none }
/-- java/lang/String -/
def k8 : Class := { plain "java/lang/String" (some 0) with
  accessFlags := 49
  interfaces := #[3, 4, 5, 6, 7]
  cf := some (fileOf pool8 10 #[.nestMembers #[1103]] #[{ accessFlags := 1, nameIndex := 5, descriptorIndex := 6, attributes := #[] }] 49 2 #[1106, 1108, 575, 1110, 1112] #[{ accessFlags := 18, nameIndex := 13, descriptorIndex := 14, attributes := #[] }, { accessFlags := 18, nameIndex := 17, descriptorIndex := 18, attributes := #[] }, { accessFlags := 2, nameIndex := 21, descriptorIndex := 22, attributes := #[] }, { accessFlags := 2, nameIndex := 25, descriptorIndex := 26, attributes := #[] }, { accessFlags := 26, nameIndex := 1116, descriptorIndex := 1117, attributes := #[] }, { accessFlags := 24, nameIndex := 40, descriptorIndex := 26, attributes := #[] }, { accessFlags := 26, nameIndex := 1101, descriptorIndex := 1102, attributes := #[] }, { accessFlags := 26, nameIndex := 1121, descriptorIndex := 1122, attributes := #[] }, { accessFlags := 25, nameIndex := 599, descriptorIndex := 600, attributes := #[] }, { accessFlags := 24, nameIndex := 1125, descriptorIndex := 18, attributes := #[] }, { accessFlags := 24, nameIndex := 1127, descriptorIndex := 18, attributes := #[] }])
  fields := #[{ name := "value", type := (.array .byte), accessFlags := 18, slot := 0, constantValue := 0 }, { name := "coder", type := .byte, accessFlags := 18, slot := 1, constantValue := 0 }, { name := "hash", type := .int, accessFlags := 2, slot := 2, constantValue := 0 }, { name := "hashIsZero", type := .boolean, accessFlags := 2, slot := 3, constantValue := 0 }, { name := "serialVersionUID", type := .long, accessFlags := 26, slot := 0, constantValue := 0 }, { name := "COMPACT_STRINGS", type := .boolean, accessFlags := 24, slot := 1, constantValue := 0 }, { name := "serialPersistentFields", type := (.array (.object "java/io/ObjectStreamField")), accessFlags := 26, slot := 2, constantValue := 0 }, { name := "REPL", type := .char, accessFlags := 26, slot := 3, constantValue := 0 }, { name := "CASE_INSENSITIVE_ORDER", type := (.object "java/util/Comparator"), accessFlags := 25, slot := 4, constantValue := 0 }, { name := "LATIN1", type := .byte, accessFlags := 24, slot := 5, constantValue := 0 }, { name := "UTF16", type := .byte, accessFlags := 24, slot := 6, constantValue := 0 }]
  methods := #[k8m0]
  instanceTypes := #[(.array .byte), .byte, .int, .boolean]
  staticTypes := #[.long, .boolean, (.array (.object "java/io/ObjectStreamField")), .char, (.object "java/util/Comparator"), .byte, .byte]
  resolved := Array.replicate 1451 none
  statics := none }

def pool9 : Array CpInfo := pool [(1, u "java/lang/Cloneable"), (0, .class_ 1), (0, u "java/lang/Object"), (0, .class_ 3)] 3

/-- java/lang/Cloneable -/
def k9 : Class := { plain "java/lang/Cloneable" (some 0) with
  accessFlags := 1537
  interfaces := #[]
  cf := some (fileOf pool9 2 #[] #[] 1537 4 #[] #[])
  fields := #[]
  methods := #[]
  instanceTypes := #[]
  staticTypes := #[]
  resolved := Array.replicate 8 none
  statics := none }

/-- the primitive byte -/
def k10 : Class := { plain "byte" none with kind := .primitive 'B', accessFlags := 0x411 }
/-- [B -/
def k11 : Class := { plain "[B" (some 0) with kind := .array 10 .byte, interfaces := #[9, 3], accessFlags := 1041 }

/-- the primitive int -/
def k12 : Class := { plain "int" none with kind := .primitive 'I', accessFlags := 0x411 }
/-- [I -/
def k13 : Class := { plain "[I" (some 0) with kind := .array 12 .int, interfaces := #[9, 3], accessFlags := 1041 }

def heap : Heap := #[]
def classes : Array Class := #[k0, k1, k2, k3, k4, k5, k6, k7, k8, k9, k10, k11, k12, k13]
def interned : List (Array UInt16 × Addr) := []
def slotsUsed : Nat := 0
def theMethod : MethodId := ⟨1, 1⟩
def args0 : Array Value := #[.long 5, .long 7, .long 9, .int 2]
def aboutOver (below : List Frame) : State where
  vm := { classes := classes, interned := interned.toArray }
  heap := heap
  slotsUsed := slotsUsed
  threads := #[{ frames := .invoking theMethod args0 :: below }]
def below0 : List Frame := [.native { method := ⟨0, 0⟩, args := #[] }]
def about1 : State := aboutOver below0
def p0 : Program := .bare "" "" ""
def e0 : Env := launch0.env 0 0 0
theorem w_frames : about1.frames = Frame.invoking theMethod args0 :: below0 := rfl
set_option maxRecDepth 65536 in
theorem w_args : argsFit about1.vm theMethod args0 = true := by decide +kernel
set_option maxRecDepth 65536 in
theorem w_heap : heapFits about1 = true := by decide +kernel
set_option maxRecDepth 65536 in
theorem w_runnable : about1.curStatus? = some .runnable := by decide +kernel
set_option maxRecDepth 65536 in
theorem w_alone : about1.alone = true := by decide +kernel
set_option maxRecDepth 65536 in
theorem w_named : about1.methodNamed? x = some theMethod := by decide +kernel
set_option maxRecDepth 65536 in
theorem w_hears : about1.hears theMethod below0 = true := by decide +kernel
set_option maxRecDepth 65536 in
theorem w_ripe : about1.ripe theMethod args0 below0 = true := by decide +kernel
theorem w_running : about1.status = .running := rfl
set_option maxRecDepth 65536 in
theorem w_room : about1.hasRoom e0.platform room_1 = true :=
  launch0.hasRoom_least _ room_1 (by decide +kernel) (by decide +kernel) (by decide +kernel) (by decide +kernel) (by decide +kernel) (by decide +kernel)
theorem allAtoms_all (ts : List Jvm.Cond) (a : Array Jvm.Value) (st : Jvm.State) : (allAtoms ts).before a st = ts.all (fun c => c.before a st) := by
  induction ts with
  | nil => rfl
  | cons c t ih =>
    show (Jvm.Cond.and c (allAtoms t)).before a st = _
    rw [Jvm.Cond.before_and, ih, List.all_cons]
def words1 : List Jvm.Cond := Jvm.Cond.code x code maxLocals ret :: tables_1
/-- a 'code' word, met by the world's own term for the bytes: nothing is compared byte by byte -/
theorem code_word {y : MethodName} {bytes : ByteArray} {mx : Nat} {rt : Option FieldType} {a : Array Value} {s : State} {m : MethodId} {meth : Method} {c : Code} (h1 : s.methodNamed? y = some m) (h2 : s.vm.method? m = some meth) (h3 : meth.code = some c) (h4 : c.code = bytes)
    (h5 : (c.maxLocals == mx && c.exceptionTable.isEmpty && decide (c.maxStack ≤ mostOperands) && decide (meth.sig.returnType = rt) && !meth.locks && decide (parseMethodDescriptor y.desc = some meth.sig)) = true) : (Jvm.Cond.code y bytes mx rt).before a s = true := by
  simp only [Bool.and_eq_true, beq_iff_eq, Bool.not_eq_true', decide_eq_true_eq] at h5
  obtain ⟨⟨⟨⟨⟨g1, g2⟩, g3⟩, g4⟩, g5⟩, g6⟩ := h5
  simp [Cond.before, Cond.holds, Cond.value, h1, h2, h3, h4, g1, g2, g3, g4, g5, g6]
def isCode : Jvm.Cond → Bool
  | .code _ _ _ _ => true
  | _ => false
theorem all_split {L : List Jvm.Cond} {P : Jvm.Cond → Bool} (h1 : L.all (fun c => isCode c || P c) = true) (h2 : ∀ c ∈ L.filter isCode, P c = true) : L.all P = true := by
  refine List.all_eq_true.mpr fun c hc => ?_
  have h := List.all_eq_true.mp h1 c hc
  rcases Bool.eq_false_or_eq_true (isCode c) with hi | hi
  · exact h2 c (List.mem_filter.mpr ⟨hc, hi⟩)
  · simpa [hi] using h
set_option maxRecDepth 65536 in
theorem w_c0 : (Jvm.Cond.code x code maxLocals ret).before args0 about1 = true := code_word (m := ⟨1, 1⟩) (meth := k1m1) (c := k1c1) (by decide +kernel) rfl rfl rfl (by decide +kernel)
set_option maxRecDepth 65536 in
theorem w_c1 : (Jvm.Cond.code ({ cls := "com/example/yorktown/yorktown/SymbolRules", name := "<init>", desc := "(Ljava/lang/String;I[I[I)V" } : Jvm.MethodName) prog_57_method_1_code (5 : Nat) (Option.none : Option Jvm.ClassFile.FieldType)).before args0 about1 = true := code_word (m := ⟨2, 0⟩) (meth := k2m0) (c := k2c0) (by decide +kernel) rfl rfl rfl (by decide +kernel)
set_option maxRecDepth 65536 in
theorem w_c2 : (Jvm.Cond.code ({ cls := "java/lang/Object", name := "<init>", desc := "()V" } : Jvm.MethodName) object_method_1_code (1 : Nat) (Option.none : Option Jvm.ClassFile.FieldType)).before args0 about1 = true := code_word (m := ⟨0, 0⟩) (meth := k0m0) (c := k0c0) (by decide +kernel) rfl rfl rfl (by decide +kernel)
set_option maxRecDepth 65536 in
theorem w_c3 : (Jvm.Cond.code ({ cls := "com/example/yorktown/yorktown/SymbolRules", name := "child", desc := "(II)I" } : Jvm.MethodName) prog_57_method_6_code (3 : Nat) (Option.some Jvm.ClassFile.FieldType.int)).before args0 about1 = true := code_word (m := ⟨2, 1⟩) (meth := k2m1) (c := k2c1) (by decide +kernel) rfl rfl rfl (by decide +kernel)
def codes1 : List Jvm.Cond := [Jvm.Cond.code x code maxLocals ret, Jvm.Cond.code ({ cls := "com/example/yorktown/yorktown/SymbolRules", name := "<init>", desc := "(Ljava/lang/String;I[I[I)V" } : Jvm.MethodName) prog_57_method_1_code (5 : Nat) (Option.none : Option Jvm.ClassFile.FieldType), Jvm.Cond.code ({ cls := "java/lang/Object", name := "<init>", desc := "()V" } : Jvm.MethodName) object_method_1_code (1 : Nat) (Option.none : Option Jvm.ClassFile.FieldType), Jvm.Cond.code ({ cls := "com/example/yorktown/yorktown/SymbolRules", name := "child", desc := "(II)I" } : Jvm.MethodName) prog_57_method_6_code (3 : Nat) (Option.some Jvm.ClassFile.FieldType.int)]
set_option maxRecDepth 65536 in
theorem codes_eq : words1.filter isCode = codes1 := rfl
theorem w_codes : ∀ c ∈ words1.filter isCode, c.before args0 about1 = true := by
  rw [codes_eq]
  intro c hc
  simp only [codes1, List.mem_cons, List.not_mem_nil, or_false] at hc
  rcases hc with rfl | rfl | rfl | rfl
  · exact w_c0
  · exact w_c1
  · exact w_c2
  · exact w_c3
set_option maxRecDepth 65536 in
theorem w_t1 : (words1.take 24).all (fun c => isCode c || c.before args0 about1) = true := by decide +kernel
set_option maxRecDepth 65536 in
theorem w_t2 : (words1.drop 24).all (fun c => isCode c || c.before args0 about1) = true := by decide +kernel
theorem w_tables : (allAtoms (Jvm.Cond.code x code maxLocals ret :: tables_1)).before args0 about1 = true := by
  rw [allAtoms_all]
  show words1.all (fun c => c.before args0 about1) = true
  refine all_split ?_ w_codes
  rw [← List.take_append_drop 24 words1, List.all_append, w_t1, w_t2]
  rfl
set_option maxRecDepth 65536 in
theorem w_case : (Jvm.Cond.and given_1 narrow_1).before args0 about1 = true := by decide +kernel
theorem w_applies : (headSpec (Jvm.Cond.code x code maxLocals ret :: tables_1) room_1).applies x e0.platform about1 = true :=
  (Spec.applies_iff w_frames).mpr ⟨w_running, w_runnable, w_alone, w_named, w_hears, w_ripe, w_room, w_tables⟩
theorem atStart : AtStart classFile x code maxLocals ret World_1 tables_1 room_1 Calls_1 rest_1 Pre_1 launch0 p0 e0 about1 theMethod args0 below0 :=
  ⟨lists_1, trivial, launch0.admits_env _ _ _, launch0.least_env, fairChoices_fair.cas, fairChoices_fair.clock, w_frames, w_args, w_heap, w_applies, trivial, trivial, w_case⟩
end start1
theorem witness_1 : WitnessClaimed_1 := ⟨start1.p0, start1.e0, start1.about1, start1.theMethod, start1.args0, start1.below0, start1.atStart⟩
end Jvm.Pilot.@@N@@
