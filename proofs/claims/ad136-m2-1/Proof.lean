import JvmDerived
import JvmDerived.Pilot.@@N@@Statement
import JvmDerived.Pilot.@@N@@Code
set_option linter.unusedVariables false
set_option linter.unusedSimpArgs false
@@BLOCK:NumsL.lean.txt@@
namespace Jvm.Pilot.@@N@@
open Jvm Jvm.ClassFile Sem Op Lib Jvm.Free Jvm.Stand Jvm.LawKit Jvm.RoadKit Bundle Jvm.Pilot.@@N@@.Jvm.D
section OwnKit
variable {p : Program} {l : Launch} {e : Env} {R : Room} {s : State} {m : MethodId} {args : Array Value} {below : List Frame} {meth : Method} {c : Code} {T : State} {locs : List Loc} {cells slots : Nat} {rc rs : Nat} {Q : Option Value → Heap → List Loc → Prop}
/-- from A the run comes to its end by a return, and Q tells of the value, the heap and the places written -/
def own_Goes (p : Program) (e : Env) (s : State) (below : List Frame) (rc rs : Nat) (Q : Option Value → Heap → List Loc → Prop) (A : State) : Prop :=
  ∃ s₂ o, Steps p.tables e below A s₂ ∧ s₂.status = .running ∧ Ended s₂ below o ∧ ∃ v L, o = .returned v ∧ Q v s₂.heap L ∧ FrameEnd s o s₂ L rc rs
theorem own_via {A B : State} (k : ∀ t, Steps p.tables e below B t → Steps p.tables e below A t) (h : own_Goes p e s below rc rs Q B) : own_Goes p e s below rc rs Q A := by
  obtain ⟨s₂, o, h1, h2⟩ := h
  exact ⟨s₂, o, k _ h1, h2⟩
theorem own_on {A B : State} (k : Steps p.tables e below A B) (h : own_Goes p e s below rc rs Q B) : own_Goes p e s below rc rs Q A := own_via (fun _ q => k.trans q) h
theorem own_leave (X : Stand p l e R s m args below meth c T locs cells slots) {v : Option Value} {A : State} (hv : meth.sig.returnType = none → v = none) (hlk : meth.locks = false) (hc : cells ≤ rc) (hs : slots ≤ rs) (hQ : Q v T.heap locs)
    (st : ∀ fs, (∀ (f : JFrame) (acts : List Action), f.method = m → f.locked = none → f.entered = [] → (doReturn e (T.setTop f) acts v).1 = T.setFrames fs) → Steps p.tables e below A (T.setFrames fs)) : own_Goes p e s below rc rs Q A := by
  obtain ⟨fs, hr, hrun, hended, hW, hsame⟩ := X.leave (v := v) hv hlk
  exact ⟨_, _, st fs hr, hrun, hended, _, _, rfl, hQ, ⟨_, rfl⟩, hW, hsame.mono hc hs⟩
theorem own_retN (X : Stand p l e R s m args below meth c T locs cells slots) (hx : p.tables.exec = Jvm.exec) {pc : Nat} {Ls : Array Slot} {z : Int32} {t : FieldType} {rest : List Value} (hret : meth.sig.returnType = some t) (ht : t = .boolean ∨ t = .byte ∨ t = .char ∨ t = .short) (hlk : meth.locks = false)
    (hd : decode c.code pc = .ok (.ireturn, 1)) (hc : cells ≤ rc) (hs : slots ≤ rs) (hQ : Q (some (.int (nar t z))) T.heap locs) : own_Goes p e s below rc rs Q (T.setTop (mkF m pc Ls (.int z :: rest))) :=
  own_leave X (fun h => by rw [hret] at h; cases h) hlk hc hs hQ fun fs hr => retN X hx hret ht hd hr
theorem own_retI (X : Stand p l e R s m args below meth c T locs cells slots) (hx : p.tables.exec = Jvm.exec) {pc : Nat} {Ls : Array Slot} {z : Int32} {rest : List Value} (hret : meth.sig.returnType = some .int) (hlk : meth.locks = false)
    (hd : decode c.code pc = .ok (.ireturn, 1)) (hc : cells ≤ rc) (hs : slots ≤ rs) (hQ : Q (some (.int z)) T.heap locs) : own_Goes p e s below rc rs Q (T.setTop (mkF m pc Ls (.int z :: rest))) :=
  own_leave X (fun h => by rw [hret] at h; cases h) hlk hc hs hQ fun fs hr => retOut X hx hret rfl (Or.inl ⟨rfl, Or.inl rfl, z, rfl⟩) hd hr
theorem own_retJ (X : Stand p l e R s m args below meth c T locs cells slots) (hx : p.tables.exec = Jvm.exec) {pc : Nat} {Ls : Array Slot} {z : Int64} {rest : List Value} (hret : meth.sig.returnType = some .long) (hlk : meth.locks = false)
    (hd : decode c.code pc = .ok (.lreturn, 1)) (hc : cells ≤ rc) (hs : slots ≤ rs) (hQ : Q (some (.long z)) T.heap locs) : own_Goes p e s below rc rs Q (T.setTop (mkF m pc Ls (.long z :: rest))) :=
  own_leave X (fun h => by rw [hret] at h; cases h) hlk hc hs hQ fun fs hr => retOut X hx hret rfl (Or.inr (Or.inl ⟨rfl, rfl, z, rfl⟩)) hd hr
theorem own_retA (X : Stand p l e R s m args below meth c T locs cells slots) (hx : p.tables.exec = Jvm.exec) {pc : Nat} {Ls : Array Slot} {w : Value} {t : FieldType} {rest : List Value} (hret : meth.sig.returnType = some t) (ht : t.isReference = true) (hw : w.isRef = true) (hlk : meth.locks = false)
    (hd : decode c.code pc = .ok (.areturn, 1)) (hc : cells ≤ rc) (hs : slots ≤ rs) (hQ : Q (some w) T.heap locs) : own_Goes p e s below rc rs Q (T.setTop (mkF m pc Ls (w :: rest))) :=
  own_leave X (fun h => by rw [hret] at h; cases h) hlk hc hs hQ fun fs hr => retOut X hx hret (by rcases ref_cases hw with rfl | ⟨z, rfl⟩ <;> cases t <;> first | rfl | exact absurd ht (by decide)) (Or.inr (Or.inr (Or.inr (Or.inr ⟨rfl, ht, hw⟩)))) hd hr
theorem own_ret0 (X : Stand p l e R s m args below meth c T locs cells slots) (hx : p.tables.exec = Jvm.exec) {pc : Nat} {Ls : Array Slot} (hret : meth.sig.returnType = none) (hlk : meth.locks = false)
    (hd : decode c.code pc = .ok (.return_, 1)) (hc : cells ≤ rc) (hs : slots ≤ rs) (hQ : Q none T.heap locs) : own_Goes p e s below rc rs Q (T.setTop (mkF m pc Ls [])) :=
  own_leave X (fun _ => rfl) hlk hc hs hQ fun fs hr => X.returnOut hx hret hd hr
/-- what a walk through one body knows of it -/
def own_Ctx (Z : State) (p : Program) (s : State) (m : MethodId) (meth : Method) (c : Code) (bytes : ByteArray) (maxl : Nat) (own : String) (ret : Option FieldType) (nm : String) : Prop :=
  p.tables.exec = Jvm.exec ∧ Z.Warmed39 s.vm ∧ c.code = bytes ∧ c.maxLocals = maxl ∧ s.vm.findClass own = some m.cls ∧ meth.sig.returnType = ret ∧ meth.locks = false ∧ meth.name = nm
/-- the contract of one body: from the arguments as' and the heap h0 it returns, and Q tells what it leaves -/
abbrev own_Met (l : Launch) (Z : State) (y : MethodName) (bytes : ByteArray) (maxl : Nat) (ret : Option FieldType) (ws : List Jvm.Cond) (rm : Room) (as' : Array Value) (h0 : Heap) (Q : Option Value → Heap → List Loc → Prop) : Prop :=
  MetFree l y (head1 (Jvm.Cond.code y bytes maxl ret :: ws) rm) (fun a U => a = as' ∧ Z.Warmed39 U.vm ∧ U.heap = h0) (fun _ _ _ _ _ => True) (fun _ U o U' => ∃ v L, o = .returned v ∧ Q v U'.heap L ∧ FrameEnd U o U' L rm.cells rm.slots)
theorem own_met {Z : State} {y : MethodName} {bytes : ByteArray} {maxl : Nat} {ret : Option FieldType} {ws : List Jvm.Cond} {rm : Room} {as' : Array Value} {h0 : Heap} (hp : plainFor y = true)
    (body : ∀ (p : Program) (e : Env) (s : State) (m : MethodId) (below : List Frame) (meth : Method) (c : Code) (s₁ : State), own_Ctx Z p s m meth c bytes maxl y.cls ret y.name → Stand p l e rm s m as' below meth c s₁ [] 0 0 → s₁.heap = h0 → own_Goes p e s below rm.cells rm.slots Q (s₁.setTop (entryFrame m as' maxl))) :
    own_Met l Z y bytes maxl ret ws rm as' h0 Q := by
  refine MetFree.of_bodySF hp hisR ?_
  intro p e s m args below meth c s₁ Bd hml0 hP hK
  obtain ⟨rfl, hZ, hh⟩ := hP
  have X0 : Stand p l e rm s m args below meth c s₁ [] 0 0 := Stand.of_body Bd
  exact body p e s m below meth c s₁ ⟨Bd.exec, hZ, Bd.bytes, hml0, findClass_of_methodNamed Bd.named, Bd.returns, Bd.notSynchronized, (name_of_methodNamed Bd.named Bd.method).1⟩ X0 (by rw [← hh, Bd.state]; rfl)
/-- a body that writes nothing and returns w -/
def own_Pure (w : Value) (h0 : Heap) (n0 : Nat) (v : Option Value) (h : Heap) (L : List Loc) : Prop := v = some w ∧ Fr n0 L ∧ h = h0
/-- a body that returns nothing and leaves a heap of which P speaks -/
def own_Left (n0 : Nat) (P : Heap → Prop) (v : Option Value) (h : Heap) (L : List Loc) : Prop := v = none ∧ Fr n0 L ∧ P h
/-- a body that writes nothing and returns an int of which P speaks -/
def own_Some (n0 : Nat) (h0 : Heap) (P : Int32 → Prop) (v : Option Value) (h : Heap) (L : List Loc) : Prop := (∃ r : Int32, v = some (.int r) ∧ P r) ∧ Fr n0 L ∧ h = h0
/-- the law returns 1 and wrote nothing old -/
def own_One (n0 : Nat) (v : Option Value) (h : Heap) (L : List Loc) : Prop := v = some (.int 1) ∧ Fr n0 L
theorem own_narT : nar .boolean (1 : Int32) = 1 := rfl
theorem own_narF : nar .boolean (0 : Int32) = 0 := rfl
theorem own_eqi {t : Term} {k : Int32} {a : Array Value} {s : State} (h : (Cond.eq t (.int k)).value a s none s [] = some true) : t.eval a s none [] s = some (.int k) := by
  simp only [Cond.value, Term.eval] at h
  cases ht : t.eval a s none [] s with
  | none => simp [ht] at h
  | some x => cases x <;> simp [ht] at h ⊢; exact h
end OwnKit
section OwnGrid
variable {Z : State} {h h' h'' : Heap} {n0 : Nat} {a b x : Addr} {cb cl : Cell} {kA kc : ClassId} {ty : FieldType} {nb : Nat} {f : Nat → Value} {sl i j : Nat} {v : Value}
/-- the blocks at b, by their cell: nb places, each null (and all its 64 homes at their first value) or a block of 64 of its own -/
def own_GridAt (Z : State) (h : Heap) (n0 : Nat) (b : Addr) (cb : Cell) (kA : ClassId) (ty : FieldType) (nb : Nat) (f : Nat → Value) : Prop :=
  Arr Z h b cb (.array ty) ∧ cb.cls = kA ∧ n0 ≤ b ∧ cb.slots.size = nb ∧
    (∀ j, j < nb → (cb.slots[j]? = some .null ∧ ∀ i, i < 64 → f (64 * j + i) = defaultValue ty) ∨
      ∃ (x : Addr) (cl : Cell), cb.slots[j]? = some (.ref x) ∧ Arr Z h x cl ty ∧ n0 ≤ x ∧ cl.slots.size = 64 ∧ ∀ i, i < 64 → cl.slots[i]? = some (f (64 * j + i))) ∧
    ∀ (j j' : Nat) (x : Addr), cb.slots[j]? = some (.ref x) → cb.slots[j']? = some (.ref x) → j = j'
theorem own_kinds {t t' : FieldType} {c : Cell} (A : Arr Z h a c t) (B : Arr Z h a cl t') : t = t' := by
  obtain ⟨h1, ⟨-, k1, k2, c1, k3⟩, -⟩ := A
  obtain ⟨g1, ⟨-, l1, l2, c2, l3⟩, -⟩ := B
  cases h1.symm.trans g1
  cases k2.symm.trans l2
  rw [k3] at l3
  cases l3
  rfl
theorem own_arr_ne (t : FieldType) : FieldType.array t ≠ t := by
  induction t with
  | array t ih => exact fun q => ih (FieldType.array.inj q)
  | _ => exact fun q => nomatch q
theorem own_GridAt.ne (G : own_GridAt Z h n0 b cb kA ty nb f) (A : Arr Z h x cl ty) : x ≠ b := fun q => by
  subst q
  exact own_arr_ne ty (own_kinds G.1 A)
theorem own_GridAt.fresh {n : Int32} (A : Arr Z h b (newA kA (.array ty) n) (.array ty)) (hn : n0 ≤ b) (hs : n.toNatClampNeg = nb) (hf : ∀ k, f k = defaultValue ty) : own_GridAt Z h n0 b (newA kA (.array ty) n) kA ty nb f := by
  have hnull : ∀ (j : Nat) (v : Value), (newA kA (.array ty) n).slots[j]? = some v → v = .null := fun j v q => by
    simp only [newA, Array.getElem?_replicate] at q
    split at q
    · exact (Option.some.inj q).symm
    · cases q
  refine ⟨A, rfl, hn, by rw [sz_new]; exact hs, fun j hj => Or.inl ⟨?_, fun i _ => hf _⟩, fun j j' x q _ => nomatch hnull _ _ q⟩
  have : j < n.toNatClampNeg := by omega
  simp [newA, this, defaultValue]
theorem own_GridAt.ext (G : own_GridAt Z h n0 b cb kA ty nb f) (E : Ext h h') : own_GridAt Z h' n0 b cb kA ty nb f := by
  obtain ⟨g1, g2, g3, g4, g5, g6⟩ := G
  refine ⟨g1.ext E, g2, g3, g4, fun j hj => (g5 j hj).imp id ?_, g6⟩
  rintro ⟨x, cl, q1, q2, q3⟩
  exact ⟨x, cl, q1, q2.ext E, q3⟩
theorem own_GridAt.wrO (G : own_GridAt Z h n0 b cb kA ty nb f) (W : Wr h h' a sl v) (ne : ∀ (x : Addr) (c : Cell) (t : FieldType), Arr Z h x c t → x ≠ a) : own_GridAt Z h' n0 b cb kA ty nb f := by
  obtain ⟨g1, g2, g3, g4, g5, g6⟩ := G
  refine ⟨g1.other W (ne _ _ _ g1), g2, g3, g4, fun j hj => (g5 j hj).imp id ?_, g6⟩
  rintro ⟨x, cl, q1, q2, q3⟩
  exact ⟨x, cl, q1, q2.other W (ne _ _ _ q2), q3⟩
theorem own_GridAt.fill (G : own_GridAt Z h n0 b cb kA ty nb f) (E : Ext h h') (A : Arr Z h' h.size (newA kc ty (64 : Int32)) ty) (hj : j < nb) (hz : cb.slots[j]? = some .null) (W : Wr h' h'' b j (.ref h.size)) (hn : n0 ≤ h.size) :
    own_GridAt Z h'' n0 b (cb.setSlot j (.ref h.size)) kA ty nb f ∧ Arr Z h'' h.size (newA kc ty (64 : Int32)) ty := by
  have G' := G.ext E
  have hA : Arr Z h'' h.size (newA kc ty (64 : Int32)) ty := A.other W (G'.ne A)
  obtain ⟨g1, g2, g3, g4, g5, g6⟩ := G
  obtain ⟨e1, -, -, -, -, -⟩ := id G'
  have hold : ∀ (k : Nat) (x : Addr), cb.slots[k]? = some (.ref x) → x < h.size := fun k x q => by
    have hk : k < nb := by rw [← g4]; exact (Array.getElem?_eq_some_iff.mp q).1
    rcases g5 k hk with ⟨q1, -⟩ | ⟨y, cl, q1, q2, -⟩
    · cases q1.symm.trans q
    · cases q1.symm.trans q; exact q2.lt
  have same : (cb.setSlot j (.ref h.size)).slots[j]? = some (.ref h.size) := by simp [Cell.setSlot, g4, hj]
  have others : ∀ k, k ≠ j → (cb.setSlot j (.ref h.size)).slots[k]? = cb.slots[k]? := fun k q => by
    simp only [Cell.setSlot]; exact Array.getElem?_setIfInBounds_ne (Ne.symm q)
  refine ⟨⟨e1.same W, g2, g3, by rw [sz_set]; exact g4, fun k hk => ?_, fun k k' y q q' => ?_⟩, hA⟩
  · by_cases u : k = j
    · subst u
      refine Or.inr ⟨h.size, _, same, hA, hn, by rw [sz_new]; rfl, fun i hi => ?_⟩
      rcases g5 k hk with ⟨-, q2⟩ | ⟨y, cl, q1, -⟩
      · rw [q2 i hi]
        show (Array.replicate 64 (defaultValue ty))[i]? = _
        rw [Array.getElem?_replicate, if_pos hi]
      · cases q1.symm.trans hz
    · rw [others k u]
      refine (g5 k hk).imp id ?_
      rintro ⟨y, cl, q1, q2, q3⟩
      have q4 := q2.ext E
      exact ⟨y, cl, q1, q4.other W (G'.ne q4), q3⟩
  · by_cases u : k = j <;> by_cases u' : k' = j
    · rw [u, u']
    · subst u
      rw [same] at q; cases q
      rw [others k' u'] at q'
      exact absurd (hold _ _ q') (Nat.lt_irrefl _)
    · subst u'
      rw [same] at q'; cases q'
      rw [others k u] at q
      exact absurd (hold _ _ q) (Nat.lt_irrefl _)
    · rw [others k u] at q; rw [others k' u'] at q'
      exact g6 _ _ _ q q'
theorem own_GridAt.set (G : own_GridAt Z h n0 b cb kA ty nb f) (hz : cb.slots[j]? = some (.ref x)) (A : Arr Z h x cl ty) (hi : i < 64) (W : Wr h h' x i v) : own_GridAt Z h' n0 b cb kA ty nb (fun k => if k = 64 * j + i then v else f k) := by
  have hb : b ≠ x := (G.ne A).symm
  obtain ⟨g1, g2, g3, g4, g5, g6⟩ := G
  refine ⟨g1.other W hb, g2, g3, g4, fun k hk => ?_, g6⟩
  by_cases u : k = j
  · subst u
    rcases g5 k hk with ⟨q1, -⟩ | ⟨y, cl', q1, q2, q3, q4, q5⟩
    · cases q1.symm.trans hz
    · cases q1.symm.trans hz
      cases q2.1.symm.trans A.1
      refine Or.inr ⟨x, _, hz, A.same W, q3, by rw [sz_set]; exact q4, fun i' hi' => ?_⟩
      by_cases t : i' = i
      · subst t; simp [Cell.setSlot, q4, hi]
      · dsimp only
        rw [if_neg (by omega)]
        simp only [Cell.setSlot]
        rw [Array.getElem?_setIfInBounds_ne (Ne.symm t)]
        exact q5 i' hi'
  · rcases g5 k hk with ⟨q1, q2⟩ | ⟨y, cl', q1, q2, q3, q4, q5⟩
    · exact Or.inl ⟨q1, fun i' hi' => by dsimp only; rw [if_neg (by omega)]; exact q2 i' hi'⟩
    · have hy : y ≠ x := fun e => u (g6 _ _ _ (e ▸ q1) hz)
      exact Or.inr ⟨y, cl', q1, q2.other W hy, q3, q4, fun i' hi' => by dsimp only; rw [if_neg (by omega)]; exact q5 i' hi'⟩
end OwnGrid
section OwnNums
theorem own_toNat {x : Int32} (h : 0 ≤ x.toInt) : ¬ x < 0 ∧ (x.toNatClampNeg : Int) = x.toInt := by
  have e0 : (0 : Int32).toInt = 0 := rfl
  refine ⟨by rw [Int32.lt_iff_toInt_lt]; omega, ?_⟩
  simp only [Int32.toNatClampNeg]; omega
/-- home >>> 6, home & 63 -/
theorem own_hi {x : Int32} (h : 0 ≤ x.toInt) : (XT.ushr x (6 : Int32)).toInt = x.toInt / 64 := by
  have h0 : (0 : Int32) ≤ x := Jvm.Kit.i32_nonneg.mpr h
  exact Jvm.Kit.i32_iushr h0 (n := ((6 : Int32) &&& 31).toUInt32) (k := 6) (by decide) (by decide)
theorem own_lo (x : Int32) : (x &&& (63 : Int32)).toInt = x.toInt % 64 := Jvm.Kit.i32_mask x 63 (k := 6) (by decide) (by decide)
/-- (int) ((size + 63L) >>> 6) -/
theorem own_nb {n : Int32} (h : 0 ≤ n.toInt) : ((XT.ushrL (n.toInt64 + (63 : Int64)) (6 : Int32)).toInt32).toInt = (n.toInt + 63) / 64 := by
  have h2 := Int32.toInt_lt n
  have e1 : n.toInt64.toInt = n.toInt := Jvm.Kit.i64_of_i32 n
  have e2 : (n.toInt64 + (63 : Int64)).toInt = n.toInt + 63 := by
    rw [Jvm.Kit.i64_add (by rw [e1]; show _ ≤ _ + (63 : Int); omega) (by rw [e1]; show _ + (63 : Int) < _; omega), e1]; rfl
  have h0 : (0 : Int64) ≤ n.toInt64 + (63 : Int64) := Jvm.Kit.i64_nonneg.mpr (by omega)
  have e3 : (XT.ushrL (n.toInt64 + (63 : Int64)) (6 : Int32)).toInt = (n.toInt + 63) / 64 := by
    have := Jvm.Kit.i64_lushr h0 (n := ((6 : Int32).toInt64.toUInt64 &&& Int64.toUInt64 63)) (k := 6) (by decide) (by decide)
    rw [e2] at this; exact this
  rw [Jvm.Kit.i32_of_i64 (by omega) (by omega), e3]
theorem own_i2c (x : Int32) : nar .char (x.toUInt32.toUInt16.toUInt32.toInt32) = x &&& (65535 : Int32) := by
  have e : ∀ y : Int32, y.toUInt32.toUInt16.toUInt32.toInt32.toBitVec.toNat = y.toBitVec.toNat % 2 ^ 16 := fun y => by
    show y.toUInt32.toUInt16.toUInt32.toNat = _
    rw [UInt16.toNat_toUInt32, UInt32.toNat_toUInt16]
    rfl
  have e2 : (x &&& (65535 : Int32)).toBitVec.toNat = x.toBitVec.toNat % 2 ^ 16 := by
    show (x.toBitVec &&& (65535 : Int32).toBitVec).toNat = _
    rw [BitVec.toNat_and, show (65535 : Int32).toBitVec.toNat = 2 ^ 16 - 1 from by decide, Nat.and_two_pow_sub_one_eq_mod]
  apply Int32.toBitVec_inj.mp
  apply BitVec.eq_of_toNat_eq
  show ((x.toUInt32.toUInt16.toUInt32.toInt32).toUInt32.toUInt16.toUInt32.toInt32).toBitVec.toNat = _
  rw [e, e, e2]
  omega
end OwnNums
theorem own_in {c : Cell} {j : Int32} (h : ¬ j < 0) (q : j.toNatClampNeg < c.slots.size) : ¬ (j < 0 ∨ c.slots.size ≤ j.toNatClampNeg) := fun z => z.elim h (fun y => absurd q (Nat.not_lt.mpr y))
theorem own_put {c : Cell} {j : Nat} {v : Value} (h : j < c.slots.size) : (c.setSlot j v).slots[j]? = some v := by simp [Cell.setSlot, h]
theorem own_re {Z : State} {h : Heap} {n0 : Nat} {b : Addr} {cb : Cell} {kA : ClassId} {ty : FieldType} {nb m k : Nat} {v : Value} {f : Nat → Value} (q : m = k) (G : own_GridAt Z h n0 b cb kA ty nb (fun j => if j = m then v else f j)) : own_GridAt Z h n0 b cb kA ty nb (fun j => if j = k then v else f j) := q ▸ G
theorem own_place {x n : Int32} (h0 : 0 ≤ x.toInt) (h1 : x.toInt < n.toInt) : ¬ XT.ushr x (6 : Int32) < 0 ∧ (XT.ushr x (6 : Int32)).toNatClampNeg < (n.toInt.toNat + 63) / 64 ∧ ¬ (x &&& (63 : Int32)) < 0 ∧ (x &&& (63 : Int32)).toNatClampNeg < 64 ∧
    64 * (XT.ushr x (6 : Int32)).toNatClampNeg + (x &&& (63 : Int32)).toNatClampNeg = x.toInt.toNat ∧ (XT.ushr x (6 : Int32)).toNatClampNeg = x.toInt.toNat / 64 := by
  have e1 := own_hi h0
  have e2 := own_lo x
  obtain ⟨a1, a2⟩ := own_toNat (x := XT.ushr x (6 : Int32)) (by omega)
  obtain ⟨b1, b2⟩ := own_toNat (x := x &&& (63 : Int32)) (by omega)
  refine ⟨a1, ?_, b1, ?_, ?_, ?_⟩ <;> omega
theorem own_blocks {n : Int32} (h0 : 0 ≤ n.toInt) (h1 : n.toInt ≤ 1024) : ¬ (XT.ushrL (n.toInt64 + (63 : Int64)) (6 : Int32)).toInt32 < 0 ∧ (XT.ushrL (n.toInt64 + (63 : Int64)) (6 : Int32)).toInt32.toNatClampNeg = (n.toInt.toNat + 63) / 64 ∧ (XT.ushrL (n.toInt64 + (63 : Int64)) (6 : Int32)).toInt32.toNatClampNeg ≤ 16 := by
  have e1 := own_nb h0
  obtain ⟨a1, a2⟩ := own_toNat (x := (XT.ushrL (n.toInt64 + (63 : Int64)) (6 : Int32)).toInt32) (by omega)
  refine ⟨a1, ?_, ?_⟩ <;> omega
/-- the object at a is a HomeMarks of n homes whose marks are f -/
def own_HM (Z : State) (h : Heap) (n0 : Nat) (a : Addr) (n : Int32) (f : Nat → Value) : Prop :=
  Exa Z h a "com/example/songpool/songpool/table/HomeMarks" ∧ n0 ≤ a ∧ Fld Z h a "com/example/songpool/songpool/table/HomeMarks" "size" "I" (.int n) ∧ ((Fld Z h a "com/example/songpool/songpool/table/HomeMarks" "blocks" "[[C" .null ∧ ∀ k, f k = .int 0) ∨ ∃ (b : Addr) (kA : ClassId) (cb : Cell), Fld Z h a "com/example/songpool/songpool/table/HomeMarks" "blocks" "[[C" (.ref b) ∧ OvrA Z kA .char "[C" ∧ own_GridAt Z h n0 b cb kA .char ((n.toInt.toNat + 63) / 64) f)
theorem own_Hne {x y : Int32} (hx : 0 ≤ x.toInt) (hy : 0 ≤ y.toInt) (h : ¬ x = y) : ¬ x.toInt.toNat = y.toInt.toNat := fun q => h (Int32.toInt_inj.mp (by omega))
theorem own_n (p : Int32) : 1 ≤ ((p &&& (1023 : Int32)) + (1 : Int32)).toInt ∧ ((p &&& (1023 : Int32)) + (1 : Int32)).toInt ≤ 1024 := by
  have e1 : (p &&& (1023 : Int32)).toInt = p.toInt % 2 ^ 10 := Jvm.Kit.i32_mask p 1023 (k := 10) (by decide) (by decide)
  have e0 : (1 : Int32).toInt = 1 := rfl
  have e2 : ((p &&& (1023 : Int32)) + (1 : Int32)).toInt = (p &&& (1023 : Int32)).toInt + (1 : Int32).toInt := Jvm.Kit.i32_add (by omega) (by omega)
  omega
theorem own_nz (p : Int32) : ((p &&& (1023 : Int32)) + (1 : Int32)) ≠ 0 := fun q => by
  have := (own_n p).1
  rw [q] at this
  exact absurd this (by decide)
theorem own_rem (p : Int32) {n : Int32} (h : 1 ≤ n.toInt) : 0 ≤ ((p &&& (2147483647 : Int32)) % n).toInt ∧ ((p &&& (2147483647 : Int32)) % n).toInt < n.toInt := by
  have e1 : (p &&& (2147483647 : Int32)).toInt = p.toInt % 2 ^ 31 := Jvm.Kit.i32_mask p 2147483647 (k := 31) (by decide) (by decide)
  have e2 := Jvm.Kit.i32_rem_nonneg (x := p &&& (2147483647 : Int32)) (y := n) (by omega)
  rw [e2]
  exact ⟨Int.emod_nonneg _ (by omega), Int.emod_lt_of_pos _ (by omega)⟩
theorem pd__I_V : parseMethodDescriptor "(I)V" = some ⟨[.int], none⟩ := by decide +kernel
theorem pd__I_I : parseMethodDescriptor "(I)I" = some ⟨[.int], some .int⟩ := by decide +kernel
theorem pd__II_V : parseMethodDescriptor "(II)V" = some ⟨[.int, .int], none⟩ := by decide +kernel
theorem d1_0 : decode prog_66_method_1_code 0 = .ok (.aload_n 0, 1) := by decide +kernel
theorem d1_1 : decode prog_66_method_1_code 1 = .ok (.invokespecial 3, 3) := by decide +kernel
theorem d1_4 : decode prog_66_method_1_code 4 = .ok (.aload_n 0, 1) := by decide +kernel
theorem d1_5 : decode prog_66_method_1_code 5 = .ok (.iload_n 1, 1) := by decide +kernel
theorem d1_6 : decode prog_66_method_1_code 6 = .ok (.putfield 9, 3) := by decide +kernel
theorem d1_9 : decode prog_66_method_1_code 9 = .ok (.return_, 1) := by decide +kernel
theorem pn_1 : plainName "com/example/songpool/songpool/table/HomeMarks" = true := by first | (simp [plainName, overriddenIn]; done) | decide +kernel
theorem ef_1 (m : MethodId) (a1 : Addr) (p2 : Int32) : entryFrame m #[(.ref a1), (.int p2)] 2 = mkF m 0 #[.val (.ref a1), .val (.int p2)] [] := by first | (simp [entryFrame, mkF, argsToLocals, Value.category]; done) | rfl
set_option maxRecDepth 65536 in
set_option maxHeartbeats 40000000 in
theorem rm1 (l : Launch) (Z : State) (a0 : Array Value) (hw : ∀ d ∈ tables_1, d.before a0 Z = true) (ws : List Jvm.Cond) (a1 : Addr) (p2 : Int32)  (h0 : Heap) (n0 : Nat) (ha : n0 ≤ a1) (E : Exa Z h0 a1 "com/example/songpool/songpool/table/HomeMarks") (Fs : Fld Z h0 a1 "com/example/songpool/songpool/table/HomeMarks" "size" "I" (.int (0 : Int32))) (Fb : Fld Z h0 a1 "com/example/songpool/songpool/table/HomeMarks" "blocks" "[[C" .null) :
    own_Met l Z (⟨"com/example/songpool/songpool/table/HomeMarks", "<init>", "(I)V"⟩ : MethodName) prog_66_method_1_code 2 none ws ({ frames := 1, cells := 0, slots := 0, locals := 12 } : Room) #[(.ref a1), (.int p2)] h0 (own_Left n0 (fun h => own_HM Z h n0 a1 p2 (fun _ => .int 0))) := by
  refine own_met (plainFor_of_name pn_1) ?_
  intro p e s m below meth c s₁ C X0 e0
  obtain ⟨hx, hZ, hby, hml, hown, hret, hlk, hnm⟩ := C
  rw [ef_1]
  show own_Goes p e s below _ _ _ (s₁.setTop (mkF m 0 #[.val (.ref a1), .val (.int p2)] []))
  refine own_via (fun _ q => XS.aloadN X0.here hx rfl (hb hby d1_0) rfl rfl q) ?_
  show own_Goes p e s below _ _ _ (s₁.setTop (mkF m 1 #[.val (.ref a1), .val (.int p2)] [(.ref a1)]))
  obtain ⟨T1, X1, e1, st1⟩ := initO X0 hx hZ hown (hw _ (List.mem_of_getElem? (i := 8) rfl)) (hw _ (List.mem_of_getElem? (i := 9) rfl)) (hw _ (List.mem_of_getElem? (i := 10) rfl)) e0 (g := (mkF m 1 #[.val (.ref a1), .val (.int p2)] [(.ref a1)])) rfl (by rw [hml]; rfl) rfl (hb hby d1_1) (by decide) (W := 0) (by show 2 * 0 + _ ≤ _; exact Nat.le_of_eq rfl) (by decide)
  refine own_via st1 ?_
  show own_Goes p e s below _ _ _ (T1.setTop (mkF m 4 #[.val (.ref a1), .val (.int p2)] []))
  refine own_via (fun _ q => XS.aloadN X1.here hx rfl (hb hby d1_4) rfl rfl q) ?_
  show own_Goes p e s below _ _ _ (T1.setTop (mkF m 5 #[.val (.ref a1), .val (.int p2)] [(.ref a1)]))
  refine own_via (fun _ q => XS.iloadN X1.here hx rfl (hb hby d1_5) rfl q) ?_
  show own_Goes p e s below _ _ _ (T1.setTop (mkF m 6 #[.val (.ref a1), .val (.int p2)] [(.int p2), (.ref a1)]))
  obtain ⟨T2, h2, X2, e2, W2, st2⟩ := putF X1 hx hZ hown (host := "") (Or.inl (hw _ (List.mem_of_getElem? (i := 11) rfl))) Via.refl e1 Fs E (Or.inr ⟨(hw _ (List.mem_of_getElem? (i := 12) rfl)), rfl, hnm⟩) (hw _ (List.mem_of_getElem? (i := 3) rfl)) (ty := .int) (by decide) rfl rfl (g := (mkF m 6 #[.val (.ref a1), .val (.int p2)] [(.int p2), (.ref a1)])) rfl rfl (hb hby d1_6)
  have N2 := Fr.snoc X2 (Fr.nil n0) ha
  refine own_via st2 ?_
  show own_Goes p e s below _ _ _ (T2.setTop (mkF m 9 #[.val (.ref a1), .val (.int p2)] []))
  exact own_ret0 X2 hx hret hlk (hb hby d1_9) (by decide) (by decide) ⟨rfl, N2, by rw [e2]; exact ⟨E.wr W2, ha, Fs.same W2, Or.inl ⟨Fb.other W2 (Or.inr (slot_ne (Z := Z) (a0 := a0) (C := "com/example/songpool/songpool/table/HomeMarks") (Or.inl (hw _ (List.mem_of_getElem? (i := 19) rfl))) (Or.inr (hw _ (List.mem_of_getElem? (i := 12) rfl))) (by decide) (t := .array (.array .char)) (t' := .int) (by decide) (by decide))), fun _ => rfl⟩⟩⟩
theorem d3_0 : decode prog_66_method_2_code 0 = .ok (.aload_n 0, 1) := by decide +kernel
theorem d3_1 : decode prog_66_method_2_code 1 = .ok (.getfield 13, 3) := by decide +kernel
theorem d3_4 : decode prog_66_method_2_code 4 = .ok (.ifnonnull 5, 3) := by decide +kernel
theorem d3_7 : decode prog_66_method_2_code 7 = .ok (.iconst 0, 1) := by decide +kernel
theorem d3_8 : decode prog_66_method_2_code 8 = .ok (.ireturn, 1) := by decide +kernel
theorem d3_9 : decode prog_66_method_2_code 9 = .ok (.aload_n 0, 1) := by decide +kernel
theorem d3_10 : decode prog_66_method_2_code 10 = .ok (.getfield 13, 3) := by decide +kernel
theorem d3_13 : decode prog_66_method_2_code 13 = .ok (.iload_n 1, 1) := by decide +kernel
theorem d3_14 : decode prog_66_method_2_code 14 = .ok (.bipush 6, 2) := by decide +kernel
theorem d3_16 : decode prog_66_method_2_code 16 = .ok (.iushr, 1) := by decide +kernel
theorem d3_17 : decode prog_66_method_2_code 17 = .ok (.aaload, 1) := by decide +kernel
theorem d3_18 : decode prog_66_method_2_code 18 = .ok (.astore_n 2, 1) := by decide +kernel
theorem d3_19 : decode prog_66_method_2_code 19 = .ok (.aload_n 2, 1) := by decide +kernel
theorem d3_20 : decode prog_66_method_2_code 20 = .ok (.ifnonnull 7, 3) := by decide +kernel
theorem d3_23 : decode prog_66_method_2_code 23 = .ok (.iconst 0, 1) := by decide +kernel
theorem d3_24 : decode prog_66_method_2_code 24 = .ok (.goto 9, 3) := by decide +kernel
theorem d3_27 : decode prog_66_method_2_code 27 = .ok (.aload_n 2, 1) := by decide +kernel
theorem d3_28 : decode prog_66_method_2_code 28 = .ok (.iload_n 1, 1) := by decide +kernel
theorem d3_29 : decode prog_66_method_2_code 29 = .ok (.bipush 63, 2) := by decide +kernel
theorem d3_31 : decode prog_66_method_2_code 31 = .ok (.iand, 1) := by decide +kernel
theorem d3_32 : decode prog_66_method_2_code 32 = .ok (.caload, 1) := by decide +kernel
theorem d3_33 : decode prog_66_method_2_code 33 = .ok (.ireturn, 1) := by decide +kernel
theorem pn_3 : plainName "com/example/songpool/songpool/table/HomeMarks" = true := by first | (simp [plainName, overriddenIn]; done) | decide +kernel
theorem ef_3 (m : MethodId) (a1 : Addr) (p2 : Int32) : entryFrame m #[(.ref a1), (.int p2)] 3 = mkF m 0 #[.val (.ref a1), .val (.int p2), .unset] [] := by first | (simp [entryFrame, mkF, argsToLocals, Value.category]; done) | rfl
set_option maxRecDepth 65536 in
set_option maxHeartbeats 40000000 in
theorem rm3 (l : Launch) (Z : State) (a0 : Array Value) (hw : ∀ d ∈ tables_1, d.before a0 Z = true) (ws : List Jvm.Cond) (a1 : Addr) (p2 : Int32) (n r : Int32) (f : Nat → Value) (h0 : Heap) (n0 : Nat) (hm : own_HM Z h0 n0 a1 n f) (H0 : 0 ≤ p2.toInt) (H1 : p2.toInt < n.toInt) (hr : f p2.toInt.toNat = .int r) :
    own_Met l Z (⟨"com/example/songpool/songpool/table/HomeMarks", "get", "(I)I"⟩ : MethodName) prog_66_method_2_code 3 (some .int) ws ({ frames := 0, cells := 0, slots := 0, locals := 0 } : Room) #[(.ref a1), (.int p2)] h0 (own_Pure (.int r) h0 n0) := by
  refine own_met (plainFor_of_name pn_3) ?_
  intro p e s m below meth c s₁ C X0 e0
  obtain ⟨hx, hZ, hby, hml, hown, hret, hlk, hnm⟩ := C
  rw [ef_3]
  obtain ⟨E, ha, Fs, hb⟩ := hm
  obtain ⟨hJ, hJn, hI, hI64, hJI, hJB⟩ := own_place H0 H1
  show own_Goes p e s below _ _ _ (s₁.setTop (mkF m 0 #[.val (.ref a1), .val (.int p2), .unset] []))
  rcases hb with ⟨Fb, hf⟩ | ⟨b, kA, cb, Fb, O, G⟩
  · show own_Goes p e s below _ _ _ (s₁.setTop (mkF m 0 #[.val (.ref a1), .val (.int p2), .unset] []))
    refine own_via (fun _ q => XS.aloadN X0.here hx rfl (hb hby d3_0) rfl rfl q) ?_
    show own_Goes p e s below _ _ _ (s₁.setTop (mkF m 1 #[.val (.ref a1), .val (.int p2), .unset] [(.ref a1)]))
    obtain ⟨T1, X1, e1, st1⟩ := getF X0 hx hZ hown (host := "") (Or.inl (hw _ (List.mem_of_getElem? (i := 18) rfl))) Via.refl e0 Fb (g := (mkF m 1 #[.val (.ref a1), .val (.int p2), .unset] [(.ref a1)])) rfl rfl (hb hby d3_1)
    refine own_via st1 ?_
    show own_Goes p e s below _ _ _ (T1.setTop (mkF m 4 #[.val (.ref a1), .val (.int p2), .unset] [.null]))
    refine own_via (fun _ q => XT.ifnonnullNo X1.here hx rfl (hb hby d3_4) rfl q) ?_
    show own_Goes p e s below _ _ _ (T1.setTop (mkF m 7 #[.val (.ref a1), .val (.int p2), .unset] []))
    refine own_via (fun _ q => XT.iconstV X1.here hx rfl (0 : Int32) (hb hby d3_7) rfl q) ?_
    show own_Goes p e s below _ _ _ (T1.setTop (mkF m 8 #[.val (.ref a1), .val (.int p2), .unset] [(.int (0 : Int32))]))
    exact own_retI X1 hx hret hlk (hb hby d3_8) (by decide) (by decide) ⟨congrArg some ((hf _).symm.trans hr), (Fr.nil n0), e1⟩
  · show own_Goes p e s below _ _ _ (s₁.setTop (mkF m 0 #[.val (.ref a1), .val (.int p2), .unset] []))
    refine own_via (fun _ q => XS.aloadN X0.here hx rfl (hb hby d3_0) rfl rfl q) ?_
    show own_Goes p e s below _ _ _ (s₁.setTop (mkF m 1 #[.val (.ref a1), .val (.int p2), .unset] [(.ref a1)]))
    obtain ⟨T2, X2, e2, st2⟩ := getF X0 hx hZ hown (host := "") (Or.inl (hw _ (List.mem_of_getElem? (i := 18) rfl))) Via.refl e0 Fb (g := (mkF m 1 #[.val (.ref a1), .val (.int p2), .unset] [(.ref a1)])) rfl rfl (hb hby d3_1)
    refine own_via st2 ?_
    show own_Goes p e s below _ _ _ (T2.setTop (mkF m 4 #[.val (.ref a1), .val (.int p2), .unset] [(.ref b)]))
    refine own_via (fun _ q => XT.ifnonnullYes X2.here hx rfl (pc0 := 4) (pc' := 9) rfl (hb hby d3_4) rfl (by decide) (by decide) q) ?_
    show own_Goes p e s below _ _ _ (T2.setTop (mkF m 9 #[.val (.ref a1), .val (.int p2), .unset] []))
    refine own_via (fun _ q => XS.aloadN X2.here hx rfl (hb hby d3_9) rfl rfl q) ?_
    show own_Goes p e s below _ _ _ (T2.setTop (mkF m 10 #[.val (.ref a1), .val (.int p2), .unset] [(.ref a1)]))
    obtain ⟨T3, X3, e3, st3⟩ := getF X2 hx hZ hown (host := "") (Or.inl (hw _ (List.mem_of_getElem? (i := 18) rfl))) Via.refl e2 Fb (g := (mkF m 10 #[.val (.ref a1), .val (.int p2), .unset] [(.ref a1)])) rfl rfl (hb hby d3_10)
    refine own_via st3 ?_
    show own_Goes p e s below _ _ _ (T3.setTop (mkF m 13 #[.val (.ref a1), .val (.int p2), .unset] [(.ref b)]))
    refine own_via (fun _ q => XS.iloadN X3.here hx rfl (hb hby d3_13) rfl q) ?_
    show own_Goes p e s below _ _ _ (T3.setTop (mkF m 14 #[.val (.ref a1), .val (.int p2), .unset] [(.int p2), (.ref b)]))
    refine own_via (fun _ q => XT.bipushV X3.here hx rfl (6 : Int32) (hb hby d3_14) rfl q) ?_
    show own_Goes p e s below _ _ _ (T3.setTop (mkF m 16 #[.val (.ref a1), .val (.int p2), .unset] [(.int (6 : Int32)), (.int p2), (.ref b)]))
    refine own_via (fun _ q => XT.iushr X3.here hx rfl (hb hby d3_16) rfl q) ?_
    show own_Goes p e s below _ _ _ (T3.setTop (mkF m 17 #[.val (.ref a1), .val (.int p2), .unset] [(.int (XT.ushr p2 (6 : Int32))), (.ref b)]))
    rcases G.2.2.2.2.1 _ hJn with ⟨z1, z2⟩ | ⟨x, c1, z1, A, hx0, zs, zv⟩
    · show own_Goes p e s below _ _ _ (T3.setTop (mkF m 17 #[.val (.ref a1), .val (.int p2), .unset] [(.int (XT.ushr p2 (6 : Int32))), (.ref b)]))
      refine own_via (fun t q => X3.aaload hx (j := XT.ushr p2 (6 : Int32)) (v := .null) (by rw [e3]; exact G.1.1) (State.isArrayOf_alike hZ.alike G.1.2.1) rfl G.1.2.2 (own_in hJ (by rw [G.2.2.2.1]; exact hJn)) z1 (g := (mkF m 17 #[.val (.ref a1), .val (.int p2), .unset] [(.int (XT.ushr p2 (6 : Int32))), (.ref b)])) rfl rfl (hb hby d3_17) t q) ?_
      show own_Goes p e s below _ _ _ (T3.setTop (mkF m 18 #[.val (.ref a1), .val (.int p2), .unset] [.null]))
      refine own_via (fun _ q => XS.astoreN X3.here hx rfl (hb hby d3_18) rfl rfl (l' := #[.val (.ref a1), .val (.int p2), .val .null]) rfl q) ?_
      show own_Goes p e s below _ _ _ (T3.setTop (mkF m 19 #[.val (.ref a1), .val (.int p2), .val .null] []))
      refine own_via (fun _ q => XS.aloadN X3.here hx rfl (hb hby d3_19) rfl rfl q) ?_
      show own_Goes p e s below _ _ _ (T3.setTop (mkF m 20 #[.val (.ref a1), .val (.int p2), .val .null] [.null]))
      refine own_via (fun _ q => XT.ifnonnullNo X3.here hx rfl (hb hby d3_20) rfl q) ?_
      show own_Goes p e s below _ _ _ (T3.setTop (mkF m 23 #[.val (.ref a1), .val (.int p2), .val .null] []))
      refine own_via (fun _ q => XT.iconstV X3.here hx rfl (0 : Int32) (hb hby d3_23) rfl q) ?_
      show own_Goes p e s below _ _ _ (T3.setTop (mkF m 24 #[.val (.ref a1), .val (.int p2), .val .null] [(.int (0 : Int32))]))
      refine own_via (fun _ q => XS.goto X3.here hx rfl (pc0 := 24) (pc' := 33) rfl (hb hby d3_24) (by decide) (by decide) q) ?_
      show own_Goes p e s below _ _ _ (T3.setTop (mkF m 33 #[.val (.ref a1), .val (.int p2), .val .null] [(.int (0 : Int32))]))
      exact own_retI X3 hx hret hlk (hb hby d3_33) (by decide) (by decide) ⟨congrArg some ((z2 _ hI64).symm.trans ((congrArg f hJI).trans hr)), (Fr.nil n0), e3⟩
    · show own_Goes p e s below _ _ _ (T3.setTop (mkF m 17 #[.val (.ref a1), .val (.int p2), .unset] [(.int (XT.ushr p2 (6 : Int32))), (.ref b)]))
      refine own_via (fun t q => X3.aaload hx (j := XT.ushr p2 (6 : Int32)) (v := (.ref x)) (by rw [e3]; exact G.1.1) (State.isArrayOf_alike hZ.alike G.1.2.1) rfl G.1.2.2 (own_in hJ (by rw [G.2.2.2.1]; exact hJn)) z1 (g := (mkF m 17 #[.val (.ref a1), .val (.int p2), .unset] [(.int (XT.ushr p2 (6 : Int32))), (.ref b)])) rfl rfl (hb hby d3_17) t q) ?_
      show own_Goes p e s below _ _ _ (T3.setTop (mkF m 18 #[.val (.ref a1), .val (.int p2), .unset] [(.ref x)]))
      refine own_via (fun _ q => XS.astoreN X3.here hx rfl (hb hby d3_18) rfl rfl (l' := #[.val (.ref a1), .val (.int p2), .val (.ref x)]) rfl q) ?_
      show own_Goes p e s below _ _ _ (T3.setTop (mkF m 19 #[.val (.ref a1), .val (.int p2), .val (.ref x)] []))
      refine own_via (fun _ q => XS.aloadN X3.here hx rfl (hb hby d3_19) rfl rfl q) ?_
      show own_Goes p e s below _ _ _ (T3.setTop (mkF m 20 #[.val (.ref a1), .val (.int p2), .val (.ref x)] [(.ref x)]))
      refine own_via (fun _ q => XT.ifnonnullYes X3.here hx rfl (pc0 := 20) (pc' := 27) rfl (hb hby d3_20) rfl (by decide) (by decide) q) ?_
      show own_Goes p e s below _ _ _ (T3.setTop (mkF m 27 #[.val (.ref a1), .val (.int p2), .val (.ref x)] []))
      refine own_via (fun _ q => XS.aloadN X3.here hx rfl (hb hby d3_27) rfl rfl q) ?_
      show own_Goes p e s below _ _ _ (T3.setTop (mkF m 28 #[.val (.ref a1), .val (.int p2), .val (.ref x)] [(.ref x)]))
      refine own_via (fun _ q => XS.iloadN X3.here hx rfl (hb hby d3_28) rfl q) ?_
      show own_Goes p e s below _ _ _ (T3.setTop (mkF m 29 #[.val (.ref a1), .val (.int p2), .val (.ref x)] [(.int p2), (.ref x)]))
      refine own_via (fun _ q => XT.bipushV X3.here hx rfl (63 : Int32) (hb hby d3_29) rfl q) ?_
      show own_Goes p e s below _ _ _ (T3.setTop (mkF m 31 #[.val (.ref a1), .val (.int p2), .val (.ref x)] [(.int (63 : Int32)), (.int p2), (.ref x)]))
      refine own_via (fun _ q => XS.iand X3.here hx rfl (hb hby d3_31) rfl q) ?_
      show own_Goes p e s below _ _ _ (T3.setTop (mkF m 32 #[.val (.ref a1), .val (.int p2), .val (.ref x)] [(.int (p2 &&& (63 : Int32))), (.ref x)]))
      refine own_via (fun t q => X3.caload hx (j := p2 &&& (63 : Int32)) (v := .int r) (by rw [e3]; exact A.1) (State.isArrayOf_alike hZ.alike A.2.1) A.2.2 (own_in hI (by rw [zs]; exact hI64)) ((zv _ hI64).trans (congrArg some (by rw [hJI]; exact hr))) (g := (mkF m 32 #[.val (.ref a1), .val (.int p2), .val (.ref x)] [(.int (p2 &&& (63 : Int32))), (.ref x)])) rfl rfl (hb hby d3_32) t q) ?_
      show own_Goes p e s below _ _ _ (T3.setTop (mkF m 33 #[.val (.ref a1), .val (.int p2), .val (.ref x)] [(.int r)]))
      exact own_retI X3 hx hret hlk (hb hby d3_33) (by decide) (by decide) ⟨rfl, (Fr.nil n0), e3⟩
theorem d4_0 : decode prog_66_method_3_code 0 = .ok (.aload_n 0, 1) := by decide +kernel
theorem d4_1 : decode prog_66_method_3_code 1 = .ok (.getfield 13, 3) := by decide +kernel
theorem d4_4 : decode prog_66_method_3_code 4 = .ok (.ifnonnull 23, 3) := by decide +kernel
theorem d4_7 : decode prog_66_method_3_code 7 = .ok (.aload_n 0, 1) := by decide +kernel
theorem d4_8 : decode prog_66_method_3_code 8 = .ok (.aload_n 0, 1) := by decide +kernel
theorem d4_9 : decode prog_66_method_3_code 9 = .ok (.getfield 9, 3) := by decide +kernel
theorem d4_12 : decode prog_66_method_3_code 12 = .ok (.i2l, 1) := by decide +kernel
theorem d4_13 : decode prog_66_method_3_code 13 = .ok (.ldc2_w 17, 3) := by decide +kernel
theorem d4_16 : decode prog_66_method_3_code 16 = .ok (.ladd, 1) := by decide +kernel
theorem d4_17 : decode prog_66_method_3_code 17 = .ok (.bipush 6, 2) := by decide +kernel
theorem d4_19 : decode prog_66_method_3_code 19 = .ok (.lushr, 1) := by decide +kernel
theorem d4_20 : decode prog_66_method_3_code 20 = .ok (.l2i, 1) := by decide +kernel
theorem d4_21 : decode prog_66_method_3_code 21 = .ok (.anewarray 19, 3) := by decide +kernel
theorem d4_24 : decode prog_66_method_3_code 24 = .ok (.putfield 13, 3) := by decide +kernel
theorem d4_27 : decode prog_66_method_3_code 27 = .ok (.aload_n 0, 1) := by decide +kernel
theorem d4_28 : decode prog_66_method_3_code 28 = .ok (.getfield 13, 3) := by decide +kernel
theorem d4_31 : decode prog_66_method_3_code 31 = .ok (.iload_n 1, 1) := by decide +kernel
theorem d4_32 : decode prog_66_method_3_code 32 = .ok (.bipush 6, 2) := by decide +kernel
theorem d4_34 : decode prog_66_method_3_code 34 = .ok (.iushr, 1) := by decide +kernel
theorem d4_35 : decode prog_66_method_3_code 35 = .ok (.aaload, 1) := by decide +kernel
theorem d4_36 : decode prog_66_method_3_code 36 = .ok (.astore_n 3, 1) := by decide +kernel
theorem d4_37 : decode prog_66_method_3_code 37 = .ok (.aload_n 3, 1) := by decide +kernel
theorem d4_38 : decode prog_66_method_3_code 38 = .ok (.ifnonnull 18, 3) := by decide +kernel
theorem d4_41 : decode prog_66_method_3_code 41 = .ok (.bipush 64, 2) := by decide +kernel
theorem d4_43 : decode prog_66_method_3_code 43 = .ok (.newarray .char, 2) := by decide +kernel
theorem d4_45 : decode prog_66_method_3_code 45 = .ok (.astore_n 3, 1) := by decide +kernel
theorem d4_46 : decode prog_66_method_3_code 46 = .ok (.aload_n 0, 1) := by decide +kernel
theorem d4_47 : decode prog_66_method_3_code 47 = .ok (.getfield 13, 3) := by decide +kernel
theorem d4_50 : decode prog_66_method_3_code 50 = .ok (.iload_n 1, 1) := by decide +kernel
theorem d4_51 : decode prog_66_method_3_code 51 = .ok (.bipush 6, 2) := by decide +kernel
theorem d4_53 : decode prog_66_method_3_code 53 = .ok (.iushr, 1) := by decide +kernel
theorem d4_54 : decode prog_66_method_3_code 54 = .ok (.aload_n 3, 1) := by decide +kernel
theorem d4_55 : decode prog_66_method_3_code 55 = .ok (.aastore, 1) := by decide +kernel
theorem d4_56 : decode prog_66_method_3_code 56 = .ok (.aload_n 3, 1) := by decide +kernel
theorem d4_57 : decode prog_66_method_3_code 57 = .ok (.iload_n 1, 1) := by decide +kernel
theorem d4_58 : decode prog_66_method_3_code 58 = .ok (.bipush 63, 2) := by decide +kernel
theorem d4_60 : decode prog_66_method_3_code 60 = .ok (.iand, 1) := by decide +kernel
theorem d4_61 : decode prog_66_method_3_code 61 = .ok (.iload_n 2, 1) := by decide +kernel
theorem d4_62 : decode prog_66_method_3_code 62 = .ok (.i2c, 1) := by decide +kernel
theorem d4_63 : decode prog_66_method_3_code 63 = .ok (.castore, 1) := by decide +kernel
theorem d4_64 : decode prog_66_method_3_code 64 = .ok (.return_, 1) := by decide +kernel
set_option maxRecDepth 65536 in
set_option maxHeartbeats 40000000 in
theorem sgset {p : Program} {l : Launch} {e : Env} {s : State} {m : MethodId} {args : Array Value} {below : List Frame} {meth : Method} {c : Code} {Z : State} {a0 : Array Value} {T0 : State} {locs : List Loc} {h0 : Heap} {n0 : Nat} {cells slots : Nat} (hw : ∀ d ∈ tables_1, d.before a0 Z = true) (C : own_Ctx Z p s m meth c prog_66_method_3_code 4 "com/example/songpool/songpool/table/HomeMarks" none "set")
    (X0 : Stand p l e ({ frames := 0, cells := 2, slots := 80, locals := 0 } : Room) s m args below meth c T0 locs cells slots) (e0 : T0.heap = h0) (N0 : Fr n0 locs) (hcc : cells ≤ 1) (hss : slots ≤ 16) (a1 : Addr) (p2 p3 n : Int32) (f : Nat → Value) (b : Addr) (kA : ClassId) (cb : Cell) (hn0 : n0 ≤ h0.size) (E : Exa Z h0 a1 "com/example/songpool/songpool/table/HomeMarks") (ha : n0 ≤ a1) (Fs : Fld Z h0 a1 "com/example/songpool/songpool/table/HomeMarks" "size" "I" (.int n)) (Fb : Fld Z h0 a1 "com/example/songpool/songpool/table/HomeMarks" "blocks" "[[C" (.ref b)) (O : OvrA Z kA .char "[C") (G : own_GridAt Z h0 n0 b cb kA .char ((n.toInt.toNat + 63) / 64) f) (H0 : 0 ≤ p2.toInt) (H1 : p2.toInt < n.toInt) :
    own_Goes p e s below ({ frames := 0, cells := 2, slots := 80, locals := 0 } : Room).cells ({ frames := 0, cells := 2, slots := 80, locals := 0 } : Room).slots (own_Left n0 (fun h => own_HM Z h n0 a1 n (fun k => if k = p2.toInt.toNat then .int (p3 &&& (65535 : Int32)) else f k))) (T0.setTop (mkF m 27 #[.val (.ref a1), .val (.int p2), .val (.int p3), .unset] [])) := by
  obtain ⟨hx, hZ, hby, hml, hown, hret, hlk, hnm⟩ := C
  obtain ⟨hJ, hJn, hI, hI64, hJI, hJB⟩ := own_place H0 H1
  rcases G.2.2.2.2.1 _ hJn with ⟨z1, z2⟩ | ⟨x, c1, z1, A, hx0, zs, zv⟩
  · show own_Goes p e s below _ _ _ (T0.setTop (mkF m 27 #[.val (.ref a1), .val (.int p2), .val (.int p3), .unset] []))
    refine own_via (fun _ q => XS.aloadN X0.here hx rfl (hb hby d4_27) rfl rfl q) ?_
    show own_Goes p e s below _ _ _ (T0.setTop (mkF m 28 #[.val (.ref a1), .val (.int p2), .val (.int p3), .unset] [(.ref a1)]))
    obtain ⟨T1, X1, e1, st1⟩ := getF X0 hx hZ hown (host := "") (Or.inl (hw _ (List.mem_of_getElem? (i := 18) rfl))) Via.refl e0 Fb (g := (mkF m 28 #[.val (.ref a1), .val (.int p2), .val (.int p3), .unset] [(.ref a1)])) rfl rfl (hb hby d4_28)
    refine own_via st1 ?_
    show own_Goes p e s below _ _ _ (T1.setTop (mkF m 31 #[.val (.ref a1), .val (.int p2), .val (.int p3), .unset] [(.ref b)]))
    refine own_via (fun _ q => XS.iloadN X1.here hx rfl (hb hby d4_31) rfl q) ?_
    show own_Goes p e s below _ _ _ (T1.setTop (mkF m 32 #[.val (.ref a1), .val (.int p2), .val (.int p3), .unset] [(.int p2), (.ref b)]))
    refine own_via (fun _ q => XT.bipushV X1.here hx rfl (6 : Int32) (hb hby d4_32) rfl q) ?_
    show own_Goes p e s below _ _ _ (T1.setTop (mkF m 34 #[.val (.ref a1), .val (.int p2), .val (.int p3), .unset] [(.int (6 : Int32)), (.int p2), (.ref b)]))
    refine own_via (fun _ q => XT.iushr X1.here hx rfl (hb hby d4_34) rfl q) ?_
    show own_Goes p e s below _ _ _ (T1.setTop (mkF m 35 #[.val (.ref a1), .val (.int p2), .val (.int p3), .unset] [(.int (XT.ushr p2 (6 : Int32))), (.ref b)]))
    refine own_via (fun t q => X1.aaload hx (j := XT.ushr p2 (6 : Int32)) (v := .null) (by rw [e1]; exact G.1.1) (State.isArrayOf_alike hZ.alike G.1.2.1) rfl G.1.2.2 (own_in hJ (by rw [G.2.2.2.1]; exact hJn)) z1 (g := (mkF m 35 #[.val (.ref a1), .val (.int p2), .val (.int p3), .unset] [(.int (XT.ushr p2 (6 : Int32))), (.ref b)])) rfl rfl (hb hby d4_35) t q) ?_
    show own_Goes p e s below _ _ _ (T1.setTop (mkF m 36 #[.val (.ref a1), .val (.int p2), .val (.int p3), .unset] [.null]))
    refine own_via (fun _ q => XS.astoreN X1.here hx rfl (hb hby d4_36) rfl rfl (l' := #[.val (.ref a1), .val (.int p2), .val (.int p3), .val .null]) rfl q) ?_
    show own_Goes p e s below _ _ _ (T1.setTop (mkF m 37 #[.val (.ref a1), .val (.int p2), .val (.int p3), .val .null] []))
    refine own_via (fun _ q => XS.aloadN X1.here hx rfl (hb hby d4_37) rfl rfl q) ?_
    show own_Goes p e s below _ _ _ (T1.setTop (mkF m 38 #[.val (.ref a1), .val (.int p2), .val (.int p3), .val .null] [.null]))
    refine own_via (fun _ q => XT.ifnonnullNo X1.here hx rfl (hb hby d4_38) rfl q) ?_
    show own_Goes p e s below _ _ _ (T1.setTop (mkF m 41 #[.val (.ref a1), .val (.int p2), .val (.int p3), .val .null] []))
    refine own_via (fun _ q => XT.bipushV X1.here hx rfl (64 : Int32) (hb hby d4_41) rfl q) ?_
    show own_Goes p e s below _ _ _ (T1.setTop (mkF m 43 #[.val (.ref a1), .val (.int p2), .val (.int p3), .val .null] [(.int (64 : Int32))]))
    obtain ⟨T2, h2, k2, X2, e2, E2, A2, B2, st2⟩ := newPE X1 hx hZ (hw _ (List.mem_of_getElem? (i := 28) rfl)) e1 (g := (mkF m 43 #[.val (.ref a1), .val (.int p2), .val (.int p3), .val .null] [(.int (64 : Int32))])) rfl (hb hby d4_43) rfl (by decide) (cap := 64) (by decide) (by decide) (by show cells + 1 ≤ 2; omega) (by show slots + 64 ≤ 80; omega) (ad := "[C") rfl
    refine own_via st2 ?_
    show own_Goes p e s below _ _ _ (T2.setTop (mkF m 45 #[.val (.ref a1), .val (.int p2), .val (.int p3), .val .null] [(.ref h0.size)]))
    refine own_via (fun _ q => XS.astoreN X2.here hx rfl (hb hby d4_45) rfl rfl (l' := #[.val (.ref a1), .val (.int p2), .val (.int p3), .val (.ref h0.size)]) rfl q) ?_
    show own_Goes p e s below _ _ _ (T2.setTop (mkF m 46 #[.val (.ref a1), .val (.int p2), .val (.int p3), .val (.ref h0.size)] []))
    refine own_via (fun _ q => XS.aloadN X2.here hx rfl (hb hby d4_46) rfl rfl q) ?_
    show own_Goes p e s below _ _ _ (T2.setTop (mkF m 47 #[.val (.ref a1), .val (.int p2), .val (.int p3), .val (.ref h0.size)] [(.ref a1)]))
    obtain ⟨T3, X3, e3, st3⟩ := getF X2 hx hZ hown (host := "") (Or.inl (hw _ (List.mem_of_getElem? (i := 18) rfl))) Via.refl e2 (Fb.ext E2) (g := (mkF m 47 #[.val (.ref a1), .val (.int p2), .val (.int p3), .val (.ref h0.size)] [(.ref a1)])) rfl rfl (hb hby d4_47)
    refine own_via st3 ?_
    show own_Goes p e s below _ _ _ (T3.setTop (mkF m 50 #[.val (.ref a1), .val (.int p2), .val (.int p3), .val (.ref h0.size)] [(.ref b)]))
    refine own_via (fun _ q => XS.iloadN X3.here hx rfl (hb hby d4_50) rfl q) ?_
    show own_Goes p e s below _ _ _ (T3.setTop (mkF m 51 #[.val (.ref a1), .val (.int p2), .val (.int p3), .val (.ref h0.size)] [(.int p2), (.ref b)]))
    refine own_via (fun _ q => XT.bipushV X3.here hx rfl (6 : Int32) (hb hby d4_51) rfl q) ?_
    show own_Goes p e s below _ _ _ (T3.setTop (mkF m 53 #[.val (.ref a1), .val (.int p2), .val (.int p3), .val (.ref h0.size)] [(.int (6 : Int32)), (.int p2), (.ref b)]))
    refine own_via (fun _ q => XT.iushr X3.here hx rfl (hb hby d4_53) rfl q) ?_
    show own_Goes p e s below _ _ _ (T3.setTop (mkF m 54 #[.val (.ref a1), .val (.int p2), .val (.int p3), .val (.ref h0.size)] [(.int (XT.ushr p2 (6 : Int32))), (.ref b)]))
    refine own_via (fun _ q => XS.aloadN X3.here hx rfl (hb hby d4_54) rfl rfl q) ?_
    show own_Goes p e s below _ _ _ (T3.setTop (mkF m 55 #[.val (.ref a1), .val (.int p2), .val (.int p3), .val (.ref h0.size)] [(.ref h0.size), (.int (XT.ushr p2 (6 : Int32))), (.ref b)]))
    obtain ⟨T4, h4, X4, e4, W4, st4⟩ := stR X3 hx hZ e3 (G.ext E2).1 (j := XT.ushr p2 (6 : Int32)) (own_in hJ (by rw [G.2.2.2.1]; exact hJn)) rfl (Sto.ofVA (G.ext E2).1 G.2.1 O (Ins.self B2)) (g := (mkF m 55 #[.val (.ref a1), .val (.int p2), .val (.int p3), .val (.ref h0.size)] [(.ref h0.size), (.int (XT.ushr p2 (6 : Int32))), (.ref b)])) rfl rfl (hb hby d4_55)
    have N4 := Fr.snoc X4 N0 G.2.2.1
    obtain ⟨G4, A4⟩ := G.fill E2 A2 hJn z1 W4 hn0
    refine own_via st4 ?_
    show own_Goes p e s below _ _ _ (T4.setTop (mkF m 56 #[.val (.ref a1), .val (.int p2), .val (.int p3), .val (.ref h0.size)] []))
    refine own_via (fun _ q => XS.aloadN X4.here hx rfl (hb hby d4_56) rfl rfl q) ?_
    show own_Goes p e s below _ _ _ (T4.setTop (mkF m 57 #[.val (.ref a1), .val (.int p2), .val (.int p3), .val (.ref h0.size)] [(.ref h0.size)]))
    refine own_via (fun _ q => XS.iloadN X4.here hx rfl (hb hby d4_57) rfl q) ?_
    show own_Goes p e s below _ _ _ (T4.setTop (mkF m 58 #[.val (.ref a1), .val (.int p2), .val (.int p3), .val (.ref h0.size)] [(.int p2), (.ref h0.size)]))
    refine own_via (fun _ q => XT.bipushV X4.here hx rfl (63 : Int32) (hb hby d4_58) rfl q) ?_
    show own_Goes p e s below _ _ _ (T4.setTop (mkF m 60 #[.val (.ref a1), .val (.int p2), .val (.int p3), .val (.ref h0.size)] [(.int (63 : Int32)), (.int p2), (.ref h0.size)]))
    refine own_via (fun _ q => XS.iand X4.here hx rfl (hb hby d4_60) rfl q) ?_
    show own_Goes p e s below _ _ _ (T4.setTop (mkF m 61 #[.val (.ref a1), .val (.int p2), .val (.int p3), .val (.ref h0.size)] [(.int (p2 &&& (63 : Int32))), (.ref h0.size)]))
    refine own_via (fun _ q => XS.iloadN X4.here hx rfl (hb hby d4_61) rfl q) ?_
    show own_Goes p e s below _ _ _ (T4.setTop (mkF m 62 #[.val (.ref a1), .val (.int p2), .val (.int p3), .val (.ref h0.size)] [(.int p3), (.int (p2 &&& (63 : Int32))), (.ref h0.size)]))
    refine own_via (fun _ q => XT.i2c X4.here hx rfl (hb hby d4_62) rfl q) ?_
    show own_Goes p e s below _ _ _ (T4.setTop (mkF m 63 #[.val (.ref a1), .val (.int p2), .val (.int p3), .val (.ref h0.size)] [(.int ((p3).toUInt32.toUInt16.toUInt32.toInt32)), (.int (p2 &&& (63 : Int32))), (.ref h0.size)]))
    obtain ⟨T5, h5, X5, e5, W5, st5⟩ := stC X4 hx hZ e4 A4 (j := p2 &&& (63 : Int32)) (own_in hI (by rw [sz_new]; exact hI64)) (g := (mkF m 63 #[.val (.ref a1), .val (.int p2), .val (.int p3), .val (.ref h0.size)] [(.int ((p3).toUInt32.toUInt16.toUInt32.toInt32)), (.int (p2 &&& (63 : Int32))), (.ref h0.size)])) rfl rfl (hb hby d4_63)
    have N5 := Fr.snoc X5 N4 hn0
    rw [own_i2c] at W5
    refine own_via st5 ?_
    show own_Goes p e s below _ _ _ (T5.setTop (mkF m 64 #[.val (.ref a1), .val (.int p2), .val (.int p3), .val (.ref h0.size)] []))
    exact own_ret0 X5 hx hret hlk (hb hby d4_64) (by show cells + 1 ≤ 2; omega) (by show slots + 64 ≤ 80; omega) ⟨rfl, N5, by rw [e5]; exact ⟨((E.ext E2).wr W4).wr W5, ha, ((Fs.ext E2).other W4 (Or.inl (ne_arr (E.ext E2) (hw _ (List.mem_of_getElem? (i := 3) rfl)) (G.ext E2).1))).other W5 (Or.inl (ne_arr ((E.ext E2).wr W4) (hw _ (List.mem_of_getElem? (i := 3) rfl)) A4)), Or.inr ⟨b, kA, _, ((Fb.ext E2).other W4 (Or.inl (ne_arr (E.ext E2) (hw _ (List.mem_of_getElem? (i := 3) rfl)) (G.ext E2).1))).other W5 (Or.inl (ne_arr ((E.ext E2).wr W4) (hw _ (List.mem_of_getElem? (i := 3) rfl)) A4)), O, own_re hJI (G4.set (own_put (by rw [G.2.2.2.1]; exact hJn)) A4 hI64 W5)⟩⟩⟩
  · show own_Goes p e s below _ _ _ (T0.setTop (mkF m 27 #[.val (.ref a1), .val (.int p2), .val (.int p3), .unset] []))
    refine own_via (fun _ q => XS.aloadN X0.here hx rfl (hb hby d4_27) rfl rfl q) ?_
    show own_Goes p e s below _ _ _ (T0.setTop (mkF m 28 #[.val (.ref a1), .val (.int p2), .val (.int p3), .unset] [(.ref a1)]))
    obtain ⟨T6, X6, e6, st6⟩ := getF X0 hx hZ hown (host := "") (Or.inl (hw _ (List.mem_of_getElem? (i := 18) rfl))) Via.refl e0 Fb (g := (mkF m 28 #[.val (.ref a1), .val (.int p2), .val (.int p3), .unset] [(.ref a1)])) rfl rfl (hb hby d4_28)
    refine own_via st6 ?_
    show own_Goes p e s below _ _ _ (T6.setTop (mkF m 31 #[.val (.ref a1), .val (.int p2), .val (.int p3), .unset] [(.ref b)]))
    refine own_via (fun _ q => XS.iloadN X6.here hx rfl (hb hby d4_31) rfl q) ?_
    show own_Goes p e s below _ _ _ (T6.setTop (mkF m 32 #[.val (.ref a1), .val (.int p2), .val (.int p3), .unset] [(.int p2), (.ref b)]))
    refine own_via (fun _ q => XT.bipushV X6.here hx rfl (6 : Int32) (hb hby d4_32) rfl q) ?_
    show own_Goes p e s below _ _ _ (T6.setTop (mkF m 34 #[.val (.ref a1), .val (.int p2), .val (.int p3), .unset] [(.int (6 : Int32)), (.int p2), (.ref b)]))
    refine own_via (fun _ q => XT.iushr X6.here hx rfl (hb hby d4_34) rfl q) ?_
    show own_Goes p e s below _ _ _ (T6.setTop (mkF m 35 #[.val (.ref a1), .val (.int p2), .val (.int p3), .unset] [(.int (XT.ushr p2 (6 : Int32))), (.ref b)]))
    refine own_via (fun t q => X6.aaload hx (j := XT.ushr p2 (6 : Int32)) (v := (.ref x)) (by rw [e6]; exact G.1.1) (State.isArrayOf_alike hZ.alike G.1.2.1) rfl G.1.2.2 (own_in hJ (by rw [G.2.2.2.1]; exact hJn)) z1 (g := (mkF m 35 #[.val (.ref a1), .val (.int p2), .val (.int p3), .unset] [(.int (XT.ushr p2 (6 : Int32))), (.ref b)])) rfl rfl (hb hby d4_35) t q) ?_
    show own_Goes p e s below _ _ _ (T6.setTop (mkF m 36 #[.val (.ref a1), .val (.int p2), .val (.int p3), .unset] [(.ref x)]))
    refine own_via (fun _ q => XS.astoreN X6.here hx rfl (hb hby d4_36) rfl rfl (l' := #[.val (.ref a1), .val (.int p2), .val (.int p3), .val (.ref x)]) rfl q) ?_
    show own_Goes p e s below _ _ _ (T6.setTop (mkF m 37 #[.val (.ref a1), .val (.int p2), .val (.int p3), .val (.ref x)] []))
    refine own_via (fun _ q => XS.aloadN X6.here hx rfl (hb hby d4_37) rfl rfl q) ?_
    show own_Goes p e s below _ _ _ (T6.setTop (mkF m 38 #[.val (.ref a1), .val (.int p2), .val (.int p3), .val (.ref x)] [(.ref x)]))
    refine own_via (fun _ q => XT.ifnonnullYes X6.here hx rfl (pc0 := 38) (pc' := 56) rfl (hb hby d4_38) rfl (by decide) (by decide) q) ?_
    show own_Goes p e s below _ _ _ (T6.setTop (mkF m 56 #[.val (.ref a1), .val (.int p2), .val (.int p3), .val (.ref x)] []))
    refine own_via (fun _ q => XS.aloadN X6.here hx rfl (hb hby d4_56) rfl rfl q) ?_
    show own_Goes p e s below _ _ _ (T6.setTop (mkF m 57 #[.val (.ref a1), .val (.int p2), .val (.int p3), .val (.ref x)] [(.ref x)]))
    refine own_via (fun _ q => XS.iloadN X6.here hx rfl (hb hby d4_57) rfl q) ?_
    show own_Goes p e s below _ _ _ (T6.setTop (mkF m 58 #[.val (.ref a1), .val (.int p2), .val (.int p3), .val (.ref x)] [(.int p2), (.ref x)]))
    refine own_via (fun _ q => XT.bipushV X6.here hx rfl (63 : Int32) (hb hby d4_58) rfl q) ?_
    show own_Goes p e s below _ _ _ (T6.setTop (mkF m 60 #[.val (.ref a1), .val (.int p2), .val (.int p3), .val (.ref x)] [(.int (63 : Int32)), (.int p2), (.ref x)]))
    refine own_via (fun _ q => XS.iand X6.here hx rfl (hb hby d4_60) rfl q) ?_
    show own_Goes p e s below _ _ _ (T6.setTop (mkF m 61 #[.val (.ref a1), .val (.int p2), .val (.int p3), .val (.ref x)] [(.int (p2 &&& (63 : Int32))), (.ref x)]))
    refine own_via (fun _ q => XS.iloadN X6.here hx rfl (hb hby d4_61) rfl q) ?_
    show own_Goes p e s below _ _ _ (T6.setTop (mkF m 62 #[.val (.ref a1), .val (.int p2), .val (.int p3), .val (.ref x)] [(.int p3), (.int (p2 &&& (63 : Int32))), (.ref x)]))
    refine own_via (fun _ q => XT.i2c X6.here hx rfl (hb hby d4_62) rfl q) ?_
    show own_Goes p e s below _ _ _ (T6.setTop (mkF m 63 #[.val (.ref a1), .val (.int p2), .val (.int p3), .val (.ref x)] [(.int ((p3).toUInt32.toUInt16.toUInt32.toInt32)), (.int (p2 &&& (63 : Int32))), (.ref x)]))
    obtain ⟨T7, h7, X7, e7, W7, st7⟩ := stC X6 hx hZ e6 A (j := p2 &&& (63 : Int32)) (own_in hI (by rw [zs]; exact hI64)) (g := (mkF m 63 #[.val (.ref a1), .val (.int p2), .val (.int p3), .val (.ref x)] [(.int ((p3).toUInt32.toUInt16.toUInt32.toInt32)), (.int (p2 &&& (63 : Int32))), (.ref x)])) rfl rfl (hb hby d4_63)
    have N7 := Fr.snoc X7 N0 hx0
    rw [own_i2c] at W7
    refine own_via st7 ?_
    show own_Goes p e s below _ _ _ (T7.setTop (mkF m 64 #[.val (.ref a1), .val (.int p2), .val (.int p3), .val (.ref x)] []))
    exact own_ret0 X7 hx hret hlk (hb hby d4_64) (by show cells ≤ 2; omega) (by show slots ≤ 80; omega) ⟨rfl, N7, by rw [e7]; exact ⟨E.wr W7, ha, Fs.other W7 (Or.inl (ne_arr E (hw _ (List.mem_of_getElem? (i := 3) rfl)) A)), Or.inr ⟨b, kA, _, Fb.other W7 (Or.inl (ne_arr E (hw _ (List.mem_of_getElem? (i := 3) rfl)) A)), O, own_re hJI (G.set z1 A hI64 W7)⟩⟩⟩
theorem pn_4 : plainName "com/example/songpool/songpool/table/HomeMarks" = true := by first | (simp [plainName, overriddenIn]; done) | decide +kernel
theorem ef_4 (m : MethodId) (a1 : Addr) (p2 : Int32) (p3 : Int32) : entryFrame m #[(.ref a1), (.int p2), (.int p3)] 4 = mkF m 0 #[.val (.ref a1), .val (.int p2), .val (.int p3), .unset] [] := by first | (simp [entryFrame, mkF, argsToLocals, Value.category]; done) | rfl
set_option maxRecDepth 65536 in
set_option maxHeartbeats 40000000 in
theorem rm4 (l : Launch) (Z : State) (a0 : Array Value) (hw : ∀ d ∈ tables_1, d.before a0 Z = true) (ws : List Jvm.Cond) (a1 : Addr) (p2 : Int32) (p3 : Int32) (n : Int32) (f : Nat → Value) (h0 : Heap) (n0 : Nat) (hn0 : n0 ≤ h0.size) (hm : own_HM Z h0 n0 a1 n f) (H0 : 0 ≤ p2.toInt) (H1 : p2.toInt < n.toInt) (Hn : n.toInt ≤ 1024) :
    own_Met l Z (⟨"com/example/songpool/songpool/table/HomeMarks", "set", "(II)V"⟩ : MethodName) prog_66_method_3_code 4 none ws ({ frames := 0, cells := 2, slots := 80, locals := 0 } : Room) #[(.ref a1), (.int p2), (.int p3)] h0 (own_Left n0 (fun h => own_HM Z h n0 a1 n (fun k => if k = p2.toInt.toNat then .int (p3 &&& (65535 : Int32)) else f k))) := by
  refine own_met (plainFor_of_name pn_4) ?_
  intro p e s m below meth c s₁ C X0 e0
  obtain ⟨hx, hZ, hby, hml, hown, hret, hlk, hnm⟩ := C
  rw [ef_4]
  obtain ⟨E, ha, Fs, hb⟩ := hm
  obtain ⟨hnn, hnb, hnc⟩ := own_blocks (n := n) (by omega) Hn
  show own_Goes p e s below _ _ _ (s₁.setTop (mkF m 0 #[.val (.ref a1), .val (.int p2), .val (.int p3), .unset] []))
  rcases hb with ⟨Fb, hf⟩ | ⟨b, kA, cb, Fb, O, G⟩
  · show own_Goes p e s below _ _ _ (s₁.setTop (mkF m 0 #[.val (.ref a1), .val (.int p2), .val (.int p3), .unset] []))
    refine own_via (fun _ q => XS.aloadN X0.here hx rfl (hb hby d4_0) rfl rfl q) ?_
    show own_Goes p e s below _ _ _ (s₁.setTop (mkF m 1 #[.val (.ref a1), .val (.int p2), .val (.int p3), .unset] [(.ref a1)]))
    obtain ⟨T1, X1, e1, st1⟩ := getF X0 hx hZ hown (host := "") (Or.inl (hw _ (List.mem_of_getElem? (i := 18) rfl))) Via.refl e0 Fb (g := (mkF m 1 #[.val (.ref a1), .val (.int p2), .val (.int p3), .unset] [(.ref a1)])) rfl rfl (hb hby d4_1)
    refine own_via st1 ?_
    show own_Goes p e s below _ _ _ (T1.setTop (mkF m 4 #[.val (.ref a1), .val (.int p2), .val (.int p3), .unset] [.null]))
    refine own_via (fun _ q => XT.ifnonnullNo X1.here hx rfl (hb hby d4_4) rfl q) ?_
    show own_Goes p e s below _ _ _ (T1.setTop (mkF m 7 #[.val (.ref a1), .val (.int p2), .val (.int p3), .unset] []))
    refine own_via (fun _ q => XS.aloadN X1.here hx rfl (hb hby d4_7) rfl rfl q) ?_
    show own_Goes p e s below _ _ _ (T1.setTop (mkF m 8 #[.val (.ref a1), .val (.int p2), .val (.int p3), .unset] [(.ref a1)]))
    refine own_via (fun _ q => XS.aloadN X1.here hx rfl (hb hby d4_8) rfl rfl q) ?_
    show own_Goes p e s below _ _ _ (T1.setTop (mkF m 9 #[.val (.ref a1), .val (.int p2), .val (.int p3), .unset] [(.ref a1), (.ref a1)]))
    obtain ⟨T2, X2, e2, st2⟩ := getF X1 hx hZ hown (host := "") (Or.inl (hw _ (List.mem_of_getElem? (i := 11) rfl))) Via.refl e1 Fs (g := (mkF m 9 #[.val (.ref a1), .val (.int p2), .val (.int p3), .unset] [(.ref a1), (.ref a1)])) rfl rfl (hb hby d4_9)
    refine own_via st2 ?_
    show own_Goes p e s below _ _ _ (T2.setTop (mkF m 12 #[.val (.ref a1), .val (.int p2), .val (.int p3), .unset] [(.int n), (.ref a1)]))
    refine own_via (fun _ q => XT.i2l X2.here hx rfl (hb hby d4_12) rfl q) ?_
    show own_Goes p e s below _ _ _ (T2.setTop (mkF m 13 #[.val (.ref a1), .val (.int p2), .val (.int p3), .unset] [(.long ((n).toInt64)), (.ref a1)]))
    refine own_via (X2.ldc2Long hx hown (mvT hZ (hw _ (List.mem_of_getElem? (i := 25) rfl))) (g := (mkF m 13 #[.val (.ref a1), .val (.int p2), .val (.int p3), .unset] [(.long ((n).toInt64)), (.ref a1)])) rfl (hb hby d4_13)) ?_
    show own_Goes p e s below _ _ _ (T2.setTop (mkF m 16 #[.val (.ref a1), .val (.int p2), .val (.int p3), .unset] [(.long (63 : Int64)), (.long ((n).toInt64)), (.ref a1)]))
    refine own_via (fun _ q => XT.ladd X2.here hx rfl (hb hby d4_16) rfl q) ?_
    show own_Goes p e s below _ _ _ (T2.setTop (mkF m 17 #[.val (.ref a1), .val (.int p2), .val (.int p3), .unset] [(.long (((n).toInt64) + (63 : Int64))), (.ref a1)]))
    refine own_via (fun _ q => XT.bipushV X2.here hx rfl (6 : Int32) (hb hby d4_17) rfl q) ?_
    show own_Goes p e s below _ _ _ (T2.setTop (mkF m 19 #[.val (.ref a1), .val (.int p2), .val (.int p3), .unset] [(.int (6 : Int32)), (.long (((n).toInt64) + (63 : Int64))), (.ref a1)]))
    refine own_via (fun _ q => XT.lushr X2.here hx rfl (hb hby d4_19) rfl q) ?_
    show own_Goes p e s below _ _ _ (T2.setTop (mkF m 20 #[.val (.ref a1), .val (.int p2), .val (.int p3), .unset] [(.long (XT.ushrL (((n).toInt64) + (63 : Int64)) (6 : Int32))), (.ref a1)]))
    refine own_via (fun _ q => XT.l2i X2.here hx rfl (hb hby d4_20) rfl q) ?_
    show own_Goes p e s below _ _ _ (T2.setTop (mkF m 21 #[.val (.ref a1), .val (.int p2), .val (.int p3), .unset] [(.int (((XT.ushrL (((n).toInt64) + (63 : Int64)) (6 : Int32))).toInt32)), (.ref a1)]))
    obtain ⟨T3, h3, k3, X3, e3, E3, A3, B3, O3, st3⟩ := newRA X2 hx hZ (ty := .char) (C := "[C") hown rfl (hw _ (List.mem_of_getElem? (i := 26) rfl)) (hw _ (List.mem_of_getElem? (i := 27) rfl)) e2 (g := (mkF m 21 #[.val (.ref a1), .val (.int p2), .val (.int p3), .unset] [(.int (((XT.ushrL (((n).toInt64) + (63 : Int64)) (6 : Int32))).toInt32)), (.ref a1)])) rfl (hb hby d4_21) rfl hnn (cap := 16) hnc (by decide) (by decide) (by decide) (ad := "[[C") rfl
    refine own_via st3 ?_
    show own_Goes p e s below _ _ _ (T3.setTop (mkF m 24 #[.val (.ref a1), .val (.int p2), .val (.int p3), .unset] [(.ref h0.size), (.ref a1)]))
    obtain ⟨T4, h4, X4, e4, W4, st4⟩ := putF X3 hx hZ hown (host := "") (Or.inl (hw _ (List.mem_of_getElem? (i := 18) rfl))) Via.refl e3 (Fb.ext E3) (E.ext E3) (Or.inl (hw _ (List.mem_of_getElem? (i := 19) rfl))) (hw _ (List.mem_of_getElem? (i := 3) rfl)) (ty := .array (.array .char)) (by decide) rfl rfl (g := (mkF m 24 #[.val (.ref a1), .val (.int p2), .val (.int p3), .unset] [(.ref h0.size), (.ref a1)])) rfl rfl (hb hby d4_24)
    have N4 := Fr.snoc X4 (Fr.nil n0) ha
    refine own_via st4 ?_
    show own_Goes p e s below _ _ _ (T4.setTop (mkF m 27 #[.val (.ref a1), .val (.int p2), .val (.int p3), .unset] []))
    exact sgset hw ⟨hx, hZ, hby, hml, hown, hret, hlk, hnm⟩ X4 e4 N4 (by omega) (by omega) a1 p2 p3 n f h0.size k3 _ (Nat.le_trans hn0 (Nat.le_trans E3.1 (Nat.le_of_eq W4.size.symm))) ((E.ext E3).wr W4) ha ((Fs.ext E3).other W4 (Or.inr (slot_ne (Z := Z) (a0 := a0) (C := "com/example/songpool/songpool/table/HomeMarks") (Or.inr (hw _ (List.mem_of_getElem? (i := 12) rfl))) (Or.inl (hw _ (List.mem_of_getElem? (i := 19) rfl))) (by decide) (t := .int) (t' := .array (.array .char)) (by decide) (by decide)))) ((Fb.ext E3).same W4) O3 ((own_GridAt.fresh A3 hn0 hnb hf).wrO W4 (fun _ _ _ q => (ne_arr (E.ext E3) (hw _ (List.mem_of_getElem? (i := 3) rfl)) q).symm)) H0 H1
  · show own_Goes p e s below _ _ _ (s₁.setTop (mkF m 0 #[.val (.ref a1), .val (.int p2), .val (.int p3), .unset] []))
    refine own_via (fun _ q => XS.aloadN X0.here hx rfl (hb hby d4_0) rfl rfl q) ?_
    show own_Goes p e s below _ _ _ (s₁.setTop (mkF m 1 #[.val (.ref a1), .val (.int p2), .val (.int p3), .unset] [(.ref a1)]))
    obtain ⟨T5, X5, e5, st5⟩ := getF X0 hx hZ hown (host := "") (Or.inl (hw _ (List.mem_of_getElem? (i := 18) rfl))) Via.refl e0 Fb (g := (mkF m 1 #[.val (.ref a1), .val (.int p2), .val (.int p3), .unset] [(.ref a1)])) rfl rfl (hb hby d4_1)
    refine own_via st5 ?_
    show own_Goes p e s below _ _ _ (T5.setTop (mkF m 4 #[.val (.ref a1), .val (.int p2), .val (.int p3), .unset] [(.ref b)]))
    refine own_via (fun _ q => XT.ifnonnullYes X5.here hx rfl (pc0 := 4) (pc' := 27) rfl (hb hby d4_4) rfl (by decide) (by decide) q) ?_
    show own_Goes p e s below _ _ _ (T5.setTop (mkF m 27 #[.val (.ref a1), .val (.int p2), .val (.int p3), .unset] []))
    exact sgset hw ⟨hx, hZ, hby, hml, hown, hret, hlk, hnm⟩ X5 e5 (Fr.nil n0) (by omega) (by omega) a1 p2 p3 n f b kA cb hn0 E ha Fs Fb O G H0 H1
set_option maxRecDepth 65536 in
set_option maxHeartbeats 40000000 in
theorem sg50 {p : Program} {l : Launch} {e : Env} {s : State} {m : MethodId} {args : Array Value} {below : List Frame} {meth : Method} {c : Code} {Z : State} {a0 : Array Value} {T0 : State} {locs : List Loc} {h0 : Heap} {n0 : Nat}  (hw : ∀ d ∈ tables_1, d.before a0 Z = true) (C : own_Ctx Z p s m meth c code maxLocals "com/example/songpool/songpool/table/HomeMarksSetPinLaw" ret "law")
    (X0 : Stand p l e room_1 s m args below meth c T0 locs 0 0) (e0 : T0.heap = h0) (N0 : Fr n0 locs) (p0 p1 p2 p3 m1 m2 n x1 x2 x3 : Int32) (Z0 : n0 ≤ h0.size) (Hn : n.toInt ≤ 1024) (g1 : 0 ≤ x1.toInt) (u1 : x1.toInt < n.toInt) (g2 : 0 ≤ x2.toInt) (u2 : x2.toInt < n.toInt) (g3 : 0 ≤ x3.toInt) (u3 : x3.toInt < n.toInt) :
    own_Goes p e s below room_1.cells room_1.slots (own_One n0) (T0.setTop (mkF m 50 #[.val (.int p0), .val (.int p1), .val (.int p2), .val (.int p3), .val (.int m1), .val (.int m2), .val (.int n), .val (.int x1), .val (.int x2), .val (.int x3), .val (.int (m1 &&& (65535 : Int32))), .val (.int (m2 &&& (65535 : Int32))), .unset, .unset, .unset, .unset] [])) := by
  obtain ⟨hx, hZ, hby, hml, hown, hret, hlk, hnm⟩ := C
  obtain ⟨T1, h1, X1, e1, E1, A1, D1, -, st1⟩ := newO X0 hx hZ hown (hw _ (List.mem_of_getElem? (i := 2) rfl)) (hw _ (List.mem_of_getElem? (i := 3) rfl)) (hw _ (List.mem_of_getElem? (i := 4) rfl)) e0 (g := (mkF m 50 #[.val (.int p0), .val (.int p1), .val (.int p2), .val (.int p3), .val (.int m1), .val (.int m2), .val (.int n), .val (.int x1), .val (.int x2), .val (.int x3), .val (.int (m1 &&& (65535 : Int32))), .val (.int (m2 &&& (65535 : Int32))), .unset, .unset, .unset, .unset] [])) rfl (hb hby at_50) (by decide) (by decide)
  refine own_via st1 ?_
  show own_Goes p e s below _ _ _ (T1.setTop (mkF m 53 #[.val (.int p0), .val (.int p1), .val (.int p2), .val (.int p3), .val (.int m1), .val (.int m2), .val (.int n), .val (.int x1), .val (.int x2), .val (.int x3), .val (.int (m1 &&& (65535 : Int32))), .val (.int (m2 &&& (65535 : Int32))), .unset, .unset, .unset, .unset] [(.ref h0.size)]))
  refine own_via (fun _ q => XS.dup X1.here hx rfl (hb hby at_53) rfl rfl q) ?_
  show own_Goes p e s below _ _ _ (T1.setTop (mkF m 54 #[.val (.int p0), .val (.int p1), .val (.int p2), .val (.int p3), .val (.int m1), .val (.int m2), .val (.int n), .val (.int x1), .val (.int x2), .val (.int x3), .val (.int (m1 &&& (65535 : Int32))), .val (.int (m2 &&& (65535 : Int32))), .unset, .unset, .unset, .unset] [(.ref h0.size), (.ref h0.size)]))
  refine own_via (fun _ q => XS.iload X1.here hx rfl (hb hby at_54) rfl q) ?_
  show own_Goes p e s below _ _ _ (T1.setTop (mkF m 56 #[.val (.int p0), .val (.int p1), .val (.int p2), .val (.int p3), .val (.int m1), .val (.int m2), .val (.int n), .val (.int x1), .val (.int x2), .val (.int x3), .val (.int (m1 &&& (65535 : Int32))), .val (.int (m2 &&& (65535 : Int32))), .unset, .unset, .unset, .unset] [(.int n), (.ref h0.size), (.ref h0.size)]))
  obtain ⟨_, _, ⟨T2, L2, k2, n2⟩, -, X2, ⟨Lc2, hQ2, l2, y2, z2⟩, st2⟩ := X1.specialBack hx (y := (⟨"com/example/songpool/songpool/table/HomeMarks", "<init>", "(I)V"⟩ : MethodName)) rfl hown (mvT hZ (hw _ (List.mem_of_getElem? (i := 5) rfl))) (mvT hZ (hw _ (List.mem_of_getElem? (i := 6) rfl))) (mvT hZ (hw _ (List.mem_of_getElem? (i := 7) rfl))) (by decide) (backOf (W := 1) (rm1 l Z a0 hw [] h0.size n h1 n0 Z0 A1 (D1 (Or.inr (hw _ (List.mem_of_getElem? (i := 12) rfl))) (ty := .int) (by decide)) (D1 (Or.inl (hw _ (List.mem_of_getElem? (i := 19) rfl))) (ty := .array (.array .char)) (by decide))) hZ (hw _ (List.mem_of_getElem? (i := 7) rfl)) (hw _ (List.mem_of_getElem? (i := 4) rfl)) (by decide) (by decide)) (g := (mkF m 56 #[.val (.int p0), .val (.int p1), .val (.int p2), .val (.int p3), .val (.int m1), .val (.int m2), .val (.int n), .val (.int x1), .val (.int x2), .val (.int x3), .val (.int (m1 &&& (65535 : Int32))), .val (.int (m2 &&& (65535 : Int32))), .unset, .unset, .unset, .unset] [(.int n), (.ref h0.size), (.ref h0.size)])) rfl (by rw [hml]; rfl) (Steps.refl _) (a := h0.size) (argsL := [(.int n)]) (rest := [(.ref h0.size)]) (lenOf pd__I_V rfl) rfl (by show 2 * 0 + _ ≤ _; exact Nat.le_of_eq rfl) (hb hby at_56) (fun _ _ => ⟨rfl, e1, (by decide : 1 + 0 ≤ _), (by decide : 2 + 0 ≤ _)⟩)
  dsimp only [Pt.U, Pt.locs, Pt.cells, Pt.slots] at X2 l2 y2 z2 st2 hQ2
  subst l2 y2 z2
  obtain ⟨rfl, N2q, hm2⟩ := hQ2
  have N2 := Fr.app N0 N2q
  refine own_on st2 ?_
  show own_Goes p e s below _ _ _ (T2.setTop (mkF m 59 #[.val (.int p0), .val (.int p1), .val (.int p2), .val (.int p3), .val (.int m1), .val (.int m2), .val (.int n), .val (.int x1), .val (.int x2), .val (.int x3), .val (.int (m1 &&& (65535 : Int32))), .val (.int (m2 &&& (65535 : Int32))), .unset, .unset, .unset, .unset] [(.ref h0.size)]))
  refine own_via (fun _ q => XS.astore X2.here hx rfl (hb hby at_59) rfl rfl (l' := #[.val (.int p0), .val (.int p1), .val (.int p2), .val (.int p3), .val (.int m1), .val (.int m2), .val (.int n), .val (.int x1), .val (.int x2), .val (.int x3), .val (.int (m1 &&& (65535 : Int32))), .val (.int (m2 &&& (65535 : Int32))), .val (.ref h0.size), .unset, .unset, .unset]) rfl q) ?_
  show own_Goes p e s below _ _ _ (T2.setTop (mkF m 61 #[.val (.int p0), .val (.int p1), .val (.int p2), .val (.int p3), .val (.int m1), .val (.int m2), .val (.int n), .val (.int x1), .val (.int x2), .val (.int x3), .val (.int (m1 &&& (65535 : Int32))), .val (.int (m2 &&& (65535 : Int32))), .val (.ref h0.size), .unset, .unset, .unset] []))
  refine own_via (fun _ q => XS.aload X2.here hx rfl (hb hby at_61) rfl rfl q) ?_
  show own_Goes p e s below _ _ _ (T2.setTop (mkF m 63 #[.val (.int p0), .val (.int p1), .val (.int p2), .val (.int p3), .val (.int m1), .val (.int m2), .val (.int n), .val (.int x1), .val (.int x2), .val (.int x3), .val (.int (m1 &&& (65535 : Int32))), .val (.int (m2 &&& (65535 : Int32))), .val (.ref h0.size), .unset, .unset, .unset] [(.ref h0.size)]))
  refine own_via (fun _ q => XS.iload X2.here hx rfl (hb hby at_63) rfl q) ?_
  show own_Goes p e s below _ _ _ (T2.setTop (mkF m 65 #[.val (.int p0), .val (.int p1), .val (.int p2), .val (.int p3), .val (.int m1), .val (.int m2), .val (.int n), .val (.int x1), .val (.int x2), .val (.int x3), .val (.int (m1 &&& (65535 : Int32))), .val (.int (m2 &&& (65535 : Int32))), .val (.ref h0.size), .unset, .unset, .unset] [(.int x3), (.ref h0.size)]))
  obtain ⟨cq3, kq3, q3a, q3b, q3c⟩ := isOf hZ rfl hm2.1
  obtain ⟨_, _, ⟨T3, L3, k3, n3⟩, -, X3, ⟨Lc3, hQ3, l3, y3, z3⟩, st3⟩ := X2.virtualBack hx (y := (⟨"com/example/songpool/songpool/table/HomeMarks", "get", "(I)I"⟩ : MethodName)) (z := (⟨"com/example/songpool/songpool/table/HomeMarks", "get", "(I)I"⟩ : MethodName)) hown (mvT hZ (hw _ (List.mem_of_getElem? (i := 13) rfl))) (mvT hZ (hw _ (List.mem_of_getElem? (i := 14) rfl))) (notFace_of_selects (args := #[]) (mvT hZ (hw _ (List.mem_of_getElem? (i := 16) rfl)))) (mvT hZ (hw _ (List.mem_of_getElem? (i := 16) rfl))) (mvT hZ (hw _ (List.mem_of_getElem? (i := 15) rfl))) (by decide) (backOf (W := 0) (rm3 l Z a0 hw [] h0.size x3 n (0 : Int32) (fun _ => .int 0) T2.heap n0 hm2 g3 u3 rfl) hZ (hw _ (List.mem_of_getElem? (i := 17) rfl)) (hw _ (List.mem_of_getElem? (i := 4) rfl)) (by decide) (by decide)) q3a q3c (g := (mkF m 65 #[.val (.int p0), .val (.int p1), .val (.int p2), .val (.int p3), .val (.int m1), .val (.int m2), .val (.int n), .val (.int x1), .val (.int x2), .val (.int x3), .val (.int (m1 &&& (65535 : Int32))), .val (.int (m2 &&& (65535 : Int32))), .val (.ref h0.size), .unset, .unset, .unset] [(.int x3), (.ref h0.size)])) rfl (by rw [hml]; rfl) (Steps.refl _) (argsL := [(.int x3)]) (rest := []) (lenOf pd__I_I rfl) rfl (by show 2 * 0 + _ ≤ _; exact Nat.le_of_eq rfl) (hb hby at_65) (fun _ _ => ⟨rfl, rfl, (by decide : 1 + 0 ≤ _), (by decide : 2 + 0 ≤ _)⟩)
  dsimp only [Pt.U, Pt.locs, Pt.cells, Pt.slots] at X3 l3 y3 z3 st3 hQ3
  subst l3 y3 z3
  obtain ⟨rfl, N3q, e3⟩ := hQ3
  have N3 := Fr.app N2 N3q
  refine own_on st3 ?_
  show own_Goes p e s below _ _ _ (T3.setTop (mkF m 68 #[.val (.int p0), .val (.int p1), .val (.int p2), .val (.int p3), .val (.int m1), .val (.int m2), .val (.int n), .val (.int x1), .val (.int x2), .val (.int x3), .val (.int (m1 &&& (65535 : Int32))), .val (.int (m2 &&& (65535 : Int32))), .val (.ref h0.size), .unset, .unset, .unset] [(.int (0 : Int32))]))
  refine own_via (fun _ q => XS.ifNo X3.here hx rfl (hb hby at_68) rfl (XT.i0_ne_f (by decide)) q) ?_
  show own_Goes p e s below _ _ _ (T3.setTop (mkF m 71 #[.val (.int p0), .val (.int p1), .val (.int p2), .val (.int p3), .val (.int m1), .val (.int m2), .val (.int n), .val (.int x1), .val (.int x2), .val (.int x3), .val (.int (m1 &&& (65535 : Int32))), .val (.int (m2 &&& (65535 : Int32))), .val (.ref h0.size), .unset, .unset, .unset] []))
  refine own_via (fun _ q => XT.iconstV X3.here hx rfl (1 : Int32) (hb hby at_71) rfl q) ?_
  show own_Goes p e s below _ _ _ (T3.setTop (mkF m 72 #[.val (.int p0), .val (.int p1), .val (.int p2), .val (.int p3), .val (.int m1), .val (.int m2), .val (.int n), .val (.int x1), .val (.int x2), .val (.int x3), .val (.int (m1 &&& (65535 : Int32))), .val (.int (m2 &&& (65535 : Int32))), .val (.ref h0.size), .unset, .unset, .unset] [(.int (1 : Int32))]))
  refine own_via (fun _ q => XS.goto X3.here hx rfl (pc0 := 72) (pc' := 76) rfl (hb hby at_72) (by decide) (by decide) q) ?_
  show own_Goes p e s below _ _ _ (T3.setTop (mkF m 76 #[.val (.int p0), .val (.int p1), .val (.int p2), .val (.int p3), .val (.int m1), .val (.int m2), .val (.int n), .val (.int x1), .val (.int x2), .val (.int x3), .val (.int (m1 &&& (65535 : Int32))), .val (.int (m2 &&& (65535 : Int32))), .val (.ref h0.size), .unset, .unset, .unset] [(.int (1 : Int32))]))
  refine own_via (fun _ q => XS.istore X3.here hx rfl (hb hby at_76) rfl (l' := #[.val (.int p0), .val (.int p1), .val (.int p2), .val (.int p3), .val (.int m1), .val (.int m2), .val (.int n), .val (.int x1), .val (.int x2), .val (.int x3), .val (.int (m1 &&& (65535 : Int32))), .val (.int (m2 &&& (65535 : Int32))), .val (.ref h0.size), .val (.int (1 : Int32)), .unset, .unset]) rfl q) ?_
  show own_Goes p e s below _ _ _ (T3.setTop (mkF m 78 #[.val (.int p0), .val (.int p1), .val (.int p2), .val (.int p3), .val (.int m1), .val (.int m2), .val (.int n), .val (.int x1), .val (.int x2), .val (.int x3), .val (.int (m1 &&& (65535 : Int32))), .val (.int (m2 &&& (65535 : Int32))), .val (.ref h0.size), .val (.int (1 : Int32)), .unset, .unset] []))
  refine own_via (fun _ q => XS.aload X3.here hx rfl (hb hby at_78) rfl rfl q) ?_
  show own_Goes p e s below _ _ _ (T3.setTop (mkF m 80 #[.val (.int p0), .val (.int p1), .val (.int p2), .val (.int p3), .val (.int m1), .val (.int m2), .val (.int n), .val (.int x1), .val (.int x2), .val (.int x3), .val (.int (m1 &&& (65535 : Int32))), .val (.int (m2 &&& (65535 : Int32))), .val (.ref h0.size), .val (.int (1 : Int32)), .unset, .unset] [(.ref h0.size)]))
  refine own_via (fun _ q => XS.iload X3.here hx rfl (hb hby at_80) rfl q) ?_
  show own_Goes p e s below _ _ _ (T3.setTop (mkF m 82 #[.val (.int p0), .val (.int p1), .val (.int p2), .val (.int p3), .val (.int m1), .val (.int m2), .val (.int n), .val (.int x1), .val (.int x2), .val (.int x3), .val (.int (m1 &&& (65535 : Int32))), .val (.int (m2 &&& (65535 : Int32))), .val (.ref h0.size), .val (.int (1 : Int32)), .unset, .unset] [(.int x1), (.ref h0.size)]))
  refine own_via (fun _ q => XS.iload X3.here hx rfl (hb hby at_82) rfl q) ?_
  show own_Goes p e s below _ _ _ (T3.setTop (mkF m 84 #[.val (.int p0), .val (.int p1), .val (.int p2), .val (.int p3), .val (.int m1), .val (.int m2), .val (.int n), .val (.int x1), .val (.int x2), .val (.int x3), .val (.int (m1 &&& (65535 : Int32))), .val (.int (m2 &&& (65535 : Int32))), .val (.ref h0.size), .val (.int (1 : Int32)), .unset, .unset] [(.int m1), (.int x1), (.ref h0.size)]))
  obtain ⟨cq4, kq4, q4a, q4b, q4c⟩ := isOf hZ e3 hm2.1
  obtain ⟨_, _, ⟨T4, L4, k4, n4⟩, -, X4, ⟨Lc4, hQ4, l4, y4, z4⟩, st4⟩ := X3.virtualBack hx (y := (⟨"com/example/songpool/songpool/table/HomeMarks", "set", "(II)V"⟩ : MethodName)) (z := (⟨"com/example/songpool/songpool/table/HomeMarks", "set", "(II)V"⟩ : MethodName)) hown (mvT hZ (hw _ (List.mem_of_getElem? (i := 20) rfl))) (mvT hZ (hw _ (List.mem_of_getElem? (i := 21) rfl))) (notFace_of_selects (args := #[]) (mvT hZ (hw _ (List.mem_of_getElem? (i := 23) rfl)))) (mvT hZ (hw _ (List.mem_of_getElem? (i := 23) rfl))) (mvT hZ (hw _ (List.mem_of_getElem? (i := 22) rfl))) (by decide) (backOf (W := 0) (rm4 l Z a0 hw [] h0.size x1 m1 n (fun _ => .int 0) T2.heap n0 (Nat.le_trans Z0 (Nat.le_of_lt hm2.1.lt)) hm2 g1 u1 Hn) hZ (hw _ (List.mem_of_getElem? (i := 24) rfl)) (hw _ (List.mem_of_getElem? (i := 4) rfl)) (by decide) (by decide)) q4a q4c (g := (mkF m 84 #[.val (.int p0), .val (.int p1), .val (.int p2), .val (.int p3), .val (.int m1), .val (.int m2), .val (.int n), .val (.int x1), .val (.int x2), .val (.int x3), .val (.int (m1 &&& (65535 : Int32))), .val (.int (m2 &&& (65535 : Int32))), .val (.ref h0.size), .val (.int (1 : Int32)), .unset, .unset] [(.int m1), (.int x1), (.ref h0.size)])) rfl (by rw [hml]; rfl) (Steps.refl _) (argsL := [(.int x1), (.int m1)]) (rest := []) (lenOf pd__II_V rfl) rfl (by show 2 * 0 + _ ≤ _; exact Nat.le_of_eq rfl) (hb hby at_84) (fun _ _ => ⟨rfl, e3, (by decide : 1 + 2 ≤ _), (by decide : 2 + 80 ≤ _)⟩)
  dsimp only [Pt.U, Pt.locs, Pt.cells, Pt.slots] at X4 l4 y4 z4 st4 hQ4
  subst l4 y4 z4
  obtain ⟨rfl, N4q, hm4⟩ := hQ4
  have N4 := Fr.app N3 N4q
  refine own_on st4 ?_
  show own_Goes p e s below _ _ _ (T4.setTop (mkF m 87 #[.val (.int p0), .val (.int p1), .val (.int p2), .val (.int p3), .val (.int m1), .val (.int m2), .val (.int n), .val (.int x1), .val (.int x2), .val (.int x3), .val (.int (m1 &&& (65535 : Int32))), .val (.int (m2 &&& (65535 : Int32))), .val (.ref h0.size), .val (.int (1 : Int32)), .unset, .unset] []))
  refine own_via (fun _ q => XS.iload X4.here hx rfl (hb hby at_87) rfl q) ?_
  show own_Goes p e s below _ _ _ (T4.setTop (mkF m 89 #[.val (.int p0), .val (.int p1), .val (.int p2), .val (.int p3), .val (.int m1), .val (.int m2), .val (.int n), .val (.int x1), .val (.int x2), .val (.int x3), .val (.int (m1 &&& (65535 : Int32))), .val (.int (m2 &&& (65535 : Int32))), .val (.ref h0.size), .val (.int (1 : Int32)), .unset, .unset] [(.int (1 : Int32))]))
  refine own_via (fun _ q => XS.ifNo X4.here hx rfl (hb hby at_89) rfl (XT.i0_eq_f (by decide)) q) ?_
  show own_Goes p e s below _ _ _ (T4.setTop (mkF m 92 #[.val (.int p0), .val (.int p1), .val (.int p2), .val (.int p3), .val (.int m1), .val (.int m2), .val (.int n), .val (.int x1), .val (.int x2), .val (.int x3), .val (.int (m1 &&& (65535 : Int32))), .val (.int (m2 &&& (65535 : Int32))), .val (.ref h0.size), .val (.int (1 : Int32)), .unset, .unset] []))
  refine own_via (fun _ q => XS.aload X4.here hx rfl (hb hby at_92) rfl rfl q) ?_
  show own_Goes p e s below _ _ _ (T4.setTop (mkF m 94 #[.val (.int p0), .val (.int p1), .val (.int p2), .val (.int p3), .val (.int m1), .val (.int m2), .val (.int n), .val (.int x1), .val (.int x2), .val (.int x3), .val (.int (m1 &&& (65535 : Int32))), .val (.int (m2 &&& (65535 : Int32))), .val (.ref h0.size), .val (.int (1 : Int32)), .unset, .unset] [(.ref h0.size)]))
  refine own_via (fun _ q => XS.iload X4.here hx rfl (hb hby at_94) rfl q) ?_
  show own_Goes p e s below _ _ _ (T4.setTop (mkF m 96 #[.val (.int p0), .val (.int p1), .val (.int p2), .val (.int p3), .val (.int m1), .val (.int m2), .val (.int n), .val (.int x1), .val (.int x2), .val (.int x3), .val (.int (m1 &&& (65535 : Int32))), .val (.int (m2 &&& (65535 : Int32))), .val (.ref h0.size), .val (.int (1 : Int32)), .unset, .unset] [(.int x1), (.ref h0.size)]))
  obtain ⟨cq5, kq5, q5a, q5b, q5c⟩ := isOf hZ rfl hm4.1
  obtain ⟨_, _, ⟨T5, L5, k5, n5⟩, -, X5, ⟨Lc5, hQ5, l5, y5, z5⟩, st5⟩ := X4.virtualBack hx (y := (⟨"com/example/songpool/songpool/table/HomeMarks", "get", "(I)I"⟩ : MethodName)) (z := (⟨"com/example/songpool/songpool/table/HomeMarks", "get", "(I)I"⟩ : MethodName)) hown (mvT hZ (hw _ (List.mem_of_getElem? (i := 13) rfl))) (mvT hZ (hw _ (List.mem_of_getElem? (i := 14) rfl))) (notFace_of_selects (args := #[]) (mvT hZ (hw _ (List.mem_of_getElem? (i := 16) rfl)))) (mvT hZ (hw _ (List.mem_of_getElem? (i := 16) rfl))) (mvT hZ (hw _ (List.mem_of_getElem? (i := 15) rfl))) (by decide) (backOf (W := 0) (rm3 l Z a0 hw [] h0.size x1 n (m1 &&& (65535 : Int32)) (fun k => if k = x1.toInt.toNat then .int (m1 &&& (65535 : Int32)) else (fun _ => .int 0) k) T4.heap n0 hm4 g1 u1 (if_pos rfl)) hZ (hw _ (List.mem_of_getElem? (i := 17) rfl)) (hw _ (List.mem_of_getElem? (i := 4) rfl)) (by decide) (by decide)) q5a q5c (g := (mkF m 96 #[.val (.int p0), .val (.int p1), .val (.int p2), .val (.int p3), .val (.int m1), .val (.int m2), .val (.int n), .val (.int x1), .val (.int x2), .val (.int x3), .val (.int (m1 &&& (65535 : Int32))), .val (.int (m2 &&& (65535 : Int32))), .val (.ref h0.size), .val (.int (1 : Int32)), .unset, .unset] [(.int x1), (.ref h0.size)])) rfl (by rw [hml]; rfl) (Steps.refl _) (argsL := [(.int x1)]) (rest := []) (lenOf pd__I_I rfl) rfl (by show 2 * 0 + _ ≤ _; exact Nat.le_of_eq rfl) (hb hby at_96) (fun _ _ => ⟨rfl, rfl, (by decide : 3 + 0 ≤ _), (by decide : 82 + 0 ≤ _)⟩)
  dsimp only [Pt.U, Pt.locs, Pt.cells, Pt.slots] at X5 l5 y5 z5 st5 hQ5
  subst l5 y5 z5
  obtain ⟨rfl, N5q, e5⟩ := hQ5
  have N5 := Fr.app N4 N5q
  refine own_on st5 ?_
  show own_Goes p e s below _ _ _ (T5.setTop (mkF m 99 #[.val (.int p0), .val (.int p1), .val (.int p2), .val (.int p3), .val (.int m1), .val (.int m2), .val (.int n), .val (.int x1), .val (.int x2), .val (.int x3), .val (.int (m1 &&& (65535 : Int32))), .val (.int (m2 &&& (65535 : Int32))), .val (.ref h0.size), .val (.int (1 : Int32)), .unset, .unset] [(.int (m1 &&& (65535 : Int32)))]))
  refine own_via (fun _ q => XS.iload X5.here hx rfl (hb hby at_99) rfl q) ?_
  show own_Goes p e s below _ _ _ (T5.setTop (mkF m 101 #[.val (.int p0), .val (.int p1), .val (.int p2), .val (.int p3), .val (.int m1), .val (.int m2), .val (.int n), .val (.int x1), .val (.int x2), .val (.int x3), .val (.int (m1 &&& (65535 : Int32))), .val (.int (m2 &&& (65535 : Int32))), .val (.ref h0.size), .val (.int (1 : Int32)), .unset, .unset] [(.int (m1 &&& (65535 : Int32))), (.int (m1 &&& (65535 : Int32)))]))
  refine own_via (fun _ q => XS.icmpNo X5.here hx rfl (hb hby at_101) rfl (XT.ii_ne_f rfl) q) ?_
  show own_Goes p e s below _ _ _ (T5.setTop (mkF m 104 #[.val (.int p0), .val (.int p1), .val (.int p2), .val (.int p3), .val (.int m1), .val (.int m2), .val (.int n), .val (.int x1), .val (.int x2), .val (.int x3), .val (.int (m1 &&& (65535 : Int32))), .val (.int (m2 &&& (65535 : Int32))), .val (.ref h0.size), .val (.int (1 : Int32)), .unset, .unset] []))
  refine own_via (fun _ q => XT.iconstV X5.here hx rfl (1 : Int32) (hb hby at_104) rfl q) ?_
  show own_Goes p e s below _ _ _ (T5.setTop (mkF m 105 #[.val (.int p0), .val (.int p1), .val (.int p2), .val (.int p3), .val (.int m1), .val (.int m2), .val (.int n), .val (.int x1), .val (.int x2), .val (.int x3), .val (.int (m1 &&& (65535 : Int32))), .val (.int (m2 &&& (65535 : Int32))), .val (.ref h0.size), .val (.int (1 : Int32)), .unset, .unset] [(.int (1 : Int32))]))
  refine own_via (fun _ q => XS.goto X5.here hx rfl (pc0 := 105) (pc' := 109) rfl (hb hby at_105) (by decide) (by decide) q) ?_
  show own_Goes p e s below _ _ _ (T5.setTop (mkF m 109 #[.val (.int p0), .val (.int p1), .val (.int p2), .val (.int p3), .val (.int m1), .val (.int m2), .val (.int n), .val (.int x1), .val (.int x2), .val (.int x3), .val (.int (m1 &&& (65535 : Int32))), .val (.int (m2 &&& (65535 : Int32))), .val (.ref h0.size), .val (.int (1 : Int32)), .unset, .unset] [(.int (1 : Int32))]))
  refine own_via (fun _ q => XS.istore X5.here hx rfl (hb hby at_109) rfl (l' := #[.val (.int p0), .val (.int p1), .val (.int p2), .val (.int p3), .val (.int m1), .val (.int m2), .val (.int n), .val (.int x1), .val (.int x2), .val (.int x3), .val (.int (m1 &&& (65535 : Int32))), .val (.int (m2 &&& (65535 : Int32))), .val (.ref h0.size), .val (.int (1 : Int32)), .unset, .unset]) rfl q) ?_
  show own_Goes p e s below _ _ _ (T5.setTop (mkF m 111 #[.val (.int p0), .val (.int p1), .val (.int p2), .val (.int p3), .val (.int m1), .val (.int m2), .val (.int n), .val (.int x1), .val (.int x2), .val (.int x3), .val (.int (m1 &&& (65535 : Int32))), .val (.int (m2 &&& (65535 : Int32))), .val (.ref h0.size), .val (.int (1 : Int32)), .unset, .unset] []))
  refine own_via (fun _ q => XS.aload X5.here hx rfl (hb hby at_111) rfl rfl q) ?_
  show own_Goes p e s below _ _ _ (T5.setTop (mkF m 113 #[.val (.int p0), .val (.int p1), .val (.int p2), .val (.int p3), .val (.int m1), .val (.int m2), .val (.int n), .val (.int x1), .val (.int x2), .val (.int x3), .val (.int (m1 &&& (65535 : Int32))), .val (.int (m2 &&& (65535 : Int32))), .val (.ref h0.size), .val (.int (1 : Int32)), .unset, .unset] [(.ref h0.size)]))
  refine own_via (fun _ q => XS.iload X5.here hx rfl (hb hby at_113) rfl q) ?_
  show own_Goes p e s below _ _ _ (T5.setTop (mkF m 115 #[.val (.int p0), .val (.int p1), .val (.int p2), .val (.int p3), .val (.int m1), .val (.int m2), .val (.int n), .val (.int x1), .val (.int x2), .val (.int x3), .val (.int (m1 &&& (65535 : Int32))), .val (.int (m2 &&& (65535 : Int32))), .val (.ref h0.size), .val (.int (1 : Int32)), .unset, .unset] [(.int x2), (.ref h0.size)]))
  refine own_via (fun _ q => XS.iload X5.here hx rfl (hb hby at_115) rfl q) ?_
  show own_Goes p e s below _ _ _ (T5.setTop (mkF m 117 #[.val (.int p0), .val (.int p1), .val (.int p2), .val (.int p3), .val (.int m1), .val (.int m2), .val (.int n), .val (.int x1), .val (.int x2), .val (.int x3), .val (.int (m1 &&& (65535 : Int32))), .val (.int (m2 &&& (65535 : Int32))), .val (.ref h0.size), .val (.int (1 : Int32)), .unset, .unset] [(.int m2), (.int x2), (.ref h0.size)]))
  obtain ⟨cq6, kq6, q6a, q6b, q6c⟩ := isOf hZ e5 hm4.1
  obtain ⟨_, _, ⟨T6, L6, k6, n6⟩, -, X6, ⟨Lc6, hQ6, l6, y6, z6⟩, st6⟩ := X5.virtualBack hx (y := (⟨"com/example/songpool/songpool/table/HomeMarks", "set", "(II)V"⟩ : MethodName)) (z := (⟨"com/example/songpool/songpool/table/HomeMarks", "set", "(II)V"⟩ : MethodName)) hown (mvT hZ (hw _ (List.mem_of_getElem? (i := 20) rfl))) (mvT hZ (hw _ (List.mem_of_getElem? (i := 21) rfl))) (notFace_of_selects (args := #[]) (mvT hZ (hw _ (List.mem_of_getElem? (i := 23) rfl)))) (mvT hZ (hw _ (List.mem_of_getElem? (i := 23) rfl))) (mvT hZ (hw _ (List.mem_of_getElem? (i := 22) rfl))) (by decide) (backOf (W := 0) (rm4 l Z a0 hw [] h0.size x2 m2 n (fun k => if k = x1.toInt.toNat then .int (m1 &&& (65535 : Int32)) else (fun _ => .int 0) k) T4.heap n0 (Nat.le_trans Z0 (Nat.le_of_lt hm4.1.lt)) hm4 g2 u2 Hn) hZ (hw _ (List.mem_of_getElem? (i := 24) rfl)) (hw _ (List.mem_of_getElem? (i := 4) rfl)) (by decide) (by decide)) q6a q6c (g := (mkF m 117 #[.val (.int p0), .val (.int p1), .val (.int p2), .val (.int p3), .val (.int m1), .val (.int m2), .val (.int n), .val (.int x1), .val (.int x2), .val (.int x3), .val (.int (m1 &&& (65535 : Int32))), .val (.int (m2 &&& (65535 : Int32))), .val (.ref h0.size), .val (.int (1 : Int32)), .unset, .unset] [(.int m2), (.int x2), (.ref h0.size)])) rfl (by rw [hml]; rfl) (Steps.refl _) (argsL := [(.int x2), (.int m2)]) (rest := []) (lenOf pd__II_V rfl) rfl (by show 2 * 0 + _ ≤ _; exact Nat.le_of_eq rfl) (hb hby at_117) (fun _ _ => ⟨rfl, e5, (by decide : 3 + 2 ≤ _), (by decide : 82 + 80 ≤ _)⟩)
  dsimp only [Pt.U, Pt.locs, Pt.cells, Pt.slots] at X6 l6 y6 z6 st6 hQ6
  subst l6 y6 z6
  obtain ⟨rfl, N6q, hm6⟩ := hQ6
  have N6 := Fr.app N5 N6q
  refine own_on st6 ?_
  show own_Goes p e s below _ _ _ (T6.setTop (mkF m 120 #[.val (.int p0), .val (.int p1), .val (.int p2), .val (.int p3), .val (.int m1), .val (.int m2), .val (.int n), .val (.int x1), .val (.int x2), .val (.int x3), .val (.int (m1 &&& (65535 : Int32))), .val (.int (m2 &&& (65535 : Int32))), .val (.ref h0.size), .val (.int (1 : Int32)), .unset, .unset] []))
  refine own_via (fun _ q => XS.iload X6.here hx rfl (hb hby at_120) rfl q) ?_
  show own_Goes p e s below _ _ _ (T6.setTop (mkF m 122 #[.val (.int p0), .val (.int p1), .val (.int p2), .val (.int p3), .val (.int m1), .val (.int m2), .val (.int n), .val (.int x1), .val (.int x2), .val (.int x3), .val (.int (m1 &&& (65535 : Int32))), .val (.int (m2 &&& (65535 : Int32))), .val (.ref h0.size), .val (.int (1 : Int32)), .unset, .unset] [(.int (1 : Int32))]))
  refine own_via (fun _ q => XS.ifNo X6.here hx rfl (hb hby at_122) rfl (XT.i0_eq_f (by decide)) q) ?_
  show own_Goes p e s below _ _ _ (T6.setTop (mkF m 125 #[.val (.int p0), .val (.int p1), .val (.int p2), .val (.int p3), .val (.int m1), .val (.int m2), .val (.int n), .val (.int x1), .val (.int x2), .val (.int x3), .val (.int (m1 &&& (65535 : Int32))), .val (.int (m2 &&& (65535 : Int32))), .val (.ref h0.size), .val (.int (1 : Int32)), .unset, .unset] []))
  refine own_via (fun _ q => XS.aload X6.here hx rfl (hb hby at_125) rfl rfl q) ?_
  show own_Goes p e s below _ _ _ (T6.setTop (mkF m 127 #[.val (.int p0), .val (.int p1), .val (.int p2), .val (.int p3), .val (.int m1), .val (.int m2), .val (.int n), .val (.int x1), .val (.int x2), .val (.int x3), .val (.int (m1 &&& (65535 : Int32))), .val (.int (m2 &&& (65535 : Int32))), .val (.ref h0.size), .val (.int (1 : Int32)), .unset, .unset] [(.ref h0.size)]))
  refine own_via (fun _ q => XS.iload X6.here hx rfl (hb hby at_127) rfl q) ?_
  show own_Goes p e s below _ _ _ (T6.setTop (mkF m 129 #[.val (.int p0), .val (.int p1), .val (.int p2), .val (.int p3), .val (.int m1), .val (.int m2), .val (.int n), .val (.int x1), .val (.int x2), .val (.int x3), .val (.int (m1 &&& (65535 : Int32))), .val (.int (m2 &&& (65535 : Int32))), .val (.ref h0.size), .val (.int (1 : Int32)), .unset, .unset] [(.int x2), (.ref h0.size)]))
  obtain ⟨cq7, kq7, q7a, q7b, q7c⟩ := isOf hZ rfl hm6.1
  obtain ⟨_, _, ⟨T7, L7, k7, n7⟩, -, X7, ⟨Lc7, hQ7, l7, y7, z7⟩, st7⟩ := X6.virtualBack hx (y := (⟨"com/example/songpool/songpool/table/HomeMarks", "get", "(I)I"⟩ : MethodName)) (z := (⟨"com/example/songpool/songpool/table/HomeMarks", "get", "(I)I"⟩ : MethodName)) hown (mvT hZ (hw _ (List.mem_of_getElem? (i := 13) rfl))) (mvT hZ (hw _ (List.mem_of_getElem? (i := 14) rfl))) (notFace_of_selects (args := #[]) (mvT hZ (hw _ (List.mem_of_getElem? (i := 16) rfl)))) (mvT hZ (hw _ (List.mem_of_getElem? (i := 16) rfl))) (mvT hZ (hw _ (List.mem_of_getElem? (i := 15) rfl))) (by decide) (backOf (W := 0) (rm3 l Z a0 hw [] h0.size x2 n (m2 &&& (65535 : Int32)) (fun k => if k = x2.toInt.toNat then .int (m2 &&& (65535 : Int32)) else (fun k => if k = x1.toInt.toNat then .int (m1 &&& (65535 : Int32)) else (fun _ => .int 0) k) k) T6.heap n0 hm6 g2 u2 (if_pos rfl)) hZ (hw _ (List.mem_of_getElem? (i := 17) rfl)) (hw _ (List.mem_of_getElem? (i := 4) rfl)) (by decide) (by decide)) q7a q7c (g := (mkF m 129 #[.val (.int p0), .val (.int p1), .val (.int p2), .val (.int p3), .val (.int m1), .val (.int m2), .val (.int n), .val (.int x1), .val (.int x2), .val (.int x3), .val (.int (m1 &&& (65535 : Int32))), .val (.int (m2 &&& (65535 : Int32))), .val (.ref h0.size), .val (.int (1 : Int32)), .unset, .unset] [(.int x2), (.ref h0.size)])) rfl (by rw [hml]; rfl) (Steps.refl _) (argsL := [(.int x2)]) (rest := []) (lenOf pd__I_I rfl) rfl (by show 2 * 0 + _ ≤ _; exact Nat.le_of_eq rfl) (hb hby at_129) (fun _ _ => ⟨rfl, rfl, (by decide : 5 + 0 ≤ _), (by decide : 162 + 0 ≤ _)⟩)
  dsimp only [Pt.U, Pt.locs, Pt.cells, Pt.slots] at X7 l7 y7 z7 st7 hQ7
  subst l7 y7 z7
  obtain ⟨rfl, N7q, e7⟩ := hQ7
  have N7 := Fr.app N6 N7q
  refine own_on st7 ?_
  show own_Goes p e s below _ _ _ (T7.setTop (mkF m 132 #[.val (.int p0), .val (.int p1), .val (.int p2), .val (.int p3), .val (.int m1), .val (.int m2), .val (.int n), .val (.int x1), .val (.int x2), .val (.int x3), .val (.int (m1 &&& (65535 : Int32))), .val (.int (m2 &&& (65535 : Int32))), .val (.ref h0.size), .val (.int (1 : Int32)), .unset, .unset] [(.int (m2 &&& (65535 : Int32)))]))
  refine own_via (fun _ q => XS.iload X7.here hx rfl (hb hby at_132) rfl q) ?_
  show own_Goes p e s below _ _ _ (T7.setTop (mkF m 134 #[.val (.int p0), .val (.int p1), .val (.int p2), .val (.int p3), .val (.int m1), .val (.int m2), .val (.int n), .val (.int x1), .val (.int x2), .val (.int x3), .val (.int (m1 &&& (65535 : Int32))), .val (.int (m2 &&& (65535 : Int32))), .val (.ref h0.size), .val (.int (1 : Int32)), .unset, .unset] [(.int (m2 &&& (65535 : Int32))), (.int (m2 &&& (65535 : Int32)))]))
  refine own_via (fun _ q => XS.icmpNo X7.here hx rfl (hb hby at_134) rfl (XT.ii_ne_f rfl) q) ?_
  show own_Goes p e s below _ _ _ (T7.setTop (mkF m 137 #[.val (.int p0), .val (.int p1), .val (.int p2), .val (.int p3), .val (.int m1), .val (.int m2), .val (.int n), .val (.int x1), .val (.int x2), .val (.int x3), .val (.int (m1 &&& (65535 : Int32))), .val (.int (m2 &&& (65535 : Int32))), .val (.ref h0.size), .val (.int (1 : Int32)), .unset, .unset] []))
  refine own_via (fun _ q => XT.iconstV X7.here hx rfl (1 : Int32) (hb hby at_137) rfl q) ?_
  show own_Goes p e s below _ _ _ (T7.setTop (mkF m 138 #[.val (.int p0), .val (.int p1), .val (.int p2), .val (.int p3), .val (.int m1), .val (.int m2), .val (.int n), .val (.int x1), .val (.int x2), .val (.int x3), .val (.int (m1 &&& (65535 : Int32))), .val (.int (m2 &&& (65535 : Int32))), .val (.ref h0.size), .val (.int (1 : Int32)), .unset, .unset] [(.int (1 : Int32))]))
  refine own_via (fun _ q => XS.goto X7.here hx rfl (pc0 := 138) (pc' := 142) rfl (hb hby at_138) (by decide) (by decide) q) ?_
  show own_Goes p e s below _ _ _ (T7.setTop (mkF m 142 #[.val (.int p0), .val (.int p1), .val (.int p2), .val (.int p3), .val (.int m1), .val (.int m2), .val (.int n), .val (.int x1), .val (.int x2), .val (.int x3), .val (.int (m1 &&& (65535 : Int32))), .val (.int (m2 &&& (65535 : Int32))), .val (.ref h0.size), .val (.int (1 : Int32)), .unset, .unset] [(.int (1 : Int32))]))
  refine own_via (fun _ q => XS.istore X7.here hx rfl (hb hby at_142) rfl (l' := #[.val (.int p0), .val (.int p1), .val (.int p2), .val (.int p3), .val (.int m1), .val (.int m2), .val (.int n), .val (.int x1), .val (.int x2), .val (.int x3), .val (.int (m1 &&& (65535 : Int32))), .val (.int (m2 &&& (65535 : Int32))), .val (.ref h0.size), .val (.int (1 : Int32)), .unset, .unset]) rfl q) ?_
  show own_Goes p e s below _ _ _ (T7.setTop (mkF m 144 #[.val (.int p0), .val (.int p1), .val (.int p2), .val (.int p3), .val (.int m1), .val (.int m2), .val (.int n), .val (.int x1), .val (.int x2), .val (.int x3), .val (.int (m1 &&& (65535 : Int32))), .val (.int (m2 &&& (65535 : Int32))), .val (.ref h0.size), .val (.int (1 : Int32)), .unset, .unset] []))
  refine own_via (fun _ q => XS.iload X7.here hx rfl (hb hby at_144) rfl q) ?_
  show own_Goes p e s below _ _ _ (T7.setTop (mkF m 146 #[.val (.int p0), .val (.int p1), .val (.int p2), .val (.int p3), .val (.int m1), .val (.int m2), .val (.int n), .val (.int x1), .val (.int x2), .val (.int x3), .val (.int (m1 &&& (65535 : Int32))), .val (.int (m2 &&& (65535 : Int32))), .val (.ref h0.size), .val (.int (1 : Int32)), .unset, .unset] [(.int x1)]))
  refine own_via (fun _ q => XS.iload X7.here hx rfl (hb hby at_146) rfl q) ?_
  show own_Goes p e s below _ _ _ (T7.setTop (mkF m 148 #[.val (.int p0), .val (.int p1), .val (.int p2), .val (.int p3), .val (.int m1), .val (.int m2), .val (.int n), .val (.int x1), .val (.int x2), .val (.int x3), .val (.int (m1 &&& (65535 : Int32))), .val (.int (m2 &&& (65535 : Int32))), .val (.ref h0.size), .val (.int (1 : Int32)), .unset, .unset] [(.int x2), (.int x1)]))
  by_cases hk148_8 : x1 = x2
  · refine own_via (fun _ q => XS.icmpNo X7.here hx rfl (hb hby at_148) rfl (XT.ii_ne_f hk148_8) q) ?_
    show own_Goes p e s below _ _ _ (T7.setTop (mkF m 151 #[.val (.int p0), .val (.int p1), .val (.int p2), .val (.int p3), .val (.int m1), .val (.int m2), .val (.int n), .val (.int x1), .val (.int x2), .val (.int x3), .val (.int (m1 &&& (65535 : Int32))), .val (.int (m2 &&& (65535 : Int32))), .val (.ref h0.size), .val (.int (1 : Int32)), .unset, .unset] []))
    refine own_via (fun _ q => XS.iload X7.here hx rfl (hb hby at_151) rfl q) ?_
    show own_Goes p e s below _ _ _ (T7.setTop (mkF m 153 #[.val (.int p0), .val (.int p1), .val (.int p2), .val (.int p3), .val (.int m1), .val (.int m2), .val (.int n), .val (.int x1), .val (.int x2), .val (.int x3), .val (.int (m1 &&& (65535 : Int32))), .val (.int (m2 &&& (65535 : Int32))), .val (.ref h0.size), .val (.int (1 : Int32)), .unset, .unset] [(.int (m2 &&& (65535 : Int32)))]))
    refine own_via (fun _ q => XS.goto X7.here hx rfl (pc0 := 153) (pc' := 158) rfl (hb hby at_153) (by decide) (by decide) q) ?_
    show own_Goes p e s below _ _ _ (T7.setTop (mkF m 158 #[.val (.int p0), .val (.int p1), .val (.int p2), .val (.int p3), .val (.int m1), .val (.int m2), .val (.int n), .val (.int x1), .val (.int x2), .val (.int x3), .val (.int (m1 &&& (65535 : Int32))), .val (.int (m2 &&& (65535 : Int32))), .val (.ref h0.size), .val (.int (1 : Int32)), .unset, .unset] [(.int (m2 &&& (65535 : Int32)))]))
    refine own_via (fun _ q => XS.istore X7.here hx rfl (hb hby at_158) rfl (l' := #[.val (.int p0), .val (.int p1), .val (.int p2), .val (.int p3), .val (.int m1), .val (.int m2), .val (.int n), .val (.int x1), .val (.int x2), .val (.int x3), .val (.int (m1 &&& (65535 : Int32))), .val (.int (m2 &&& (65535 : Int32))), .val (.ref h0.size), .val (.int (1 : Int32)), .val (.int (m2 &&& (65535 : Int32))), .unset]) rfl q) ?_
    show own_Goes p e s below _ _ _ (T7.setTop (mkF m 160 #[.val (.int p0), .val (.int p1), .val (.int p2), .val (.int p3), .val (.int m1), .val (.int m2), .val (.int n), .val (.int x1), .val (.int x2), .val (.int x3), .val (.int (m1 &&& (65535 : Int32))), .val (.int (m2 &&& (65535 : Int32))), .val (.ref h0.size), .val (.int (1 : Int32)), .val (.int (m2 &&& (65535 : Int32))), .unset] []))
    refine own_via (fun _ q => XS.iload X7.here hx rfl (hb hby at_160) rfl q) ?_
    show own_Goes p e s below _ _ _ (T7.setTop (mkF m 162 #[.val (.int p0), .val (.int p1), .val (.int p2), .val (.int p3), .val (.int m1), .val (.int m2), .val (.int n), .val (.int x1), .val (.int x2), .val (.int x3), .val (.int (m1 &&& (65535 : Int32))), .val (.int (m2 &&& (65535 : Int32))), .val (.ref h0.size), .val (.int (1 : Int32)), .val (.int (m2 &&& (65535 : Int32))), .unset] [(.int (1 : Int32))]))
    refine own_via (fun _ q => XS.ifNo X7.here hx rfl (hb hby at_162) rfl (XT.i0_eq_f (by decide)) q) ?_
    show own_Goes p e s below _ _ _ (T7.setTop (mkF m 165 #[.val (.int p0), .val (.int p1), .val (.int p2), .val (.int p3), .val (.int m1), .val (.int m2), .val (.int n), .val (.int x1), .val (.int x2), .val (.int x3), .val (.int (m1 &&& (65535 : Int32))), .val (.int (m2 &&& (65535 : Int32))), .val (.ref h0.size), .val (.int (1 : Int32)), .val (.int (m2 &&& (65535 : Int32))), .unset] []))
    refine own_via (fun _ q => XS.aload X7.here hx rfl (hb hby at_165) rfl rfl q) ?_
    show own_Goes p e s below _ _ _ (T7.setTop (mkF m 167 #[.val (.int p0), .val (.int p1), .val (.int p2), .val (.int p3), .val (.int m1), .val (.int m2), .val (.int n), .val (.int x1), .val (.int x2), .val (.int x3), .val (.int (m1 &&& (65535 : Int32))), .val (.int (m2 &&& (65535 : Int32))), .val (.ref h0.size), .val (.int (1 : Int32)), .val (.int (m2 &&& (65535 : Int32))), .unset] [(.ref h0.size)]))
    refine own_via (fun _ q => XS.iload X7.here hx rfl (hb hby at_167) rfl q) ?_
    show own_Goes p e s below _ _ _ (T7.setTop (mkF m 169 #[.val (.int p0), .val (.int p1), .val (.int p2), .val (.int p3), .val (.int m1), .val (.int m2), .val (.int n), .val (.int x1), .val (.int x2), .val (.int x3), .val (.int (m1 &&& (65535 : Int32))), .val (.int (m2 &&& (65535 : Int32))), .val (.ref h0.size), .val (.int (1 : Int32)), .val (.int (m2 &&& (65535 : Int32))), .unset] [(.int x1), (.ref h0.size)]))
    obtain ⟨cq9, kq9, q9a, q9b, q9c⟩ := isOf hZ e7 hm6.1
    obtain ⟨_, _, ⟨T9, L9, k9, n9⟩, -, X9, ⟨Lc9, hQ9, l9, y9, z9⟩, st9⟩ := X7.virtualBack hx (y := (⟨"com/example/songpool/songpool/table/HomeMarks", "get", "(I)I"⟩ : MethodName)) (z := (⟨"com/example/songpool/songpool/table/HomeMarks", "get", "(I)I"⟩ : MethodName)) hown (mvT hZ (hw _ (List.mem_of_getElem? (i := 13) rfl))) (mvT hZ (hw _ (List.mem_of_getElem? (i := 14) rfl))) (notFace_of_selects (args := #[]) (mvT hZ (hw _ (List.mem_of_getElem? (i := 16) rfl)))) (mvT hZ (hw _ (List.mem_of_getElem? (i := 16) rfl))) (mvT hZ (hw _ (List.mem_of_getElem? (i := 15) rfl))) (by decide) (backOf (W := 0) (rm3 l Z a0 hw [] h0.size x1 n (m2 &&& (65535 : Int32)) (fun k => if k = x2.toInt.toNat then .int (m2 &&& (65535 : Int32)) else (fun k => if k = x1.toInt.toNat then .int (m1 &&& (65535 : Int32)) else (fun _ => .int 0) k) k) T6.heap n0 hm6 g1 u1 (by simp [hk148_8])) hZ (hw _ (List.mem_of_getElem? (i := 17) rfl)) (hw _ (List.mem_of_getElem? (i := 4) rfl)) (by decide) (by decide)) q9a q9c (g := (mkF m 169 #[.val (.int p0), .val (.int p1), .val (.int p2), .val (.int p3), .val (.int m1), .val (.int m2), .val (.int n), .val (.int x1), .val (.int x2), .val (.int x3), .val (.int (m1 &&& (65535 : Int32))), .val (.int (m2 &&& (65535 : Int32))), .val (.ref h0.size), .val (.int (1 : Int32)), .val (.int (m2 &&& (65535 : Int32))), .unset] [(.int x1), (.ref h0.size)])) rfl (by rw [hml]; rfl) (Steps.refl _) (argsL := [(.int x1)]) (rest := []) (lenOf pd__I_I rfl) rfl (by show 2 * 0 + _ ≤ _; exact Nat.le_of_eq rfl) (hb hby at_169) (fun _ _ => ⟨rfl, e7, (by decide : 5 + 0 ≤ _), (by decide : 162 + 0 ≤ _)⟩)
    dsimp only [Pt.U, Pt.locs, Pt.cells, Pt.slots] at X9 l9 y9 z9 st9 hQ9
    subst l9 y9 z9
    obtain ⟨rfl, N9q, e9⟩ := hQ9
    have N9 := Fr.app N7 N9q
    refine own_on st9 ?_
    show own_Goes p e s below _ _ _ (T9.setTop (mkF m 172 #[.val (.int p0), .val (.int p1), .val (.int p2), .val (.int p3), .val (.int m1), .val (.int m2), .val (.int n), .val (.int x1), .val (.int x2), .val (.int x3), .val (.int (m1 &&& (65535 : Int32))), .val (.int (m2 &&& (65535 : Int32))), .val (.ref h0.size), .val (.int (1 : Int32)), .val (.int (m2 &&& (65535 : Int32))), .unset] [(.int (m2 &&& (65535 : Int32)))]))
    refine own_via (fun _ q => XS.iload X9.here hx rfl (hb hby at_172) rfl q) ?_
    show own_Goes p e s below _ _ _ (T9.setTop (mkF m 174 #[.val (.int p0), .val (.int p1), .val (.int p2), .val (.int p3), .val (.int m1), .val (.int m2), .val (.int n), .val (.int x1), .val (.int x2), .val (.int x3), .val (.int (m1 &&& (65535 : Int32))), .val (.int (m2 &&& (65535 : Int32))), .val (.ref h0.size), .val (.int (1 : Int32)), .val (.int (m2 &&& (65535 : Int32))), .unset] [(.int (m2 &&& (65535 : Int32))), (.int (m2 &&& (65535 : Int32)))]))
    refine own_via (fun _ q => XS.icmpNo X9.here hx rfl (hb hby at_174) rfl (XT.ii_ne_f rfl) q) ?_
    show own_Goes p e s below _ _ _ (T9.setTop (mkF m 177 #[.val (.int p0), .val (.int p1), .val (.int p2), .val (.int p3), .val (.int m1), .val (.int m2), .val (.int n), .val (.int x1), .val (.int x2), .val (.int x3), .val (.int (m1 &&& (65535 : Int32))), .val (.int (m2 &&& (65535 : Int32))), .val (.ref h0.size), .val (.int (1 : Int32)), .val (.int (m2 &&& (65535 : Int32))), .unset] []))
    refine own_via (fun _ q => XT.iconstV X9.here hx rfl (1 : Int32) (hb hby at_177) rfl q) ?_
    show own_Goes p e s below _ _ _ (T9.setTop (mkF m 178 #[.val (.int p0), .val (.int p1), .val (.int p2), .val (.int p3), .val (.int m1), .val (.int m2), .val (.int n), .val (.int x1), .val (.int x2), .val (.int x3), .val (.int (m1 &&& (65535 : Int32))), .val (.int (m2 &&& (65535 : Int32))), .val (.ref h0.size), .val (.int (1 : Int32)), .val (.int (m2 &&& (65535 : Int32))), .unset] [(.int (1 : Int32))]))
    refine own_via (fun _ q => XS.goto X9.here hx rfl (pc0 := 178) (pc' := 182) rfl (hb hby at_178) (by decide) (by decide) q) ?_
    show own_Goes p e s below _ _ _ (T9.setTop (mkF m 182 #[.val (.int p0), .val (.int p1), .val (.int p2), .val (.int p3), .val (.int m1), .val (.int m2), .val (.int n), .val (.int x1), .val (.int x2), .val (.int x3), .val (.int (m1 &&& (65535 : Int32))), .val (.int (m2 &&& (65535 : Int32))), .val (.ref h0.size), .val (.int (1 : Int32)), .val (.int (m2 &&& (65535 : Int32))), .unset] [(.int (1 : Int32))]))
    refine own_via (fun _ q => XS.istore X9.here hx rfl (hb hby at_182) rfl (l' := #[.val (.int p0), .val (.int p1), .val (.int p2), .val (.int p3), .val (.int m1), .val (.int m2), .val (.int n), .val (.int x1), .val (.int x2), .val (.int x3), .val (.int (m1 &&& (65535 : Int32))), .val (.int (m2 &&& (65535 : Int32))), .val (.ref h0.size), .val (.int (1 : Int32)), .val (.int (m2 &&& (65535 : Int32))), .unset]) rfl q) ?_
    show own_Goes p e s below _ _ _ (T9.setTop (mkF m 184 #[.val (.int p0), .val (.int p1), .val (.int p2), .val (.int p3), .val (.int m1), .val (.int m2), .val (.int n), .val (.int x1), .val (.int x2), .val (.int x3), .val (.int (m1 &&& (65535 : Int32))), .val (.int (m2 &&& (65535 : Int32))), .val (.ref h0.size), .val (.int (1 : Int32)), .val (.int (m2 &&& (65535 : Int32))), .unset] []))
    refine own_via (fun _ q => XS.iload X9.here hx rfl (hb hby at_184) rfl q) ?_
    show own_Goes p e s below _ _ _ (T9.setTop (mkF m 186 #[.val (.int p0), .val (.int p1), .val (.int p2), .val (.int p3), .val (.int m1), .val (.int m2), .val (.int n), .val (.int x1), .val (.int x2), .val (.int x3), .val (.int (m1 &&& (65535 : Int32))), .val (.int (m2 &&& (65535 : Int32))), .val (.ref h0.size), .val (.int (1 : Int32)), .val (.int (m2 &&& (65535 : Int32))), .unset] [(.int x3)]))
    refine own_via (fun _ q => XS.iload X9.here hx rfl (hb hby at_186) rfl q) ?_
    show own_Goes p e s below _ _ _ (T9.setTop (mkF m 188 #[.val (.int p0), .val (.int p1), .val (.int p2), .val (.int p3), .val (.int m1), .val (.int m2), .val (.int n), .val (.int x1), .val (.int x2), .val (.int x3), .val (.int (m1 &&& (65535 : Int32))), .val (.int (m2 &&& (65535 : Int32))), .val (.ref h0.size), .val (.int (1 : Int32)), .val (.int (m2 &&& (65535 : Int32))), .unset] [(.int x2), (.int x3)]))
    by_cases hk188_10 : x3 = x2
    · refine own_via (fun _ q => XS.icmpNo X9.here hx rfl (hb hby at_188) rfl (XT.ii_ne_f hk188_10) q) ?_
      show own_Goes p e s below _ _ _ (T9.setTop (mkF m 191 #[.val (.int p0), .val (.int p1), .val (.int p2), .val (.int p3), .val (.int m1), .val (.int m2), .val (.int n), .val (.int x1), .val (.int x2), .val (.int x3), .val (.int (m1 &&& (65535 : Int32))), .val (.int (m2 &&& (65535 : Int32))), .val (.ref h0.size), .val (.int (1 : Int32)), .val (.int (m2 &&& (65535 : Int32))), .unset] []))
      refine own_via (fun _ q => XS.iload X9.here hx rfl (hb hby at_191) rfl q) ?_
      show own_Goes p e s below _ _ _ (T9.setTop (mkF m 193 #[.val (.int p0), .val (.int p1), .val (.int p2), .val (.int p3), .val (.int m1), .val (.int m2), .val (.int n), .val (.int x1), .val (.int x2), .val (.int x3), .val (.int (m1 &&& (65535 : Int32))), .val (.int (m2 &&& (65535 : Int32))), .val (.ref h0.size), .val (.int (1 : Int32)), .val (.int (m2 &&& (65535 : Int32))), .unset] [(.int (m2 &&& (65535 : Int32)))]))
      refine own_via (fun _ q => XS.istore X9.here hx rfl (hb hby at_193) rfl (l' := #[.val (.int p0), .val (.int p1), .val (.int p2), .val (.int p3), .val (.int m1), .val (.int m2), .val (.int n), .val (.int x1), .val (.int x2), .val (.int x3), .val (.int (m1 &&& (65535 : Int32))), .val (.int (m2 &&& (65535 : Int32))), .val (.ref h0.size), .val (.int (1 : Int32)), .val (.int (m2 &&& (65535 : Int32))), .val (.int (m2 &&& (65535 : Int32)))]) rfl q) ?_
      show own_Goes p e s below _ _ _ (T9.setTop (mkF m 195 #[.val (.int p0), .val (.int p1), .val (.int p2), .val (.int p3), .val (.int m1), .val (.int m2), .val (.int n), .val (.int x1), .val (.int x2), .val (.int x3), .val (.int (m1 &&& (65535 : Int32))), .val (.int (m2 &&& (65535 : Int32))), .val (.ref h0.size), .val (.int (1 : Int32)), .val (.int (m2 &&& (65535 : Int32))), .val (.int (m2 &&& (65535 : Int32)))] []))
      refine own_via (fun _ q => XS.goto X9.here hx rfl (pc0 := 195) (pc' := 215) rfl (hb hby at_195) (by decide) (by decide) q) ?_
      show own_Goes p e s below _ _ _ (T9.setTop (mkF m 215 #[.val (.int p0), .val (.int p1), .val (.int p2), .val (.int p3), .val (.int m1), .val (.int m2), .val (.int n), .val (.int x1), .val (.int x2), .val (.int x3), .val (.int (m1 &&& (65535 : Int32))), .val (.int (m2 &&& (65535 : Int32))), .val (.ref h0.size), .val (.int (1 : Int32)), .val (.int (m2 &&& (65535 : Int32))), .val (.int (m2 &&& (65535 : Int32)))] []))
      refine own_via (fun _ q => XS.iload X9.here hx rfl (hb hby at_215) rfl q) ?_
      show own_Goes p e s below _ _ _ (T9.setTop (mkF m 217 #[.val (.int p0), .val (.int p1), .val (.int p2), .val (.int p3), .val (.int m1), .val (.int m2), .val (.int n), .val (.int x1), .val (.int x2), .val (.int x3), .val (.int (m1 &&& (65535 : Int32))), .val (.int (m2 &&& (65535 : Int32))), .val (.ref h0.size), .val (.int (1 : Int32)), .val (.int (m2 &&& (65535 : Int32))), .val (.int (m2 &&& (65535 : Int32)))] [(.int (1 : Int32))]))
      refine own_via (fun _ q => XS.ifNo X9.here hx rfl (hb hby at_217) rfl (XT.i0_eq_f (by decide)) q) ?_
      show own_Goes p e s below _ _ _ (T9.setTop (mkF m 220 #[.val (.int p0), .val (.int p1), .val (.int p2), .val (.int p3), .val (.int m1), .val (.int m2), .val (.int n), .val (.int x1), .val (.int x2), .val (.int x3), .val (.int (m1 &&& (65535 : Int32))), .val (.int (m2 &&& (65535 : Int32))), .val (.ref h0.size), .val (.int (1 : Int32)), .val (.int (m2 &&& (65535 : Int32))), .val (.int (m2 &&& (65535 : Int32)))] []))
      refine own_via (fun _ q => XS.aload X9.here hx rfl (hb hby at_220) rfl rfl q) ?_
      show own_Goes p e s below _ _ _ (T9.setTop (mkF m 222 #[.val (.int p0), .val (.int p1), .val (.int p2), .val (.int p3), .val (.int m1), .val (.int m2), .val (.int n), .val (.int x1), .val (.int x2), .val (.int x3), .val (.int (m1 &&& (65535 : Int32))), .val (.int (m2 &&& (65535 : Int32))), .val (.ref h0.size), .val (.int (1 : Int32)), .val (.int (m2 &&& (65535 : Int32))), .val (.int (m2 &&& (65535 : Int32)))] [(.ref h0.size)]))
      refine own_via (fun _ q => XS.iload X9.here hx rfl (hb hby at_222) rfl q) ?_
      show own_Goes p e s below _ _ _ (T9.setTop (mkF m 224 #[.val (.int p0), .val (.int p1), .val (.int p2), .val (.int p3), .val (.int m1), .val (.int m2), .val (.int n), .val (.int x1), .val (.int x2), .val (.int x3), .val (.int (m1 &&& (65535 : Int32))), .val (.int (m2 &&& (65535 : Int32))), .val (.ref h0.size), .val (.int (1 : Int32)), .val (.int (m2 &&& (65535 : Int32))), .val (.int (m2 &&& (65535 : Int32)))] [(.int x3), (.ref h0.size)]))
      obtain ⟨cq11, kq11, q11a, q11b, q11c⟩ := isOf hZ e9 hm6.1
      obtain ⟨_, _, ⟨T11, L11, k11, n11⟩, -, X11, ⟨Lc11, hQ11, l11, y11, z11⟩, st11⟩ := X9.virtualBack hx (y := (⟨"com/example/songpool/songpool/table/HomeMarks", "get", "(I)I"⟩ : MethodName)) (z := (⟨"com/example/songpool/songpool/table/HomeMarks", "get", "(I)I"⟩ : MethodName)) hown (mvT hZ (hw _ (List.mem_of_getElem? (i := 13) rfl))) (mvT hZ (hw _ (List.mem_of_getElem? (i := 14) rfl))) (notFace_of_selects (args := #[]) (mvT hZ (hw _ (List.mem_of_getElem? (i := 16) rfl)))) (mvT hZ (hw _ (List.mem_of_getElem? (i := 16) rfl))) (mvT hZ (hw _ (List.mem_of_getElem? (i := 15) rfl))) (by decide) (backOf (W := 0) (rm3 l Z a0 hw [] h0.size x3 n (m2 &&& (65535 : Int32)) (fun k => if k = x2.toInt.toNat then .int (m2 &&& (65535 : Int32)) else (fun k => if k = x1.toInt.toNat then .int (m1 &&& (65535 : Int32)) else (fun _ => .int 0) k) k) T6.heap n0 hm6 g3 u3 (by simp [hk188_10])) hZ (hw _ (List.mem_of_getElem? (i := 17) rfl)) (hw _ (List.mem_of_getElem? (i := 4) rfl)) (by decide) (by decide)) q11a q11c (g := (mkF m 224 #[.val (.int p0), .val (.int p1), .val (.int p2), .val (.int p3), .val (.int m1), .val (.int m2), .val (.int n), .val (.int x1), .val (.int x2), .val (.int x3), .val (.int (m1 &&& (65535 : Int32))), .val (.int (m2 &&& (65535 : Int32))), .val (.ref h0.size), .val (.int (1 : Int32)), .val (.int (m2 &&& (65535 : Int32))), .val (.int (m2 &&& (65535 : Int32)))] [(.int x3), (.ref h0.size)])) rfl (by rw [hml]; rfl) (Steps.refl _) (argsL := [(.int x3)]) (rest := []) (lenOf pd__I_I rfl) rfl (by show 2 * 0 + _ ≤ _; exact Nat.le_of_eq rfl) (hb hby at_224) (fun _ _ => ⟨rfl, e9, (by decide : 5 + 0 ≤ _), (by decide : 162 + 0 ≤ _)⟩)
      dsimp only [Pt.U, Pt.locs, Pt.cells, Pt.slots] at X11 l11 y11 z11 st11 hQ11
      subst l11 y11 z11
      obtain ⟨rfl, N11q, e11⟩ := hQ11
      have N11 := Fr.app N9 N11q
      refine own_on st11 ?_
      show own_Goes p e s below _ _ _ (T11.setTop (mkF m 227 #[.val (.int p0), .val (.int p1), .val (.int p2), .val (.int p3), .val (.int m1), .val (.int m2), .val (.int n), .val (.int x1), .val (.int x2), .val (.int x3), .val (.int (m1 &&& (65535 : Int32))), .val (.int (m2 &&& (65535 : Int32))), .val (.ref h0.size), .val (.int (1 : Int32)), .val (.int (m2 &&& (65535 : Int32))), .val (.int (m2 &&& (65535 : Int32)))] [(.int (m2 &&& (65535 : Int32)))]))
      refine own_via (fun _ q => XS.iload X11.here hx rfl (hb hby at_227) rfl q) ?_
      show own_Goes p e s below _ _ _ (T11.setTop (mkF m 229 #[.val (.int p0), .val (.int p1), .val (.int p2), .val (.int p3), .val (.int m1), .val (.int m2), .val (.int n), .val (.int x1), .val (.int x2), .val (.int x3), .val (.int (m1 &&& (65535 : Int32))), .val (.int (m2 &&& (65535 : Int32))), .val (.ref h0.size), .val (.int (1 : Int32)), .val (.int (m2 &&& (65535 : Int32))), .val (.int (m2 &&& (65535 : Int32)))] [(.int (m2 &&& (65535 : Int32))), (.int (m2 &&& (65535 : Int32)))]))
      refine own_via (fun _ q => XS.icmpNo X11.here hx rfl (hb hby at_229) rfl (XT.ii_ne_f rfl) q) ?_
      show own_Goes p e s below _ _ _ (T11.setTop (mkF m 232 #[.val (.int p0), .val (.int p1), .val (.int p2), .val (.int p3), .val (.int m1), .val (.int m2), .val (.int n), .val (.int x1), .val (.int x2), .val (.int x3), .val (.int (m1 &&& (65535 : Int32))), .val (.int (m2 &&& (65535 : Int32))), .val (.ref h0.size), .val (.int (1 : Int32)), .val (.int (m2 &&& (65535 : Int32))), .val (.int (m2 &&& (65535 : Int32)))] []))
      refine own_via (fun _ q => XT.iconstV X11.here hx rfl (1 : Int32) (hb hby at_232) rfl q) ?_
      show own_Goes p e s below _ _ _ (T11.setTop (mkF m 233 #[.val (.int p0), .val (.int p1), .val (.int p2), .val (.int p3), .val (.int m1), .val (.int m2), .val (.int n), .val (.int x1), .val (.int x2), .val (.int x3), .val (.int (m1 &&& (65535 : Int32))), .val (.int (m2 &&& (65535 : Int32))), .val (.ref h0.size), .val (.int (1 : Int32)), .val (.int (m2 &&& (65535 : Int32))), .val (.int (m2 &&& (65535 : Int32)))] [(.int (1 : Int32))]))
      refine own_via (fun _ q => XS.goto X11.here hx rfl (pc0 := 233) (pc' := 237) rfl (hb hby at_233) (by decide) (by decide) q) ?_
      show own_Goes p e s below _ _ _ (T11.setTop (mkF m 237 #[.val (.int p0), .val (.int p1), .val (.int p2), .val (.int p3), .val (.int m1), .val (.int m2), .val (.int n), .val (.int x1), .val (.int x2), .val (.int x3), .val (.int (m1 &&& (65535 : Int32))), .val (.int (m2 &&& (65535 : Int32))), .val (.ref h0.size), .val (.int (1 : Int32)), .val (.int (m2 &&& (65535 : Int32))), .val (.int (m2 &&& (65535 : Int32)))] [(.int (1 : Int32))]))
      refine own_via (fun _ q => XS.istore X11.here hx rfl (hb hby at_237) rfl (l' := #[.val (.int p0), .val (.int p1), .val (.int p2), .val (.int p3), .val (.int m1), .val (.int m2), .val (.int n), .val (.int x1), .val (.int x2), .val (.int x3), .val (.int (m1 &&& (65535 : Int32))), .val (.int (m2 &&& (65535 : Int32))), .val (.ref h0.size), .val (.int (1 : Int32)), .val (.int (m2 &&& (65535 : Int32))), .val (.int (m2 &&& (65535 : Int32)))]) rfl q) ?_
      show own_Goes p e s below _ _ _ (T11.setTop (mkF m 239 #[.val (.int p0), .val (.int p1), .val (.int p2), .val (.int p3), .val (.int m1), .val (.int m2), .val (.int n), .val (.int x1), .val (.int x2), .val (.int x3), .val (.int (m1 &&& (65535 : Int32))), .val (.int (m2 &&& (65535 : Int32))), .val (.ref h0.size), .val (.int (1 : Int32)), .val (.int (m2 &&& (65535 : Int32))), .val (.int (m2 &&& (65535 : Int32)))] []))
      refine own_via (fun _ q => XS.iload X11.here hx rfl (hb hby at_239) rfl q) ?_
      show own_Goes p e s below _ _ _ (T11.setTop (mkF m 241 #[.val (.int p0), .val (.int p1), .val (.int p2), .val (.int p3), .val (.int m1), .val (.int m2), .val (.int n), .val (.int x1), .val (.int x2), .val (.int x3), .val (.int (m1 &&& (65535 : Int32))), .val (.int (m2 &&& (65535 : Int32))), .val (.ref h0.size), .val (.int (1 : Int32)), .val (.int (m2 &&& (65535 : Int32))), .val (.int (m2 &&& (65535 : Int32)))] [(.int (1 : Int32))]))
      exact own_retN X11 hx (t := .boolean) hret (by simp) hlk (hb hby at_241) (by decide) (by decide) ⟨rfl, N11⟩
    · refine own_via (fun _ q => XS.icmpYes X9.here hx rfl (pc0 := 188) (pc' := 198) rfl (hb hby at_188) rfl (XT.ii_ne_t hk188_10) (by decide) (by decide) q) ?_
      show own_Goes p e s below _ _ _ (T9.setTop (mkF m 198 #[.val (.int p0), .val (.int p1), .val (.int p2), .val (.int p3), .val (.int m1), .val (.int m2), .val (.int n), .val (.int x1), .val (.int x2), .val (.int x3), .val (.int (m1 &&& (65535 : Int32))), .val (.int (m2 &&& (65535 : Int32))), .val (.ref h0.size), .val (.int (1 : Int32)), .val (.int (m2 &&& (65535 : Int32))), .unset] []))
      refine own_via (fun _ q => XS.iload X9.here hx rfl (hb hby at_198) rfl q) ?_
      show own_Goes p e s below _ _ _ (T9.setTop (mkF m 200 #[.val (.int p0), .val (.int p1), .val (.int p2), .val (.int p3), .val (.int m1), .val (.int m2), .val (.int n), .val (.int x1), .val (.int x2), .val (.int x3), .val (.int (m1 &&& (65535 : Int32))), .val (.int (m2 &&& (65535 : Int32))), .val (.ref h0.size), .val (.int (1 : Int32)), .val (.int (m2 &&& (65535 : Int32))), .unset] [(.int x3)]))
      refine own_via (fun _ q => XS.iload X9.here hx rfl (hb hby at_200) rfl q) ?_
      show own_Goes p e s below _ _ _ (T9.setTop (mkF m 202 #[.val (.int p0), .val (.int p1), .val (.int p2), .val (.int p3), .val (.int m1), .val (.int m2), .val (.int n), .val (.int x1), .val (.int x2), .val (.int x3), .val (.int (m1 &&& (65535 : Int32))), .val (.int (m2 &&& (65535 : Int32))), .val (.ref h0.size), .val (.int (1 : Int32)), .val (.int (m2 &&& (65535 : Int32))), .unset] [(.int x1), (.int x3)]))
      by_cases hk202_12 : x3 = x1
      · refine own_via (fun _ q => XS.icmpNo X9.here hx rfl (hb hby at_202) rfl (XT.ii_ne_f hk202_12) q) ?_
        show own_Goes p e s below _ _ _ (T9.setTop (mkF m 205 #[.val (.int p0), .val (.int p1), .val (.int p2), .val (.int p3), .val (.int m1), .val (.int m2), .val (.int n), .val (.int x1), .val (.int x2), .val (.int x3), .val (.int (m1 &&& (65535 : Int32))), .val (.int (m2 &&& (65535 : Int32))), .val (.ref h0.size), .val (.int (1 : Int32)), .val (.int (m2 &&& (65535 : Int32))), .unset] []))
        refine own_via (fun _ q => XS.iload X9.here hx rfl (hb hby at_205) rfl q) ?_
        show own_Goes p e s below _ _ _ (T9.setTop (mkF m 207 #[.val (.int p0), .val (.int p1), .val (.int p2), .val (.int p3), .val (.int m1), .val (.int m2), .val (.int n), .val (.int x1), .val (.int x2), .val (.int x3), .val (.int (m1 &&& (65535 : Int32))), .val (.int (m2 &&& (65535 : Int32))), .val (.ref h0.size), .val (.int (1 : Int32)), .val (.int (m2 &&& (65535 : Int32))), .unset] [(.int (m1 &&& (65535 : Int32)))]))
        refine own_via (fun _ q => XS.istore X9.here hx rfl (hb hby at_207) rfl (l' := #[.val (.int p0), .val (.int p1), .val (.int p2), .val (.int p3), .val (.int m1), .val (.int m2), .val (.int n), .val (.int x1), .val (.int x2), .val (.int x3), .val (.int (m1 &&& (65535 : Int32))), .val (.int (m2 &&& (65535 : Int32))), .val (.ref h0.size), .val (.int (1 : Int32)), .val (.int (m2 &&& (65535 : Int32))), .val (.int (m1 &&& (65535 : Int32)))]) rfl q) ?_
        show own_Goes p e s below _ _ _ (T9.setTop (mkF m 209 #[.val (.int p0), .val (.int p1), .val (.int p2), .val (.int p3), .val (.int m1), .val (.int m2), .val (.int n), .val (.int x1), .val (.int x2), .val (.int x3), .val (.int (m1 &&& (65535 : Int32))), .val (.int (m2 &&& (65535 : Int32))), .val (.ref h0.size), .val (.int (1 : Int32)), .val (.int (m2 &&& (65535 : Int32))), .val (.int (m1 &&& (65535 : Int32)))] []))
        refine own_via (fun _ q => XS.goto X9.here hx rfl (pc0 := 209) (pc' := 215) rfl (hb hby at_209) (by decide) (by decide) q) ?_
        show own_Goes p e s below _ _ _ (T9.setTop (mkF m 215 #[.val (.int p0), .val (.int p1), .val (.int p2), .val (.int p3), .val (.int m1), .val (.int m2), .val (.int n), .val (.int x1), .val (.int x2), .val (.int x3), .val (.int (m1 &&& (65535 : Int32))), .val (.int (m2 &&& (65535 : Int32))), .val (.ref h0.size), .val (.int (1 : Int32)), .val (.int (m2 &&& (65535 : Int32))), .val (.int (m1 &&& (65535 : Int32)))] []))
        refine own_via (fun _ q => XS.iload X9.here hx rfl (hb hby at_215) rfl q) ?_
        show own_Goes p e s below _ _ _ (T9.setTop (mkF m 217 #[.val (.int p0), .val (.int p1), .val (.int p2), .val (.int p3), .val (.int m1), .val (.int m2), .val (.int n), .val (.int x1), .val (.int x2), .val (.int x3), .val (.int (m1 &&& (65535 : Int32))), .val (.int (m2 &&& (65535 : Int32))), .val (.ref h0.size), .val (.int (1 : Int32)), .val (.int (m2 &&& (65535 : Int32))), .val (.int (m1 &&& (65535 : Int32)))] [(.int (1 : Int32))]))
        refine own_via (fun _ q => XS.ifNo X9.here hx rfl (hb hby at_217) rfl (XT.i0_eq_f (by decide)) q) ?_
        show own_Goes p e s below _ _ _ (T9.setTop (mkF m 220 #[.val (.int p0), .val (.int p1), .val (.int p2), .val (.int p3), .val (.int m1), .val (.int m2), .val (.int n), .val (.int x1), .val (.int x2), .val (.int x3), .val (.int (m1 &&& (65535 : Int32))), .val (.int (m2 &&& (65535 : Int32))), .val (.ref h0.size), .val (.int (1 : Int32)), .val (.int (m2 &&& (65535 : Int32))), .val (.int (m1 &&& (65535 : Int32)))] []))
        refine own_via (fun _ q => XS.aload X9.here hx rfl (hb hby at_220) rfl rfl q) ?_
        show own_Goes p e s below _ _ _ (T9.setTop (mkF m 222 #[.val (.int p0), .val (.int p1), .val (.int p2), .val (.int p3), .val (.int m1), .val (.int m2), .val (.int n), .val (.int x1), .val (.int x2), .val (.int x3), .val (.int (m1 &&& (65535 : Int32))), .val (.int (m2 &&& (65535 : Int32))), .val (.ref h0.size), .val (.int (1 : Int32)), .val (.int (m2 &&& (65535 : Int32))), .val (.int (m1 &&& (65535 : Int32)))] [(.ref h0.size)]))
        refine own_via (fun _ q => XS.iload X9.here hx rfl (hb hby at_222) rfl q) ?_
        show own_Goes p e s below _ _ _ (T9.setTop (mkF m 224 #[.val (.int p0), .val (.int p1), .val (.int p2), .val (.int p3), .val (.int m1), .val (.int m2), .val (.int n), .val (.int x1), .val (.int x2), .val (.int x3), .val (.int (m1 &&& (65535 : Int32))), .val (.int (m2 &&& (65535 : Int32))), .val (.ref h0.size), .val (.int (1 : Int32)), .val (.int (m2 &&& (65535 : Int32))), .val (.int (m1 &&& (65535 : Int32)))] [(.int x3), (.ref h0.size)]))
        obtain ⟨cq13, kq13, q13a, q13b, q13c⟩ := isOf hZ e9 hm6.1
        obtain ⟨_, _, ⟨T13, L13, k13, n13⟩, -, X13, ⟨Lc13, hQ13, l13, y13, z13⟩, st13⟩ := X9.virtualBack hx (y := (⟨"com/example/songpool/songpool/table/HomeMarks", "get", "(I)I"⟩ : MethodName)) (z := (⟨"com/example/songpool/songpool/table/HomeMarks", "get", "(I)I"⟩ : MethodName)) hown (mvT hZ (hw _ (List.mem_of_getElem? (i := 13) rfl))) (mvT hZ (hw _ (List.mem_of_getElem? (i := 14) rfl))) (notFace_of_selects (args := #[]) (mvT hZ (hw _ (List.mem_of_getElem? (i := 16) rfl)))) (mvT hZ (hw _ (List.mem_of_getElem? (i := 16) rfl))) (mvT hZ (hw _ (List.mem_of_getElem? (i := 15) rfl))) (by decide) (backOf (W := 0) (rm3 l Z a0 hw [] h0.size x3 n (m1 &&& (65535 : Int32)) (fun k => if k = x2.toInt.toNat then .int (m2 &&& (65535 : Int32)) else (fun k => if k = x1.toInt.toNat then .int (m1 &&& (65535 : Int32)) else (fun _ => .int 0) k) k) T6.heap n0 hm6 g3 u3 ((if_neg (own_Hne g3 g2 hk188_10)).trans (if_pos (by rw [hk202_12])))) hZ (hw _ (List.mem_of_getElem? (i := 17) rfl)) (hw _ (List.mem_of_getElem? (i := 4) rfl)) (by decide) (by decide)) q13a q13c (g := (mkF m 224 #[.val (.int p0), .val (.int p1), .val (.int p2), .val (.int p3), .val (.int m1), .val (.int m2), .val (.int n), .val (.int x1), .val (.int x2), .val (.int x3), .val (.int (m1 &&& (65535 : Int32))), .val (.int (m2 &&& (65535 : Int32))), .val (.ref h0.size), .val (.int (1 : Int32)), .val (.int (m2 &&& (65535 : Int32))), .val (.int (m1 &&& (65535 : Int32)))] [(.int x3), (.ref h0.size)])) rfl (by rw [hml]; rfl) (Steps.refl _) (argsL := [(.int x3)]) (rest := []) (lenOf pd__I_I rfl) rfl (by show 2 * 0 + _ ≤ _; exact Nat.le_of_eq rfl) (hb hby at_224) (fun _ _ => ⟨rfl, e9, (by decide : 5 + 0 ≤ _), (by decide : 162 + 0 ≤ _)⟩)
        dsimp only [Pt.U, Pt.locs, Pt.cells, Pt.slots] at X13 l13 y13 z13 st13 hQ13
        subst l13 y13 z13
        obtain ⟨rfl, N13q, e13⟩ := hQ13
        have N13 := Fr.app N9 N13q
        refine own_on st13 ?_
        show own_Goes p e s below _ _ _ (T13.setTop (mkF m 227 #[.val (.int p0), .val (.int p1), .val (.int p2), .val (.int p3), .val (.int m1), .val (.int m2), .val (.int n), .val (.int x1), .val (.int x2), .val (.int x3), .val (.int (m1 &&& (65535 : Int32))), .val (.int (m2 &&& (65535 : Int32))), .val (.ref h0.size), .val (.int (1 : Int32)), .val (.int (m2 &&& (65535 : Int32))), .val (.int (m1 &&& (65535 : Int32)))] [(.int (m1 &&& (65535 : Int32)))]))
        refine own_via (fun _ q => XS.iload X13.here hx rfl (hb hby at_227) rfl q) ?_
        show own_Goes p e s below _ _ _ (T13.setTop (mkF m 229 #[.val (.int p0), .val (.int p1), .val (.int p2), .val (.int p3), .val (.int m1), .val (.int m2), .val (.int n), .val (.int x1), .val (.int x2), .val (.int x3), .val (.int (m1 &&& (65535 : Int32))), .val (.int (m2 &&& (65535 : Int32))), .val (.ref h0.size), .val (.int (1 : Int32)), .val (.int (m2 &&& (65535 : Int32))), .val (.int (m1 &&& (65535 : Int32)))] [(.int (m1 &&& (65535 : Int32))), (.int (m1 &&& (65535 : Int32)))]))
        refine own_via (fun _ q => XS.icmpNo X13.here hx rfl (hb hby at_229) rfl (XT.ii_ne_f rfl) q) ?_
        show own_Goes p e s below _ _ _ (T13.setTop (mkF m 232 #[.val (.int p0), .val (.int p1), .val (.int p2), .val (.int p3), .val (.int m1), .val (.int m2), .val (.int n), .val (.int x1), .val (.int x2), .val (.int x3), .val (.int (m1 &&& (65535 : Int32))), .val (.int (m2 &&& (65535 : Int32))), .val (.ref h0.size), .val (.int (1 : Int32)), .val (.int (m2 &&& (65535 : Int32))), .val (.int (m1 &&& (65535 : Int32)))] []))
        refine own_via (fun _ q => XT.iconstV X13.here hx rfl (1 : Int32) (hb hby at_232) rfl q) ?_
        show own_Goes p e s below _ _ _ (T13.setTop (mkF m 233 #[.val (.int p0), .val (.int p1), .val (.int p2), .val (.int p3), .val (.int m1), .val (.int m2), .val (.int n), .val (.int x1), .val (.int x2), .val (.int x3), .val (.int (m1 &&& (65535 : Int32))), .val (.int (m2 &&& (65535 : Int32))), .val (.ref h0.size), .val (.int (1 : Int32)), .val (.int (m2 &&& (65535 : Int32))), .val (.int (m1 &&& (65535 : Int32)))] [(.int (1 : Int32))]))
        refine own_via (fun _ q => XS.goto X13.here hx rfl (pc0 := 233) (pc' := 237) rfl (hb hby at_233) (by decide) (by decide) q) ?_
        show own_Goes p e s below _ _ _ (T13.setTop (mkF m 237 #[.val (.int p0), .val (.int p1), .val (.int p2), .val (.int p3), .val (.int m1), .val (.int m2), .val (.int n), .val (.int x1), .val (.int x2), .val (.int x3), .val (.int (m1 &&& (65535 : Int32))), .val (.int (m2 &&& (65535 : Int32))), .val (.ref h0.size), .val (.int (1 : Int32)), .val (.int (m2 &&& (65535 : Int32))), .val (.int (m1 &&& (65535 : Int32)))] [(.int (1 : Int32))]))
        refine own_via (fun _ q => XS.istore X13.here hx rfl (hb hby at_237) rfl (l' := #[.val (.int p0), .val (.int p1), .val (.int p2), .val (.int p3), .val (.int m1), .val (.int m2), .val (.int n), .val (.int x1), .val (.int x2), .val (.int x3), .val (.int (m1 &&& (65535 : Int32))), .val (.int (m2 &&& (65535 : Int32))), .val (.ref h0.size), .val (.int (1 : Int32)), .val (.int (m2 &&& (65535 : Int32))), .val (.int (m1 &&& (65535 : Int32)))]) rfl q) ?_
        show own_Goes p e s below _ _ _ (T13.setTop (mkF m 239 #[.val (.int p0), .val (.int p1), .val (.int p2), .val (.int p3), .val (.int m1), .val (.int m2), .val (.int n), .val (.int x1), .val (.int x2), .val (.int x3), .val (.int (m1 &&& (65535 : Int32))), .val (.int (m2 &&& (65535 : Int32))), .val (.ref h0.size), .val (.int (1 : Int32)), .val (.int (m2 &&& (65535 : Int32))), .val (.int (m1 &&& (65535 : Int32)))] []))
        refine own_via (fun _ q => XS.iload X13.here hx rfl (hb hby at_239) rfl q) ?_
        show own_Goes p e s below _ _ _ (T13.setTop (mkF m 241 #[.val (.int p0), .val (.int p1), .val (.int p2), .val (.int p3), .val (.int m1), .val (.int m2), .val (.int n), .val (.int x1), .val (.int x2), .val (.int x3), .val (.int (m1 &&& (65535 : Int32))), .val (.int (m2 &&& (65535 : Int32))), .val (.ref h0.size), .val (.int (1 : Int32)), .val (.int (m2 &&& (65535 : Int32))), .val (.int (m1 &&& (65535 : Int32)))] [(.int (1 : Int32))]))
        exact own_retN X13 hx (t := .boolean) hret (by simp) hlk (hb hby at_241) (by decide) (by decide) ⟨rfl, N13⟩
      · refine own_via (fun _ q => XS.icmpYes X9.here hx rfl (pc0 := 202) (pc' := 212) rfl (hb hby at_202) rfl (XT.ii_ne_t hk202_12) (by decide) (by decide) q) ?_
        show own_Goes p e s below _ _ _ (T9.setTop (mkF m 212 #[.val (.int p0), .val (.int p1), .val (.int p2), .val (.int p3), .val (.int m1), .val (.int m2), .val (.int n), .val (.int x1), .val (.int x2), .val (.int x3), .val (.int (m1 &&& (65535 : Int32))), .val (.int (m2 &&& (65535 : Int32))), .val (.ref h0.size), .val (.int (1 : Int32)), .val (.int (m2 &&& (65535 : Int32))), .unset] []))
        refine own_via (fun _ q => XT.iconstV X9.here hx rfl (0 : Int32) (hb hby at_212) rfl q) ?_
        show own_Goes p e s below _ _ _ (T9.setTop (mkF m 213 #[.val (.int p0), .val (.int p1), .val (.int p2), .val (.int p3), .val (.int m1), .val (.int m2), .val (.int n), .val (.int x1), .val (.int x2), .val (.int x3), .val (.int (m1 &&& (65535 : Int32))), .val (.int (m2 &&& (65535 : Int32))), .val (.ref h0.size), .val (.int (1 : Int32)), .val (.int (m2 &&& (65535 : Int32))), .unset] [(.int (0 : Int32))]))
        refine own_via (fun _ q => XS.istore X9.here hx rfl (hb hby at_213) rfl (l' := #[.val (.int p0), .val (.int p1), .val (.int p2), .val (.int p3), .val (.int m1), .val (.int m2), .val (.int n), .val (.int x1), .val (.int x2), .val (.int x3), .val (.int (m1 &&& (65535 : Int32))), .val (.int (m2 &&& (65535 : Int32))), .val (.ref h0.size), .val (.int (1 : Int32)), .val (.int (m2 &&& (65535 : Int32))), .val (.int (0 : Int32))]) rfl q) ?_
        show own_Goes p e s below _ _ _ (T9.setTop (mkF m 215 #[.val (.int p0), .val (.int p1), .val (.int p2), .val (.int p3), .val (.int m1), .val (.int m2), .val (.int n), .val (.int x1), .val (.int x2), .val (.int x3), .val (.int (m1 &&& (65535 : Int32))), .val (.int (m2 &&& (65535 : Int32))), .val (.ref h0.size), .val (.int (1 : Int32)), .val (.int (m2 &&& (65535 : Int32))), .val (.int (0 : Int32))] []))
        refine own_via (fun _ q => XS.iload X9.here hx rfl (hb hby at_215) rfl q) ?_
        show own_Goes p e s below _ _ _ (T9.setTop (mkF m 217 #[.val (.int p0), .val (.int p1), .val (.int p2), .val (.int p3), .val (.int m1), .val (.int m2), .val (.int n), .val (.int x1), .val (.int x2), .val (.int x3), .val (.int (m1 &&& (65535 : Int32))), .val (.int (m2 &&& (65535 : Int32))), .val (.ref h0.size), .val (.int (1 : Int32)), .val (.int (m2 &&& (65535 : Int32))), .val (.int (0 : Int32))] [(.int (1 : Int32))]))
        refine own_via (fun _ q => XS.ifNo X9.here hx rfl (hb hby at_217) rfl (XT.i0_eq_f (by decide)) q) ?_
        show own_Goes p e s below _ _ _ (T9.setTop (mkF m 220 #[.val (.int p0), .val (.int p1), .val (.int p2), .val (.int p3), .val (.int m1), .val (.int m2), .val (.int n), .val (.int x1), .val (.int x2), .val (.int x3), .val (.int (m1 &&& (65535 : Int32))), .val (.int (m2 &&& (65535 : Int32))), .val (.ref h0.size), .val (.int (1 : Int32)), .val (.int (m2 &&& (65535 : Int32))), .val (.int (0 : Int32))] []))
        refine own_via (fun _ q => XS.aload X9.here hx rfl (hb hby at_220) rfl rfl q) ?_
        show own_Goes p e s below _ _ _ (T9.setTop (mkF m 222 #[.val (.int p0), .val (.int p1), .val (.int p2), .val (.int p3), .val (.int m1), .val (.int m2), .val (.int n), .val (.int x1), .val (.int x2), .val (.int x3), .val (.int (m1 &&& (65535 : Int32))), .val (.int (m2 &&& (65535 : Int32))), .val (.ref h0.size), .val (.int (1 : Int32)), .val (.int (m2 &&& (65535 : Int32))), .val (.int (0 : Int32))] [(.ref h0.size)]))
        refine own_via (fun _ q => XS.iload X9.here hx rfl (hb hby at_222) rfl q) ?_
        show own_Goes p e s below _ _ _ (T9.setTop (mkF m 224 #[.val (.int p0), .val (.int p1), .val (.int p2), .val (.int p3), .val (.int m1), .val (.int m2), .val (.int n), .val (.int x1), .val (.int x2), .val (.int x3), .val (.int (m1 &&& (65535 : Int32))), .val (.int (m2 &&& (65535 : Int32))), .val (.ref h0.size), .val (.int (1 : Int32)), .val (.int (m2 &&& (65535 : Int32))), .val (.int (0 : Int32))] [(.int x3), (.ref h0.size)]))
        obtain ⟨cq14, kq14, q14a, q14b, q14c⟩ := isOf hZ e9 hm6.1
        obtain ⟨_, _, ⟨T14, L14, k14, n14⟩, -, X14, ⟨Lc14, hQ14, l14, y14, z14⟩, st14⟩ := X9.virtualBack hx (y := (⟨"com/example/songpool/songpool/table/HomeMarks", "get", "(I)I"⟩ : MethodName)) (z := (⟨"com/example/songpool/songpool/table/HomeMarks", "get", "(I)I"⟩ : MethodName)) hown (mvT hZ (hw _ (List.mem_of_getElem? (i := 13) rfl))) (mvT hZ (hw _ (List.mem_of_getElem? (i := 14) rfl))) (notFace_of_selects (args := #[]) (mvT hZ (hw _ (List.mem_of_getElem? (i := 16) rfl)))) (mvT hZ (hw _ (List.mem_of_getElem? (i := 16) rfl))) (mvT hZ (hw _ (List.mem_of_getElem? (i := 15) rfl))) (by decide) (backOf (W := 0) (rm3 l Z a0 hw [] h0.size x3 n (0 : Int32) (fun k => if k = x2.toInt.toNat then .int (m2 &&& (65535 : Int32)) else (fun k => if k = x1.toInt.toNat then .int (m1 &&& (65535 : Int32)) else (fun _ => .int 0) k) k) T6.heap n0 hm6 g3 u3 ((if_neg (own_Hne g3 g2 hk188_10)).trans (if_neg (own_Hne g3 g1 hk202_12)))) hZ (hw _ (List.mem_of_getElem? (i := 17) rfl)) (hw _ (List.mem_of_getElem? (i := 4) rfl)) (by decide) (by decide)) q14a q14c (g := (mkF m 224 #[.val (.int p0), .val (.int p1), .val (.int p2), .val (.int p3), .val (.int m1), .val (.int m2), .val (.int n), .val (.int x1), .val (.int x2), .val (.int x3), .val (.int (m1 &&& (65535 : Int32))), .val (.int (m2 &&& (65535 : Int32))), .val (.ref h0.size), .val (.int (1 : Int32)), .val (.int (m2 &&& (65535 : Int32))), .val (.int (0 : Int32))] [(.int x3), (.ref h0.size)])) rfl (by rw [hml]; rfl) (Steps.refl _) (argsL := [(.int x3)]) (rest := []) (lenOf pd__I_I rfl) rfl (by show 2 * 0 + _ ≤ _; exact Nat.le_of_eq rfl) (hb hby at_224) (fun _ _ => ⟨rfl, e9, (by decide : 5 + 0 ≤ _), (by decide : 162 + 0 ≤ _)⟩)
        dsimp only [Pt.U, Pt.locs, Pt.cells, Pt.slots] at X14 l14 y14 z14 st14 hQ14
        subst l14 y14 z14
        obtain ⟨rfl, N14q, e14⟩ := hQ14
        have N14 := Fr.app N9 N14q
        refine own_on st14 ?_
        show own_Goes p e s below _ _ _ (T14.setTop (mkF m 227 #[.val (.int p0), .val (.int p1), .val (.int p2), .val (.int p3), .val (.int m1), .val (.int m2), .val (.int n), .val (.int x1), .val (.int x2), .val (.int x3), .val (.int (m1 &&& (65535 : Int32))), .val (.int (m2 &&& (65535 : Int32))), .val (.ref h0.size), .val (.int (1 : Int32)), .val (.int (m2 &&& (65535 : Int32))), .val (.int (0 : Int32))] [(.int (0 : Int32))]))
        refine own_via (fun _ q => XS.iload X14.here hx rfl (hb hby at_227) rfl q) ?_
        show own_Goes p e s below _ _ _ (T14.setTop (mkF m 229 #[.val (.int p0), .val (.int p1), .val (.int p2), .val (.int p3), .val (.int m1), .val (.int m2), .val (.int n), .val (.int x1), .val (.int x2), .val (.int x3), .val (.int (m1 &&& (65535 : Int32))), .val (.int (m2 &&& (65535 : Int32))), .val (.ref h0.size), .val (.int (1 : Int32)), .val (.int (m2 &&& (65535 : Int32))), .val (.int (0 : Int32))] [(.int (0 : Int32)), (.int (0 : Int32))]))
        refine own_via (fun _ q => XS.icmpNo X14.here hx rfl (hb hby at_229) rfl (XT.ii_ne_f (by decide)) q) ?_
        show own_Goes p e s below _ _ _ (T14.setTop (mkF m 232 #[.val (.int p0), .val (.int p1), .val (.int p2), .val (.int p3), .val (.int m1), .val (.int m2), .val (.int n), .val (.int x1), .val (.int x2), .val (.int x3), .val (.int (m1 &&& (65535 : Int32))), .val (.int (m2 &&& (65535 : Int32))), .val (.ref h0.size), .val (.int (1 : Int32)), .val (.int (m2 &&& (65535 : Int32))), .val (.int (0 : Int32))] []))
        refine own_via (fun _ q => XT.iconstV X14.here hx rfl (1 : Int32) (hb hby at_232) rfl q) ?_
        show own_Goes p e s below _ _ _ (T14.setTop (mkF m 233 #[.val (.int p0), .val (.int p1), .val (.int p2), .val (.int p3), .val (.int m1), .val (.int m2), .val (.int n), .val (.int x1), .val (.int x2), .val (.int x3), .val (.int (m1 &&& (65535 : Int32))), .val (.int (m2 &&& (65535 : Int32))), .val (.ref h0.size), .val (.int (1 : Int32)), .val (.int (m2 &&& (65535 : Int32))), .val (.int (0 : Int32))] [(.int (1 : Int32))]))
        refine own_via (fun _ q => XS.goto X14.here hx rfl (pc0 := 233) (pc' := 237) rfl (hb hby at_233) (by decide) (by decide) q) ?_
        show own_Goes p e s below _ _ _ (T14.setTop (mkF m 237 #[.val (.int p0), .val (.int p1), .val (.int p2), .val (.int p3), .val (.int m1), .val (.int m2), .val (.int n), .val (.int x1), .val (.int x2), .val (.int x3), .val (.int (m1 &&& (65535 : Int32))), .val (.int (m2 &&& (65535 : Int32))), .val (.ref h0.size), .val (.int (1 : Int32)), .val (.int (m2 &&& (65535 : Int32))), .val (.int (0 : Int32))] [(.int (1 : Int32))]))
        refine own_via (fun _ q => XS.istore X14.here hx rfl (hb hby at_237) rfl (l' := #[.val (.int p0), .val (.int p1), .val (.int p2), .val (.int p3), .val (.int m1), .val (.int m2), .val (.int n), .val (.int x1), .val (.int x2), .val (.int x3), .val (.int (m1 &&& (65535 : Int32))), .val (.int (m2 &&& (65535 : Int32))), .val (.ref h0.size), .val (.int (1 : Int32)), .val (.int (m2 &&& (65535 : Int32))), .val (.int (0 : Int32))]) rfl q) ?_
        show own_Goes p e s below _ _ _ (T14.setTop (mkF m 239 #[.val (.int p0), .val (.int p1), .val (.int p2), .val (.int p3), .val (.int m1), .val (.int m2), .val (.int n), .val (.int x1), .val (.int x2), .val (.int x3), .val (.int (m1 &&& (65535 : Int32))), .val (.int (m2 &&& (65535 : Int32))), .val (.ref h0.size), .val (.int (1 : Int32)), .val (.int (m2 &&& (65535 : Int32))), .val (.int (0 : Int32))] []))
        refine own_via (fun _ q => XS.iload X14.here hx rfl (hb hby at_239) rfl q) ?_
        show own_Goes p e s below _ _ _ (T14.setTop (mkF m 241 #[.val (.int p0), .val (.int p1), .val (.int p2), .val (.int p3), .val (.int m1), .val (.int m2), .val (.int n), .val (.int x1), .val (.int x2), .val (.int x3), .val (.int (m1 &&& (65535 : Int32))), .val (.int (m2 &&& (65535 : Int32))), .val (.ref h0.size), .val (.int (1 : Int32)), .val (.int (m2 &&& (65535 : Int32))), .val (.int (0 : Int32))] [(.int (1 : Int32))]))
        exact own_retN X14 hx (t := .boolean) hret (by simp) hlk (hb hby at_241) (by decide) (by decide) ⟨rfl, N14⟩
  · refine own_via (fun _ q => XS.icmpYes X7.here hx rfl (pc0 := 148) (pc' := 156) rfl (hb hby at_148) rfl (XT.ii_ne_t hk148_8) (by decide) (by decide) q) ?_
    show own_Goes p e s below _ _ _ (T7.setTop (mkF m 156 #[.val (.int p0), .val (.int p1), .val (.int p2), .val (.int p3), .val (.int m1), .val (.int m2), .val (.int n), .val (.int x1), .val (.int x2), .val (.int x3), .val (.int (m1 &&& (65535 : Int32))), .val (.int (m2 &&& (65535 : Int32))), .val (.ref h0.size), .val (.int (1 : Int32)), .unset, .unset] []))
    refine own_via (fun _ q => XS.iload X7.here hx rfl (hb hby at_156) rfl q) ?_
    show own_Goes p e s below _ _ _ (T7.setTop (mkF m 158 #[.val (.int p0), .val (.int p1), .val (.int p2), .val (.int p3), .val (.int m1), .val (.int m2), .val (.int n), .val (.int x1), .val (.int x2), .val (.int x3), .val (.int (m1 &&& (65535 : Int32))), .val (.int (m2 &&& (65535 : Int32))), .val (.ref h0.size), .val (.int (1 : Int32)), .unset, .unset] [(.int (m1 &&& (65535 : Int32)))]))
    refine own_via (fun _ q => XS.istore X7.here hx rfl (hb hby at_158) rfl (l' := #[.val (.int p0), .val (.int p1), .val (.int p2), .val (.int p3), .val (.int m1), .val (.int m2), .val (.int n), .val (.int x1), .val (.int x2), .val (.int x3), .val (.int (m1 &&& (65535 : Int32))), .val (.int (m2 &&& (65535 : Int32))), .val (.ref h0.size), .val (.int (1 : Int32)), .val (.int (m1 &&& (65535 : Int32))), .unset]) rfl q) ?_
    show own_Goes p e s below _ _ _ (T7.setTop (mkF m 160 #[.val (.int p0), .val (.int p1), .val (.int p2), .val (.int p3), .val (.int m1), .val (.int m2), .val (.int n), .val (.int x1), .val (.int x2), .val (.int x3), .val (.int (m1 &&& (65535 : Int32))), .val (.int (m2 &&& (65535 : Int32))), .val (.ref h0.size), .val (.int (1 : Int32)), .val (.int (m1 &&& (65535 : Int32))), .unset] []))
    refine own_via (fun _ q => XS.iload X7.here hx rfl (hb hby at_160) rfl q) ?_
    show own_Goes p e s below _ _ _ (T7.setTop (mkF m 162 #[.val (.int p0), .val (.int p1), .val (.int p2), .val (.int p3), .val (.int m1), .val (.int m2), .val (.int n), .val (.int x1), .val (.int x2), .val (.int x3), .val (.int (m1 &&& (65535 : Int32))), .val (.int (m2 &&& (65535 : Int32))), .val (.ref h0.size), .val (.int (1 : Int32)), .val (.int (m1 &&& (65535 : Int32))), .unset] [(.int (1 : Int32))]))
    refine own_via (fun _ q => XS.ifNo X7.here hx rfl (hb hby at_162) rfl (XT.i0_eq_f (by decide)) q) ?_
    show own_Goes p e s below _ _ _ (T7.setTop (mkF m 165 #[.val (.int p0), .val (.int p1), .val (.int p2), .val (.int p3), .val (.int m1), .val (.int m2), .val (.int n), .val (.int x1), .val (.int x2), .val (.int x3), .val (.int (m1 &&& (65535 : Int32))), .val (.int (m2 &&& (65535 : Int32))), .val (.ref h0.size), .val (.int (1 : Int32)), .val (.int (m1 &&& (65535 : Int32))), .unset] []))
    refine own_via (fun _ q => XS.aload X7.here hx rfl (hb hby at_165) rfl rfl q) ?_
    show own_Goes p e s below _ _ _ (T7.setTop (mkF m 167 #[.val (.int p0), .val (.int p1), .val (.int p2), .val (.int p3), .val (.int m1), .val (.int m2), .val (.int n), .val (.int x1), .val (.int x2), .val (.int x3), .val (.int (m1 &&& (65535 : Int32))), .val (.int (m2 &&& (65535 : Int32))), .val (.ref h0.size), .val (.int (1 : Int32)), .val (.int (m1 &&& (65535 : Int32))), .unset] [(.ref h0.size)]))
    refine own_via (fun _ q => XS.iload X7.here hx rfl (hb hby at_167) rfl q) ?_
    show own_Goes p e s below _ _ _ (T7.setTop (mkF m 169 #[.val (.int p0), .val (.int p1), .val (.int p2), .val (.int p3), .val (.int m1), .val (.int m2), .val (.int n), .val (.int x1), .val (.int x2), .val (.int x3), .val (.int (m1 &&& (65535 : Int32))), .val (.int (m2 &&& (65535 : Int32))), .val (.ref h0.size), .val (.int (1 : Int32)), .val (.int (m1 &&& (65535 : Int32))), .unset] [(.int x1), (.ref h0.size)]))
    obtain ⟨cq15, kq15, q15a, q15b, q15c⟩ := isOf hZ e7 hm6.1
    obtain ⟨_, _, ⟨T15, L15, k15, n15⟩, -, X15, ⟨Lc15, hQ15, l15, y15, z15⟩, st15⟩ := X7.virtualBack hx (y := (⟨"com/example/songpool/songpool/table/HomeMarks", "get", "(I)I"⟩ : MethodName)) (z := (⟨"com/example/songpool/songpool/table/HomeMarks", "get", "(I)I"⟩ : MethodName)) hown (mvT hZ (hw _ (List.mem_of_getElem? (i := 13) rfl))) (mvT hZ (hw _ (List.mem_of_getElem? (i := 14) rfl))) (notFace_of_selects (args := #[]) (mvT hZ (hw _ (List.mem_of_getElem? (i := 16) rfl)))) (mvT hZ (hw _ (List.mem_of_getElem? (i := 16) rfl))) (mvT hZ (hw _ (List.mem_of_getElem? (i := 15) rfl))) (by decide) (backOf (W := 0) (rm3 l Z a0 hw [] h0.size x1 n (m1 &&& (65535 : Int32)) (fun k => if k = x2.toInt.toNat then .int (m2 &&& (65535 : Int32)) else (fun k => if k = x1.toInt.toNat then .int (m1 &&& (65535 : Int32)) else (fun _ => .int 0) k) k) T6.heap n0 hm6 g1 u1 ((if_neg (own_Hne g1 g2 hk148_8)).trans (if_pos rfl))) hZ (hw _ (List.mem_of_getElem? (i := 17) rfl)) (hw _ (List.mem_of_getElem? (i := 4) rfl)) (by decide) (by decide)) q15a q15c (g := (mkF m 169 #[.val (.int p0), .val (.int p1), .val (.int p2), .val (.int p3), .val (.int m1), .val (.int m2), .val (.int n), .val (.int x1), .val (.int x2), .val (.int x3), .val (.int (m1 &&& (65535 : Int32))), .val (.int (m2 &&& (65535 : Int32))), .val (.ref h0.size), .val (.int (1 : Int32)), .val (.int (m1 &&& (65535 : Int32))), .unset] [(.int x1), (.ref h0.size)])) rfl (by rw [hml]; rfl) (Steps.refl _) (argsL := [(.int x1)]) (rest := []) (lenOf pd__I_I rfl) rfl (by show 2 * 0 + _ ≤ _; exact Nat.le_of_eq rfl) (hb hby at_169) (fun _ _ => ⟨rfl, e7, (by decide : 5 + 0 ≤ _), (by decide : 162 + 0 ≤ _)⟩)
    dsimp only [Pt.U, Pt.locs, Pt.cells, Pt.slots] at X15 l15 y15 z15 st15 hQ15
    subst l15 y15 z15
    obtain ⟨rfl, N15q, e15⟩ := hQ15
    have N15 := Fr.app N7 N15q
    refine own_on st15 ?_
    show own_Goes p e s below _ _ _ (T15.setTop (mkF m 172 #[.val (.int p0), .val (.int p1), .val (.int p2), .val (.int p3), .val (.int m1), .val (.int m2), .val (.int n), .val (.int x1), .val (.int x2), .val (.int x3), .val (.int (m1 &&& (65535 : Int32))), .val (.int (m2 &&& (65535 : Int32))), .val (.ref h0.size), .val (.int (1 : Int32)), .val (.int (m1 &&& (65535 : Int32))), .unset] [(.int (m1 &&& (65535 : Int32)))]))
    refine own_via (fun _ q => XS.iload X15.here hx rfl (hb hby at_172) rfl q) ?_
    show own_Goes p e s below _ _ _ (T15.setTop (mkF m 174 #[.val (.int p0), .val (.int p1), .val (.int p2), .val (.int p3), .val (.int m1), .val (.int m2), .val (.int n), .val (.int x1), .val (.int x2), .val (.int x3), .val (.int (m1 &&& (65535 : Int32))), .val (.int (m2 &&& (65535 : Int32))), .val (.ref h0.size), .val (.int (1 : Int32)), .val (.int (m1 &&& (65535 : Int32))), .unset] [(.int (m1 &&& (65535 : Int32))), (.int (m1 &&& (65535 : Int32)))]))
    refine own_via (fun _ q => XS.icmpNo X15.here hx rfl (hb hby at_174) rfl (XT.ii_ne_f rfl) q) ?_
    show own_Goes p e s below _ _ _ (T15.setTop (mkF m 177 #[.val (.int p0), .val (.int p1), .val (.int p2), .val (.int p3), .val (.int m1), .val (.int m2), .val (.int n), .val (.int x1), .val (.int x2), .val (.int x3), .val (.int (m1 &&& (65535 : Int32))), .val (.int (m2 &&& (65535 : Int32))), .val (.ref h0.size), .val (.int (1 : Int32)), .val (.int (m1 &&& (65535 : Int32))), .unset] []))
    refine own_via (fun _ q => XT.iconstV X15.here hx rfl (1 : Int32) (hb hby at_177) rfl q) ?_
    show own_Goes p e s below _ _ _ (T15.setTop (mkF m 178 #[.val (.int p0), .val (.int p1), .val (.int p2), .val (.int p3), .val (.int m1), .val (.int m2), .val (.int n), .val (.int x1), .val (.int x2), .val (.int x3), .val (.int (m1 &&& (65535 : Int32))), .val (.int (m2 &&& (65535 : Int32))), .val (.ref h0.size), .val (.int (1 : Int32)), .val (.int (m1 &&& (65535 : Int32))), .unset] [(.int (1 : Int32))]))
    refine own_via (fun _ q => XS.goto X15.here hx rfl (pc0 := 178) (pc' := 182) rfl (hb hby at_178) (by decide) (by decide) q) ?_
    show own_Goes p e s below _ _ _ (T15.setTop (mkF m 182 #[.val (.int p0), .val (.int p1), .val (.int p2), .val (.int p3), .val (.int m1), .val (.int m2), .val (.int n), .val (.int x1), .val (.int x2), .val (.int x3), .val (.int (m1 &&& (65535 : Int32))), .val (.int (m2 &&& (65535 : Int32))), .val (.ref h0.size), .val (.int (1 : Int32)), .val (.int (m1 &&& (65535 : Int32))), .unset] [(.int (1 : Int32))]))
    refine own_via (fun _ q => XS.istore X15.here hx rfl (hb hby at_182) rfl (l' := #[.val (.int p0), .val (.int p1), .val (.int p2), .val (.int p3), .val (.int m1), .val (.int m2), .val (.int n), .val (.int x1), .val (.int x2), .val (.int x3), .val (.int (m1 &&& (65535 : Int32))), .val (.int (m2 &&& (65535 : Int32))), .val (.ref h0.size), .val (.int (1 : Int32)), .val (.int (m1 &&& (65535 : Int32))), .unset]) rfl q) ?_
    show own_Goes p e s below _ _ _ (T15.setTop (mkF m 184 #[.val (.int p0), .val (.int p1), .val (.int p2), .val (.int p3), .val (.int m1), .val (.int m2), .val (.int n), .val (.int x1), .val (.int x2), .val (.int x3), .val (.int (m1 &&& (65535 : Int32))), .val (.int (m2 &&& (65535 : Int32))), .val (.ref h0.size), .val (.int (1 : Int32)), .val (.int (m1 &&& (65535 : Int32))), .unset] []))
    refine own_via (fun _ q => XS.iload X15.here hx rfl (hb hby at_184) rfl q) ?_
    show own_Goes p e s below _ _ _ (T15.setTop (mkF m 186 #[.val (.int p0), .val (.int p1), .val (.int p2), .val (.int p3), .val (.int m1), .val (.int m2), .val (.int n), .val (.int x1), .val (.int x2), .val (.int x3), .val (.int (m1 &&& (65535 : Int32))), .val (.int (m2 &&& (65535 : Int32))), .val (.ref h0.size), .val (.int (1 : Int32)), .val (.int (m1 &&& (65535 : Int32))), .unset] [(.int x3)]))
    refine own_via (fun _ q => XS.iload X15.here hx rfl (hb hby at_186) rfl q) ?_
    show own_Goes p e s below _ _ _ (T15.setTop (mkF m 188 #[.val (.int p0), .val (.int p1), .val (.int p2), .val (.int p3), .val (.int m1), .val (.int m2), .val (.int n), .val (.int x1), .val (.int x2), .val (.int x3), .val (.int (m1 &&& (65535 : Int32))), .val (.int (m2 &&& (65535 : Int32))), .val (.ref h0.size), .val (.int (1 : Int32)), .val (.int (m1 &&& (65535 : Int32))), .unset] [(.int x2), (.int x3)]))
    by_cases hk188_16 : x3 = x2
    · refine own_via (fun _ q => XS.icmpNo X15.here hx rfl (hb hby at_188) rfl (XT.ii_ne_f hk188_16) q) ?_
      show own_Goes p e s below _ _ _ (T15.setTop (mkF m 191 #[.val (.int p0), .val (.int p1), .val (.int p2), .val (.int p3), .val (.int m1), .val (.int m2), .val (.int n), .val (.int x1), .val (.int x2), .val (.int x3), .val (.int (m1 &&& (65535 : Int32))), .val (.int (m2 &&& (65535 : Int32))), .val (.ref h0.size), .val (.int (1 : Int32)), .val (.int (m1 &&& (65535 : Int32))), .unset] []))
      refine own_via (fun _ q => XS.iload X15.here hx rfl (hb hby at_191) rfl q) ?_
      show own_Goes p e s below _ _ _ (T15.setTop (mkF m 193 #[.val (.int p0), .val (.int p1), .val (.int p2), .val (.int p3), .val (.int m1), .val (.int m2), .val (.int n), .val (.int x1), .val (.int x2), .val (.int x3), .val (.int (m1 &&& (65535 : Int32))), .val (.int (m2 &&& (65535 : Int32))), .val (.ref h0.size), .val (.int (1 : Int32)), .val (.int (m1 &&& (65535 : Int32))), .unset] [(.int (m2 &&& (65535 : Int32)))]))
      refine own_via (fun _ q => XS.istore X15.here hx rfl (hb hby at_193) rfl (l' := #[.val (.int p0), .val (.int p1), .val (.int p2), .val (.int p3), .val (.int m1), .val (.int m2), .val (.int n), .val (.int x1), .val (.int x2), .val (.int x3), .val (.int (m1 &&& (65535 : Int32))), .val (.int (m2 &&& (65535 : Int32))), .val (.ref h0.size), .val (.int (1 : Int32)), .val (.int (m1 &&& (65535 : Int32))), .val (.int (m2 &&& (65535 : Int32)))]) rfl q) ?_
      show own_Goes p e s below _ _ _ (T15.setTop (mkF m 195 #[.val (.int p0), .val (.int p1), .val (.int p2), .val (.int p3), .val (.int m1), .val (.int m2), .val (.int n), .val (.int x1), .val (.int x2), .val (.int x3), .val (.int (m1 &&& (65535 : Int32))), .val (.int (m2 &&& (65535 : Int32))), .val (.ref h0.size), .val (.int (1 : Int32)), .val (.int (m1 &&& (65535 : Int32))), .val (.int (m2 &&& (65535 : Int32)))] []))
      refine own_via (fun _ q => XS.goto X15.here hx rfl (pc0 := 195) (pc' := 215) rfl (hb hby at_195) (by decide) (by decide) q) ?_
      show own_Goes p e s below _ _ _ (T15.setTop (mkF m 215 #[.val (.int p0), .val (.int p1), .val (.int p2), .val (.int p3), .val (.int m1), .val (.int m2), .val (.int n), .val (.int x1), .val (.int x2), .val (.int x3), .val (.int (m1 &&& (65535 : Int32))), .val (.int (m2 &&& (65535 : Int32))), .val (.ref h0.size), .val (.int (1 : Int32)), .val (.int (m1 &&& (65535 : Int32))), .val (.int (m2 &&& (65535 : Int32)))] []))
      refine own_via (fun _ q => XS.iload X15.here hx rfl (hb hby at_215) rfl q) ?_
      show own_Goes p e s below _ _ _ (T15.setTop (mkF m 217 #[.val (.int p0), .val (.int p1), .val (.int p2), .val (.int p3), .val (.int m1), .val (.int m2), .val (.int n), .val (.int x1), .val (.int x2), .val (.int x3), .val (.int (m1 &&& (65535 : Int32))), .val (.int (m2 &&& (65535 : Int32))), .val (.ref h0.size), .val (.int (1 : Int32)), .val (.int (m1 &&& (65535 : Int32))), .val (.int (m2 &&& (65535 : Int32)))] [(.int (1 : Int32))]))
      refine own_via (fun _ q => XS.ifNo X15.here hx rfl (hb hby at_217) rfl (XT.i0_eq_f (by decide)) q) ?_
      show own_Goes p e s below _ _ _ (T15.setTop (mkF m 220 #[.val (.int p0), .val (.int p1), .val (.int p2), .val (.int p3), .val (.int m1), .val (.int m2), .val (.int n), .val (.int x1), .val (.int x2), .val (.int x3), .val (.int (m1 &&& (65535 : Int32))), .val (.int (m2 &&& (65535 : Int32))), .val (.ref h0.size), .val (.int (1 : Int32)), .val (.int (m1 &&& (65535 : Int32))), .val (.int (m2 &&& (65535 : Int32)))] []))
      refine own_via (fun _ q => XS.aload X15.here hx rfl (hb hby at_220) rfl rfl q) ?_
      show own_Goes p e s below _ _ _ (T15.setTop (mkF m 222 #[.val (.int p0), .val (.int p1), .val (.int p2), .val (.int p3), .val (.int m1), .val (.int m2), .val (.int n), .val (.int x1), .val (.int x2), .val (.int x3), .val (.int (m1 &&& (65535 : Int32))), .val (.int (m2 &&& (65535 : Int32))), .val (.ref h0.size), .val (.int (1 : Int32)), .val (.int (m1 &&& (65535 : Int32))), .val (.int (m2 &&& (65535 : Int32)))] [(.ref h0.size)]))
      refine own_via (fun _ q => XS.iload X15.here hx rfl (hb hby at_222) rfl q) ?_
      show own_Goes p e s below _ _ _ (T15.setTop (mkF m 224 #[.val (.int p0), .val (.int p1), .val (.int p2), .val (.int p3), .val (.int m1), .val (.int m2), .val (.int n), .val (.int x1), .val (.int x2), .val (.int x3), .val (.int (m1 &&& (65535 : Int32))), .val (.int (m2 &&& (65535 : Int32))), .val (.ref h0.size), .val (.int (1 : Int32)), .val (.int (m1 &&& (65535 : Int32))), .val (.int (m2 &&& (65535 : Int32)))] [(.int x3), (.ref h0.size)]))
      obtain ⟨cq17, kq17, q17a, q17b, q17c⟩ := isOf hZ e15 hm6.1
      obtain ⟨_, _, ⟨T17, L17, k17, n17⟩, -, X17, ⟨Lc17, hQ17, l17, y17, z17⟩, st17⟩ := X15.virtualBack hx (y := (⟨"com/example/songpool/songpool/table/HomeMarks", "get", "(I)I"⟩ : MethodName)) (z := (⟨"com/example/songpool/songpool/table/HomeMarks", "get", "(I)I"⟩ : MethodName)) hown (mvT hZ (hw _ (List.mem_of_getElem? (i := 13) rfl))) (mvT hZ (hw _ (List.mem_of_getElem? (i := 14) rfl))) (notFace_of_selects (args := #[]) (mvT hZ (hw _ (List.mem_of_getElem? (i := 16) rfl)))) (mvT hZ (hw _ (List.mem_of_getElem? (i := 16) rfl))) (mvT hZ (hw _ (List.mem_of_getElem? (i := 15) rfl))) (by decide) (backOf (W := 0) (rm3 l Z a0 hw [] h0.size x3 n (m2 &&& (65535 : Int32)) (fun k => if k = x2.toInt.toNat then .int (m2 &&& (65535 : Int32)) else (fun k => if k = x1.toInt.toNat then .int (m1 &&& (65535 : Int32)) else (fun _ => .int 0) k) k) T6.heap n0 hm6 g3 u3 (by simp [hk188_16])) hZ (hw _ (List.mem_of_getElem? (i := 17) rfl)) (hw _ (List.mem_of_getElem? (i := 4) rfl)) (by decide) (by decide)) q17a q17c (g := (mkF m 224 #[.val (.int p0), .val (.int p1), .val (.int p2), .val (.int p3), .val (.int m1), .val (.int m2), .val (.int n), .val (.int x1), .val (.int x2), .val (.int x3), .val (.int (m1 &&& (65535 : Int32))), .val (.int (m2 &&& (65535 : Int32))), .val (.ref h0.size), .val (.int (1 : Int32)), .val (.int (m1 &&& (65535 : Int32))), .val (.int (m2 &&& (65535 : Int32)))] [(.int x3), (.ref h0.size)])) rfl (by rw [hml]; rfl) (Steps.refl _) (argsL := [(.int x3)]) (rest := []) (lenOf pd__I_I rfl) rfl (by show 2 * 0 + _ ≤ _; exact Nat.le_of_eq rfl) (hb hby at_224) (fun _ _ => ⟨rfl, e15, (by decide : 5 + 0 ≤ _), (by decide : 162 + 0 ≤ _)⟩)
      dsimp only [Pt.U, Pt.locs, Pt.cells, Pt.slots] at X17 l17 y17 z17 st17 hQ17
      subst l17 y17 z17
      obtain ⟨rfl, N17q, e17⟩ := hQ17
      have N17 := Fr.app N15 N17q
      refine own_on st17 ?_
      show own_Goes p e s below _ _ _ (T17.setTop (mkF m 227 #[.val (.int p0), .val (.int p1), .val (.int p2), .val (.int p3), .val (.int m1), .val (.int m2), .val (.int n), .val (.int x1), .val (.int x2), .val (.int x3), .val (.int (m1 &&& (65535 : Int32))), .val (.int (m2 &&& (65535 : Int32))), .val (.ref h0.size), .val (.int (1 : Int32)), .val (.int (m1 &&& (65535 : Int32))), .val (.int (m2 &&& (65535 : Int32)))] [(.int (m2 &&& (65535 : Int32)))]))
      refine own_via (fun _ q => XS.iload X17.here hx rfl (hb hby at_227) rfl q) ?_
      show own_Goes p e s below _ _ _ (T17.setTop (mkF m 229 #[.val (.int p0), .val (.int p1), .val (.int p2), .val (.int p3), .val (.int m1), .val (.int m2), .val (.int n), .val (.int x1), .val (.int x2), .val (.int x3), .val (.int (m1 &&& (65535 : Int32))), .val (.int (m2 &&& (65535 : Int32))), .val (.ref h0.size), .val (.int (1 : Int32)), .val (.int (m1 &&& (65535 : Int32))), .val (.int (m2 &&& (65535 : Int32)))] [(.int (m2 &&& (65535 : Int32))), (.int (m2 &&& (65535 : Int32)))]))
      refine own_via (fun _ q => XS.icmpNo X17.here hx rfl (hb hby at_229) rfl (XT.ii_ne_f rfl) q) ?_
      show own_Goes p e s below _ _ _ (T17.setTop (mkF m 232 #[.val (.int p0), .val (.int p1), .val (.int p2), .val (.int p3), .val (.int m1), .val (.int m2), .val (.int n), .val (.int x1), .val (.int x2), .val (.int x3), .val (.int (m1 &&& (65535 : Int32))), .val (.int (m2 &&& (65535 : Int32))), .val (.ref h0.size), .val (.int (1 : Int32)), .val (.int (m1 &&& (65535 : Int32))), .val (.int (m2 &&& (65535 : Int32)))] []))
      refine own_via (fun _ q => XT.iconstV X17.here hx rfl (1 : Int32) (hb hby at_232) rfl q) ?_
      show own_Goes p e s below _ _ _ (T17.setTop (mkF m 233 #[.val (.int p0), .val (.int p1), .val (.int p2), .val (.int p3), .val (.int m1), .val (.int m2), .val (.int n), .val (.int x1), .val (.int x2), .val (.int x3), .val (.int (m1 &&& (65535 : Int32))), .val (.int (m2 &&& (65535 : Int32))), .val (.ref h0.size), .val (.int (1 : Int32)), .val (.int (m1 &&& (65535 : Int32))), .val (.int (m2 &&& (65535 : Int32)))] [(.int (1 : Int32))]))
      refine own_via (fun _ q => XS.goto X17.here hx rfl (pc0 := 233) (pc' := 237) rfl (hb hby at_233) (by decide) (by decide) q) ?_
      show own_Goes p e s below _ _ _ (T17.setTop (mkF m 237 #[.val (.int p0), .val (.int p1), .val (.int p2), .val (.int p3), .val (.int m1), .val (.int m2), .val (.int n), .val (.int x1), .val (.int x2), .val (.int x3), .val (.int (m1 &&& (65535 : Int32))), .val (.int (m2 &&& (65535 : Int32))), .val (.ref h0.size), .val (.int (1 : Int32)), .val (.int (m1 &&& (65535 : Int32))), .val (.int (m2 &&& (65535 : Int32)))] [(.int (1 : Int32))]))
      refine own_via (fun _ q => XS.istore X17.here hx rfl (hb hby at_237) rfl (l' := #[.val (.int p0), .val (.int p1), .val (.int p2), .val (.int p3), .val (.int m1), .val (.int m2), .val (.int n), .val (.int x1), .val (.int x2), .val (.int x3), .val (.int (m1 &&& (65535 : Int32))), .val (.int (m2 &&& (65535 : Int32))), .val (.ref h0.size), .val (.int (1 : Int32)), .val (.int (m1 &&& (65535 : Int32))), .val (.int (m2 &&& (65535 : Int32)))]) rfl q) ?_
      show own_Goes p e s below _ _ _ (T17.setTop (mkF m 239 #[.val (.int p0), .val (.int p1), .val (.int p2), .val (.int p3), .val (.int m1), .val (.int m2), .val (.int n), .val (.int x1), .val (.int x2), .val (.int x3), .val (.int (m1 &&& (65535 : Int32))), .val (.int (m2 &&& (65535 : Int32))), .val (.ref h0.size), .val (.int (1 : Int32)), .val (.int (m1 &&& (65535 : Int32))), .val (.int (m2 &&& (65535 : Int32)))] []))
      refine own_via (fun _ q => XS.iload X17.here hx rfl (hb hby at_239) rfl q) ?_
      show own_Goes p e s below _ _ _ (T17.setTop (mkF m 241 #[.val (.int p0), .val (.int p1), .val (.int p2), .val (.int p3), .val (.int m1), .val (.int m2), .val (.int n), .val (.int x1), .val (.int x2), .val (.int x3), .val (.int (m1 &&& (65535 : Int32))), .val (.int (m2 &&& (65535 : Int32))), .val (.ref h0.size), .val (.int (1 : Int32)), .val (.int (m1 &&& (65535 : Int32))), .val (.int (m2 &&& (65535 : Int32)))] [(.int (1 : Int32))]))
      exact own_retN X17 hx (t := .boolean) hret (by simp) hlk (hb hby at_241) (by decide) (by decide) ⟨rfl, N17⟩
    · refine own_via (fun _ q => XS.icmpYes X15.here hx rfl (pc0 := 188) (pc' := 198) rfl (hb hby at_188) rfl (XT.ii_ne_t hk188_16) (by decide) (by decide) q) ?_
      show own_Goes p e s below _ _ _ (T15.setTop (mkF m 198 #[.val (.int p0), .val (.int p1), .val (.int p2), .val (.int p3), .val (.int m1), .val (.int m2), .val (.int n), .val (.int x1), .val (.int x2), .val (.int x3), .val (.int (m1 &&& (65535 : Int32))), .val (.int (m2 &&& (65535 : Int32))), .val (.ref h0.size), .val (.int (1 : Int32)), .val (.int (m1 &&& (65535 : Int32))), .unset] []))
      refine own_via (fun _ q => XS.iload X15.here hx rfl (hb hby at_198) rfl q) ?_
      show own_Goes p e s below _ _ _ (T15.setTop (mkF m 200 #[.val (.int p0), .val (.int p1), .val (.int p2), .val (.int p3), .val (.int m1), .val (.int m2), .val (.int n), .val (.int x1), .val (.int x2), .val (.int x3), .val (.int (m1 &&& (65535 : Int32))), .val (.int (m2 &&& (65535 : Int32))), .val (.ref h0.size), .val (.int (1 : Int32)), .val (.int (m1 &&& (65535 : Int32))), .unset] [(.int x3)]))
      refine own_via (fun _ q => XS.iload X15.here hx rfl (hb hby at_200) rfl q) ?_
      show own_Goes p e s below _ _ _ (T15.setTop (mkF m 202 #[.val (.int p0), .val (.int p1), .val (.int p2), .val (.int p3), .val (.int m1), .val (.int m2), .val (.int n), .val (.int x1), .val (.int x2), .val (.int x3), .val (.int (m1 &&& (65535 : Int32))), .val (.int (m2 &&& (65535 : Int32))), .val (.ref h0.size), .val (.int (1 : Int32)), .val (.int (m1 &&& (65535 : Int32))), .unset] [(.int x1), (.int x3)]))
      by_cases hk202_18 : x3 = x1
      · refine own_via (fun _ q => XS.icmpNo X15.here hx rfl (hb hby at_202) rfl (XT.ii_ne_f hk202_18) q) ?_
        show own_Goes p e s below _ _ _ (T15.setTop (mkF m 205 #[.val (.int p0), .val (.int p1), .val (.int p2), .val (.int p3), .val (.int m1), .val (.int m2), .val (.int n), .val (.int x1), .val (.int x2), .val (.int x3), .val (.int (m1 &&& (65535 : Int32))), .val (.int (m2 &&& (65535 : Int32))), .val (.ref h0.size), .val (.int (1 : Int32)), .val (.int (m1 &&& (65535 : Int32))), .unset] []))
        refine own_via (fun _ q => XS.iload X15.here hx rfl (hb hby at_205) rfl q) ?_
        show own_Goes p e s below _ _ _ (T15.setTop (mkF m 207 #[.val (.int p0), .val (.int p1), .val (.int p2), .val (.int p3), .val (.int m1), .val (.int m2), .val (.int n), .val (.int x1), .val (.int x2), .val (.int x3), .val (.int (m1 &&& (65535 : Int32))), .val (.int (m2 &&& (65535 : Int32))), .val (.ref h0.size), .val (.int (1 : Int32)), .val (.int (m1 &&& (65535 : Int32))), .unset] [(.int (m1 &&& (65535 : Int32)))]))
        refine own_via (fun _ q => XS.istore X15.here hx rfl (hb hby at_207) rfl (l' := #[.val (.int p0), .val (.int p1), .val (.int p2), .val (.int p3), .val (.int m1), .val (.int m2), .val (.int n), .val (.int x1), .val (.int x2), .val (.int x3), .val (.int (m1 &&& (65535 : Int32))), .val (.int (m2 &&& (65535 : Int32))), .val (.ref h0.size), .val (.int (1 : Int32)), .val (.int (m1 &&& (65535 : Int32))), .val (.int (m1 &&& (65535 : Int32)))]) rfl q) ?_
        show own_Goes p e s below _ _ _ (T15.setTop (mkF m 209 #[.val (.int p0), .val (.int p1), .val (.int p2), .val (.int p3), .val (.int m1), .val (.int m2), .val (.int n), .val (.int x1), .val (.int x2), .val (.int x3), .val (.int (m1 &&& (65535 : Int32))), .val (.int (m2 &&& (65535 : Int32))), .val (.ref h0.size), .val (.int (1 : Int32)), .val (.int (m1 &&& (65535 : Int32))), .val (.int (m1 &&& (65535 : Int32)))] []))
        refine own_via (fun _ q => XS.goto X15.here hx rfl (pc0 := 209) (pc' := 215) rfl (hb hby at_209) (by decide) (by decide) q) ?_
        show own_Goes p e s below _ _ _ (T15.setTop (mkF m 215 #[.val (.int p0), .val (.int p1), .val (.int p2), .val (.int p3), .val (.int m1), .val (.int m2), .val (.int n), .val (.int x1), .val (.int x2), .val (.int x3), .val (.int (m1 &&& (65535 : Int32))), .val (.int (m2 &&& (65535 : Int32))), .val (.ref h0.size), .val (.int (1 : Int32)), .val (.int (m1 &&& (65535 : Int32))), .val (.int (m1 &&& (65535 : Int32)))] []))
        refine own_via (fun _ q => XS.iload X15.here hx rfl (hb hby at_215) rfl q) ?_
        show own_Goes p e s below _ _ _ (T15.setTop (mkF m 217 #[.val (.int p0), .val (.int p1), .val (.int p2), .val (.int p3), .val (.int m1), .val (.int m2), .val (.int n), .val (.int x1), .val (.int x2), .val (.int x3), .val (.int (m1 &&& (65535 : Int32))), .val (.int (m2 &&& (65535 : Int32))), .val (.ref h0.size), .val (.int (1 : Int32)), .val (.int (m1 &&& (65535 : Int32))), .val (.int (m1 &&& (65535 : Int32)))] [(.int (1 : Int32))]))
        refine own_via (fun _ q => XS.ifNo X15.here hx rfl (hb hby at_217) rfl (XT.i0_eq_f (by decide)) q) ?_
        show own_Goes p e s below _ _ _ (T15.setTop (mkF m 220 #[.val (.int p0), .val (.int p1), .val (.int p2), .val (.int p3), .val (.int m1), .val (.int m2), .val (.int n), .val (.int x1), .val (.int x2), .val (.int x3), .val (.int (m1 &&& (65535 : Int32))), .val (.int (m2 &&& (65535 : Int32))), .val (.ref h0.size), .val (.int (1 : Int32)), .val (.int (m1 &&& (65535 : Int32))), .val (.int (m1 &&& (65535 : Int32)))] []))
        refine own_via (fun _ q => XS.aload X15.here hx rfl (hb hby at_220) rfl rfl q) ?_
        show own_Goes p e s below _ _ _ (T15.setTop (mkF m 222 #[.val (.int p0), .val (.int p1), .val (.int p2), .val (.int p3), .val (.int m1), .val (.int m2), .val (.int n), .val (.int x1), .val (.int x2), .val (.int x3), .val (.int (m1 &&& (65535 : Int32))), .val (.int (m2 &&& (65535 : Int32))), .val (.ref h0.size), .val (.int (1 : Int32)), .val (.int (m1 &&& (65535 : Int32))), .val (.int (m1 &&& (65535 : Int32)))] [(.ref h0.size)]))
        refine own_via (fun _ q => XS.iload X15.here hx rfl (hb hby at_222) rfl q) ?_
        show own_Goes p e s below _ _ _ (T15.setTop (mkF m 224 #[.val (.int p0), .val (.int p1), .val (.int p2), .val (.int p3), .val (.int m1), .val (.int m2), .val (.int n), .val (.int x1), .val (.int x2), .val (.int x3), .val (.int (m1 &&& (65535 : Int32))), .val (.int (m2 &&& (65535 : Int32))), .val (.ref h0.size), .val (.int (1 : Int32)), .val (.int (m1 &&& (65535 : Int32))), .val (.int (m1 &&& (65535 : Int32)))] [(.int x3), (.ref h0.size)]))
        obtain ⟨cq19, kq19, q19a, q19b, q19c⟩ := isOf hZ e15 hm6.1
        obtain ⟨_, _, ⟨T19, L19, k19, n19⟩, -, X19, ⟨Lc19, hQ19, l19, y19, z19⟩, st19⟩ := X15.virtualBack hx (y := (⟨"com/example/songpool/songpool/table/HomeMarks", "get", "(I)I"⟩ : MethodName)) (z := (⟨"com/example/songpool/songpool/table/HomeMarks", "get", "(I)I"⟩ : MethodName)) hown (mvT hZ (hw _ (List.mem_of_getElem? (i := 13) rfl))) (mvT hZ (hw _ (List.mem_of_getElem? (i := 14) rfl))) (notFace_of_selects (args := #[]) (mvT hZ (hw _ (List.mem_of_getElem? (i := 16) rfl)))) (mvT hZ (hw _ (List.mem_of_getElem? (i := 16) rfl))) (mvT hZ (hw _ (List.mem_of_getElem? (i := 15) rfl))) (by decide) (backOf (W := 0) (rm3 l Z a0 hw [] h0.size x3 n (m1 &&& (65535 : Int32)) (fun k => if k = x2.toInt.toNat then .int (m2 &&& (65535 : Int32)) else (fun k => if k = x1.toInt.toNat then .int (m1 &&& (65535 : Int32)) else (fun _ => .int 0) k) k) T6.heap n0 hm6 g3 u3 ((if_neg (own_Hne g3 g2 hk188_16)).trans (if_pos (by rw [hk202_18])))) hZ (hw _ (List.mem_of_getElem? (i := 17) rfl)) (hw _ (List.mem_of_getElem? (i := 4) rfl)) (by decide) (by decide)) q19a q19c (g := (mkF m 224 #[.val (.int p0), .val (.int p1), .val (.int p2), .val (.int p3), .val (.int m1), .val (.int m2), .val (.int n), .val (.int x1), .val (.int x2), .val (.int x3), .val (.int (m1 &&& (65535 : Int32))), .val (.int (m2 &&& (65535 : Int32))), .val (.ref h0.size), .val (.int (1 : Int32)), .val (.int (m1 &&& (65535 : Int32))), .val (.int (m1 &&& (65535 : Int32)))] [(.int x3), (.ref h0.size)])) rfl (by rw [hml]; rfl) (Steps.refl _) (argsL := [(.int x3)]) (rest := []) (lenOf pd__I_I rfl) rfl (by show 2 * 0 + _ ≤ _; exact Nat.le_of_eq rfl) (hb hby at_224) (fun _ _ => ⟨rfl, e15, (by decide : 5 + 0 ≤ _), (by decide : 162 + 0 ≤ _)⟩)
        dsimp only [Pt.U, Pt.locs, Pt.cells, Pt.slots] at X19 l19 y19 z19 st19 hQ19
        subst l19 y19 z19
        obtain ⟨rfl, N19q, e19⟩ := hQ19
        have N19 := Fr.app N15 N19q
        refine own_on st19 ?_
        show own_Goes p e s below _ _ _ (T19.setTop (mkF m 227 #[.val (.int p0), .val (.int p1), .val (.int p2), .val (.int p3), .val (.int m1), .val (.int m2), .val (.int n), .val (.int x1), .val (.int x2), .val (.int x3), .val (.int (m1 &&& (65535 : Int32))), .val (.int (m2 &&& (65535 : Int32))), .val (.ref h0.size), .val (.int (1 : Int32)), .val (.int (m1 &&& (65535 : Int32))), .val (.int (m1 &&& (65535 : Int32)))] [(.int (m1 &&& (65535 : Int32)))]))
        refine own_via (fun _ q => XS.iload X19.here hx rfl (hb hby at_227) rfl q) ?_
        show own_Goes p e s below _ _ _ (T19.setTop (mkF m 229 #[.val (.int p0), .val (.int p1), .val (.int p2), .val (.int p3), .val (.int m1), .val (.int m2), .val (.int n), .val (.int x1), .val (.int x2), .val (.int x3), .val (.int (m1 &&& (65535 : Int32))), .val (.int (m2 &&& (65535 : Int32))), .val (.ref h0.size), .val (.int (1 : Int32)), .val (.int (m1 &&& (65535 : Int32))), .val (.int (m1 &&& (65535 : Int32)))] [(.int (m1 &&& (65535 : Int32))), (.int (m1 &&& (65535 : Int32)))]))
        refine own_via (fun _ q => XS.icmpNo X19.here hx rfl (hb hby at_229) rfl (XT.ii_ne_f rfl) q) ?_
        show own_Goes p e s below _ _ _ (T19.setTop (mkF m 232 #[.val (.int p0), .val (.int p1), .val (.int p2), .val (.int p3), .val (.int m1), .val (.int m2), .val (.int n), .val (.int x1), .val (.int x2), .val (.int x3), .val (.int (m1 &&& (65535 : Int32))), .val (.int (m2 &&& (65535 : Int32))), .val (.ref h0.size), .val (.int (1 : Int32)), .val (.int (m1 &&& (65535 : Int32))), .val (.int (m1 &&& (65535 : Int32)))] []))
        refine own_via (fun _ q => XT.iconstV X19.here hx rfl (1 : Int32) (hb hby at_232) rfl q) ?_
        show own_Goes p e s below _ _ _ (T19.setTop (mkF m 233 #[.val (.int p0), .val (.int p1), .val (.int p2), .val (.int p3), .val (.int m1), .val (.int m2), .val (.int n), .val (.int x1), .val (.int x2), .val (.int x3), .val (.int (m1 &&& (65535 : Int32))), .val (.int (m2 &&& (65535 : Int32))), .val (.ref h0.size), .val (.int (1 : Int32)), .val (.int (m1 &&& (65535 : Int32))), .val (.int (m1 &&& (65535 : Int32)))] [(.int (1 : Int32))]))
        refine own_via (fun _ q => XS.goto X19.here hx rfl (pc0 := 233) (pc' := 237) rfl (hb hby at_233) (by decide) (by decide) q) ?_
        show own_Goes p e s below _ _ _ (T19.setTop (mkF m 237 #[.val (.int p0), .val (.int p1), .val (.int p2), .val (.int p3), .val (.int m1), .val (.int m2), .val (.int n), .val (.int x1), .val (.int x2), .val (.int x3), .val (.int (m1 &&& (65535 : Int32))), .val (.int (m2 &&& (65535 : Int32))), .val (.ref h0.size), .val (.int (1 : Int32)), .val (.int (m1 &&& (65535 : Int32))), .val (.int (m1 &&& (65535 : Int32)))] [(.int (1 : Int32))]))
        refine own_via (fun _ q => XS.istore X19.here hx rfl (hb hby at_237) rfl (l' := #[.val (.int p0), .val (.int p1), .val (.int p2), .val (.int p3), .val (.int m1), .val (.int m2), .val (.int n), .val (.int x1), .val (.int x2), .val (.int x3), .val (.int (m1 &&& (65535 : Int32))), .val (.int (m2 &&& (65535 : Int32))), .val (.ref h0.size), .val (.int (1 : Int32)), .val (.int (m1 &&& (65535 : Int32))), .val (.int (m1 &&& (65535 : Int32)))]) rfl q) ?_
        show own_Goes p e s below _ _ _ (T19.setTop (mkF m 239 #[.val (.int p0), .val (.int p1), .val (.int p2), .val (.int p3), .val (.int m1), .val (.int m2), .val (.int n), .val (.int x1), .val (.int x2), .val (.int x3), .val (.int (m1 &&& (65535 : Int32))), .val (.int (m2 &&& (65535 : Int32))), .val (.ref h0.size), .val (.int (1 : Int32)), .val (.int (m1 &&& (65535 : Int32))), .val (.int (m1 &&& (65535 : Int32)))] []))
        refine own_via (fun _ q => XS.iload X19.here hx rfl (hb hby at_239) rfl q) ?_
        show own_Goes p e s below _ _ _ (T19.setTop (mkF m 241 #[.val (.int p0), .val (.int p1), .val (.int p2), .val (.int p3), .val (.int m1), .val (.int m2), .val (.int n), .val (.int x1), .val (.int x2), .val (.int x3), .val (.int (m1 &&& (65535 : Int32))), .val (.int (m2 &&& (65535 : Int32))), .val (.ref h0.size), .val (.int (1 : Int32)), .val (.int (m1 &&& (65535 : Int32))), .val (.int (m1 &&& (65535 : Int32)))] [(.int (1 : Int32))]))
        exact own_retN X19 hx (t := .boolean) hret (by simp) hlk (hb hby at_241) (by decide) (by decide) ⟨rfl, N19⟩
      · refine own_via (fun _ q => XS.icmpYes X15.here hx rfl (pc0 := 202) (pc' := 212) rfl (hb hby at_202) rfl (XT.ii_ne_t hk202_18) (by decide) (by decide) q) ?_
        show own_Goes p e s below _ _ _ (T15.setTop (mkF m 212 #[.val (.int p0), .val (.int p1), .val (.int p2), .val (.int p3), .val (.int m1), .val (.int m2), .val (.int n), .val (.int x1), .val (.int x2), .val (.int x3), .val (.int (m1 &&& (65535 : Int32))), .val (.int (m2 &&& (65535 : Int32))), .val (.ref h0.size), .val (.int (1 : Int32)), .val (.int (m1 &&& (65535 : Int32))), .unset] []))
        refine own_via (fun _ q => XT.iconstV X15.here hx rfl (0 : Int32) (hb hby at_212) rfl q) ?_
        show own_Goes p e s below _ _ _ (T15.setTop (mkF m 213 #[.val (.int p0), .val (.int p1), .val (.int p2), .val (.int p3), .val (.int m1), .val (.int m2), .val (.int n), .val (.int x1), .val (.int x2), .val (.int x3), .val (.int (m1 &&& (65535 : Int32))), .val (.int (m2 &&& (65535 : Int32))), .val (.ref h0.size), .val (.int (1 : Int32)), .val (.int (m1 &&& (65535 : Int32))), .unset] [(.int (0 : Int32))]))
        refine own_via (fun _ q => XS.istore X15.here hx rfl (hb hby at_213) rfl (l' := #[.val (.int p0), .val (.int p1), .val (.int p2), .val (.int p3), .val (.int m1), .val (.int m2), .val (.int n), .val (.int x1), .val (.int x2), .val (.int x3), .val (.int (m1 &&& (65535 : Int32))), .val (.int (m2 &&& (65535 : Int32))), .val (.ref h0.size), .val (.int (1 : Int32)), .val (.int (m1 &&& (65535 : Int32))), .val (.int (0 : Int32))]) rfl q) ?_
        show own_Goes p e s below _ _ _ (T15.setTop (mkF m 215 #[.val (.int p0), .val (.int p1), .val (.int p2), .val (.int p3), .val (.int m1), .val (.int m2), .val (.int n), .val (.int x1), .val (.int x2), .val (.int x3), .val (.int (m1 &&& (65535 : Int32))), .val (.int (m2 &&& (65535 : Int32))), .val (.ref h0.size), .val (.int (1 : Int32)), .val (.int (m1 &&& (65535 : Int32))), .val (.int (0 : Int32))] []))
        refine own_via (fun _ q => XS.iload X15.here hx rfl (hb hby at_215) rfl q) ?_
        show own_Goes p e s below _ _ _ (T15.setTop (mkF m 217 #[.val (.int p0), .val (.int p1), .val (.int p2), .val (.int p3), .val (.int m1), .val (.int m2), .val (.int n), .val (.int x1), .val (.int x2), .val (.int x3), .val (.int (m1 &&& (65535 : Int32))), .val (.int (m2 &&& (65535 : Int32))), .val (.ref h0.size), .val (.int (1 : Int32)), .val (.int (m1 &&& (65535 : Int32))), .val (.int (0 : Int32))] [(.int (1 : Int32))]))
        refine own_via (fun _ q => XS.ifNo X15.here hx rfl (hb hby at_217) rfl (XT.i0_eq_f (by decide)) q) ?_
        show own_Goes p e s below _ _ _ (T15.setTop (mkF m 220 #[.val (.int p0), .val (.int p1), .val (.int p2), .val (.int p3), .val (.int m1), .val (.int m2), .val (.int n), .val (.int x1), .val (.int x2), .val (.int x3), .val (.int (m1 &&& (65535 : Int32))), .val (.int (m2 &&& (65535 : Int32))), .val (.ref h0.size), .val (.int (1 : Int32)), .val (.int (m1 &&& (65535 : Int32))), .val (.int (0 : Int32))] []))
        refine own_via (fun _ q => XS.aload X15.here hx rfl (hb hby at_220) rfl rfl q) ?_
        show own_Goes p e s below _ _ _ (T15.setTop (mkF m 222 #[.val (.int p0), .val (.int p1), .val (.int p2), .val (.int p3), .val (.int m1), .val (.int m2), .val (.int n), .val (.int x1), .val (.int x2), .val (.int x3), .val (.int (m1 &&& (65535 : Int32))), .val (.int (m2 &&& (65535 : Int32))), .val (.ref h0.size), .val (.int (1 : Int32)), .val (.int (m1 &&& (65535 : Int32))), .val (.int (0 : Int32))] [(.ref h0.size)]))
        refine own_via (fun _ q => XS.iload X15.here hx rfl (hb hby at_222) rfl q) ?_
        show own_Goes p e s below _ _ _ (T15.setTop (mkF m 224 #[.val (.int p0), .val (.int p1), .val (.int p2), .val (.int p3), .val (.int m1), .val (.int m2), .val (.int n), .val (.int x1), .val (.int x2), .val (.int x3), .val (.int (m1 &&& (65535 : Int32))), .val (.int (m2 &&& (65535 : Int32))), .val (.ref h0.size), .val (.int (1 : Int32)), .val (.int (m1 &&& (65535 : Int32))), .val (.int (0 : Int32))] [(.int x3), (.ref h0.size)]))
        obtain ⟨cq20, kq20, q20a, q20b, q20c⟩ := isOf hZ e15 hm6.1
        obtain ⟨_, _, ⟨T20, L20, k20, n20⟩, -, X20, ⟨Lc20, hQ20, l20, y20, z20⟩, st20⟩ := X15.virtualBack hx (y := (⟨"com/example/songpool/songpool/table/HomeMarks", "get", "(I)I"⟩ : MethodName)) (z := (⟨"com/example/songpool/songpool/table/HomeMarks", "get", "(I)I"⟩ : MethodName)) hown (mvT hZ (hw _ (List.mem_of_getElem? (i := 13) rfl))) (mvT hZ (hw _ (List.mem_of_getElem? (i := 14) rfl))) (notFace_of_selects (args := #[]) (mvT hZ (hw _ (List.mem_of_getElem? (i := 16) rfl)))) (mvT hZ (hw _ (List.mem_of_getElem? (i := 16) rfl))) (mvT hZ (hw _ (List.mem_of_getElem? (i := 15) rfl))) (by decide) (backOf (W := 0) (rm3 l Z a0 hw [] h0.size x3 n (0 : Int32) (fun k => if k = x2.toInt.toNat then .int (m2 &&& (65535 : Int32)) else (fun k => if k = x1.toInt.toNat then .int (m1 &&& (65535 : Int32)) else (fun _ => .int 0) k) k) T6.heap n0 hm6 g3 u3 ((if_neg (own_Hne g3 g2 hk188_16)).trans (if_neg (own_Hne g3 g1 hk202_18)))) hZ (hw _ (List.mem_of_getElem? (i := 17) rfl)) (hw _ (List.mem_of_getElem? (i := 4) rfl)) (by decide) (by decide)) q20a q20c (g := (mkF m 224 #[.val (.int p0), .val (.int p1), .val (.int p2), .val (.int p3), .val (.int m1), .val (.int m2), .val (.int n), .val (.int x1), .val (.int x2), .val (.int x3), .val (.int (m1 &&& (65535 : Int32))), .val (.int (m2 &&& (65535 : Int32))), .val (.ref h0.size), .val (.int (1 : Int32)), .val (.int (m1 &&& (65535 : Int32))), .val (.int (0 : Int32))] [(.int x3), (.ref h0.size)])) rfl (by rw [hml]; rfl) (Steps.refl _) (argsL := [(.int x3)]) (rest := []) (lenOf pd__I_I rfl) rfl (by show 2 * 0 + _ ≤ _; exact Nat.le_of_eq rfl) (hb hby at_224) (fun _ _ => ⟨rfl, e15, (by decide : 5 + 0 ≤ _), (by decide : 162 + 0 ≤ _)⟩)
        dsimp only [Pt.U, Pt.locs, Pt.cells, Pt.slots] at X20 l20 y20 z20 st20 hQ20
        subst l20 y20 z20
        obtain ⟨rfl, N20q, e20⟩ := hQ20
        have N20 := Fr.app N15 N20q
        refine own_on st20 ?_
        show own_Goes p e s below _ _ _ (T20.setTop (mkF m 227 #[.val (.int p0), .val (.int p1), .val (.int p2), .val (.int p3), .val (.int m1), .val (.int m2), .val (.int n), .val (.int x1), .val (.int x2), .val (.int x3), .val (.int (m1 &&& (65535 : Int32))), .val (.int (m2 &&& (65535 : Int32))), .val (.ref h0.size), .val (.int (1 : Int32)), .val (.int (m1 &&& (65535 : Int32))), .val (.int (0 : Int32))] [(.int (0 : Int32))]))
        refine own_via (fun _ q => XS.iload X20.here hx rfl (hb hby at_227) rfl q) ?_
        show own_Goes p e s below _ _ _ (T20.setTop (mkF m 229 #[.val (.int p0), .val (.int p1), .val (.int p2), .val (.int p3), .val (.int m1), .val (.int m2), .val (.int n), .val (.int x1), .val (.int x2), .val (.int x3), .val (.int (m1 &&& (65535 : Int32))), .val (.int (m2 &&& (65535 : Int32))), .val (.ref h0.size), .val (.int (1 : Int32)), .val (.int (m1 &&& (65535 : Int32))), .val (.int (0 : Int32))] [(.int (0 : Int32)), (.int (0 : Int32))]))
        refine own_via (fun _ q => XS.icmpNo X20.here hx rfl (hb hby at_229) rfl (XT.ii_ne_f (by decide)) q) ?_
        show own_Goes p e s below _ _ _ (T20.setTop (mkF m 232 #[.val (.int p0), .val (.int p1), .val (.int p2), .val (.int p3), .val (.int m1), .val (.int m2), .val (.int n), .val (.int x1), .val (.int x2), .val (.int x3), .val (.int (m1 &&& (65535 : Int32))), .val (.int (m2 &&& (65535 : Int32))), .val (.ref h0.size), .val (.int (1 : Int32)), .val (.int (m1 &&& (65535 : Int32))), .val (.int (0 : Int32))] []))
        refine own_via (fun _ q => XT.iconstV X20.here hx rfl (1 : Int32) (hb hby at_232) rfl q) ?_
        show own_Goes p e s below _ _ _ (T20.setTop (mkF m 233 #[.val (.int p0), .val (.int p1), .val (.int p2), .val (.int p3), .val (.int m1), .val (.int m2), .val (.int n), .val (.int x1), .val (.int x2), .val (.int x3), .val (.int (m1 &&& (65535 : Int32))), .val (.int (m2 &&& (65535 : Int32))), .val (.ref h0.size), .val (.int (1 : Int32)), .val (.int (m1 &&& (65535 : Int32))), .val (.int (0 : Int32))] [(.int (1 : Int32))]))
        refine own_via (fun _ q => XS.goto X20.here hx rfl (pc0 := 233) (pc' := 237) rfl (hb hby at_233) (by decide) (by decide) q) ?_
        show own_Goes p e s below _ _ _ (T20.setTop (mkF m 237 #[.val (.int p0), .val (.int p1), .val (.int p2), .val (.int p3), .val (.int m1), .val (.int m2), .val (.int n), .val (.int x1), .val (.int x2), .val (.int x3), .val (.int (m1 &&& (65535 : Int32))), .val (.int (m2 &&& (65535 : Int32))), .val (.ref h0.size), .val (.int (1 : Int32)), .val (.int (m1 &&& (65535 : Int32))), .val (.int (0 : Int32))] [(.int (1 : Int32))]))
        refine own_via (fun _ q => XS.istore X20.here hx rfl (hb hby at_237) rfl (l' := #[.val (.int p0), .val (.int p1), .val (.int p2), .val (.int p3), .val (.int m1), .val (.int m2), .val (.int n), .val (.int x1), .val (.int x2), .val (.int x3), .val (.int (m1 &&& (65535 : Int32))), .val (.int (m2 &&& (65535 : Int32))), .val (.ref h0.size), .val (.int (1 : Int32)), .val (.int (m1 &&& (65535 : Int32))), .val (.int (0 : Int32))]) rfl q) ?_
        show own_Goes p e s below _ _ _ (T20.setTop (mkF m 239 #[.val (.int p0), .val (.int p1), .val (.int p2), .val (.int p3), .val (.int m1), .val (.int m2), .val (.int n), .val (.int x1), .val (.int x2), .val (.int x3), .val (.int (m1 &&& (65535 : Int32))), .val (.int (m2 &&& (65535 : Int32))), .val (.ref h0.size), .val (.int (1 : Int32)), .val (.int (m1 &&& (65535 : Int32))), .val (.int (0 : Int32))] []))
        refine own_via (fun _ q => XS.iload X20.here hx rfl (hb hby at_239) rfl q) ?_
        show own_Goes p e s below _ _ _ (T20.setTop (mkF m 241 #[.val (.int p0), .val (.int p1), .val (.int p2), .val (.int p3), .val (.int m1), .val (.int m2), .val (.int n), .val (.int x1), .val (.int x2), .val (.int x3), .val (.int (m1 &&& (65535 : Int32))), .val (.int (m2 &&& (65535 : Int32))), .val (.ref h0.size), .val (.int (1 : Int32)), .val (.int (m1 &&& (65535 : Int32))), .val (.int (0 : Int32))] [(.int (1 : Int32))]))
        exact own_retN X20 hx (t := .boolean) hret (by simp) hlk (hb hby at_241) (by decide) (by decide) ⟨rfl, N20⟩
theorem pn_0 : plainName "com/example/songpool/songpool/table/HomeMarksSetPinLaw" = true := by first | (simp [plainName, overriddenIn]; done) | decide +kernel
theorem ef_0 (m : MethodId) (p0 : Int32) (p1 : Int32) (p2 : Int32) (p3 : Int32) (m1 : Int32) (m2 : Int32) : entryFrame m #[(.int p0), (.int p1), (.int p2), (.int p3), (.int m1), (.int m2)] maxLocals = mkF m 0 #[.val (.int p0), .val (.int p1), .val (.int p2), .val (.int p3), .val (.int m1), .val (.int m2), .unset, .unset, .unset, .unset, .unset, .unset, .unset, .unset, .unset, .unset] [] := by first | (simp [entryFrame, mkF, argsToLocals, Value.category, maxLocals]; done) | rfl
set_option maxRecDepth 65536 in
set_option maxHeartbeats 40000000 in
theorem rm0 (l : Launch) (Z : State) (a0 : Array Value) (hw : ∀ d ∈ tables_1, d.before a0 Z = true) (ws : List Jvm.Cond) (p0 : Int32) (p1 : Int32) (p2 : Int32) (p3 : Int32) (m1 : Int32) (m2 : Int32)  (h0 : Heap) (n0 : Nat) (Z0 : n0 ≤ h0.size) :
    own_Met l Z x code maxLocals ret ws room_1 #[(.int p0), (.int p1), (.int p2), (.int p3), (.int m1), (.int m2)] h0 (own_One n0) := by
  refine own_met (plainFor_of_name pn_0) ?_
  intro p e s m below meth c s₁ C X0 e0
  obtain ⟨hx, hZ, hby, hml, hown, hret, hlk, hnm⟩ := C
  rw [ef_0]
  show own_Goes p e s below _ _ _ (s₁.setTop (mkF m 0 #[.val (.int p0), .val (.int p1), .val (.int p2), .val (.int p3), .val (.int m1), .val (.int m2), .unset, .unset, .unset, .unset, .unset, .unset, .unset, .unset, .unset, .unset] []))
  refine own_via (fun _ q => XS.iloadN X0.here hx rfl (hb hby at_0) rfl q) ?_
  show own_Goes p e s below _ _ _ (s₁.setTop (mkF m 1 #[.val (.int p0), .val (.int p1), .val (.int p2), .val (.int p3), .val (.int m1), .val (.int m2), .unset, .unset, .unset, .unset, .unset, .unset, .unset, .unset, .unset, .unset] [(.int p0)]))
  refine own_via (fun _ q => XT.sipushV X0.here hx rfl (1023 : Int32) (hb hby at_1) rfl q) ?_
  show own_Goes p e s below _ _ _ (s₁.setTop (mkF m 4 #[.val (.int p0), .val (.int p1), .val (.int p2), .val (.int p3), .val (.int m1), .val (.int m2), .unset, .unset, .unset, .unset, .unset, .unset, .unset, .unset, .unset, .unset] [(.int (1023 : Int32)), (.int p0)]))
  refine own_via (fun _ q => XS.iand X0.here hx rfl (hb hby at_4) rfl q) ?_
  show own_Goes p e s below _ _ _ (s₁.setTop (mkF m 5 #[.val (.int p0), .val (.int p1), .val (.int p2), .val (.int p3), .val (.int m1), .val (.int m2), .unset, .unset, .unset, .unset, .unset, .unset, .unset, .unset, .unset, .unset] [(.int (p0 &&& (1023 : Int32)))]))
  refine own_via (fun _ q => XT.iconstV X0.here hx rfl (1 : Int32) (hb hby at_5) rfl q) ?_
  show own_Goes p e s below _ _ _ (s₁.setTop (mkF m 6 #[.val (.int p0), .val (.int p1), .val (.int p2), .val (.int p3), .val (.int m1), .val (.int m2), .unset, .unset, .unset, .unset, .unset, .unset, .unset, .unset, .unset, .unset] [(.int (1 : Int32)), (.int (p0 &&& (1023 : Int32)))]))
  refine own_via (fun _ q => XS.iadd X0.here hx rfl (hb hby at_6) rfl q) ?_
  show own_Goes p e s below _ _ _ (s₁.setTop (mkF m 7 #[.val (.int p0), .val (.int p1), .val (.int p2), .val (.int p3), .val (.int m1), .val (.int m2), .unset, .unset, .unset, .unset, .unset, .unset, .unset, .unset, .unset, .unset] [(.int ((p0 &&& (1023 : Int32)) + (1 : Int32)))]))
  refine own_via (fun _ q => XS.istore X0.here hx rfl (hb hby at_7) rfl (l' := #[.val (.int p0), .val (.int p1), .val (.int p2), .val (.int p3), .val (.int m1), .val (.int m2), .val (.int ((p0 &&& (1023 : Int32)) + (1 : Int32))), .unset, .unset, .unset, .unset, .unset, .unset, .unset, .unset, .unset]) rfl q) ?_
  show own_Goes p e s below _ _ _ (s₁.setTop (mkF m 9 #[.val (.int p0), .val (.int p1), .val (.int p2), .val (.int p3), .val (.int m1), .val (.int m2), .val (.int ((p0 &&& (1023 : Int32)) + (1 : Int32))), .unset, .unset, .unset, .unset, .unset, .unset, .unset, .unset, .unset] []))
  refine own_via (fun _ q => XS.iloadN X0.here hx rfl (hb hby at_9) rfl q) ?_
  show own_Goes p e s below _ _ _ (s₁.setTop (mkF m 10 #[.val (.int p0), .val (.int p1), .val (.int p2), .val (.int p3), .val (.int m1), .val (.int m2), .val (.int ((p0 &&& (1023 : Int32)) + (1 : Int32))), .unset, .unset, .unset, .unset, .unset, .unset, .unset, .unset, .unset] [(.int p1)]))
  refine own_via (X0.ldcInt hx hown (mvT hZ (hw _ (List.mem_of_getElem? (i := 0) rfl))) (g := (mkF m 10 #[.val (.int p0), .val (.int p1), .val (.int p2), .val (.int p3), .val (.int m1), .val (.int m2), .val (.int ((p0 &&& (1023 : Int32)) + (1 : Int32))), .unset, .unset, .unset, .unset, .unset, .unset, .unset, .unset, .unset] [(.int p1)])) rfl (hb hby at_10)) ?_
  show own_Goes p e s below _ _ _ (s₁.setTop (mkF m 12 #[.val (.int p0), .val (.int p1), .val (.int p2), .val (.int p3), .val (.int m1), .val (.int m2), .val (.int ((p0 &&& (1023 : Int32)) + (1 : Int32))), .unset, .unset, .unset, .unset, .unset, .unset, .unset, .unset, .unset] [(.int (2147483647 : Int32)), (.int p1)]))
  refine own_via (fun _ q => XS.iand X0.here hx rfl (hb hby at_12) rfl q) ?_
  show own_Goes p e s below _ _ _ (s₁.setTop (mkF m 13 #[.val (.int p0), .val (.int p1), .val (.int p2), .val (.int p3), .val (.int m1), .val (.int m2), .val (.int ((p0 &&& (1023 : Int32)) + (1 : Int32))), .unset, .unset, .unset, .unset, .unset, .unset, .unset, .unset, .unset] [(.int (p1 &&& (2147483647 : Int32)))]))
  refine own_via (fun _ q => XS.iload X0.here hx rfl (hb hby at_13) rfl q) ?_
  show own_Goes p e s below _ _ _ (s₁.setTop (mkF m 15 #[.val (.int p0), .val (.int p1), .val (.int p2), .val (.int p3), .val (.int m1), .val (.int m2), .val (.int ((p0 &&& (1023 : Int32)) + (1 : Int32))), .unset, .unset, .unset, .unset, .unset, .unset, .unset, .unset, .unset] [(.int ((p0 &&& (1023 : Int32)) + (1 : Int32))), (.int (p1 &&& (2147483647 : Int32)))]))
  refine own_via (fun _ q => iremM X0 hx rfl (hb hby at_15) rfl (own_nz p0) q) ?_
  show own_Goes p e s below _ _ _ (s₁.setTop (mkF m 16 #[.val (.int p0), .val (.int p1), .val (.int p2), .val (.int p3), .val (.int m1), .val (.int m2), .val (.int ((p0 &&& (1023 : Int32)) + (1 : Int32))), .unset, .unset, .unset, .unset, .unset, .unset, .unset, .unset, .unset] [(.int ((p1 &&& (2147483647 : Int32)) % ((p0 &&& (1023 : Int32)) + (1 : Int32))))]))
  refine own_via (fun _ q => XS.istore X0.here hx rfl (hb hby at_16) rfl (l' := #[.val (.int p0), .val (.int p1), .val (.int p2), .val (.int p3), .val (.int m1), .val (.int m2), .val (.int ((p0 &&& (1023 : Int32)) + (1 : Int32))), .val (.int ((p1 &&& (2147483647 : Int32)) % ((p0 &&& (1023 : Int32)) + (1 : Int32)))), .unset, .unset, .unset, .unset, .unset, .unset, .unset, .unset]) rfl q) ?_
  show own_Goes p e s below _ _ _ (s₁.setTop (mkF m 18 #[.val (.int p0), .val (.int p1), .val (.int p2), .val (.int p3), .val (.int m1), .val (.int m2), .val (.int ((p0 &&& (1023 : Int32)) + (1 : Int32))), .val (.int ((p1 &&& (2147483647 : Int32)) % ((p0 &&& (1023 : Int32)) + (1 : Int32)))), .unset, .unset, .unset, .unset, .unset, .unset, .unset, .unset] []))
  refine own_via (fun _ q => XS.iloadN X0.here hx rfl (hb hby at_18) rfl q) ?_
  show own_Goes p e s below _ _ _ (s₁.setTop (mkF m 19 #[.val (.int p0), .val (.int p1), .val (.int p2), .val (.int p3), .val (.int m1), .val (.int m2), .val (.int ((p0 &&& (1023 : Int32)) + (1 : Int32))), .val (.int ((p1 &&& (2147483647 : Int32)) % ((p0 &&& (1023 : Int32)) + (1 : Int32)))), .unset, .unset, .unset, .unset, .unset, .unset, .unset, .unset] [(.int p2)]))
  refine own_via (X0.ldcInt hx hown (mvT hZ (hw _ (List.mem_of_getElem? (i := 0) rfl))) (g := (mkF m 19 #[.val (.int p0), .val (.int p1), .val (.int p2), .val (.int p3), .val (.int m1), .val (.int m2), .val (.int ((p0 &&& (1023 : Int32)) + (1 : Int32))), .val (.int ((p1 &&& (2147483647 : Int32)) % ((p0 &&& (1023 : Int32)) + (1 : Int32)))), .unset, .unset, .unset, .unset, .unset, .unset, .unset, .unset] [(.int p2)])) rfl (hb hby at_19)) ?_
  show own_Goes p e s below _ _ _ (s₁.setTop (mkF m 21 #[.val (.int p0), .val (.int p1), .val (.int p2), .val (.int p3), .val (.int m1), .val (.int m2), .val (.int ((p0 &&& (1023 : Int32)) + (1 : Int32))), .val (.int ((p1 &&& (2147483647 : Int32)) % ((p0 &&& (1023 : Int32)) + (1 : Int32)))), .unset, .unset, .unset, .unset, .unset, .unset, .unset, .unset] [(.int (2147483647 : Int32)), (.int p2)]))
  refine own_via (fun _ q => XS.iand X0.here hx rfl (hb hby at_21) rfl q) ?_
  show own_Goes p e s below _ _ _ (s₁.setTop (mkF m 22 #[.val (.int p0), .val (.int p1), .val (.int p2), .val (.int p3), .val (.int m1), .val (.int m2), .val (.int ((p0 &&& (1023 : Int32)) + (1 : Int32))), .val (.int ((p1 &&& (2147483647 : Int32)) % ((p0 &&& (1023 : Int32)) + (1 : Int32)))), .unset, .unset, .unset, .unset, .unset, .unset, .unset, .unset] [(.int (p2 &&& (2147483647 : Int32)))]))
  refine own_via (fun _ q => XS.iload X0.here hx rfl (hb hby at_22) rfl q) ?_
  show own_Goes p e s below _ _ _ (s₁.setTop (mkF m 24 #[.val (.int p0), .val (.int p1), .val (.int p2), .val (.int p3), .val (.int m1), .val (.int m2), .val (.int ((p0 &&& (1023 : Int32)) + (1 : Int32))), .val (.int ((p1 &&& (2147483647 : Int32)) % ((p0 &&& (1023 : Int32)) + (1 : Int32)))), .unset, .unset, .unset, .unset, .unset, .unset, .unset, .unset] [(.int ((p0 &&& (1023 : Int32)) + (1 : Int32))), (.int (p2 &&& (2147483647 : Int32)))]))
  refine own_via (fun _ q => iremM X0 hx rfl (hb hby at_24) rfl (own_nz p0) q) ?_
  show own_Goes p e s below _ _ _ (s₁.setTop (mkF m 25 #[.val (.int p0), .val (.int p1), .val (.int p2), .val (.int p3), .val (.int m1), .val (.int m2), .val (.int ((p0 &&& (1023 : Int32)) + (1 : Int32))), .val (.int ((p1 &&& (2147483647 : Int32)) % ((p0 &&& (1023 : Int32)) + (1 : Int32)))), .unset, .unset, .unset, .unset, .unset, .unset, .unset, .unset] [(.int ((p2 &&& (2147483647 : Int32)) % ((p0 &&& (1023 : Int32)) + (1 : Int32))))]))
  refine own_via (fun _ q => XS.istore X0.here hx rfl (hb hby at_25) rfl (l' := #[.val (.int p0), .val (.int p1), .val (.int p2), .val (.int p3), .val (.int m1), .val (.int m2), .val (.int ((p0 &&& (1023 : Int32)) + (1 : Int32))), .val (.int ((p1 &&& (2147483647 : Int32)) % ((p0 &&& (1023 : Int32)) + (1 : Int32)))), .val (.int ((p2 &&& (2147483647 : Int32)) % ((p0 &&& (1023 : Int32)) + (1 : Int32)))), .unset, .unset, .unset, .unset, .unset, .unset, .unset]) rfl q) ?_
  show own_Goes p e s below _ _ _ (s₁.setTop (mkF m 27 #[.val (.int p0), .val (.int p1), .val (.int p2), .val (.int p3), .val (.int m1), .val (.int m2), .val (.int ((p0 &&& (1023 : Int32)) + (1 : Int32))), .val (.int ((p1 &&& (2147483647 : Int32)) % ((p0 &&& (1023 : Int32)) + (1 : Int32)))), .val (.int ((p2 &&& (2147483647 : Int32)) % ((p0 &&& (1023 : Int32)) + (1 : Int32)))), .unset, .unset, .unset, .unset, .unset, .unset, .unset] []))
  refine own_via (fun _ q => XS.iloadN X0.here hx rfl (hb hby at_27) rfl q) ?_
  show own_Goes p e s below _ _ _ (s₁.setTop (mkF m 28 #[.val (.int p0), .val (.int p1), .val (.int p2), .val (.int p3), .val (.int m1), .val (.int m2), .val (.int ((p0 &&& (1023 : Int32)) + (1 : Int32))), .val (.int ((p1 &&& (2147483647 : Int32)) % ((p0 &&& (1023 : Int32)) + (1 : Int32)))), .val (.int ((p2 &&& (2147483647 : Int32)) % ((p0 &&& (1023 : Int32)) + (1 : Int32)))), .unset, .unset, .unset, .unset, .unset, .unset, .unset] [(.int p3)]))
  refine own_via (X0.ldcInt hx hown (mvT hZ (hw _ (List.mem_of_getElem? (i := 0) rfl))) (g := (mkF m 28 #[.val (.int p0), .val (.int p1), .val (.int p2), .val (.int p3), .val (.int m1), .val (.int m2), .val (.int ((p0 &&& (1023 : Int32)) + (1 : Int32))), .val (.int ((p1 &&& (2147483647 : Int32)) % ((p0 &&& (1023 : Int32)) + (1 : Int32)))), .val (.int ((p2 &&& (2147483647 : Int32)) % ((p0 &&& (1023 : Int32)) + (1 : Int32)))), .unset, .unset, .unset, .unset, .unset, .unset, .unset] [(.int p3)])) rfl (hb hby at_28)) ?_
  show own_Goes p e s below _ _ _ (s₁.setTop (mkF m 30 #[.val (.int p0), .val (.int p1), .val (.int p2), .val (.int p3), .val (.int m1), .val (.int m2), .val (.int ((p0 &&& (1023 : Int32)) + (1 : Int32))), .val (.int ((p1 &&& (2147483647 : Int32)) % ((p0 &&& (1023 : Int32)) + (1 : Int32)))), .val (.int ((p2 &&& (2147483647 : Int32)) % ((p0 &&& (1023 : Int32)) + (1 : Int32)))), .unset, .unset, .unset, .unset, .unset, .unset, .unset] [(.int (2147483647 : Int32)), (.int p3)]))
  refine own_via (fun _ q => XS.iand X0.here hx rfl (hb hby at_30) rfl q) ?_
  show own_Goes p e s below _ _ _ (s₁.setTop (mkF m 31 #[.val (.int p0), .val (.int p1), .val (.int p2), .val (.int p3), .val (.int m1), .val (.int m2), .val (.int ((p0 &&& (1023 : Int32)) + (1 : Int32))), .val (.int ((p1 &&& (2147483647 : Int32)) % ((p0 &&& (1023 : Int32)) + (1 : Int32)))), .val (.int ((p2 &&& (2147483647 : Int32)) % ((p0 &&& (1023 : Int32)) + (1 : Int32)))), .unset, .unset, .unset, .unset, .unset, .unset, .unset] [(.int (p3 &&& (2147483647 : Int32)))]))
  refine own_via (fun _ q => XS.iload X0.here hx rfl (hb hby at_31) rfl q) ?_
  show own_Goes p e s below _ _ _ (s₁.setTop (mkF m 33 #[.val (.int p0), .val (.int p1), .val (.int p2), .val (.int p3), .val (.int m1), .val (.int m2), .val (.int ((p0 &&& (1023 : Int32)) + (1 : Int32))), .val (.int ((p1 &&& (2147483647 : Int32)) % ((p0 &&& (1023 : Int32)) + (1 : Int32)))), .val (.int ((p2 &&& (2147483647 : Int32)) % ((p0 &&& (1023 : Int32)) + (1 : Int32)))), .unset, .unset, .unset, .unset, .unset, .unset, .unset] [(.int ((p0 &&& (1023 : Int32)) + (1 : Int32))), (.int (p3 &&& (2147483647 : Int32)))]))
  refine own_via (fun _ q => iremM X0 hx rfl (hb hby at_33) rfl (own_nz p0) q) ?_
  show own_Goes p e s below _ _ _ (s₁.setTop (mkF m 34 #[.val (.int p0), .val (.int p1), .val (.int p2), .val (.int p3), .val (.int m1), .val (.int m2), .val (.int ((p0 &&& (1023 : Int32)) + (1 : Int32))), .val (.int ((p1 &&& (2147483647 : Int32)) % ((p0 &&& (1023 : Int32)) + (1 : Int32)))), .val (.int ((p2 &&& (2147483647 : Int32)) % ((p0 &&& (1023 : Int32)) + (1 : Int32)))), .unset, .unset, .unset, .unset, .unset, .unset, .unset] [(.int ((p3 &&& (2147483647 : Int32)) % ((p0 &&& (1023 : Int32)) + (1 : Int32))))]))
  refine own_via (fun _ q => XS.istore X0.here hx rfl (hb hby at_34) rfl (l' := #[.val (.int p0), .val (.int p1), .val (.int p2), .val (.int p3), .val (.int m1), .val (.int m2), .val (.int ((p0 &&& (1023 : Int32)) + (1 : Int32))), .val (.int ((p1 &&& (2147483647 : Int32)) % ((p0 &&& (1023 : Int32)) + (1 : Int32)))), .val (.int ((p2 &&& (2147483647 : Int32)) % ((p0 &&& (1023 : Int32)) + (1 : Int32)))), .val (.int ((p3 &&& (2147483647 : Int32)) % ((p0 &&& (1023 : Int32)) + (1 : Int32)))), .unset, .unset, .unset, .unset, .unset, .unset]) rfl q) ?_
  show own_Goes p e s below _ _ _ (s₁.setTop (mkF m 36 #[.val (.int p0), .val (.int p1), .val (.int p2), .val (.int p3), .val (.int m1), .val (.int m2), .val (.int ((p0 &&& (1023 : Int32)) + (1 : Int32))), .val (.int ((p1 &&& (2147483647 : Int32)) % ((p0 &&& (1023 : Int32)) + (1 : Int32)))), .val (.int ((p2 &&& (2147483647 : Int32)) % ((p0 &&& (1023 : Int32)) + (1 : Int32)))), .val (.int ((p3 &&& (2147483647 : Int32)) % ((p0 &&& (1023 : Int32)) + (1 : Int32)))), .unset, .unset, .unset, .unset, .unset, .unset] []))
  refine own_via (fun _ q => XS.iload X0.here hx rfl (hb hby at_36) rfl q) ?_
  show own_Goes p e s below _ _ _ (s₁.setTop (mkF m 38 #[.val (.int p0), .val (.int p1), .val (.int p2), .val (.int p3), .val (.int m1), .val (.int m2), .val (.int ((p0 &&& (1023 : Int32)) + (1 : Int32))), .val (.int ((p1 &&& (2147483647 : Int32)) % ((p0 &&& (1023 : Int32)) + (1 : Int32)))), .val (.int ((p2 &&& (2147483647 : Int32)) % ((p0 &&& (1023 : Int32)) + (1 : Int32)))), .val (.int ((p3 &&& (2147483647 : Int32)) % ((p0 &&& (1023 : Int32)) + (1 : Int32)))), .unset, .unset, .unset, .unset, .unset, .unset] [(.int m1)]))
  refine own_via (X0.ldcInt hx hown (mvT hZ (hw _ (List.mem_of_getElem? (i := 1) rfl))) (g := (mkF m 38 #[.val (.int p0), .val (.int p1), .val (.int p2), .val (.int p3), .val (.int m1), .val (.int m2), .val (.int ((p0 &&& (1023 : Int32)) + (1 : Int32))), .val (.int ((p1 &&& (2147483647 : Int32)) % ((p0 &&& (1023 : Int32)) + (1 : Int32)))), .val (.int ((p2 &&& (2147483647 : Int32)) % ((p0 &&& (1023 : Int32)) + (1 : Int32)))), .val (.int ((p3 &&& (2147483647 : Int32)) % ((p0 &&& (1023 : Int32)) + (1 : Int32)))), .unset, .unset, .unset, .unset, .unset, .unset] [(.int m1)])) rfl (hb hby at_38)) ?_
  show own_Goes p e s below _ _ _ (s₁.setTop (mkF m 40 #[.val (.int p0), .val (.int p1), .val (.int p2), .val (.int p3), .val (.int m1), .val (.int m2), .val (.int ((p0 &&& (1023 : Int32)) + (1 : Int32))), .val (.int ((p1 &&& (2147483647 : Int32)) % ((p0 &&& (1023 : Int32)) + (1 : Int32)))), .val (.int ((p2 &&& (2147483647 : Int32)) % ((p0 &&& (1023 : Int32)) + (1 : Int32)))), .val (.int ((p3 &&& (2147483647 : Int32)) % ((p0 &&& (1023 : Int32)) + (1 : Int32)))), .unset, .unset, .unset, .unset, .unset, .unset] [(.int (65535 : Int32)), (.int m1)]))
  refine own_via (fun _ q => XS.iand X0.here hx rfl (hb hby at_40) rfl q) ?_
  show own_Goes p e s below _ _ _ (s₁.setTop (mkF m 41 #[.val (.int p0), .val (.int p1), .val (.int p2), .val (.int p3), .val (.int m1), .val (.int m2), .val (.int ((p0 &&& (1023 : Int32)) + (1 : Int32))), .val (.int ((p1 &&& (2147483647 : Int32)) % ((p0 &&& (1023 : Int32)) + (1 : Int32)))), .val (.int ((p2 &&& (2147483647 : Int32)) % ((p0 &&& (1023 : Int32)) + (1 : Int32)))), .val (.int ((p3 &&& (2147483647 : Int32)) % ((p0 &&& (1023 : Int32)) + (1 : Int32)))), .unset, .unset, .unset, .unset, .unset, .unset] [(.int (m1 &&& (65535 : Int32)))]))
  refine own_via (fun _ q => XS.istore X0.here hx rfl (hb hby at_41) rfl (l' := #[.val (.int p0), .val (.int p1), .val (.int p2), .val (.int p3), .val (.int m1), .val (.int m2), .val (.int ((p0 &&& (1023 : Int32)) + (1 : Int32))), .val (.int ((p1 &&& (2147483647 : Int32)) % ((p0 &&& (1023 : Int32)) + (1 : Int32)))), .val (.int ((p2 &&& (2147483647 : Int32)) % ((p0 &&& (1023 : Int32)) + (1 : Int32)))), .val (.int ((p3 &&& (2147483647 : Int32)) % ((p0 &&& (1023 : Int32)) + (1 : Int32)))), .val (.int (m1 &&& (65535 : Int32))), .unset, .unset, .unset, .unset, .unset]) rfl q) ?_
  show own_Goes p e s below _ _ _ (s₁.setTop (mkF m 43 #[.val (.int p0), .val (.int p1), .val (.int p2), .val (.int p3), .val (.int m1), .val (.int m2), .val (.int ((p0 &&& (1023 : Int32)) + (1 : Int32))), .val (.int ((p1 &&& (2147483647 : Int32)) % ((p0 &&& (1023 : Int32)) + (1 : Int32)))), .val (.int ((p2 &&& (2147483647 : Int32)) % ((p0 &&& (1023 : Int32)) + (1 : Int32)))), .val (.int ((p3 &&& (2147483647 : Int32)) % ((p0 &&& (1023 : Int32)) + (1 : Int32)))), .val (.int (m1 &&& (65535 : Int32))), .unset, .unset, .unset, .unset, .unset] []))
  refine own_via (fun _ q => XS.iload X0.here hx rfl (hb hby at_43) rfl q) ?_
  show own_Goes p e s below _ _ _ (s₁.setTop (mkF m 45 #[.val (.int p0), .val (.int p1), .val (.int p2), .val (.int p3), .val (.int m1), .val (.int m2), .val (.int ((p0 &&& (1023 : Int32)) + (1 : Int32))), .val (.int ((p1 &&& (2147483647 : Int32)) % ((p0 &&& (1023 : Int32)) + (1 : Int32)))), .val (.int ((p2 &&& (2147483647 : Int32)) % ((p0 &&& (1023 : Int32)) + (1 : Int32)))), .val (.int ((p3 &&& (2147483647 : Int32)) % ((p0 &&& (1023 : Int32)) + (1 : Int32)))), .val (.int (m1 &&& (65535 : Int32))), .unset, .unset, .unset, .unset, .unset] [(.int m2)]))
  refine own_via (X0.ldcInt hx hown (mvT hZ (hw _ (List.mem_of_getElem? (i := 1) rfl))) (g := (mkF m 45 #[.val (.int p0), .val (.int p1), .val (.int p2), .val (.int p3), .val (.int m1), .val (.int m2), .val (.int ((p0 &&& (1023 : Int32)) + (1 : Int32))), .val (.int ((p1 &&& (2147483647 : Int32)) % ((p0 &&& (1023 : Int32)) + (1 : Int32)))), .val (.int ((p2 &&& (2147483647 : Int32)) % ((p0 &&& (1023 : Int32)) + (1 : Int32)))), .val (.int ((p3 &&& (2147483647 : Int32)) % ((p0 &&& (1023 : Int32)) + (1 : Int32)))), .val (.int (m1 &&& (65535 : Int32))), .unset, .unset, .unset, .unset, .unset] [(.int m2)])) rfl (hb hby at_45)) ?_
  show own_Goes p e s below _ _ _ (s₁.setTop (mkF m 47 #[.val (.int p0), .val (.int p1), .val (.int p2), .val (.int p3), .val (.int m1), .val (.int m2), .val (.int ((p0 &&& (1023 : Int32)) + (1 : Int32))), .val (.int ((p1 &&& (2147483647 : Int32)) % ((p0 &&& (1023 : Int32)) + (1 : Int32)))), .val (.int ((p2 &&& (2147483647 : Int32)) % ((p0 &&& (1023 : Int32)) + (1 : Int32)))), .val (.int ((p3 &&& (2147483647 : Int32)) % ((p0 &&& (1023 : Int32)) + (1 : Int32)))), .val (.int (m1 &&& (65535 : Int32))), .unset, .unset, .unset, .unset, .unset] [(.int (65535 : Int32)), (.int m2)]))
  refine own_via (fun _ q => XS.iand X0.here hx rfl (hb hby at_47) rfl q) ?_
  show own_Goes p e s below _ _ _ (s₁.setTop (mkF m 48 #[.val (.int p0), .val (.int p1), .val (.int p2), .val (.int p3), .val (.int m1), .val (.int m2), .val (.int ((p0 &&& (1023 : Int32)) + (1 : Int32))), .val (.int ((p1 &&& (2147483647 : Int32)) % ((p0 &&& (1023 : Int32)) + (1 : Int32)))), .val (.int ((p2 &&& (2147483647 : Int32)) % ((p0 &&& (1023 : Int32)) + (1 : Int32)))), .val (.int ((p3 &&& (2147483647 : Int32)) % ((p0 &&& (1023 : Int32)) + (1 : Int32)))), .val (.int (m1 &&& (65535 : Int32))), .unset, .unset, .unset, .unset, .unset] [(.int (m2 &&& (65535 : Int32)))]))
  refine own_via (fun _ q => XS.istore X0.here hx rfl (hb hby at_48) rfl (l' := #[.val (.int p0), .val (.int p1), .val (.int p2), .val (.int p3), .val (.int m1), .val (.int m2), .val (.int ((p0 &&& (1023 : Int32)) + (1 : Int32))), .val (.int ((p1 &&& (2147483647 : Int32)) % ((p0 &&& (1023 : Int32)) + (1 : Int32)))), .val (.int ((p2 &&& (2147483647 : Int32)) % ((p0 &&& (1023 : Int32)) + (1 : Int32)))), .val (.int ((p3 &&& (2147483647 : Int32)) % ((p0 &&& (1023 : Int32)) + (1 : Int32)))), .val (.int (m1 &&& (65535 : Int32))), .val (.int (m2 &&& (65535 : Int32))), .unset, .unset, .unset, .unset]) rfl q) ?_
  show own_Goes p e s below _ _ _ (s₁.setTop (mkF m 50 #[.val (.int p0), .val (.int p1), .val (.int p2), .val (.int p3), .val (.int m1), .val (.int m2), .val (.int ((p0 &&& (1023 : Int32)) + (1 : Int32))), .val (.int ((p1 &&& (2147483647 : Int32)) % ((p0 &&& (1023 : Int32)) + (1 : Int32)))), .val (.int ((p2 &&& (2147483647 : Int32)) % ((p0 &&& (1023 : Int32)) + (1 : Int32)))), .val (.int ((p3 &&& (2147483647 : Int32)) % ((p0 &&& (1023 : Int32)) + (1 : Int32)))), .val (.int (m1 &&& (65535 : Int32))), .val (.int (m2 &&& (65535 : Int32))), .unset, .unset, .unset, .unset] []))
  obtain ⟨n1, n2⟩ := own_n p0
  obtain ⟨b1, c1⟩ := own_rem p1 n1
  obtain ⟨b2, c2⟩ := own_rem p2 n1
  obtain ⟨b3, c3⟩ := own_rem p3 n1
  exact sg50 hw ⟨hx, hZ, hby, hml, hown, hret, hlk, hnm⟩ X0 e0 (Fr.nil n0) p0 p1 p2 p3 m1 m2 ((p0 &&& (1023 : Int32)) + (1 : Int32)) ((p1 &&& (2147483647 : Int32)) % ((p0 &&& (1023 : Int32)) + (1 : Int32))) ((p2 &&& (2147483647 : Int32)) % ((p0 &&& (1023 : Int32)) + (1 : Int32))) ((p3 &&& (2147483647 : Int32)) % ((p0 &&& (1023 : Int32)) + (1 : Int32))) Z0 n2 b1 c1 b2 c2 b3 c3
set_option maxRecDepth 65536 in
set_option maxHeartbeats 40000000 in
theorem comes_1 {Post : Tables → Env → Array Value → State → Outcome → State → Prop} (hpost : ∀ tb e args s v u, (limb_1_1.after args s (.returned v) u = true ∧ limb_1_2.after args s (.returned v) u = true ∧ True) → FrameEnd s (.returned v) u (Jvm.fieldLocs frame_1_writes args s ++ Jvm.arrayLocs frame_1_arrays args s ++ Jvm.staticLocs frame_1_statics s) 16 384 → Post tb e args s (.returned v) u) :
    ArmFor flags0 classFile x code maxLocals ret World_1 tables_1 room_1 Calls_1 rest_1 Pre_1 Post := by
  intro l hfl _ _ p e ha hc hk s m args below hf hA hF happ hP
  obtain ⟨hcalls, hrest, hpre⟩ := hP
  obtain ⟨-, -, -, hnamed, -, -, -, hat⟩ := (Spec.applies_iff hf).mp happ
  obtain ⟨hg, hn⟩ := and_e (Cond.before_iff.mp (show (Jvm.Cond.and given_1 narrow_1).before args s = true from hpre))
  obtain ⟨h1, g0⟩ := and_e hg
  obtain ⟨w0, w1, w2, w3, w4, w5, rfl⟩ : ∃ w0 w1 w2 w3 w4 w5 : Value, args = #[w0, w1, w2, w3, w4, w5] := by
    have hs : args.size = 6 := by simpa [Cond.value, given_1] using h1
    obtain ⟨L⟩ := args
    match L, hs with
    | [w0, w1, w2, w3, w4, w5], _ => exact ⟨w0, w1, w2, w3, w4, w5, rfl⟩
  have hw := fun d (hd : d ∈ tables_1) => atoms_spec (ws := Jvm.Cond.code x code maxLocals ret :: tables_1) hat d (List.mem_cons_of_mem _ hd)
  obtain ⟨g0', g1⟩ := and_e g0
  obtain ⟨i0, e0⟩ := is_v g0'
  obtain rfl : w0 = (.int i0) := Option.some.inj e0
  obtain ⟨g1', g2⟩ := and_e g1
  obtain ⟨i1, e1⟩ := is_v g1'
  obtain rfl : w1 = (.int i1) := Option.some.inj e1
  obtain ⟨g2', g3⟩ := and_e g2
  obtain ⟨i2, e2⟩ := is_v g2'
  obtain rfl : w2 = (.int i2) := Option.some.inj e2
  obtain ⟨g3', g4⟩ := and_e g3
  obtain ⟨i3, e3⟩ := is_v g3'
  obtain rfl : w3 = (.int i3) := Option.some.inj e3
  obtain ⟨g4', g5⟩ := and_e g4
  obtain ⟨i4, e4⟩ := is_v g4'
  obtain rfl : w4 = (.int i4) := Option.some.inj e4
  obtain ⟨i5, e5⟩ := is_v g5
  obtain rfl : w5 = (.int i5) := Option.some.inj e5
  obtain ⟨n, o, h1, h2, h3, _, L, rfl, ⟨rfl, N⟩, hq⟩ := rm0 l s _ hw tables_1 i0 i1 i2 i3 i4 i5 s.heap s.heap.size (Nat.le_refl _) p e ha hc hk s m _ below hf ((Spec.applies_iff_loose hf).mp happ).1 ⟨rfl, State.Warmed39.refl s, rfl⟩ trivial
  refine ⟨n, _, h1, h2, h3, hpost _ _ _ _ _ _ ⟨Cond.after_iff.mpr rfl, Cond.after_iff.mpr (eq_i res_at (Term.int_eval (1)) rfl), trivial⟩ ⟨hq.1, hq.2.1, (hq.2.2.sift fun y hy => Or.inr (N y hy)).mono (by decide) (by decide)⟩⟩
theorem main_1_1 : Claimed_1_1 := comes_1 fun _ _ _ _ _ _ h hF => ⟨h.1, hF⟩
theorem main_1_2 : Claimed_1_2 := comes_1 fun _ _ _ _ _ _ h hF => ⟨h.2.1, hF⟩
end Jvm.Pilot.@@N@@
namespace Jvm.Pilot.@@N@@
open Jvm Jvm.ClassFile Sem Op Lib Jvm.Free Jvm.Stand Jvm.Pilot.@@N@@.Jvm.D
/-! MADE BY PROGRAM (witnessworld.py) out of the Statement's table words and the real class files: 11 classes; the members and pool entries that the words name. The judged class is class 1, her method 1. -/
namespace start1
open Jvm.ClassFile
def u (s : String) : CpInfo := .utf8 (stringToUtf16 s)
/-- a pool by its gaps: so many unusable entries, then the entry; so many at the end -/
def gap : Nat → List CpInfo → List CpInfo
  | 0, r => r
  | n + 1, r => .unusable :: gap n r
def poolList (es : List (Nat × CpInfo)) (last : Nat) : List CpInfo := es.foldr (fun e r => gap e.1 (e.2 :: r)) (gap last [])
def pool (es : List (Nat × CpInfo)) (last : Nat) : Array CpInfo := ⟨poolList es last⟩
def fileOf (pool : Array CpInfo) (this : Nat) (attrs : Array Attribute := #[]) (ms : Array MethodInfo := #[]) (fl : Nat := 33) (sup : Nat := 0) (ifs : Array Nat := #[]) (fds : Array FieldInfo := #[]) : ClassFile where
  minorVersion := 0
  majorVersion := 65
  constantPool := pool
  accessFlags := fl
  thisClass := this
  superClass := sup
  interfaces := ifs
  fields := fds
  methods := ms
  attributes := attrs
def plain (name : String) (sup : Option ClassId) : Class where
  name := name
  kind := .ordinary
  loader := none
  accessFlags := 33
  super := sup
  interfaces := #[]
  cf := none
  fields := #[]
  methods := #[]
  instanceTypes := #[]
  staticTypes := #[]
  resolved := #[]
  callSites := []
  init := .initialized
  statics := none
  mirror := none

def pool0 : Array CpInfo := pool [(5, u "<init>"), (0, u "()V"), (1, .class_ 10), (1, u "java/lang/Object")] 113

def k0c0 : Code := { maxStack := 0, maxLocals := 1, code := object_method_1_code, exceptionTable := #[], attributes := #[] }
def k0m0 : Method := { name := "<init>", desc := "()V", sig := { parameters := [], returnType := none }, accessFlags := 1, code := some k0c0 }
/-- java/lang/Object -/
def k0 : Class := { plain "java/lang/Object" none with
  accessFlags := 33
  interfaces := #[]
  cf := some (fileOf pool0 8 #[] #[{ accessFlags := 1, nameIndex := 5, descriptorIndex := 6, attributes := #[] }] 33 0 #[] #[])
  fields := #[]
  methods := #[k0m0]
  instanceTypes := #[]
  staticTypes := #[]
  resolved := Array.replicate 124 none
  statics := none }

def pool1 : Array CpInfo := pool [(2, .class_ 4), (1, u "java/lang/Object"), (0, u "<init>"), (0, u "()V"), (0, .integer 2147483647), (0, .integer 65535), (0, .class_ 10), (0, u "com/example/songpool/songpool/table/HomeMarks"), (0, .methodref 9 12), (0, .nameAndType 5 13), (0, u "(I)V"), (0, .methodref 9 15), (0, .nameAndType 16 17), (0, u "get"), (0, u "(I)I"), (0, .methodref 9 19), (0, .nameAndType 20 21), (0, u "set"), (0, u "(II)V"), (0, .class_ 23), (0, u "com/example/songpool/songpool/table/HomeMarksSetPinLaw"), (2, u "law"), (0, u "(IIIIII)Z")] 3

def k1m0 : Method := { name := "<init>", desc := "()V", sig := { parameters := [], returnType := none }, accessFlags := 1, code := none }
def k1c1 : Code := { maxStack := 3, maxLocals := 16, code := code, exceptionTable := #[], attributes := #[] }
def k1m1 : Method := { name := "law", desc := "(IIIIII)Z", sig := { parameters := [.int, .int, .int, .int, .int, .int], returnType := some .boolean }, accessFlags := 9, code := some k1c1 }
/-- com/example/songpool/songpool/table/HomeMarksSetPinLaw -/
def k1 : Class := { plain "com/example/songpool/songpool/table/HomeMarksSetPinLaw" (some 0) with
  accessFlags := 49
  interfaces := #[]
  cf := some (fileOf pool1 22 #[] #[{ accessFlags := 1, nameIndex := 5, descriptorIndex := 6, attributes := #[] }, { accessFlags := 9, nameIndex := 26, descriptorIndex := 27, attributes := #[] }] 49 2 #[] #[])
  fields := #[]
  methods := #[k1m0, k1m1]
  instanceTypes := #[]
  staticTypes := #[]
  resolved := Array.replicate 31 none
  statics := none }

def pool2 : Array CpInfo := pool [(1, .class_ 2), (0, u "com/example/songpool/songpool/table/HomeMarks"), (0, .methodref 4 5), (0, .class_ 6), (0, .nameAndType 7 8), (0, u "java/lang/Object"), (0, u "<init>"), (0, u "()V"), (0, .fieldref 1 10), (0, .nameAndType 11 12), (0, u "size"), (0, u "I"), (0, .fieldref 1 14), (0, .nameAndType 15 16), (0, u "blocks"), (0, u "[[C"), (0, .long 63), (1, .class_ 20), (0, u "[C"), (0, u "BLOCK_BITS"), (2, u "BLOCK_MASK"), (1, u "(I)V"), (2, u "get"), (0, u "(I)I"), (1, u "set"), (0, u "(II)V")] 4

def k2c0 : Code := { maxStack := 2, maxLocals := 2, code := prog_66_method_1_code, exceptionTable := #[], attributes := #[] }
def k2m0 : Method := { name := "<init>", desc := "(I)V", sig := { parameters := [.int], returnType := none }, accessFlags := 0, code := some k2c0 }
def k2c1 : Code := { maxStack := 3, maxLocals := 3, code := prog_66_method_2_code, exceptionTable := #[], attributes := #[] }
def k2m1 : Method := { name := "get", desc := "(I)I", sig := { parameters := [.int], returnType := some .int }, accessFlags := 0, code := some k2c1 }
def k2c2 : Code := { maxStack := 5, maxLocals := 4, code := prog_66_method_3_code, exceptionTable := #[], attributes := #[] }
def k2m2 : Method := { name := "set", desc := "(II)V", sig := { parameters := [.int, .int], returnType := none }, accessFlags := 0, code := some k2c2 }
/-- com/example/songpool/songpool/table/HomeMarks -/
def k2 : Class := { plain "com/example/songpool/songpool/table/HomeMarks" (some 0) with
  accessFlags := 48
  interfaces := #[]
  cf := some (fileOf pool2 1 #[] #[{ accessFlags := 0, nameIndex := 7, descriptorIndex := 26, attributes := #[] }, { accessFlags := 0, nameIndex := 29, descriptorIndex := 30, attributes := #[] }, { accessFlags := 0, nameIndex := 32, descriptorIndex := 33, attributes := #[] }] 48 4 #[] #[{ accessFlags := 26, nameIndex := 21, descriptorIndex := 12, attributes := #[] }, { accessFlags := 26, nameIndex := 24, descriptorIndex := 12, attributes := #[] }, { accessFlags := 18, nameIndex := 11, descriptorIndex := 12, attributes := #[] }, { accessFlags := 2, nameIndex := 15, descriptorIndex := 16, attributes := #[] }])
  fields := #[{ name := "BLOCK_BITS", type := .int, accessFlags := 26, slot := 0, constantValue := 0 }, { name := "BLOCK_MASK", type := .int, accessFlags := 26, slot := 1, constantValue := 0 }, { name := "size", type := .int, accessFlags := 18, slot := 0, constantValue := 0 }, { name := "blocks", type := (.array (.array .char)), accessFlags := 2, slot := 1, constantValue := 0 }]
  methods := #[k2m0, k2m1, k2m2]
  instanceTypes := #[.int, (.array (.array .char))]
  staticTypes := #[.int, .int]
  resolved := Array.replicate 38 none
  statics := none }

def pool3 : Array CpInfo := pool [(1, u "java/lang/Cloneable"), (0, .class_ 1), (0, u "java/lang/Object"), (0, .class_ 3)] 3

/-- java/lang/Cloneable -/
def k3 : Class := { plain "java/lang/Cloneable" (some 0) with
  accessFlags := 1537
  interfaces := #[]
  cf := some (fileOf pool3 2 #[] #[] 1537 4 #[] #[])
  fields := #[]
  methods := #[]
  instanceTypes := #[]
  staticTypes := #[]
  resolved := Array.replicate 8 none
  statics := none }

def pool4 : Array CpInfo := pool [(1, u "java/io/Serializable"), (0, .class_ 1), (0, u "java/lang/Object"), (0, .class_ 3)] 3

/-- java/io/Serializable -/
def k4 : Class := { plain "java/io/Serializable" (some 0) with
  accessFlags := 1537
  interfaces := #[]
  cf := some (fileOf pool4 2 #[] #[] 1537 4 #[] #[])
  fields := #[]
  methods := #[]
  instanceTypes := #[]
  staticTypes := #[]
  resolved := Array.replicate 8 none
  statics := none }

/-- the primitive byte -/
def k5 : Class := { plain "byte" none with kind := .primitive 'B', accessFlags := 0x411 }
/-- [B -/
def k6 : Class := { plain "[B" (some 0) with kind := .array 5 .byte, interfaces := #[3, 4], accessFlags := 1041 }

/-- the primitive char -/
def k7 : Class := { plain "char" none with kind := .primitive 'C', accessFlags := 0x411 }
/-- [C -/
def k8 : Class := { plain "[C" (some 0) with kind := .array 7 .char, interfaces := #[3, 4], accessFlags := 1041 }

/-- the primitive int -/
def k9 : Class := { plain "int" none with kind := .primitive 'I', accessFlags := 0x411 }
/-- [I -/
def k10 : Class := { plain "[I" (some 0) with kind := .array 9 .int, interfaces := #[3, 4], accessFlags := 1041 }

/-- [[C -/
def k11 : Class := { plain "[[C" (some 0) with kind := .array 8 (.array .char), interfaces := #[3, 4], accessFlags := 1041 }
def heap : Heap := #[]
def classes : Array Class := #[k0, k1, k2, k3, k4, k5, k6, k7, k8, k9, k10, k11]
def interned : List (Array UInt16 × Addr) := []
def slotsUsed : Nat := 0
def theMethod : MethodId := ⟨1, 1⟩
def args0 : Array Value := #[.int 5, .int 7, .int 9, .int 11, .int 13, .int 15]
def aboutOver (below : List Frame) : State where
  vm := { classes := classes, interned := interned.toArray }
  heap := heap
  slotsUsed := slotsUsed
  threads := #[{ frames := .invoking theMethod args0 :: below }]
def below0 : List Frame := [.native { method := ⟨0, 0⟩, args := #[] }]
def about1 : State := aboutOver below0
def p0 : Program := .bare "" "" ""
def e0 : Env := launch0.env 0 0 0
theorem w_frames : about1.frames = Frame.invoking theMethod args0 :: below0 := rfl
set_option maxRecDepth 65536 in
theorem w_args : argsFit about1.vm theMethod args0 = true := by decide +kernel
set_option maxRecDepth 65536 in
theorem w_heap : heapFits about1 = true := by decide +kernel
set_option maxRecDepth 65536 in
theorem w_runnable : about1.curStatus? = some .runnable := by decide +kernel
set_option maxRecDepth 65536 in
theorem w_alone : about1.alone = true := by decide +kernel
set_option maxRecDepth 65536 in
theorem w_named : about1.methodNamed? x = some theMethod := by decide +kernel
set_option maxRecDepth 65536 in
theorem w_hears : about1.hears theMethod below0 = true := by decide +kernel
set_option maxRecDepth 65536 in
theorem w_ripe : about1.ripe theMethod args0 below0 = true := by decide +kernel
theorem w_running : about1.status = .running := rfl
set_option maxRecDepth 65536 in
theorem w_room : about1.hasRoom e0.platform room_1 = true :=
  launch0.hasRoom_least _ room_1 (by decide +kernel) (by decide +kernel) (by decide +kernel) (by decide +kernel) (by decide +kernel) (by decide +kernel)
theorem allAtoms_all (ts : List Jvm.Cond) (a : Array Jvm.Value) (st : Jvm.State) : (allAtoms ts).before a st = ts.all (fun c => c.before a st) := by
  induction ts with
  | nil => rfl
  | cons c t ih =>
    show (Jvm.Cond.and c (allAtoms t)).before a st = _
    rw [Jvm.Cond.before_and, ih, List.all_cons]
def words1 : List Jvm.Cond := Jvm.Cond.code x code maxLocals ret :: tables_1
/-- a 'code' word, met by the world's own term for the bytes: nothing is compared byte by byte -/
theorem code_word {y : MethodName} {bytes : ByteArray} {mx : Nat} {rt : Option FieldType} {a : Array Value} {s : State} {m : MethodId} {meth : Method} {c : Code} (h1 : s.methodNamed? y = some m) (h2 : s.vm.method? m = some meth) (h3 : meth.code = some c) (h4 : c.code = bytes)
    (h5 : (c.maxLocals == mx && c.exceptionTable.isEmpty && decide (c.maxStack ≤ mostOperands) && decide (meth.sig.returnType = rt) && !meth.locks && decide (parseMethodDescriptor y.desc = some meth.sig)) = true) : (Jvm.Cond.code y bytes mx rt).before a s = true := by
  simp only [Bool.and_eq_true, beq_iff_eq, Bool.not_eq_true', decide_eq_true_eq] at h5
  obtain ⟨⟨⟨⟨⟨g1, g2⟩, g3⟩, g4⟩, g5⟩, g6⟩ := h5
  simp [Cond.before, Cond.holds, Cond.value, h1, h2, h3, h4, g1, g2, g3, g4, g5, g6]
def isCode : Jvm.Cond → Bool
  | .code _ _ _ _ => true
  | _ => false
theorem all_split {L : List Jvm.Cond} {P : Jvm.Cond → Bool} (h1 : L.all (fun c => isCode c || P c) = true) (h2 : ∀ c ∈ L.filter isCode, P c = true) : L.all P = true := by
  refine List.all_eq_true.mpr fun c hc => ?_
  have h := List.all_eq_true.mp h1 c hc
  rcases Bool.eq_false_or_eq_true (isCode c) with hi | hi
  · exact h2 c (List.mem_filter.mpr ⟨hc, hi⟩)
  · simpa [hi] using h
set_option maxRecDepth 65536 in
theorem w_c0 : (Jvm.Cond.code x code maxLocals ret).before args0 about1 = true := code_word (m := ⟨1, 1⟩) (meth := k1m1) (c := k1c1) (by decide +kernel) rfl rfl rfl (by decide +kernel)
set_option maxRecDepth 65536 in
theorem w_c1 : (Jvm.Cond.code ({ cls := "com/example/songpool/songpool/table/HomeMarks", name := "<init>", desc := "(I)V" } : Jvm.MethodName) prog_66_method_1_code (2 : Nat) (Option.none : Option Jvm.ClassFile.FieldType)).before args0 about1 = true := code_word (m := ⟨2, 0⟩) (meth := k2m0) (c := k2c0) (by decide +kernel) rfl rfl rfl (by decide +kernel)
set_option maxRecDepth 65536 in
theorem w_c2 : (Jvm.Cond.code ({ cls := "java/lang/Object", name := "<init>", desc := "()V" } : Jvm.MethodName) object_method_1_code (1 : Nat) (Option.none : Option Jvm.ClassFile.FieldType)).before args0 about1 = true := code_word (m := ⟨0, 0⟩) (meth := k0m0) (c := k0c0) (by decide +kernel) rfl rfl rfl (by decide +kernel)
set_option maxRecDepth 65536 in
theorem w_c3 : (Jvm.Cond.code ({ cls := "com/example/songpool/songpool/table/HomeMarks", name := "get", desc := "(I)I" } : Jvm.MethodName) prog_66_method_2_code (3 : Nat) (Option.some Jvm.ClassFile.FieldType.int)).before args0 about1 = true := code_word (m := ⟨2, 1⟩) (meth := k2m1) (c := k2c1) (by decide +kernel) rfl rfl rfl (by decide +kernel)
set_option maxRecDepth 65536 in
theorem w_c4 : (Jvm.Cond.code ({ cls := "com/example/songpool/songpool/table/HomeMarks", name := "set", desc := "(II)V" } : Jvm.MethodName) prog_66_method_3_code (4 : Nat) (Option.none : Option Jvm.ClassFile.FieldType)).before args0 about1 = true := code_word (m := ⟨2, 2⟩) (meth := k2m2) (c := k2c2) (by decide +kernel) rfl rfl rfl (by decide +kernel)
def codes1 : List Jvm.Cond := [Jvm.Cond.code x code maxLocals ret, Jvm.Cond.code ({ cls := "com/example/songpool/songpool/table/HomeMarks", name := "<init>", desc := "(I)V" } : Jvm.MethodName) prog_66_method_1_code (2 : Nat) (Option.none : Option Jvm.ClassFile.FieldType), Jvm.Cond.code ({ cls := "java/lang/Object", name := "<init>", desc := "()V" } : Jvm.MethodName) object_method_1_code (1 : Nat) (Option.none : Option Jvm.ClassFile.FieldType), Jvm.Cond.code ({ cls := "com/example/songpool/songpool/table/HomeMarks", name := "get", desc := "(I)I" } : Jvm.MethodName) prog_66_method_2_code (3 : Nat) (Option.some Jvm.ClassFile.FieldType.int), Jvm.Cond.code ({ cls := "com/example/songpool/songpool/table/HomeMarks", name := "set", desc := "(II)V" } : Jvm.MethodName) prog_66_method_3_code (4 : Nat) (Option.none : Option Jvm.ClassFile.FieldType)]
set_option maxRecDepth 65536 in
theorem codes_eq : words1.filter isCode = codes1 := rfl
theorem w_codes : ∀ c ∈ words1.filter isCode, c.before args0 about1 = true := by
  rw [codes_eq]
  intro c hc
  simp only [codes1, List.mem_cons, List.not_mem_nil, or_false] at hc
  rcases hc with rfl | rfl | rfl | rfl | rfl
  · exact w_c0
  · exact w_c1
  · exact w_c2
  · exact w_c3
  · exact w_c4
set_option maxRecDepth 65536 in
theorem w_t1 : (words1.take 24).all (fun c => isCode c || c.before args0 about1) = true := by decide +kernel
set_option maxRecDepth 65536 in
theorem w_t2 : (words1.drop 24).all (fun c => isCode c || c.before args0 about1) = true := by decide +kernel
theorem w_tables : (allAtoms (Jvm.Cond.code x code maxLocals ret :: tables_1)).before args0 about1 = true := by
  rw [allAtoms_all]
  show words1.all (fun c => c.before args0 about1) = true
  refine all_split ?_ w_codes
  rw [← List.take_append_drop 24 words1, List.all_append, w_t1, w_t2]
  rfl
set_option maxRecDepth 65536 in
theorem w_case : (Jvm.Cond.and given_1 narrow_1).before args0 about1 = true := by decide +kernel
theorem w_applies : (headSpec (Jvm.Cond.code x code maxLocals ret :: tables_1) room_1).applies x e0.platform about1 = true :=
  (Spec.applies_iff w_frames).mpr ⟨w_running, w_runnable, w_alone, w_named, w_hears, w_ripe, w_room, w_tables⟩
theorem atStart : AtStart classFile x code maxLocals ret World_1 tables_1 room_1 Calls_1 rest_1 Pre_1 launch0 p0 e0 about1 theMethod args0 below0 :=
  ⟨lists_1, trivial, launch0.admits_env _ _ _, launch0.least_env, fairChoices_fair.cas, fairChoices_fair.clock, w_frames, w_args, w_heap, w_applies, trivial, trivial, w_case⟩
end start1
theorem witness_1 : WitnessClaimed_1 := ⟨start1.p0, start1.e0, start1.about1, start1.theMethod, start1.args0, start1.below0, start1.atStart⟩
end Jvm.Pilot.@@N@@
