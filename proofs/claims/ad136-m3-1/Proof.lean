import JvmDerived
import JvmDerived.Pilot.@@N@@Statement
import JvmDerived.Pilot.@@N@@Code
set_option linter.unusedVariables false
set_option linter.unusedSimpArgs false
@@BLOCK:NumsL.lean.txt@@
namespace Jvm.Pilot.@@N@@
open Jvm Jvm.ClassFile Sem Op Lib Jvm.Free Jvm.Stand Jvm.LawKit Jvm.RoadKit Bundle Jvm.Pilot.@@N@@.Jvm.D
section OwnKit
variable {p : Program} {l : Launch} {e : Env} {R : Room} {s : State} {m : MethodId} {args : Array Value} {below : List Frame} {meth : Method} {c : Code} {T : State} {locs : List Loc} {cells slots : Nat} {rc rs : Nat} {Q : Option Value → Heap → List Loc → Prop}
/-- from A the run comes to its end by a return, and Q tells of the value, the heap and the places written -/
def own_Goes (p : Program) (e : Env) (s : State) (below : List Frame) (rc rs : Nat) (Q : Option Value → Heap → List Loc → Prop) (A : State) : Prop :=
  ∃ s₂ o, Steps p.tables e below A s₂ ∧ s₂.status = .running ∧ Ended s₂ below o ∧ ∃ v L, o = .returned v ∧ Q v s₂.heap L ∧ FrameEnd s o s₂ L rc rs
theorem own_via {A B : State} (k : ∀ t, Steps p.tables e below B t → Steps p.tables e below A t) (h : own_Goes p e s below rc rs Q B) : own_Goes p e s below rc rs Q A := by
  obtain ⟨s₂, o, h1, h2⟩ := h
  exact ⟨s₂, o, k _ h1, h2⟩
theorem own_on {A B : State} (k : Steps p.tables e below A B) (h : own_Goes p e s below rc rs Q B) : own_Goes p e s below rc rs Q A := own_via (fun _ q => k.trans q) h
theorem own_leave (X : Stand p l e R s m args below meth c T locs cells slots) {v : Option Value} {A : State} (hv : meth.sig.returnType = none → v = none) (hlk : meth.locks = false) (hc : cells ≤ rc) (hs : slots ≤ rs) (hQ : Q v T.heap locs)
    (st : ∀ fs, (∀ (f : JFrame) (acts : List Action), f.method = m → f.locked = none → f.entered = [] → (doReturn e (T.setTop f) acts v).1 = T.setFrames fs) → Steps p.tables e below A (T.setFrames fs)) : own_Goes p e s below rc rs Q A := by
  obtain ⟨fs, hr, hrun, hended, hW, hsame⟩ := X.leave (v := v) hv hlk
  exact ⟨_, _, st fs hr, hrun, hended, _, _, rfl, hQ, ⟨_, rfl⟩, hW, hsame.mono hc hs⟩
theorem own_retN (X : Stand p l e R s m args below meth c T locs cells slots) (hx : p.tables.exec = Jvm.exec) {pc : Nat} {Ls : Array Slot} {z : Int32} {t : FieldType} {rest : List Value} (hret : meth.sig.returnType = some t) (ht : t = .boolean ∨ t = .byte ∨ t = .char ∨ t = .short) (hlk : meth.locks = false)
    (hd : decode c.code pc = .ok (.ireturn, 1)) (hc : cells ≤ rc) (hs : slots ≤ rs) (hQ : Q (some (.int (nar t z))) T.heap locs) : own_Goes p e s below rc rs Q (T.setTop (mkF m pc Ls (.int z :: rest))) :=
  own_leave X (fun h => by rw [hret] at h; cases h) hlk hc hs hQ fun fs hr => retN X hx hret ht hd hr
theorem own_retI (X : Stand p l e R s m args below meth c T locs cells slots) (hx : p.tables.exec = Jvm.exec) {pc : Nat} {Ls : Array Slot} {z : Int32} {rest : List Value} (hret : meth.sig.returnType = some .int) (hlk : meth.locks = false)
    (hd : decode c.code pc = .ok (.ireturn, 1)) (hc : cells ≤ rc) (hs : slots ≤ rs) (hQ : Q (some (.int z)) T.heap locs) : own_Goes p e s below rc rs Q (T.setTop (mkF m pc Ls (.int z :: rest))) :=
  own_leave X (fun h => by rw [hret] at h; cases h) hlk hc hs hQ fun fs hr => retOut X hx hret rfl (Or.inl ⟨rfl, Or.inl rfl, z, rfl⟩) hd hr
theorem own_retJ (X : Stand p l e R s m args below meth c T locs cells slots) (hx : p.tables.exec = Jvm.exec) {pc : Nat} {Ls : Array Slot} {z : Int64} {rest : List Value} (hret : meth.sig.returnType = some .long) (hlk : meth.locks = false)
    (hd : decode c.code pc = .ok (.lreturn, 1)) (hc : cells ≤ rc) (hs : slots ≤ rs) (hQ : Q (some (.long z)) T.heap locs) : own_Goes p e s below rc rs Q (T.setTop (mkF m pc Ls (.long z :: rest))) :=
  own_leave X (fun h => by rw [hret] at h; cases h) hlk hc hs hQ fun fs hr => retOut X hx hret rfl (Or.inr (Or.inl ⟨rfl, rfl, z, rfl⟩)) hd hr
theorem own_retA (X : Stand p l e R s m args below meth c T locs cells slots) (hx : p.tables.exec = Jvm.exec) {pc : Nat} {Ls : Array Slot} {w : Value} {t : FieldType} {rest : List Value} (hret : meth.sig.returnType = some t) (ht : t.isReference = true) (hw : w.isRef = true) (hlk : meth.locks = false)
    (hd : decode c.code pc = .ok (.areturn, 1)) (hc : cells ≤ rc) (hs : slots ≤ rs) (hQ : Q (some w) T.heap locs) : own_Goes p e s below rc rs Q (T.setTop (mkF m pc Ls (w :: rest))) :=
  own_leave X (fun h => by rw [hret] at h; cases h) hlk hc hs hQ fun fs hr => retOut X hx hret (by rcases ref_cases hw with rfl | ⟨z, rfl⟩ <;> cases t <;> first | rfl | exact absurd ht (by decide)) (Or.inr (Or.inr (Or.inr (Or.inr ⟨rfl, ht, hw⟩)))) hd hr
theorem own_ret0 (X : Stand p l e R s m args below meth c T locs cells slots) (hx : p.tables.exec = Jvm.exec) {pc : Nat} {Ls : Array Slot} (hret : meth.sig.returnType = none) (hlk : meth.locks = false)
    (hd : decode c.code pc = .ok (.return_, 1)) (hc : cells ≤ rc) (hs : slots ≤ rs) (hQ : Q none T.heap locs) : own_Goes p e s below rc rs Q (T.setTop (mkF m pc Ls [])) :=
  own_leave X (fun _ => rfl) hlk hc hs hQ fun fs hr => X.returnOut hx hret hd hr
/-- what a walk through one body knows of it -/
def own_Ctx (Z : State) (p : Program) (s : State) (m : MethodId) (meth : Method) (c : Code) (bytes : ByteArray) (maxl : Nat) (own : String) (ret : Option FieldType) (nm : String) : Prop :=
  p.tables.exec = Jvm.exec ∧ Z.Warmed39 s.vm ∧ c.code = bytes ∧ c.maxLocals = maxl ∧ s.vm.findClass own = some m.cls ∧ meth.sig.returnType = ret ∧ meth.locks = false ∧ meth.name = nm
/-- the contract of one body: from the arguments as' and the heap h0 it returns, and Q tells what it leaves -/
abbrev own_Met (l : Launch) (Z : State) (y : MethodName) (bytes : ByteArray) (maxl : Nat) (ret : Option FieldType) (ws : List Jvm.Cond) (rm : Room) (as' : Array Value) (h0 : Heap) (Q : Option Value → Heap → List Loc → Prop) : Prop :=
  MetFree l y (head1 (Jvm.Cond.code y bytes maxl ret :: ws) rm) (fun a U => a = as' ∧ Z.Warmed39 U.vm ∧ U.heap = h0) (fun _ _ _ _ _ => True) (fun _ U o U' => ∃ v L, o = .returned v ∧ Q v U'.heap L ∧ FrameEnd U o U' L rm.cells rm.slots)
theorem own_met {Z : State} {y : MethodName} {bytes : ByteArray} {maxl : Nat} {ret : Option FieldType} {ws : List Jvm.Cond} {rm : Room} {as' : Array Value} {h0 : Heap} (hp : plainFor y = true)
    (body : ∀ (p : Program) (e : Env) (s : State) (m : MethodId) (below : List Frame) (meth : Method) (c : Code) (s₁ : State), own_Ctx Z p s m meth c bytes maxl y.cls ret y.name → Stand p l e rm s m as' below meth c s₁ [] 0 0 → s₁.heap = h0 → own_Goes p e s below rm.cells rm.slots Q (s₁.setTop (entryFrame m as' maxl))) :
    own_Met l Z y bytes maxl ret ws rm as' h0 Q := by
  refine MetFree.of_bodySF hp hisR ?_
  intro p e s m args below meth c s₁ Bd hml0 hP hK
  obtain ⟨rfl, hZ, hh⟩ := hP
  have X0 : Stand p l e rm s m args below meth c s₁ [] 0 0 := Stand.of_body Bd
  exact body p e s m below meth c s₁ ⟨Bd.exec, hZ, Bd.bytes, hml0, findClass_of_methodNamed Bd.named, Bd.returns, Bd.notSynchronized, (name_of_methodNamed Bd.named Bd.method).1⟩ X0 (by rw [← hh, Bd.state]; rfl)
/-- a body that writes nothing and returns w -/
def own_Pure (w : Value) (h0 : Heap) (n0 : Nat) (v : Option Value) (h : Heap) (L : List Loc) : Prop := v = some w ∧ Fr n0 L ∧ h = h0
/-- a body that returns nothing and leaves a heap of which P speaks -/
def own_Left (n0 : Nat) (P : Heap → Prop) (v : Option Value) (h : Heap) (L : List Loc) : Prop := v = none ∧ Fr n0 L ∧ P h
/-- a body that writes nothing and returns an int of which P speaks -/
def own_Some (n0 : Nat) (h0 : Heap) (P : Int32 → Prop) (v : Option Value) (h : Heap) (L : List Loc) : Prop := (∃ r : Int32, v = some (.int r) ∧ P r) ∧ Fr n0 L ∧ h = h0
/-- the law returns 1 and wrote nothing old -/
def own_One (n0 : Nat) (v : Option Value) (h : Heap) (L : List Loc) : Prop := v = some (.int 1) ∧ Fr n0 L
theorem own_narT : nar .boolean (1 : Int32) = 1 := rfl
theorem own_narF : nar .boolean (0 : Int32) = 0 := rfl
theorem own_eqi {t : Term} {k : Int32} {a : Array Value} {s : State} (h : (Cond.eq t (.int k)).value a s none s [] = some true) : t.eval a s none [] s = some (.int k) := by
  simp only [Cond.value, Term.eval] at h
  cases ht : t.eval a s none [] s with
  | none => simp [ht] at h
  | some x => cases x <;> simp [ht] at h ⊢; exact h
end OwnKit
section OwnGrid
variable {Z : State} {h h' h'' : Heap} {n0 : Nat} {a b x : Addr} {cb cl : Cell} {kA kc : ClassId} {ty : FieldType} {nb : Nat} {f : Nat → Value} {sl i j : Nat} {v : Value}
/-- the blocks at b, by their cell: nb places, each null (and all its 64 homes at their first value) or a block of 64 of its own -/
def own_GridAt (Z : State) (h : Heap) (n0 : Nat) (b : Addr) (cb : Cell) (kA : ClassId) (ty : FieldType) (nb : Nat) (f : Nat → Value) : Prop :=
  Arr Z h b cb (.array ty) ∧ cb.cls = kA ∧ n0 ≤ b ∧ cb.slots.size = nb ∧
    (∀ j, j < nb → (cb.slots[j]? = some .null ∧ ∀ i, i < 64 → f (64 * j + i) = defaultValue ty) ∨
      ∃ (x : Addr) (cl : Cell), cb.slots[j]? = some (.ref x) ∧ Arr Z h x cl ty ∧ n0 ≤ x ∧ cl.slots.size = 64 ∧ ∀ i, i < 64 → cl.slots[i]? = some (f (64 * j + i))) ∧
    ∀ (j j' : Nat) (x : Addr), cb.slots[j]? = some (.ref x) → cb.slots[j']? = some (.ref x) → j = j'
theorem own_kinds {t t' : FieldType} {c : Cell} (A : Arr Z h a c t) (B : Arr Z h a cl t') : t = t' := by
  obtain ⟨h1, ⟨-, k1, k2, c1, k3⟩, -⟩ := A
  obtain ⟨g1, ⟨-, l1, l2, c2, l3⟩, -⟩ := B
  cases h1.symm.trans g1
  cases k2.symm.trans l2
  rw [k3] at l3
  cases l3
  rfl
theorem own_arr_ne (t : FieldType) : FieldType.array t ≠ t := by
  induction t with
  | array t ih => exact fun q => ih (FieldType.array.inj q)
  | _ => exact fun q => nomatch q
theorem own_GridAt.ne (G : own_GridAt Z h n0 b cb kA ty nb f) (A : Arr Z h x cl ty) : x ≠ b := fun q => by
  subst q
  exact own_arr_ne ty (own_kinds G.1 A)
theorem own_GridAt.fresh {n : Int32} (A : Arr Z h b (newA kA (.array ty) n) (.array ty)) (hn : n0 ≤ b) (hs : n.toNatClampNeg = nb) (hf : ∀ k, f k = defaultValue ty) : own_GridAt Z h n0 b (newA kA (.array ty) n) kA ty nb f := by
  have hnull : ∀ (j : Nat) (v : Value), (newA kA (.array ty) n).slots[j]? = some v → v = .null := fun j v q => by
    simp only [newA, Array.getElem?_replicate] at q
    split at q
    · exact (Option.some.inj q).symm
    · cases q
  refine ⟨A, rfl, hn, by rw [sz_new]; exact hs, fun j hj => Or.inl ⟨?_, fun i _ => hf _⟩, fun j j' x q _ => nomatch hnull _ _ q⟩
  have : j < n.toNatClampNeg := by omega
  simp [newA, this, defaultValue]
theorem own_GridAt.ext (G : own_GridAt Z h n0 b cb kA ty nb f) (E : Ext h h') : own_GridAt Z h' n0 b cb kA ty nb f := by
  obtain ⟨g1, g2, g3, g4, g5, g6⟩ := G
  refine ⟨g1.ext E, g2, g3, g4, fun j hj => (g5 j hj).imp id ?_, g6⟩
  rintro ⟨x, cl, q1, q2, q3⟩
  exact ⟨x, cl, q1, q2.ext E, q3⟩
theorem own_GridAt.wrO (G : own_GridAt Z h n0 b cb kA ty nb f) (W : Wr h h' a sl v) (ne : ∀ (x : Addr) (c : Cell) (t : FieldType), Arr Z h x c t → x ≠ a) : own_GridAt Z h' n0 b cb kA ty nb f := by
  obtain ⟨g1, g2, g3, g4, g5, g6⟩ := G
  refine ⟨g1.other W (ne _ _ _ g1), g2, g3, g4, fun j hj => (g5 j hj).imp id ?_, g6⟩
  rintro ⟨x, cl, q1, q2, q3⟩
  exact ⟨x, cl, q1, q2.other W (ne _ _ _ q2), q3⟩
theorem own_GridAt.fill (G : own_GridAt Z h n0 b cb kA ty nb f) (E : Ext h h') (A : Arr Z h' h.size (newA kc ty (64 : Int32)) ty) (hj : j < nb) (hz : cb.slots[j]? = some .null) (W : Wr h' h'' b j (.ref h.size)) (hn : n0 ≤ h.size) :
    own_GridAt Z h'' n0 b (cb.setSlot j (.ref h.size)) kA ty nb f ∧ Arr Z h'' h.size (newA kc ty (64 : Int32)) ty := by
  have G' := G.ext E
  have hA : Arr Z h'' h.size (newA kc ty (64 : Int32)) ty := A.other W (G'.ne A)
  obtain ⟨g1, g2, g3, g4, g5, g6⟩ := G
  obtain ⟨e1, -, -, -, -, -⟩ := id G'
  have hold : ∀ (k : Nat) (x : Addr), cb.slots[k]? = some (.ref x) → x < h.size := fun k x q => by
    have hk : k < nb := by rw [← g4]; exact (Array.getElem?_eq_some_iff.mp q).1
    rcases g5 k hk with ⟨q1, -⟩ | ⟨y, cl, q1, q2, -⟩
    · cases q1.symm.trans q
    · cases q1.symm.trans q; exact q2.lt
  have same : (cb.setSlot j (.ref h.size)).slots[j]? = some (.ref h.size) := by simp [Cell.setSlot, g4, hj]
  have others : ∀ k, k ≠ j → (cb.setSlot j (.ref h.size)).slots[k]? = cb.slots[k]? := fun k q => by
    simp only [Cell.setSlot]; exact Array.getElem?_setIfInBounds_ne (Ne.symm q)
  refine ⟨⟨e1.same W, g2, g3, by rw [sz_set]; exact g4, fun k hk => ?_, fun k k' y q q' => ?_⟩, hA⟩
  · by_cases u : k = j
    · subst u
      refine Or.inr ⟨h.size, _, same, hA, hn, by rw [sz_new]; rfl, fun i hi => ?_⟩
      rcases g5 k hk with ⟨-, q2⟩ | ⟨y, cl, q1, -⟩
      · rw [q2 i hi]
        show (Array.replicate 64 (defaultValue ty))[i]? = _
        rw [Array.getElem?_replicate, if_pos hi]
      · cases q1.symm.trans hz
    · rw [others k u]
      refine (g5 k hk).imp id ?_
      rintro ⟨y, cl, q1, q2, q3⟩
      have q4 := q2.ext E
      exact ⟨y, cl, q1, q4.other W (G'.ne q4), q3⟩
  · by_cases u : k = j <;> by_cases u' : k' = j
    · rw [u, u']
    · subst u
      rw [same] at q; cases q
      rw [others k' u'] at q'
      exact absurd (hold _ _ q') (Nat.lt_irrefl _)
    · subst u'
      rw [same] at q'; cases q'
      rw [others k u] at q
      exact absurd (hold _ _ q) (Nat.lt_irrefl _)
    · rw [others k u] at q; rw [others k' u'] at q'
      exact g6 _ _ _ q q'
theorem own_GridAt.set (G : own_GridAt Z h n0 b cb kA ty nb f) (hz : cb.slots[j]? = some (.ref x)) (A : Arr Z h x cl ty) (hi : i < 64) (W : Wr h h' x i v) : own_GridAt Z h' n0 b cb kA ty nb (fun k => if k = 64 * j + i then v else f k) := by
  have hb : b ≠ x := (G.ne A).symm
  obtain ⟨g1, g2, g3, g4, g5, g6⟩ := G
  refine ⟨g1.other W hb, g2, g3, g4, fun k hk => ?_, g6⟩
  by_cases u : k = j
  · subst u
    rcases g5 k hk with ⟨q1, -⟩ | ⟨y, cl', q1, q2, q3, q4, q5⟩
    · cases q1.symm.trans hz
    · cases q1.symm.trans hz
      cases q2.1.symm.trans A.1
      refine Or.inr ⟨x, _, hz, A.same W, q3, by rw [sz_set]; exact q4, fun i' hi' => ?_⟩
      by_cases t : i' = i
      · subst t; simp [Cell.setSlot, q4, hi]
      · dsimp only
        rw [if_neg (by omega)]
        simp only [Cell.setSlot]
        rw [Array.getElem?_setIfInBounds_ne (Ne.symm t)]
        exact q5 i' hi'
  · rcases g5 k hk with ⟨q1, q2⟩ | ⟨y, cl', q1, q2, q3, q4, q5⟩
    · exact Or.inl ⟨q1, fun i' hi' => by dsimp only; rw [if_neg (by omega)]; exact q2 i' hi'⟩
    · have hy : y ≠ x := fun e => u (g6 _ _ _ (e ▸ q1) hz)
      exact Or.inr ⟨y, cl', q1, q2.other W hy, q3, q4, fun i' hi' => by dsimp only; rw [if_neg (by omega)]; exact q5 i' hi'⟩
end OwnGrid
section OwnNums
theorem own_toNat {x : Int32} (h : 0 ≤ x.toInt) : ¬ x < 0 ∧ (x.toNatClampNeg : Int) = x.toInt := by
  have e0 : (0 : Int32).toInt = 0 := rfl
  refine ⟨by rw [Int32.lt_iff_toInt_lt]; omega, ?_⟩
  simp only [Int32.toNatClampNeg]; omega
/-- home >>> 6, home & 63 -/
theorem own_hi {x : Int32} (h : 0 ≤ x.toInt) : (XT.ushr x (6 : Int32)).toInt = x.toInt / 64 := by
  have h0 : (0 : Int32) ≤ x := Jvm.Kit.i32_nonneg.mpr h
  exact Jvm.Kit.i32_iushr h0 (n := ((6 : Int32) &&& 31).toUInt32) (k := 6) (by decide) (by decide)
theorem own_lo (x : Int32) : (x &&& (63 : Int32)).toInt = x.toInt % 64 := Jvm.Kit.i32_mask x 63 (k := 6) (by decide) (by decide)
/-- (int) ((size + 63L) >>> 6) -/
theorem own_nb {n : Int32} (h : 0 ≤ n.toInt) : ((XT.ushrL (n.toInt64 + (63 : Int64)) (6 : Int32)).toInt32).toInt = (n.toInt + 63) / 64 := by
  have h2 := Int32.toInt_lt n
  have e1 : n.toInt64.toInt = n.toInt := Jvm.Kit.i64_of_i32 n
  have e2 : (n.toInt64 + (63 : Int64)).toInt = n.toInt + 63 := by
    rw [Jvm.Kit.i64_add (by rw [e1]; show _ ≤ _ + (63 : Int); omega) (by rw [e1]; show _ + (63 : Int) < _; omega), e1]; rfl
  have h0 : (0 : Int64) ≤ n.toInt64 + (63 : Int64) := Jvm.Kit.i64_nonneg.mpr (by omega)
  have e3 : (XT.ushrL (n.toInt64 + (63 : Int64)) (6 : Int32)).toInt = (n.toInt + 63) / 64 := by
    have := Jvm.Kit.i64_lushr h0 (n := ((6 : Int32).toInt64.toUInt64 &&& Int64.toUInt64 63)) (k := 6) (by decide) (by decide)
    rw [e2] at this; exact this
  rw [Jvm.Kit.i32_of_i64 (by omega) (by omega), e3]
theorem own_i2c (x : Int32) : nar .char (x.toUInt32.toUInt16.toUInt32.toInt32) = x &&& (65535 : Int32) := by
  have e : ∀ y : Int32, y.toUInt32.toUInt16.toUInt32.toInt32.toBitVec.toNat = y.toBitVec.toNat % 2 ^ 16 := fun y => by
    show y.toUInt32.toUInt16.toUInt32.toNat = _
    rw [UInt16.toNat_toUInt32, UInt32.toNat_toUInt16]
    rfl
  have e2 : (x &&& (65535 : Int32)).toBitVec.toNat = x.toBitVec.toNat % 2 ^ 16 := by
    show (x.toBitVec &&& (65535 : Int32).toBitVec).toNat = _
    rw [BitVec.toNat_and, show (65535 : Int32).toBitVec.toNat = 2 ^ 16 - 1 from by decide, Nat.and_two_pow_sub_one_eq_mod]
  apply Int32.toBitVec_inj.mp
  apply BitVec.eq_of_toNat_eq
  show ((x.toUInt32.toUInt16.toUInt32.toInt32).toUInt32.toUInt16.toUInt32.toInt32).toBitVec.toNat = _
  rw [e, e, e2]
  omega
end OwnNums
theorem own_in {c : Cell} {j : Int32} (h : ¬ j < 0) (q : j.toNatClampNeg < c.slots.size) : ¬ (j < 0 ∨ c.slots.size ≤ j.toNatClampNeg) := fun z => z.elim h (fun y => absurd q (Nat.not_lt.mpr y))
theorem own_put {c : Cell} {j : Nat} {v : Value} (h : j < c.slots.size) : (c.setSlot j v).slots[j]? = some v := by simp [Cell.setSlot, h]
theorem own_re {Z : State} {h : Heap} {n0 : Nat} {b : Addr} {cb : Cell} {kA : ClassId} {ty : FieldType} {nb m k : Nat} {v : Value} {f : Nat → Value} (q : m = k) (G : own_GridAt Z h n0 b cb kA ty nb (fun j => if j = m then v else f j)) : own_GridAt Z h n0 b cb kA ty nb (fun j => if j = k then v else f j) := q ▸ G
theorem own_place {x n : Int32} (h0 : 0 ≤ x.toInt) (h1 : x.toInt < n.toInt) : ¬ XT.ushr x (6 : Int32) < 0 ∧ (XT.ushr x (6 : Int32)).toNatClampNeg < (n.toInt.toNat + 63) / 64 ∧ ¬ (x &&& (63 : Int32)) < 0 ∧ (x &&& (63 : Int32)).toNatClampNeg < 64 ∧
    64 * (XT.ushr x (6 : Int32)).toNatClampNeg + (x &&& (63 : Int32)).toNatClampNeg = x.toInt.toNat ∧ (XT.ushr x (6 : Int32)).toNatClampNeg = x.toInt.toNat / 64 := by
  have e1 := own_hi h0
  have e2 := own_lo x
  obtain ⟨a1, a2⟩ := own_toNat (x := XT.ushr x (6 : Int32)) (by omega)
  obtain ⟨b1, b2⟩ := own_toNat (x := x &&& (63 : Int32)) (by omega)
  refine ⟨a1, ?_, b1, ?_, ?_, ?_⟩ <;> omega
theorem own_blocks {n : Int32} (h0 : 0 ≤ n.toInt) (h1 : n.toInt ≤ 1024) : ¬ (XT.ushrL (n.toInt64 + (63 : Int64)) (6 : Int32)).toInt32 < 0 ∧ (XT.ushrL (n.toInt64 + (63 : Int64)) (6 : Int32)).toInt32.toNatClampNeg = (n.toInt.toNat + 63) / 64 ∧ (XT.ushrL (n.toInt64 + (63 : Int64)) (6 : Int32)).toInt32.toNatClampNeg ≤ 16 := by
  have e1 := own_nb h0
  obtain ⟨a1, a2⟩ := own_toNat (x := (XT.ushrL (n.toInt64 + (63 : Int64)) (6 : Int32)).toInt32) (by omega)
  refine ⟨a1, ?_, ?_⟩ <;> omega
/-- the object at a is a CrowdedHomes of n homes whose states are f -/
def own_CH (Z : State) (h : Heap) (n0 : Nat) (a : Addr) (n : Int32) (f : Nat → Value) : Prop :=
  Exa Z h a "com/example/songpool/songpool/table/CrowdedHomes" ∧ n0 ≤ a ∧ ∃ (b : Addr) (kA : ClassId) (cb : Cell), Fld Z h a "com/example/songpool/songpool/table/CrowdedHomes" "blocks" "[[J" (.ref b) ∧ OvrA Z kA .long "[J" ∧ own_GridAt Z h n0 b cb kA .long ((n.toInt.toNat + 63) / 64) f
theorem own_blocks64 {n : Int32} (h0 : 0 ≤ n.toInt) (h1 : n.toInt ≤ 4096) : ¬ (XT.ushrL (n.toInt64 + (63 : Int64)) (6 : Int32)).toInt32 < 0 ∧ (XT.ushrL (n.toInt64 + (63 : Int64)) (6 : Int32)).toInt32.toNatClampNeg = (n.toInt.toNat + 63) / 64 ∧ (XT.ushrL (n.toInt64 + (63 : Int64)) (6 : Int32)).toInt32.toNatClampNeg ≤ 64 := by
  have e1 := own_nb h0
  obtain ⟨a1, a2⟩ := own_toNat (x := (XT.ushrL (n.toInt64 + (63 : Int64)) (6 : Int32)).toInt32) (by omega)
  refine ⟨a1, ?_, ?_⟩ <;> omega
theorem own_Hne {x y : Int32} (hx : 0 ≤ x.toInt) (hy : 0 ≤ y.toInt) (h : ¬ x = y) : ¬ x.toInt.toNat = y.toInt.toNat := fun q => h (Int32.toInt_inj.mp (by omega))
theorem own_n (p : Int32) : 1 ≤ ((p &&& (4095 : Int32)) + (1 : Int32)).toInt ∧ ((p &&& (4095 : Int32)) + (1 : Int32)).toInt ≤ 4096 := by
  have e1 : (p &&& (4095 : Int32)).toInt = p.toInt % 2 ^ 12 := Jvm.Kit.i32_mask p 4095 (k := 12) (by decide) (by decide)
  have e0 : (1 : Int32).toInt = 1 := rfl
  have e2 : ((p &&& (4095 : Int32)) + (1 : Int32)).toInt = (p &&& (4095 : Int32)).toInt + (1 : Int32).toInt := Jvm.Kit.i32_add (by omega) (by omega)
  omega
theorem own_nz1 {n : Int32} (h : 1 ≤ n.toInt) : n ≠ 0 := fun q => by
  subst q
  exact absurd h (by decide)
theorem own_rem (p : Int32) {n : Int32} (h : 1 ≤ n.toInt) : 0 ≤ ((p &&& (2147483647 : Int32)) % n).toInt ∧ ((p &&& (2147483647 : Int32)) % n).toInt < n.toInt := by
  have e1 : (p &&& (2147483647 : Int32)).toInt = p.toInt % 2 ^ 31 := Jvm.Kit.i32_mask p 2147483647 (k := 31) (by decide) (by decide)
  have e2 := Jvm.Kit.i32_rem_nonneg (x := p &&& (2147483647 : Int32)) (y := n) (by omega)
  rw [e2]
  exact ⟨Int.emod_nonneg _ (by omega), Int.emod_lt_of_pos _ (by omega)⟩
theorem own_or (x : Int32) {y : Int32} (h : 0 ≤ y.toInt) : 0 ≤ ((y &&& (-64 : Int32)) ||| (x &&& (63 : Int32))).toInt := by
  have a1 : ¬ (y &&& (-64 : Int32)) < 0 := fun q => by
    have := ((XT.and_neg32 _ _).mp q).1
    rw [XT.negI32] at this; omega
  have a2 : ¬ (x &&& (63 : Int32)) < 0 := fun q => by
    have := ((XT.and_neg32 _ _).mp q).2
    exact absurd this (by decide)
  have a3 : ¬ ((y &&& (-64 : Int32)) ||| (x &&& (63 : Int32))) < 0 := by
    rw [XT.neg32] at a1 a2 ⊢
    rw [Int32.toBitVec_or, BitVec.msb_or]
    simp at a1 a2 ⊢
    exact ⟨a1, a2⟩
  rw [XT.negI32] at a3; omega
theorem pd__I_V : parseMethodDescriptor "(I)V" = some ⟨[.int], none⟩ := by decide +kernel
theorem pd__I_J : parseMethodDescriptor "(I)J" = some ⟨[.int], some .long⟩ := by decide +kernel
theorem pd__J_Z : parseMethodDescriptor "(J)Z" = some ⟨[.long], some .boolean⟩ := by decide +kernel
theorem pd__J_I : parseMethodDescriptor "(J)I" = some ⟨[.long], some .int⟩ := by decide +kernel
theorem pd__IIIZ_I : parseMethodDescriptor "(IIIZ)I" = some ⟨[.int, .int, .int, .boolean], some .int⟩ := by decide +kernel
theorem d2_0 : decode prog_59_method_1_code 0 = .ok (.aload_n 0, 1) := by decide +kernel
theorem d2_1 : decode prog_59_method_1_code 1 = .ok (.invokespecial 3, 3) := by decide +kernel
theorem d2_4 : decode prog_59_method_1_code 4 = .ok (.aload_n 0, 1) := by decide +kernel
theorem d2_5 : decode prog_59_method_1_code 5 = .ok (.iload_n 1, 1) := by decide +kernel
theorem d2_6 : decode prog_59_method_1_code 6 = .ok (.i2l, 1) := by decide +kernel
theorem d2_7 : decode prog_59_method_1_code 7 = .ok (.ldc2_w 9, 3) := by decide +kernel
theorem d2_10 : decode prog_59_method_1_code 10 = .ok (.ladd, 1) := by decide +kernel
theorem d2_11 : decode prog_59_method_1_code 11 = .ok (.bipush 6, 2) := by decide +kernel
theorem d2_13 : decode prog_59_method_1_code 13 = .ok (.lushr, 1) := by decide +kernel
theorem d2_14 : decode prog_59_method_1_code 14 = .ok (.l2i, 1) := by decide +kernel
theorem d2_15 : decode prog_59_method_1_code 15 = .ok (.anewarray 11, 3) := by decide +kernel
theorem d2_18 : decode prog_59_method_1_code 18 = .ok (.putfield 13, 3) := by decide +kernel
theorem d2_21 : decode prog_59_method_1_code 21 = .ok (.return_, 1) := by decide +kernel
theorem pn_2 : plainName "com/example/songpool/songpool/table/CrowdedHomes" = true := by first | (simp [plainName, overriddenIn]; done) | decide +kernel
theorem ef_2 (m : MethodId) (a1 : Addr) (n : Int32) : entryFrame m #[(.ref a1), (.int n)] 2 = mkF m 0 #[.val (.ref a1), .val (.int n)] [] := by first | (simp [entryFrame, mkF, argsToLocals, Value.category]; done) | rfl
set_option maxRecDepth 65536 in
set_option maxHeartbeats 40000000 in
theorem rm2 (l : Launch) (Z : State) (a0 : Array Value) (hw : ∀ d ∈ tables_1, d.before a0 Z = true) (ws : List Jvm.Cond) (a1 : Addr) (n : Int32)  (h0 : Heap) (n0 : Nat) (hn0 : n0 ≤ h0.size) (ha : n0 ≤ a1) (E : Exa Z h0 a1 "com/example/songpool/songpool/table/CrowdedHomes") (Fb : Fld Z h0 a1 "com/example/songpool/songpool/table/CrowdedHomes" "blocks" "[[J" .null) (Hn0 : 0 ≤ n.toInt) (Hn : n.toInt ≤ 4096) :
    own_Met l Z (⟨"com/example/songpool/songpool/table/CrowdedHomes", "<init>", "(I)V"⟩ : MethodName) prog_59_method_1_code 2 none ws ({ frames := 1, cells := 1, slots := 64, locals := 12 } : Room) #[(.ref a1), (.int n)] h0 (own_Left n0 (fun h => own_CH Z h n0 a1 n (fun _ => .long 0))) := by
  refine own_met (plainFor_of_name pn_2) ?_
  intro p e s m below meth c s₁ C X0 e0
  obtain ⟨hx, hZ, hby, hml, hown, hret, hlk, hnm⟩ := C
  rw [ef_2]
  obtain ⟨hnn, hnb, hnc⟩ := own_blocks64 (n := n) Hn0 Hn
  show own_Goes p e s below _ _ _ (s₁.setTop (mkF m 0 #[.val (.ref a1), .val (.int n)] []))
  refine own_via (fun _ q => XS.aloadN X0.here hx rfl (hb hby d2_0) rfl rfl q) ?_
  show own_Goes p e s below _ _ _ (s₁.setTop (mkF m 1 #[.val (.ref a1), .val (.int n)] [(.ref a1)]))
  obtain ⟨T1, X1, e1, st1⟩ := initO X0 hx hZ hown (hw _ (List.mem_of_getElem? (i := 11) rfl)) (hw _ (List.mem_of_getElem? (i := 12) rfl)) (hw _ (List.mem_of_getElem? (i := 13) rfl)) e0 (g := (mkF m 1 #[.val (.ref a1), .val (.int n)] [(.ref a1)])) rfl (by rw [hml]; rfl) rfl (hb hby d2_1) (by decide) (W := 0) (by show 2 * 0 + _ ≤ _; exact Nat.le_of_eq rfl) (by decide)
  refine own_via st1 ?_
  show own_Goes p e s below _ _ _ (T1.setTop (mkF m 4 #[.val (.ref a1), .val (.int n)] []))
  refine own_via (fun _ q => XS.aloadN X1.here hx rfl (hb hby d2_4) rfl rfl q) ?_
  show own_Goes p e s below _ _ _ (T1.setTop (mkF m 5 #[.val (.ref a1), .val (.int n)] [(.ref a1)]))
  refine own_via (fun _ q => XS.iloadN X1.here hx rfl (hb hby d2_5) rfl q) ?_
  show own_Goes p e s below _ _ _ (T1.setTop (mkF m 6 #[.val (.ref a1), .val (.int n)] [(.int n), (.ref a1)]))
  refine own_via (fun _ q => XT.i2l X1.here hx rfl (hb hby d2_6) rfl q) ?_
  show own_Goes p e s below _ _ _ (T1.setTop (mkF m 7 #[.val (.ref a1), .val (.int n)] [(.long ((n).toInt64)), (.ref a1)]))
  refine own_via (X1.ldc2Long hx hown (mvT hZ (hw _ (List.mem_of_getElem? (i := 14) rfl))) (g := (mkF m 7 #[.val (.ref a1), .val (.int n)] [(.long ((n).toInt64)), (.ref a1)])) rfl (hb hby d2_7)) ?_
  show own_Goes p e s below _ _ _ (T1.setTop (mkF m 10 #[.val (.ref a1), .val (.int n)] [(.long (63 : Int64)), (.long ((n).toInt64)), (.ref a1)]))
  refine own_via (fun _ q => XT.ladd X1.here hx rfl (hb hby d2_10) rfl q) ?_
  show own_Goes p e s below _ _ _ (T1.setTop (mkF m 11 #[.val (.ref a1), .val (.int n)] [(.long (((n).toInt64) + (63 : Int64))), (.ref a1)]))
  refine own_via (fun _ q => XT.bipushV X1.here hx rfl (6 : Int32) (hb hby d2_11) rfl q) ?_
  show own_Goes p e s below _ _ _ (T1.setTop (mkF m 13 #[.val (.ref a1), .val (.int n)] [(.int (6 : Int32)), (.long (((n).toInt64) + (63 : Int64))), (.ref a1)]))
  refine own_via (fun _ q => XT.lushr X1.here hx rfl (hb hby d2_13) rfl q) ?_
  show own_Goes p e s below _ _ _ (T1.setTop (mkF m 14 #[.val (.ref a1), .val (.int n)] [(.long (XT.ushrL (((n).toInt64) + (63 : Int64)) (6 : Int32))), (.ref a1)]))
  refine own_via (fun _ q => XT.l2i X1.here hx rfl (hb hby d2_14) rfl q) ?_
  show own_Goes p e s below _ _ _ (T1.setTop (mkF m 15 #[.val (.ref a1), .val (.int n)] [(.int (((XT.ushrL (((n).toInt64) + (63 : Int64)) (6 : Int32))).toInt32)), (.ref a1)]))
  obtain ⟨T2, h2, k2, X2, e2, E2, A2, B2, O2, st2⟩ := newRA X1 hx hZ (ty := .long) (C := "[J") hown rfl (hw _ (List.mem_of_getElem? (i := 15) rfl)) (hw _ (List.mem_of_getElem? (i := 16) rfl)) e1 (g := (mkF m 15 #[.val (.ref a1), .val (.int n)] [(.int (((XT.ushrL (((n).toInt64) + (63 : Int64)) (6 : Int32))).toInt32)), (.ref a1)])) rfl (hb hby d2_15) rfl hnn (cap := 64) hnc (by decide) (by decide) (by decide) (ad := "[[J") rfl
  refine own_via st2 ?_
  show own_Goes p e s below _ _ _ (T2.setTop (mkF m 18 #[.val (.ref a1), .val (.int n)] [(.ref h0.size), (.ref a1)]))
  obtain ⟨T3, h3, X3, e3, W3, st3⟩ := putF X2 hx hZ hown (host := "") (Or.inl (hw _ (List.mem_of_getElem? (i := 17) rfl))) Via.refl e2 (Fb.ext E2) (E.ext E2) (Or.inl (hw _ (List.mem_of_getElem? (i := 18) rfl))) (hw _ (List.mem_of_getElem? (i := 6) rfl)) (ty := .array (.array .long)) (by decide) rfl rfl (g := (mkF m 18 #[.val (.ref a1), .val (.int n)] [(.ref h0.size), (.ref a1)])) rfl rfl (hb hby d2_18)
  have N3 := Fr.snoc X3 (Fr.nil n0) ha
  refine own_via st3 ?_
  show own_Goes p e s below _ _ _ (T3.setTop (mkF m 21 #[.val (.ref a1), .val (.int n)] []))
  exact own_ret0 X3 hx hret hlk (hb hby d2_21) (by decide) (by decide) ⟨rfl, N3, by rw [e3]; exact ⟨(E.ext E2).wr W3, ha, h0.size, k2, _, (Fb.ext E2).same W3, O2, (own_GridAt.fresh A2 hn0 hnb (fun _ => rfl)).wrO W3 (fun _ _ _ q => (ne_arr (E.ext E2) (hw _ (List.mem_of_getElem? (i := 6) rfl)) q).symm)⟩⟩
theorem d5_0 : decode prog_59_method_3_code 0 = .ok (.aload_n 0, 1) := by decide +kernel
theorem d5_1 : decode prog_59_method_3_code 1 = .ok (.getfield 13, 3) := by decide +kernel
theorem d5_4 : decode prog_59_method_3_code 4 = .ok (.iload_n 1, 1) := by decide +kernel
theorem d5_5 : decode prog_59_method_3_code 5 = .ok (.bipush 6, 2) := by decide +kernel
theorem d5_7 : decode prog_59_method_3_code 7 = .ok (.iushr, 1) := by decide +kernel
theorem d5_8 : decode prog_59_method_3_code 8 = .ok (.aaload, 1) := by decide +kernel
theorem d5_9 : decode prog_59_method_3_code 9 = .ok (.astore_n 2, 1) := by decide +kernel
theorem d5_10 : decode prog_59_method_3_code 10 = .ok (.aload_n 2, 1) := by decide +kernel
theorem d5_11 : decode prog_59_method_3_code 11 = .ok (.ifnonnull 7, 3) := by decide +kernel
theorem d5_14 : decode prog_59_method_3_code 14 = .ok (.lconst 0, 1) := by decide +kernel
theorem d5_15 : decode prog_59_method_3_code 15 = .ok (.goto 9, 3) := by decide +kernel
theorem d5_18 : decode prog_59_method_3_code 18 = .ok (.aload_n 2, 1) := by decide +kernel
theorem d5_19 : decode prog_59_method_3_code 19 = .ok (.iload_n 1, 1) := by decide +kernel
theorem d5_20 : decode prog_59_method_3_code 20 = .ok (.bipush 63, 2) := by decide +kernel
theorem d5_22 : decode prog_59_method_3_code 22 = .ok (.iand, 1) := by decide +kernel
theorem d5_23 : decode prog_59_method_3_code 23 = .ok (.laload, 1) := by decide +kernel
theorem d5_24 : decode prog_59_method_3_code 24 = .ok (.lreturn, 1) := by decide +kernel
theorem pn_5 : plainName "com/example/songpool/songpool/table/CrowdedHomes" = true := by first | (simp [plainName, overriddenIn]; done) | decide +kernel
theorem ef_5 (m : MethodId) (a1 : Addr) (p2 : Int32) : entryFrame m #[(.ref a1), (.int p2)] 3 = mkF m 0 #[.val (.ref a1), .val (.int p2), .unset] [] := by first | (simp [entryFrame, mkF, argsToLocals, Value.category]; done) | rfl
set_option maxRecDepth 65536 in
set_option maxHeartbeats 40000000 in
theorem rm5 (l : Launch) (Z : State) (a0 : Array Value) (hw : ∀ d ∈ tables_1, d.before a0 Z = true) (ws : List Jvm.Cond) (a1 : Addr) (p2 : Int32) (n : Int32) (r : Int64) (f : Nat → Value) (h0 : Heap) (n0 : Nat) (hm : own_CH Z h0 n0 a1 n f) (H0 : 0 ≤ p2.toInt) (H1 : p2.toInt < n.toInt) (hr : f p2.toInt.toNat = .long r) :
    own_Met l Z (⟨"com/example/songpool/songpool/table/CrowdedHomes", "stateOf", "(I)J"⟩ : MethodName) prog_59_method_3_code 3 (some .long) ws ({ frames := 0, cells := 0, slots := 0, locals := 0 } : Room) #[(.ref a1), (.int p2)] h0 (own_Pure (.long r) h0 n0) := by
  refine own_met (plainFor_of_name pn_5) ?_
  intro p e s m below meth c s₁ C X0 e0
  obtain ⟨hx, hZ, hby, hml, hown, hret, hlk, hnm⟩ := C
  rw [ef_5]
  obtain ⟨E, ha, b, kA, cb, Fb, O, G⟩ := hm
  obtain ⟨hJ, hJn, hI, hI64, hJI, hJB⟩ := own_place H0 H1
  show own_Goes p e s below _ _ _ (s₁.setTop (mkF m 0 #[.val (.ref a1), .val (.int p2), .unset] []))
  refine own_via (fun _ q => XS.aloadN X0.here hx rfl (hb hby d5_0) rfl rfl q) ?_
  show own_Goes p e s below _ _ _ (s₁.setTop (mkF m 1 #[.val (.ref a1), .val (.int p2), .unset] [(.ref a1)]))
  obtain ⟨T1, X1, e1, st1⟩ := getF X0 hx hZ hown (host := "") (Or.inl (hw _ (List.mem_of_getElem? (i := 17) rfl))) Via.refl e0 Fb (g := (mkF m 1 #[.val (.ref a1), .val (.int p2), .unset] [(.ref a1)])) rfl rfl (hb hby d5_1)
  refine own_via st1 ?_
  show own_Goes p e s below _ _ _ (T1.setTop (mkF m 4 #[.val (.ref a1), .val (.int p2), .unset] [(.ref b)]))
  refine own_via (fun _ q => XS.iloadN X1.here hx rfl (hb hby d5_4) rfl q) ?_
  show own_Goes p e s below _ _ _ (T1.setTop (mkF m 5 #[.val (.ref a1), .val (.int p2), .unset] [(.int p2), (.ref b)]))
  refine own_via (fun _ q => XT.bipushV X1.here hx rfl (6 : Int32) (hb hby d5_5) rfl q) ?_
  show own_Goes p e s below _ _ _ (T1.setTop (mkF m 7 #[.val (.ref a1), .val (.int p2), .unset] [(.int (6 : Int32)), (.int p2), (.ref b)]))
  refine own_via (fun _ q => XT.iushr X1.here hx rfl (hb hby d5_7) rfl q) ?_
  show own_Goes p e s below _ _ _ (T1.setTop (mkF m 8 #[.val (.ref a1), .val (.int p2), .unset] [(.int (XT.ushr p2 (6 : Int32))), (.ref b)]))
  rcases G.2.2.2.2.1 _ hJn with ⟨z1, z2⟩ | ⟨x, c1, z1, A, hx0, zs, zv⟩
  · show own_Goes p e s below _ _ _ (T1.setTop (mkF m 8 #[.val (.ref a1), .val (.int p2), .unset] [(.int (XT.ushr p2 (6 : Int32))), (.ref b)]))
    refine own_via (fun t q => X1.aaload hx (j := XT.ushr p2 (6 : Int32)) (v := .null) (by rw [e1]; exact G.1.1) (State.isArrayOf_alike hZ.alike G.1.2.1) rfl G.1.2.2 (own_in hJ (by rw [G.2.2.2.1]; exact hJn)) z1 (g := (mkF m 8 #[.val (.ref a1), .val (.int p2), .unset] [(.int (XT.ushr p2 (6 : Int32))), (.ref b)])) rfl rfl (hb hby d5_8) t q) ?_
    show own_Goes p e s below _ _ _ (T1.setTop (mkF m 9 #[.val (.ref a1), .val (.int p2), .unset] [.null]))
    refine own_via (fun _ q => XS.astoreN X1.here hx rfl (hb hby d5_9) rfl rfl (l' := #[.val (.ref a1), .val (.int p2), .val .null]) rfl q) ?_
    show own_Goes p e s below _ _ _ (T1.setTop (mkF m 10 #[.val (.ref a1), .val (.int p2), .val .null] []))
    refine own_via (fun _ q => XS.aloadN X1.here hx rfl (hb hby d5_10) rfl rfl q) ?_
    show own_Goes p e s below _ _ _ (T1.setTop (mkF m 11 #[.val (.ref a1), .val (.int p2), .val .null] [.null]))
    refine own_via (fun _ q => XT.ifnonnullNo X1.here hx rfl (hb hby d5_11) rfl q) ?_
    show own_Goes p e s below _ _ _ (T1.setTop (mkF m 14 #[.val (.ref a1), .val (.int p2), .val .null] []))
    refine own_via (fun _ q => XT.lconstV X1.here hx rfl (0 : Int64) (hb hby d5_14) rfl q) ?_
    show own_Goes p e s below _ _ _ (T1.setTop (mkF m 15 #[.val (.ref a1), .val (.int p2), .val .null] [(.long (0 : Int64))]))
    refine own_via (fun _ q => XS.goto X1.here hx rfl (pc0 := 15) (pc' := 24) rfl (hb hby d5_15) (by decide) (by decide) q) ?_
    show own_Goes p e s below _ _ _ (T1.setTop (mkF m 24 #[.val (.ref a1), .val (.int p2), .val .null] [(.long (0 : Int64))]))
    exact own_retJ X1 hx hret hlk (hb hby d5_24) (by decide) (by decide) ⟨congrArg some ((z2 _ hI64).symm.trans ((congrArg f hJI).trans hr)), (Fr.nil n0), e1⟩
  · show own_Goes p e s below _ _ _ (T1.setTop (mkF m 8 #[.val (.ref a1), .val (.int p2), .unset] [(.int (XT.ushr p2 (6 : Int32))), (.ref b)]))
    refine own_via (fun t q => X1.aaload hx (j := XT.ushr p2 (6 : Int32)) (v := (.ref x)) (by rw [e1]; exact G.1.1) (State.isArrayOf_alike hZ.alike G.1.2.1) rfl G.1.2.2 (own_in hJ (by rw [G.2.2.2.1]; exact hJn)) z1 (g := (mkF m 8 #[.val (.ref a1), .val (.int p2), .unset] [(.int (XT.ushr p2 (6 : Int32))), (.ref b)])) rfl rfl (hb hby d5_8) t q) ?_
    show own_Goes p e s below _ _ _ (T1.setTop (mkF m 9 #[.val (.ref a1), .val (.int p2), .unset] [(.ref x)]))
    refine own_via (fun _ q => XS.astoreN X1.here hx rfl (hb hby d5_9) rfl rfl (l' := #[.val (.ref a1), .val (.int p2), .val (.ref x)]) rfl q) ?_
    show own_Goes p e s below _ _ _ (T1.setTop (mkF m 10 #[.val (.ref a1), .val (.int p2), .val (.ref x)] []))
    refine own_via (fun _ q => XS.aloadN X1.here hx rfl (hb hby d5_10) rfl rfl q) ?_
    show own_Goes p e s below _ _ _ (T1.setTop (mkF m 11 #[.val (.ref a1), .val (.int p2), .val (.ref x)] [(.ref x)]))
    refine own_via (fun _ q => XT.ifnonnullYes X1.here hx rfl (pc0 := 11) (pc' := 18) rfl (hb hby d5_11) rfl (by decide) (by decide) q) ?_
    show own_Goes p e s below _ _ _ (T1.setTop (mkF m 18 #[.val (.ref a1), .val (.int p2), .val (.ref x)] []))
    refine own_via (fun _ q => XS.aloadN X1.here hx rfl (hb hby d5_18) rfl rfl q) ?_
    show own_Goes p e s below _ _ _ (T1.setTop (mkF m 19 #[.val (.ref a1), .val (.int p2), .val (.ref x)] [(.ref x)]))
    refine own_via (fun _ q => XS.iloadN X1.here hx rfl (hb hby d5_19) rfl q) ?_
    show own_Goes p e s below _ _ _ (T1.setTop (mkF m 20 #[.val (.ref a1), .val (.int p2), .val (.ref x)] [(.int p2), (.ref x)]))
    refine own_via (fun _ q => XT.bipushV X1.here hx rfl (63 : Int32) (hb hby d5_20) rfl q) ?_
    show own_Goes p e s below _ _ _ (T1.setTop (mkF m 22 #[.val (.ref a1), .val (.int p2), .val (.ref x)] [(.int (63 : Int32)), (.int p2), (.ref x)]))
    refine own_via (fun _ q => XS.iand X1.here hx rfl (hb hby d5_22) rfl q) ?_
    show own_Goes p e s below _ _ _ (T1.setTop (mkF m 23 #[.val (.ref a1), .val (.int p2), .val (.ref x)] [(.int (p2 &&& (63 : Int32))), (.ref x)]))
    refine own_via (fun t q => X1.laload hx (j := p2 &&& (63 : Int32)) (v := .long r) (by rw [e1]; exact A.1) (State.isArrayOf_alike hZ.alike A.2.1) A.2.2 (own_in hI (by rw [zs]; exact hI64)) ((zv _ hI64).trans (congrArg some (by rw [hJI]; exact hr))) (g := (mkF m 23 #[.val (.ref a1), .val (.int p2), .val (.ref x)] [(.int (p2 &&& (63 : Int32))), (.ref x)])) rfl rfl (hb hby d5_23) t q) ?_
    show own_Goes p e s below _ _ _ (T1.setTop (mkF m 24 #[.val (.ref a1), .val (.int p2), .val (.ref x)] [(.long r)]))
    exact own_retJ X1 hx hret hlk (hb hby d5_24) (by decide) (by decide) ⟨rfl, (Fr.nil n0), e1⟩
theorem d4_0 : decode prog_59_method_5_code 0 = .ok (.aload_n 0, 1) := by decide +kernel
theorem d4_1 : decode prog_59_method_5_code 1 = .ok (.getfield 13, 3) := by decide +kernel
theorem d4_4 : decode prog_59_method_5_code 4 = .ok (.iload_n 1, 1) := by decide +kernel
theorem d4_5 : decode prog_59_method_5_code 5 = .ok (.bipush 6, 2) := by decide +kernel
theorem d4_7 : decode prog_59_method_5_code 7 = .ok (.iushr, 1) := by decide +kernel
theorem d4_8 : decode prog_59_method_5_code 8 = .ok (.aaload, 1) := by decide +kernel
theorem d4_9 : decode prog_59_method_5_code 9 = .ok (.astore_n 2, 1) := by decide +kernel
theorem d4_10 : decode prog_59_method_5_code 10 = .ok (.aload_n 2, 1) := by decide +kernel
theorem d4_11 : decode prog_59_method_5_code 11 = .ok (.ifnonnull 18, 3) := by decide +kernel
theorem d4_14 : decode prog_59_method_5_code 14 = .ok (.bipush 64, 2) := by decide +kernel
theorem d4_16 : decode prog_59_method_5_code 16 = .ok (.newarray .long, 2) := by decide +kernel
theorem d4_18 : decode prog_59_method_5_code 18 = .ok (.astore_n 2, 1) := by decide +kernel
theorem d4_19 : decode prog_59_method_5_code 19 = .ok (.aload_n 0, 1) := by decide +kernel
theorem d4_20 : decode prog_59_method_5_code 20 = .ok (.getfield 13, 3) := by decide +kernel
theorem d4_23 : decode prog_59_method_5_code 23 = .ok (.iload_n 1, 1) := by decide +kernel
theorem d4_24 : decode prog_59_method_5_code 24 = .ok (.bipush 6, 2) := by decide +kernel
theorem d4_26 : decode prog_59_method_5_code 26 = .ok (.iushr, 1) := by decide +kernel
theorem d4_27 : decode prog_59_method_5_code 27 = .ok (.aload_n 2, 1) := by decide +kernel
theorem d4_28 : decode prog_59_method_5_code 28 = .ok (.aastore, 1) := by decide +kernel
theorem d4_29 : decode prog_59_method_5_code 29 = .ok (.aload_n 2, 1) := by decide +kernel
theorem d4_30 : decode prog_59_method_5_code 30 = .ok (.iload_n 1, 1) := by decide +kernel
theorem d4_31 : decode prog_59_method_5_code 31 = .ok (.bipush 63, 2) := by decide +kernel
theorem d4_33 : decode prog_59_method_5_code 33 = .ok (.iand, 1) := by decide +kernel
theorem d4_34 : decode prog_59_method_5_code 34 = .ok (.ldc2_w 21, 3) := by decide +kernel
theorem d4_37 : decode prog_59_method_5_code 37 = .ok (.lastore, 1) := by decide +kernel
theorem d4_38 : decode prog_59_method_5_code 38 = .ok (.return_, 1) := by decide +kernel
theorem pn_4 : plainName "com/example/songpool/songpool/table/CrowdedHomes" = true := by first | (simp [plainName, overriddenIn]; done) | decide +kernel
theorem ef_4 (m : MethodId) (a1 : Addr) (p2 : Int32) : entryFrame m #[(.ref a1), (.int p2)] 3 = mkF m 0 #[.val (.ref a1), .val (.int p2), .unset] [] := by first | (simp [entryFrame, mkF, argsToLocals, Value.category]; done) | rfl
set_option maxRecDepth 65536 in
set_option maxHeartbeats 40000000 in
theorem rm4 (l : Launch) (Z : State) (a0 : Array Value) (hw : ∀ d ∈ tables_1, d.before a0 Z = true) (ws : List Jvm.Cond) (a1 : Addr) (p2 : Int32) (n : Int32) (f : Nat → Value) (h0 : Heap) (n0 : Nat) (hn0 : n0 ≤ h0.size) (hm : own_CH Z h0 n0 a1 n f) (H0 : 0 ≤ p2.toInt) (H1 : p2.toInt < n.toInt) :
    own_Met l Z (⟨"com/example/songpool/songpool/table/CrowdedHomes", "crowd", "(I)V"⟩ : MethodName) prog_59_method_5_code 3 none ws ({ frames := 0, cells := 1, slots := 64, locals := 0 } : Room) #[(.ref a1), (.int p2)] h0 (own_Left n0 (fun h => own_CH Z h n0 a1 n (fun k => if k = p2.toInt.toNat then .long (-9223372036854775808 : Int64) else f k))) := by
  refine own_met (plainFor_of_name pn_4) ?_
  intro p e s m below meth c s₁ C X0 e0
  obtain ⟨hx, hZ, hby, hml, hown, hret, hlk, hnm⟩ := C
  rw [ef_4]
  obtain ⟨E, ha, b, kA, cb, Fb, O, G⟩ := hm
  obtain ⟨hJ, hJn, hI, hI64, hJI, hJB⟩ := own_place H0 H1
  show own_Goes p e s below _ _ _ (s₁.setTop (mkF m 0 #[.val (.ref a1), .val (.int p2), .unset] []))
  refine own_via (fun _ q => XS.aloadN X0.here hx rfl (hb hby d4_0) rfl rfl q) ?_
  show own_Goes p e s below _ _ _ (s₁.setTop (mkF m 1 #[.val (.ref a1), .val (.int p2), .unset] [(.ref a1)]))
  obtain ⟨T1, X1, e1, st1⟩ := getF X0 hx hZ hown (host := "") (Or.inl (hw _ (List.mem_of_getElem? (i := 17) rfl))) Via.refl e0 Fb (g := (mkF m 1 #[.val (.ref a1), .val (.int p2), .unset] [(.ref a1)])) rfl rfl (hb hby d4_1)
  refine own_via st1 ?_
  show own_Goes p e s below _ _ _ (T1.setTop (mkF m 4 #[.val (.ref a1), .val (.int p2), .unset] [(.ref b)]))
  refine own_via (fun _ q => XS.iloadN X1.here hx rfl (hb hby d4_4) rfl q) ?_
  show own_Goes p e s below _ _ _ (T1.setTop (mkF m 5 #[.val (.ref a1), .val (.int p2), .unset] [(.int p2), (.ref b)]))
  refine own_via (fun _ q => XT.bipushV X1.here hx rfl (6 : Int32) (hb hby d4_5) rfl q) ?_
  show own_Goes p e s below _ _ _ (T1.setTop (mkF m 7 #[.val (.ref a1), .val (.int p2), .unset] [(.int (6 : Int32)), (.int p2), (.ref b)]))
  refine own_via (fun _ q => XT.iushr X1.here hx rfl (hb hby d4_7) rfl q) ?_
  show own_Goes p e s below _ _ _ (T1.setTop (mkF m 8 #[.val (.ref a1), .val (.int p2), .unset] [(.int (XT.ushr p2 (6 : Int32))), (.ref b)]))
  rcases G.2.2.2.2.1 _ hJn with ⟨z1, z2⟩ | ⟨x, c1, z1, A, hx0, zs, zv⟩
  · show own_Goes p e s below _ _ _ (T1.setTop (mkF m 8 #[.val (.ref a1), .val (.int p2), .unset] [(.int (XT.ushr p2 (6 : Int32))), (.ref b)]))
    refine own_via (fun t q => X1.aaload hx (j := XT.ushr p2 (6 : Int32)) (v := .null) (by rw [e1]; exact G.1.1) (State.isArrayOf_alike hZ.alike G.1.2.1) rfl G.1.2.2 (own_in hJ (by rw [G.2.2.2.1]; exact hJn)) z1 (g := (mkF m 8 #[.val (.ref a1), .val (.int p2), .unset] [(.int (XT.ushr p2 (6 : Int32))), (.ref b)])) rfl rfl (hb hby d4_8) t q) ?_
    show own_Goes p e s below _ _ _ (T1.setTop (mkF m 9 #[.val (.ref a1), .val (.int p2), .unset] [.null]))
    refine own_via (fun _ q => XS.astoreN X1.here hx rfl (hb hby d4_9) rfl rfl (l' := #[.val (.ref a1), .val (.int p2), .val .null]) rfl q) ?_
    show own_Goes p e s below _ _ _ (T1.setTop (mkF m 10 #[.val (.ref a1), .val (.int p2), .val .null] []))
    refine own_via (fun _ q => XS.aloadN X1.here hx rfl (hb hby d4_10) rfl rfl q) ?_
    show own_Goes p e s below _ _ _ (T1.setTop (mkF m 11 #[.val (.ref a1), .val (.int p2), .val .null] [.null]))
    refine own_via (fun _ q => XT.ifnonnullNo X1.here hx rfl (hb hby d4_11) rfl q) ?_
    show own_Goes p e s below _ _ _ (T1.setTop (mkF m 14 #[.val (.ref a1), .val (.int p2), .val .null] []))
    refine own_via (fun _ q => XT.bipushV X1.here hx rfl (64 : Int32) (hb hby d4_14) rfl q) ?_
    show own_Goes p e s below _ _ _ (T1.setTop (mkF m 16 #[.val (.ref a1), .val (.int p2), .val .null] [(.int (64 : Int32))]))
    obtain ⟨T2, h2, k2, X2, e2, E2, A2, B2, st2⟩ := newPE X1 hx hZ (hw _ (List.mem_of_getElem? (i := 24) rfl)) e1 (g := (mkF m 16 #[.val (.ref a1), .val (.int p2), .val .null] [(.int (64 : Int32))])) rfl (hb hby d4_16) rfl (by decide) (cap := 64) (by decide) (by decide) (by decide) (by decide) (ad := "[J") rfl
    refine own_via st2 ?_
    show own_Goes p e s below _ _ _ (T2.setTop (mkF m 18 #[.val (.ref a1), .val (.int p2), .val .null] [(.ref h0.size)]))
    refine own_via (fun _ q => XS.astoreN X2.here hx rfl (hb hby d4_18) rfl rfl (l' := #[.val (.ref a1), .val (.int p2), .val (.ref h0.size)]) rfl q) ?_
    show own_Goes p e s below _ _ _ (T2.setTop (mkF m 19 #[.val (.ref a1), .val (.int p2), .val (.ref h0.size)] []))
    refine own_via (fun _ q => XS.aloadN X2.here hx rfl (hb hby d4_19) rfl rfl q) ?_
    show own_Goes p e s below _ _ _ (T2.setTop (mkF m 20 #[.val (.ref a1), .val (.int p2), .val (.ref h0.size)] [(.ref a1)]))
    obtain ⟨T3, X3, e3, st3⟩ := getF X2 hx hZ hown (host := "") (Or.inl (hw _ (List.mem_of_getElem? (i := 17) rfl))) Via.refl e2 (Fb.ext E2) (g := (mkF m 20 #[.val (.ref a1), .val (.int p2), .val (.ref h0.size)] [(.ref a1)])) rfl rfl (hb hby d4_20)
    refine own_via st3 ?_
    show own_Goes p e s below _ _ _ (T3.setTop (mkF m 23 #[.val (.ref a1), .val (.int p2), .val (.ref h0.size)] [(.ref b)]))
    refine own_via (fun _ q => XS.iloadN X3.here hx rfl (hb hby d4_23) rfl q) ?_
    show own_Goes p e s below _ _ _ (T3.setTop (mkF m 24 #[.val (.ref a1), .val (.int p2), .val (.ref h0.size)] [(.int p2), (.ref b)]))
    refine own_via (fun _ q => XT.bipushV X3.here hx rfl (6 : Int32) (hb hby d4_24) rfl q) ?_
    show own_Goes p e s below _ _ _ (T3.setTop (mkF m 26 #[.val (.ref a1), .val (.int p2), .val (.ref h0.size)] [(.int (6 : Int32)), (.int p2), (.ref b)]))
    refine own_via (fun _ q => XT.iushr X3.here hx rfl (hb hby d4_26) rfl q) ?_
    show own_Goes p e s below _ _ _ (T3.setTop (mkF m 27 #[.val (.ref a1), .val (.int p2), .val (.ref h0.size)] [(.int (XT.ushr p2 (6 : Int32))), (.ref b)]))
    refine own_via (fun _ q => XS.aloadN X3.here hx rfl (hb hby d4_27) rfl rfl q) ?_
    show own_Goes p e s below _ _ _ (T3.setTop (mkF m 28 #[.val (.ref a1), .val (.int p2), .val (.ref h0.size)] [(.ref h0.size), (.int (XT.ushr p2 (6 : Int32))), (.ref b)]))
    obtain ⟨T4, h4, X4, e4, W4, st4⟩ := stR X3 hx hZ e3 (G.ext E2).1 (j := XT.ushr p2 (6 : Int32)) (own_in hJ (by rw [G.2.2.2.1]; exact hJn)) rfl (Sto.ofVA (G.ext E2).1 G.2.1 O (Ins.self B2)) (g := (mkF m 28 #[.val (.ref a1), .val (.int p2), .val (.ref h0.size)] [(.ref h0.size), (.int (XT.ushr p2 (6 : Int32))), (.ref b)])) rfl rfl (hb hby d4_28)
    have N4 := Fr.snoc X4 (Fr.nil n0) G.2.2.1
    obtain ⟨G4, A4⟩ := G.fill E2 A2 hJn z1 W4 hn0
    refine own_via st4 ?_
    show own_Goes p e s below _ _ _ (T4.setTop (mkF m 29 #[.val (.ref a1), .val (.int p2), .val (.ref h0.size)] []))
    refine own_via (fun _ q => XS.aloadN X4.here hx rfl (hb hby d4_29) rfl rfl q) ?_
    show own_Goes p e s below _ _ _ (T4.setTop (mkF m 30 #[.val (.ref a1), .val (.int p2), .val (.ref h0.size)] [(.ref h0.size)]))
    refine own_via (fun _ q => XS.iloadN X4.here hx rfl (hb hby d4_30) rfl q) ?_
    show own_Goes p e s below _ _ _ (T4.setTop (mkF m 31 #[.val (.ref a1), .val (.int p2), .val (.ref h0.size)] [(.int p2), (.ref h0.size)]))
    refine own_via (fun _ q => XT.bipushV X4.here hx rfl (63 : Int32) (hb hby d4_31) rfl q) ?_
    show own_Goes p e s below _ _ _ (T4.setTop (mkF m 33 #[.val (.ref a1), .val (.int p2), .val (.ref h0.size)] [(.int (63 : Int32)), (.int p2), (.ref h0.size)]))
    refine own_via (fun _ q => XS.iand X4.here hx rfl (hb hby d4_33) rfl q) ?_
    show own_Goes p e s below _ _ _ (T4.setTop (mkF m 34 #[.val (.ref a1), .val (.int p2), .val (.ref h0.size)] [(.int (p2 &&& (63 : Int32))), (.ref h0.size)]))
    refine own_via (X4.ldc2Long hx hown (mvT hZ (hw _ (List.mem_of_getElem? (i := 26) rfl))) (g := (mkF m 34 #[.val (.ref a1), .val (.int p2), .val (.ref h0.size)] [(.int (p2 &&& (63 : Int32))), (.ref h0.size)])) rfl (hb hby d4_34)) ?_
    show own_Goes p e s below _ _ _ (T4.setTop (mkF m 37 #[.val (.ref a1), .val (.int p2), .val (.ref h0.size)] [(.long (-9223372036854775808 : Int64)), (.int (p2 &&& (63 : Int32))), (.ref h0.size)]))
    obtain ⟨T5, h5, X5, e5, W5, st5⟩ := stJ X4 hx hZ e4 A4 (j := p2 &&& (63 : Int32)) (own_in hI (by rw [sz_new]; exact hI64)) (g := (mkF m 37 #[.val (.ref a1), .val (.int p2), .val (.ref h0.size)] [(.long (-9223372036854775808 : Int64)), (.int (p2 &&& (63 : Int32))), (.ref h0.size)])) rfl rfl (hb hby d4_37)
    have N5 := Fr.snoc X5 N4 hn0
    refine own_via st5 ?_
    show own_Goes p e s below _ _ _ (T5.setTop (mkF m 38 #[.val (.ref a1), .val (.int p2), .val (.ref h0.size)] []))
    exact own_ret0 X5 hx hret hlk (hb hby d4_38) (by decide) (by decide) ⟨rfl, N5, by rw [e5]; exact ⟨((E.ext E2).wr W4).wr W5, ha, b, kA, _, ((Fb.ext E2).other W4 (Or.inl (ne_arr (E.ext E2) (hw _ (List.mem_of_getElem? (i := 6) rfl)) (G.ext E2).1))).other W5 (Or.inl (ne_arr ((E.ext E2).wr W4) (hw _ (List.mem_of_getElem? (i := 6) rfl)) A4)), O, own_re hJI (G4.set (own_put (by rw [G.2.2.2.1]; exact hJn)) A4 hI64 W5)⟩⟩
  · show own_Goes p e s below _ _ _ (T1.setTop (mkF m 8 #[.val (.ref a1), .val (.int p2), .unset] [(.int (XT.ushr p2 (6 : Int32))), (.ref b)]))
    refine own_via (fun t q => X1.aaload hx (j := XT.ushr p2 (6 : Int32)) (v := (.ref x)) (by rw [e1]; exact G.1.1) (State.isArrayOf_alike hZ.alike G.1.2.1) rfl G.1.2.2 (own_in hJ (by rw [G.2.2.2.1]; exact hJn)) z1 (g := (mkF m 8 #[.val (.ref a1), .val (.int p2), .unset] [(.int (XT.ushr p2 (6 : Int32))), (.ref b)])) rfl rfl (hb hby d4_8) t q) ?_
    show own_Goes p e s below _ _ _ (T1.setTop (mkF m 9 #[.val (.ref a1), .val (.int p2), .unset] [(.ref x)]))
    refine own_via (fun _ q => XS.astoreN X1.here hx rfl (hb hby d4_9) rfl rfl (l' := #[.val (.ref a1), .val (.int p2), .val (.ref x)]) rfl q) ?_
    show own_Goes p e s below _ _ _ (T1.setTop (mkF m 10 #[.val (.ref a1), .val (.int p2), .val (.ref x)] []))
    refine own_via (fun _ q => XS.aloadN X1.here hx rfl (hb hby d4_10) rfl rfl q) ?_
    show own_Goes p e s below _ _ _ (T1.setTop (mkF m 11 #[.val (.ref a1), .val (.int p2), .val (.ref x)] [(.ref x)]))
    refine own_via (fun _ q => XT.ifnonnullYes X1.here hx rfl (pc0 := 11) (pc' := 29) rfl (hb hby d4_11) rfl (by decide) (by decide) q) ?_
    show own_Goes p e s below _ _ _ (T1.setTop (mkF m 29 #[.val (.ref a1), .val (.int p2), .val (.ref x)] []))
    refine own_via (fun _ q => XS.aloadN X1.here hx rfl (hb hby d4_29) rfl rfl q) ?_
    show own_Goes p e s below _ _ _ (T1.setTop (mkF m 30 #[.val (.ref a1), .val (.int p2), .val (.ref x)] [(.ref x)]))
    refine own_via (fun _ q => XS.iloadN X1.here hx rfl (hb hby d4_30) rfl q) ?_
    show own_Goes p e s below _ _ _ (T1.setTop (mkF m 31 #[.val (.ref a1), .val (.int p2), .val (.ref x)] [(.int p2), (.ref x)]))
    refine own_via (fun _ q => XT.bipushV X1.here hx rfl (63 : Int32) (hb hby d4_31) rfl q) ?_
    show own_Goes p e s below _ _ _ (T1.setTop (mkF m 33 #[.val (.ref a1), .val (.int p2), .val (.ref x)] [(.int (63 : Int32)), (.int p2), (.ref x)]))
    refine own_via (fun _ q => XS.iand X1.here hx rfl (hb hby d4_33) rfl q) ?_
    show own_Goes p e s below _ _ _ (T1.setTop (mkF m 34 #[.val (.ref a1), .val (.int p2), .val (.ref x)] [(.int (p2 &&& (63 : Int32))), (.ref x)]))
    refine own_via (X1.ldc2Long hx hown (mvT hZ (hw _ (List.mem_of_getElem? (i := 26) rfl))) (g := (mkF m 34 #[.val (.ref a1), .val (.int p2), .val (.ref x)] [(.int (p2 &&& (63 : Int32))), (.ref x)])) rfl (hb hby d4_34)) ?_
    show own_Goes p e s below _ _ _ (T1.setTop (mkF m 37 #[.val (.ref a1), .val (.int p2), .val (.ref x)] [(.long (-9223372036854775808 : Int64)), (.int (p2 &&& (63 : Int32))), (.ref x)]))
    obtain ⟨T6, h6, X6, e6, W6, st6⟩ := stJ X1 hx hZ e1 A (j := p2 &&& (63 : Int32)) (own_in hI (by rw [zs]; exact hI64)) (g := (mkF m 37 #[.val (.ref a1), .val (.int p2), .val (.ref x)] [(.long (-9223372036854775808 : Int64)), (.int (p2 &&& (63 : Int32))), (.ref x)])) rfl rfl (hb hby d4_37)
    have N6 := Fr.snoc X6 (Fr.nil n0) hx0
    refine own_via st6 ?_
    show own_Goes p e s below _ _ _ (T6.setTop (mkF m 38 #[.val (.ref a1), .val (.int p2), .val (.ref x)] []))
    exact own_ret0 X6 hx hret hlk (hb hby d4_38) (by decide) (by decide) ⟨rfl, N6, by rw [e6]; exact ⟨E.wr W6, ha, b, kA, _, Fb.other W6 (Or.inl (ne_arr E (hw _ (List.mem_of_getElem? (i := 6) rfl)) A)), O, own_re hJI (G.set z1 A hI64 W6)⟩⟩
theorem d6_0 : decode prog_59_method_7_code 0 = .ok (.lload_n 0, 1) := by decide +kernel
theorem d6_1 : decode prog_59_method_7_code 1 = .ok (.ldc2_w 23, 3) := by decide +kernel
theorem d6_4 : decode prog_59_method_7_code 4 = .ok (.land, 1) := by decide +kernel
theorem d6_5 : decode prog_59_method_7_code 5 = .ok (.lconst 0, 1) := by decide +kernel
theorem d6_6 : decode prog_59_method_7_code 6 = .ok (.lcmp, 1) := by decide +kernel
theorem d6_7 : decode prog_59_method_7_code 7 = .ok (.ifCond .eq 7, 3) := by decide +kernel
theorem d6_10 : decode prog_59_method_7_code 10 = .ok (.iconst 1, 1) := by decide +kernel
theorem d6_11 : decode prog_59_method_7_code 11 = .ok (.goto 4, 3) := by decide +kernel
theorem d6_14 : decode prog_59_method_7_code 14 = .ok (.iconst 0, 1) := by decide +kernel
theorem d6_15 : decode prog_59_method_7_code 15 = .ok (.ireturn, 1) := by decide +kernel
theorem pn_6 : plainName "com/example/songpool/songpool/table/CrowdedHomes" = true := by first | (simp [plainName, overriddenIn]; done) | decide +kernel
theorem ef_6 (m : MethodId) (q1 : Int64) : entryFrame m #[(.long q1)] 2 = mkF m 0 #[.val (.long q1), .second] [] := by first | (simp [entryFrame, mkF, argsToLocals, Value.category]; done) | rfl
set_option maxRecDepth 65536 in
set_option maxHeartbeats 40000000 in
theorem rm6 (l : Launch) (Z : State) (a0 : Array Value) (hw : ∀ d ∈ tables_1, d.before a0 Z = true) (ws : List Jvm.Cond) (q1 : Int64) (r : Int32) (h0 : Heap) (n0 : Nat) (hr : (if (q1 &&& (4611686018427387904 : Int64)) = (0 : Int64) then (0 : Int32) else 1) = r) :
    own_Met l Z (⟨"com/example/songpool/songpool/table/CrowdedHomes", "isCrowd", "(J)Z"⟩ : MethodName) prog_59_method_7_code 2 (some .boolean) ws ({ frames := 0, cells := 0, slots := 0, locals := 0 } : Room) #[(.long q1)] h0 (own_Pure (.int r) h0 n0) := by
  refine own_met (plainFor_of_name pn_6) ?_
  intro p e s m below meth c s₁ C X0 e0
  obtain ⟨hx, hZ, hby, hml, hown, hret, hlk, hnm⟩ := C
  rw [ef_6]
  show own_Goes p e s below _ _ _ (s₁.setTop (mkF m 0 #[.val (.long q1), .second] []))
  refine own_via (fun _ q => XT.lloadN X0.here hx rfl (hb hby d6_0) rfl q) ?_
  show own_Goes p e s below _ _ _ (s₁.setTop (mkF m 1 #[.val (.long q1), .second] [(.long q1)]))
  refine own_via (X0.ldc2Long hx hown (mvT hZ (hw _ (List.mem_of_getElem? (i := 35) rfl))) (g := (mkF m 1 #[.val (.long q1), .second] [(.long q1)])) rfl (hb hby d6_1)) ?_
  show own_Goes p e s below _ _ _ (s₁.setTop (mkF m 4 #[.val (.long q1), .second] [(.long (4611686018427387904 : Int64)), (.long q1)]))
  refine own_via (fun _ q => XT.land X0.here hx rfl (hb hby d6_4) rfl q) ?_
  show own_Goes p e s below _ _ _ (s₁.setTop (mkF m 5 #[.val (.long q1), .second] [(.long (q1 &&& (4611686018427387904 : Int64)))]))
  refine own_via (fun _ q => XT.lconstV X0.here hx rfl (0 : Int64) (hb hby d6_5) rfl q) ?_
  show own_Goes p e s below _ _ _ (s₁.setTop (mkF m 6 #[.val (.long q1), .second] [(.long (0 : Int64)), (.long (q1 &&& (4611686018427387904 : Int64)))]))
  refine own_via (fun _ q => XT.lcmp X0.here hx rfl (hb hby d6_6) rfl q) ?_
  show own_Goes p e s below _ _ _ (s₁.setTop (mkF m 7 #[.val (.long q1), .second] [(.int (XT.cmpL (q1 &&& (4611686018427387904 : Int64)) (0 : Int64)))]))
  by_cases hk7_1 : (q1 &&& (4611686018427387904 : Int64)) = (0 : Int64)
  · refine own_via (fun _ q => XS.ifYes X0.here hx rfl (pc0 := 7) (pc' := 14) rfl (hb hby d6_7) rfl (XT.ll_eq_t hk7_1) (by decide) (by decide) q) ?_
    show own_Goes p e s below _ _ _ (s₁.setTop (mkF m 14 #[.val (.long q1), .second] []))
    refine own_via (fun _ q => XT.iconstV X0.here hx rfl (0 : Int32) (hb hby d6_14) rfl q) ?_
    show own_Goes p e s below _ _ _ (s₁.setTop (mkF m 15 #[.val (.long q1), .second] [(.int (0 : Int32))]))
    exact own_retN X0 hx (t := .boolean) hret (by simp) hlk (hb hby d6_15) (by decide) (by decide) ⟨by subst hr; simp [hk7_1, own_narT, own_narF], (Fr.nil n0), e0⟩
  · refine own_via (fun _ q => XS.ifNo X0.here hx rfl (hb hby d6_7) rfl (XT.ll_eq_f hk7_1) q) ?_
    show own_Goes p e s below _ _ _ (s₁.setTop (mkF m 10 #[.val (.long q1), .second] []))
    refine own_via (fun _ q => XT.iconstV X0.here hx rfl (1 : Int32) (hb hby d6_10) rfl q) ?_
    show own_Goes p e s below _ _ _ (s₁.setTop (mkF m 11 #[.val (.long q1), .second] [(.int (1 : Int32))]))
    refine own_via (fun _ q => XS.goto X0.here hx rfl (pc0 := 11) (pc' := 15) rfl (hb hby d6_11) (by decide) (by decide) q) ?_
    show own_Goes p e s below _ _ _ (s₁.setTop (mkF m 15 #[.val (.long q1), .second] [(.int (1 : Int32))]))
    exact own_retN X0 hx (t := .boolean) hret (by simp) hlk (hb hby d6_15) (by decide) (by decide) ⟨by subst hr; simp [hk7_1, own_narT, own_narF], (Fr.nil n0), e0⟩
theorem d9_0 : decode prog_59_method_10_code 0 = .ok (.lload_n 0, 1) := by decide +kernel
theorem d9_1 : decode prog_59_method_10_code 1 = .ok (.ldc2_w 27, 3) := by decide +kernel
theorem d9_4 : decode prog_59_method_10_code 4 = .ok (.land, 1) := by decide +kernel
theorem d9_5 : decode prog_59_method_10_code 5 = .ok (.lconst 0, 1) := by decide +kernel
theorem d9_6 : decode prog_59_method_10_code 6 = .ok (.lcmp, 1) := by decide +kernel
theorem d9_7 : decode prog_59_method_10_code 7 = .ok (.ifCond .eq 7, 3) := by decide +kernel
theorem d9_10 : decode prog_59_method_10_code 10 = .ok (.iconst 1, 1) := by decide +kernel
theorem d9_11 : decode prog_59_method_10_code 11 = .ok (.goto 4, 3) := by decide +kernel
theorem d9_14 : decode prog_59_method_10_code 14 = .ok (.iconst 0, 1) := by decide +kernel
theorem d9_15 : decode prog_59_method_10_code 15 = .ok (.ireturn, 1) := by decide +kernel
theorem pn_9 : plainName "com/example/songpool/songpool/table/CrowdedHomes" = true := by first | (simp [plainName, overriddenIn]; done) | decide +kernel
theorem ef_9 (m : MethodId) (q1 : Int64) : entryFrame m #[(.long q1)] 2 = mkF m 0 #[.val (.long q1), .second] [] := by first | (simp [entryFrame, mkF, argsToLocals, Value.category]; done) | rfl
set_option maxRecDepth 65536 in
set_option maxHeartbeats 40000000 in
theorem rm9 (l : Launch) (Z : State) (a0 : Array Value) (hw : ∀ d ∈ tables_1, d.before a0 Z = true) (ws : List Jvm.Cond) (q1 : Int64) (r : Int32) (h0 : Heap) (n0 : Nat) (hr : (if (q1 &&& (2147483648 : Int64)) = (0 : Int64) then (0 : Int32) else 1) = r) :
    own_Met l Z (⟨"com/example/songpool/songpool/table/CrowdedHomes", "isFar", "(J)Z"⟩ : MethodName) prog_59_method_10_code 2 (some .boolean) ws ({ frames := 0, cells := 0, slots := 0, locals := 0 } : Room) #[(.long q1)] h0 (own_Pure (.int r) h0 n0) := by
  refine own_met (plainFor_of_name pn_9) ?_
  intro p e s m below meth c s₁ C X0 e0
  obtain ⟨hx, hZ, hby, hml, hown, hret, hlk, hnm⟩ := C
  rw [ef_9]
  show own_Goes p e s below _ _ _ (s₁.setTop (mkF m 0 #[.val (.long q1), .second] []))
  refine own_via (fun _ q => XT.lloadN X0.here hx rfl (hb hby d9_0) rfl q) ?_
  show own_Goes p e s below _ _ _ (s₁.setTop (mkF m 1 #[.val (.long q1), .second] [(.long q1)]))
  refine own_via (X0.ldc2Long hx hown (mvT hZ (hw _ (List.mem_of_getElem? (i := 46) rfl))) (g := (mkF m 1 #[.val (.long q1), .second] [(.long q1)])) rfl (hb hby d9_1)) ?_
  show own_Goes p e s below _ _ _ (s₁.setTop (mkF m 4 #[.val (.long q1), .second] [(.long (2147483648 : Int64)), (.long q1)]))
  refine own_via (fun _ q => XT.land X0.here hx rfl (hb hby d9_4) rfl q) ?_
  show own_Goes p e s below _ _ _ (s₁.setTop (mkF m 5 #[.val (.long q1), .second] [(.long (q1 &&& (2147483648 : Int64)))]))
  refine own_via (fun _ q => XT.lconstV X0.here hx rfl (0 : Int64) (hb hby d9_5) rfl q) ?_
  show own_Goes p e s below _ _ _ (s₁.setTop (mkF m 6 #[.val (.long q1), .second] [(.long (0 : Int64)), (.long (q1 &&& (2147483648 : Int64)))]))
  refine own_via (fun _ q => XT.lcmp X0.here hx rfl (hb hby d9_6) rfl q) ?_
  show own_Goes p e s below _ _ _ (s₁.setTop (mkF m 7 #[.val (.long q1), .second] [(.int (XT.cmpL (q1 &&& (2147483648 : Int64)) (0 : Int64)))]))
  by_cases hk7_1 : (q1 &&& (2147483648 : Int64)) = (0 : Int64)
  · refine own_via (fun _ q => XS.ifYes X0.here hx rfl (pc0 := 7) (pc' := 14) rfl (hb hby d9_7) rfl (XT.ll_eq_t hk7_1) (by decide) (by decide) q) ?_
    show own_Goes p e s below _ _ _ (s₁.setTop (mkF m 14 #[.val (.long q1), .second] []))
    refine own_via (fun _ q => XT.iconstV X0.here hx rfl (0 : Int32) (hb hby d9_14) rfl q) ?_
    show own_Goes p e s below _ _ _ (s₁.setTop (mkF m 15 #[.val (.long q1), .second] [(.int (0 : Int32))]))
    exact own_retN X0 hx (t := .boolean) hret (by simp) hlk (hb hby d9_15) (by decide) (by decide) ⟨by subst hr; simp [hk7_1, own_narT, own_narF], (Fr.nil n0), e0⟩
  · refine own_via (fun _ q => XS.ifNo X0.here hx rfl (hb hby d9_7) rfl (XT.ll_eq_f hk7_1) q) ?_
    show own_Goes p e s below _ _ _ (s₁.setTop (mkF m 10 #[.val (.long q1), .second] []))
    refine own_via (fun _ q => XT.iconstV X0.here hx rfl (1 : Int32) (hb hby d9_10) rfl q) ?_
    show own_Goes p e s below _ _ _ (s₁.setTop (mkF m 11 #[.val (.long q1), .second] [(.int (1 : Int32))]))
    refine own_via (fun _ q => XS.goto X0.here hx rfl (pc0 := 11) (pc' := 15) rfl (hb hby d9_11) (by decide) (by decide) q) ?_
    show own_Goes p e s below _ _ _ (s₁.setTop (mkF m 15 #[.val (.long q1), .second] [(.int (1 : Int32))]))
    exact own_retN X0 hx (t := .boolean) hret (by simp) hlk (hb hby d9_15) (by decide) (by decide) ⟨by subst hr; simp [hk7_1, own_narT, own_narF], (Fr.nil n0), e0⟩
theorem d10_0 : decode prog_59_method_11_code 0 = .ok (.lload_n 0, 1) := by decide +kernel
theorem d10_1 : decode prog_59_method_11_code 1 = .ok (.ldc2_w 29, 3) := by decide +kernel
theorem d10_4 : decode prog_59_method_11_code 4 = .ok (.land, 1) := by decide +kernel
theorem d10_5 : decode prog_59_method_11_code 5 = .ok (.lconst 0, 1) := by decide +kernel
theorem d10_6 : decode prog_59_method_11_code 6 = .ok (.lcmp, 1) := by decide +kernel
theorem d10_7 : decode prog_59_method_11_code 7 = .ok (.ifCond .eq 7, 3) := by decide +kernel
theorem d10_10 : decode prog_59_method_11_code 10 = .ok (.iconst 1, 1) := by decide +kernel
theorem d10_11 : decode prog_59_method_11_code 11 = .ok (.goto 4, 3) := by decide +kernel
theorem d10_14 : decode prog_59_method_11_code 14 = .ok (.iconst 0, 1) := by decide +kernel
theorem d10_15 : decode prog_59_method_11_code 15 = .ok (.ireturn, 1) := by decide +kernel
theorem pn_10 : plainName "com/example/songpool/songpool/table/CrowdedHomes" = true := by first | (simp [plainName, overriddenIn]; done) | decide +kernel
theorem ef_10 (m : MethodId) (q1 : Int64) : entryFrame m #[(.long q1)] 2 = mkF m 0 #[.val (.long q1), .second] [] := by first | (simp [entryFrame, mkF, argsToLocals, Value.category]; done) | rfl
set_option maxRecDepth 65536 in
set_option maxHeartbeats 40000000 in
theorem rm10 (l : Launch) (Z : State) (a0 : Array Value) (hw : ∀ d ∈ tables_1, d.before a0 Z = true) (ws : List Jvm.Cond) (q1 : Int64) (r : Int32) (h0 : Heap) (n0 : Nat) (hr : (if (q1 &&& (1073741824 : Int64)) = (0 : Int64) then (0 : Int32) else 1) = r) :
    own_Met l Z (⟨"com/example/songpool/songpool/table/CrowdedHomes", "hasFreed", "(J)Z"⟩ : MethodName) prog_59_method_11_code 2 (some .boolean) ws ({ frames := 0, cells := 0, slots := 0, locals := 0 } : Room) #[(.long q1)] h0 (own_Pure (.int r) h0 n0) := by
  refine own_met (plainFor_of_name pn_10) ?_
  intro p e s m below meth c s₁ C X0 e0
  obtain ⟨hx, hZ, hby, hml, hown, hret, hlk, hnm⟩ := C
  rw [ef_10]
  show own_Goes p e s below _ _ _ (s₁.setTop (mkF m 0 #[.val (.long q1), .second] []))
  refine own_via (fun _ q => XT.lloadN X0.here hx rfl (hb hby d10_0) rfl q) ?_
  show own_Goes p e s below _ _ _ (s₁.setTop (mkF m 1 #[.val (.long q1), .second] [(.long q1)]))
  refine own_via (X0.ldc2Long hx hown (mvT hZ (hw _ (List.mem_of_getElem? (i := 50) rfl))) (g := (mkF m 1 #[.val (.long q1), .second] [(.long q1)])) rfl (hb hby d10_1)) ?_
  show own_Goes p e s below _ _ _ (s₁.setTop (mkF m 4 #[.val (.long q1), .second] [(.long (1073741824 : Int64)), (.long q1)]))
  refine own_via (fun _ q => XT.land X0.here hx rfl (hb hby d10_4) rfl q) ?_
  show own_Goes p e s below _ _ _ (s₁.setTop (mkF m 5 #[.val (.long q1), .second] [(.long (q1 &&& (1073741824 : Int64)))]))
  refine own_via (fun _ q => XT.lconstV X0.here hx rfl (0 : Int64) (hb hby d10_5) rfl q) ?_
  show own_Goes p e s below _ _ _ (s₁.setTop (mkF m 6 #[.val (.long q1), .second] [(.long (0 : Int64)), (.long (q1 &&& (1073741824 : Int64)))]))
  refine own_via (fun _ q => XT.lcmp X0.here hx rfl (hb hby d10_6) rfl q) ?_
  show own_Goes p e s below _ _ _ (s₁.setTop (mkF m 7 #[.val (.long q1), .second] [(.int (XT.cmpL (q1 &&& (1073741824 : Int64)) (0 : Int64)))]))
  by_cases hk7_1 : (q1 &&& (1073741824 : Int64)) = (0 : Int64)
  · refine own_via (fun _ q => XS.ifYes X0.here hx rfl (pc0 := 7) (pc' := 14) rfl (hb hby d10_7) rfl (XT.ll_eq_t hk7_1) (by decide) (by decide) q) ?_
    show own_Goes p e s below _ _ _ (s₁.setTop (mkF m 14 #[.val (.long q1), .second] []))
    refine own_via (fun _ q => XT.iconstV X0.here hx rfl (0 : Int32) (hb hby d10_14) rfl q) ?_
    show own_Goes p e s below _ _ _ (s₁.setTop (mkF m 15 #[.val (.long q1), .second] [(.int (0 : Int32))]))
    exact own_retN X0 hx (t := .boolean) hret (by simp) hlk (hb hby d10_15) (by decide) (by decide) ⟨by subst hr; simp [hk7_1, own_narT, own_narF], (Fr.nil n0), e0⟩
  · refine own_via (fun _ q => XS.ifNo X0.here hx rfl (hb hby d10_7) rfl (XT.ll_eq_f hk7_1) q) ?_
    show own_Goes p e s below _ _ _ (s₁.setTop (mkF m 10 #[.val (.long q1), .second] []))
    refine own_via (fun _ q => XT.iconstV X0.here hx rfl (1 : Int32) (hb hby d10_10) rfl q) ?_
    show own_Goes p e s below _ _ _ (s₁.setTop (mkF m 11 #[.val (.long q1), .second] [(.int (1 : Int32))]))
    refine own_via (fun _ q => XS.goto X0.here hx rfl (pc0 := 11) (pc' := 15) rfl (hb hby d10_11) (by decide) (by decide) q) ?_
    show own_Goes p e s below _ _ _ (s₁.setTop (mkF m 15 #[.val (.long q1), .second] [(.int (1 : Int32))]))
    exact own_retN X0 hx (t := .boolean) hret (by simp) hlk (hb hby d10_15) (by decide) (by decide) ⟨by subst hr; simp [hk7_1, own_narT, own_narF], (Fr.nil n0), e0⟩
theorem d7_0 : decode prog_59_method_8_code 0 = .ok (.lload_n 0, 1) := by decide +kernel
theorem d7_1 : decode prog_59_method_8_code 1 = .ok (.ldc2_w 25, 3) := by decide +kernel
theorem d7_4 : decode prog_59_method_8_code 4 = .ok (.land, 1) := by decide +kernel
theorem d7_5 : decode prog_59_method_8_code 5 = .ok (.l2i, 1) := by decide +kernel
theorem d7_6 : decode prog_59_method_8_code 6 = .ok (.ireturn, 1) := by decide +kernel
theorem pn_7 : plainName "com/example/songpool/songpool/table/CrowdedHomes" = true := by first | (simp [plainName, overriddenIn]; done) | decide +kernel
theorem ef_7 (m : MethodId) (q1 : Int64) : entryFrame m #[(.long q1)] 2 = mkF m 0 #[.val (.long q1), .second] [] := by first | (simp [entryFrame, mkF, argsToLocals, Value.category]; done) | rfl
set_option maxRecDepth 65536 in
set_option maxHeartbeats 40000000 in
theorem rm7 (l : Launch) (Z : State) (a0 : Array Value) (hw : ∀ d ∈ tables_1, d.before a0 Z = true) (ws : List Jvm.Cond) (q1 : Int64) (r : Int32) (h0 : Heap) (n0 : Nat) (hr : (q1 &&& (1073741823 : Int64)).toInt32 = r) :
    own_Met l Z (⟨"com/example/songpool/songpool/table/CrowdedHomes", "reach", "(J)I"⟩ : MethodName) prog_59_method_8_code 2 (some .int) ws ({ frames := 0, cells := 0, slots := 0, locals := 0 } : Room) #[(.long q1)] h0 (own_Pure (.int r) h0 n0) := by
  refine own_met (plainFor_of_name pn_7) ?_
  intro p e s m below meth c s₁ C X0 e0
  obtain ⟨hx, hZ, hby, hml, hown, hret, hlk, hnm⟩ := C
  rw [ef_7]
  show own_Goes p e s below _ _ _ (s₁.setTop (mkF m 0 #[.val (.long q1), .second] []))
  refine own_via (fun _ q => XT.lloadN X0.here hx rfl (hb hby d7_0) rfl q) ?_
  show own_Goes p e s below _ _ _ (s₁.setTop (mkF m 1 #[.val (.long q1), .second] [(.long q1)]))
  refine own_via (X0.ldc2Long hx hown (mvT hZ (hw _ (List.mem_of_getElem? (i := 39) rfl))) (g := (mkF m 1 #[.val (.long q1), .second] [(.long q1)])) rfl (hb hby d7_1)) ?_
  show own_Goes p e s below _ _ _ (s₁.setTop (mkF m 4 #[.val (.long q1), .second] [(.long (1073741823 : Int64)), (.long q1)]))
  refine own_via (fun _ q => XT.land X0.here hx rfl (hb hby d7_4) rfl q) ?_
  show own_Goes p e s below _ _ _ (s₁.setTop (mkF m 5 #[.val (.long q1), .second] [(.long (q1 &&& (1073741823 : Int64)))]))
  refine own_via (fun _ q => XT.l2i X0.here hx rfl (hb hby d7_5) rfl q) ?_
  show own_Goes p e s below _ _ _ (s₁.setTop (mkF m 6 #[.val (.long q1), .second] [(.int (((q1 &&& (1073741823 : Int64))).toInt32))]))
  exact own_retI X0 hx hret hlk (hb hby d7_6) (by decide) (by decide) ⟨by rw [← hr], (Fr.nil n0), e0⟩
theorem d8_0 : decode prog_59_method_9_code 0 = .ok (.lload_n 0, 1) := by decide +kernel
theorem d8_1 : decode prog_59_method_9_code 1 = .ok (.bipush 32, 2) := by decide +kernel
theorem d8_3 : decode prog_59_method_9_code 3 = .ok (.lushr, 1) := by decide +kernel
theorem d8_4 : decode prog_59_method_9_code 4 = .ok (.ldc2_w 25, 3) := by decide +kernel
theorem d8_7 : decode prog_59_method_9_code 7 = .ok (.land, 1) := by decide +kernel
theorem d8_8 : decode prog_59_method_9_code 8 = .ok (.l2i, 1) := by decide +kernel
theorem d8_9 : decode prog_59_method_9_code 9 = .ok (.ireturn, 1) := by decide +kernel
theorem pn_8 : plainName "com/example/songpool/songpool/table/CrowdedHomes" = true := by first | (simp [plainName, overriddenIn]; done) | decide +kernel
theorem ef_8 (m : MethodId) (q1 : Int64) : entryFrame m #[(.long q1)] 2 = mkF m 0 #[.val (.long q1), .second] [] := by first | (simp [entryFrame, mkF, argsToLocals, Value.category]; done) | rfl
set_option maxRecDepth 65536 in
set_option maxHeartbeats 40000000 in
theorem rm8 (l : Launch) (Z : State) (a0 : Array Value) (hw : ∀ d ∈ tables_1, d.before a0 Z = true) (ws : List Jvm.Cond) (q1 : Int64) (r : Int32) (h0 : Heap) (n0 : Nat) (hr : ((XT.ushrL q1 (32 : Int32)) &&& (1073741823 : Int64)).toInt32 = r) :
    own_Met l Z (⟨"com/example/songpool/songpool/table/CrowdedHomes", "names", "(J)I"⟩ : MethodName) prog_59_method_9_code 2 (some .int) ws ({ frames := 0, cells := 0, slots := 0, locals := 0 } : Room) #[(.long q1)] h0 (own_Pure (.int r) h0 n0) := by
  refine own_met (plainFor_of_name pn_8) ?_
  intro p e s m below meth c s₁ C X0 e0
  obtain ⟨hx, hZ, hby, hml, hown, hret, hlk, hnm⟩ := C
  rw [ef_8]
  show own_Goes p e s below _ _ _ (s₁.setTop (mkF m 0 #[.val (.long q1), .second] []))
  refine own_via (fun _ q => XT.lloadN X0.here hx rfl (hb hby d8_0) rfl q) ?_
  show own_Goes p e s below _ _ _ (s₁.setTop (mkF m 1 #[.val (.long q1), .second] [(.long q1)]))
  refine own_via (fun _ q => XT.bipushV X0.here hx rfl (32 : Int32) (hb hby d8_1) rfl q) ?_
  show own_Goes p e s below _ _ _ (s₁.setTop (mkF m 3 #[.val (.long q1), .second] [(.int (32 : Int32)), (.long q1)]))
  refine own_via (fun _ q => XT.lushr X0.here hx rfl (hb hby d8_3) rfl q) ?_
  show own_Goes p e s below _ _ _ (s₁.setTop (mkF m 4 #[.val (.long q1), .second] [(.long (XT.ushrL q1 (32 : Int32)))]))
  refine own_via (X0.ldc2Long hx hown (mvT hZ (hw _ (List.mem_of_getElem? (i := 39) rfl))) (g := (mkF m 4 #[.val (.long q1), .second] [(.long (XT.ushrL q1 (32 : Int32)))])) rfl (hb hby d8_4)) ?_
  show own_Goes p e s below _ _ _ (s₁.setTop (mkF m 7 #[.val (.long q1), .second] [(.long (1073741823 : Int64)), (.long (XT.ushrL q1 (32 : Int32)))]))
  refine own_via (fun _ q => XT.land X0.here hx rfl (hb hby d8_7) rfl q) ?_
  show own_Goes p e s below _ _ _ (s₁.setTop (mkF m 8 #[.val (.long q1), .second] [(.long ((XT.ushrL q1 (32 : Int32)) &&& (1073741823 : Int64)))]))
  refine own_via (fun _ q => XT.l2i X0.here hx rfl (hb hby d8_8) rfl q) ?_
  show own_Goes p e s below _ _ _ (s₁.setTop (mkF m 9 #[.val (.long q1), .second] [(.int ((((XT.ushrL q1 (32 : Int32)) &&& (1073741823 : Int64))).toInt32))]))
  exact own_retI X0 hx hret hlk (hb hby d8_9) (by decide) (by decide) ⟨by rw [← hr], (Fr.nil n0), e0⟩
theorem d1_0 : decode method_3_code 0 = .ok (.iload_n 3, 1) := by decide +kernel
theorem d1_1 : decode method_3_code 1 = .ok (.ifCond .eq 27, 3) := by decide +kernel
theorem d1_4 : decode method_3_code 4 = .ok (.iload_n 0, 1) := by decide +kernel
theorem d1_5 : decode method_3_code 5 = .ok (.bipush (-64), 2) := by decide +kernel
theorem d1_7 : decode method_3_code 7 = .ok (.iand, 1) := by decide +kernel
theorem d1_8 : decode method_3_code 8 = .ok (.iload_n 1, 1) := by decide +kernel
theorem d1_9 : decode method_3_code 9 = .ok (.bipush 63, 2) := by decide +kernel
theorem d1_11 : decode method_3_code 11 = .ok (.iand, 1) := by decide +kernel
theorem d1_12 : decode method_3_code 12 = .ok (.ior, 1) := by decide +kernel
theorem d1_13 : decode method_3_code 13 = .ok (.istore 4, 2) := by decide +kernel
theorem d1_15 : decode method_3_code 15 = .ok (.iload 4, 2) := by decide +kernel
theorem d1_17 : decode method_3_code 17 = .ok (.iload_n 2, 1) := by decide +kernel
theorem d1_18 : decode method_3_code 18 = .ok (.if_icmp .ge 8, 3) := by decide +kernel
theorem d1_21 : decode method_3_code 21 = .ok (.iload 4, 2) := by decide +kernel
theorem d1_23 : decode method_3_code 23 = .ok (.goto 4, 3) := by decide +kernel
theorem d1_26 : decode method_3_code 26 = .ok (.iload_n 0, 1) := by decide +kernel
theorem d1_27 : decode method_3_code 27 = .ok (.ireturn, 1) := by decide +kernel
theorem d1_28 : decode method_3_code 28 = .ok (.iload_n 1, 1) := by decide +kernel
theorem d1_29 : decode method_3_code 29 = .ok (.ldc 7, 2) := by decide +kernel
theorem d1_31 : decode method_3_code 31 = .ok (.iand, 1) := by decide +kernel
theorem d1_32 : decode method_3_code 32 = .ok (.iload_n 2, 1) := by decide +kernel
theorem d1_33 : decode method_3_code 33 = .ok (.irem, 1) := by decide +kernel
theorem d1_34 : decode method_3_code 34 = .ok (.ireturn, 1) := by decide +kernel
theorem pn_1 : plainName "com/example/songpool/songpool/table/CrowdedHomesCrowdPinLaw" = true := by first | (simp [plainName, overriddenIn]; done) | decide +kernel
theorem ef_1 (m : MethodId) (p0 : Int32) (p1 : Int32) (p2 : Int32) (p3 : Int32) : entryFrame m #[(.int p0), (.int p1), (.int p2), (.int p3)] 5 = mkF m 0 #[.val (.int p0), .val (.int p1), .val (.int p2), .val (.int p3), .unset] [] := by first | (simp [entryFrame, mkF, argsToLocals, Value.category]; done) | rfl
set_option maxRecDepth 65536 in
set_option maxHeartbeats 40000000 in
theorem rm1 (l : Launch) (Z : State) (a0 : Array Value) (hw : ∀ d ∈ tables_1, d.before a0 Z = true) (ws : List Jvm.Cond) (p0 : Int32) (p1 : Int32) (p2 : Int32) (p3 : Int32)  (h0 : Heap) (n0 : Nat) (H1 : 1 ≤ p2.toInt) (g : 0 ≤ p0.toInt) (u : p0.toInt < p2.toInt) :
    own_Met l Z (⟨"com/example/songpool/songpool/table/CrowdedHomesCrowdPinLaw", "pick", "(IIIZ)I"⟩ : MethodName) method_3_code 5 (some .int) ws ({ frames := 0, cells := 0, slots := 0, locals := 0 } : Room) #[(.int p0), (.int p1), (.int p2), (.int p3)] h0 (own_Some n0 h0 (fun r => 0 ≤ r.toInt ∧ r.toInt < p2.toInt)) := by
  refine own_met (plainFor_of_name pn_1) ?_
  intro p e s m below meth c s₁ C X0 e0
  obtain ⟨hx, hZ, hby, hml, hown, hret, hlk, hnm⟩ := C
  rw [ef_1]
  show own_Goes p e s below _ _ _ (s₁.setTop (mkF m 0 #[.val (.int p0), .val (.int p1), .val (.int p2), .val (.int p3), .unset] []))
  refine own_via (fun _ q => XS.iloadN X0.here hx rfl (hb hby d1_0) rfl q) ?_
  show own_Goes p e s below _ _ _ (s₁.setTop (mkF m 1 #[.val (.int p0), .val (.int p1), .val (.int p2), .val (.int p3), .unset] [(.int p3)]))
  by_cases hk1_1 : p3 = (0 : Int32)
  · refine own_via (fun _ q => XS.ifYes X0.here hx rfl (pc0 := 1) (pc' := 28) rfl (hb hby d1_1) rfl (XT.i0_eq_t hk1_1) (by decide) (by decide) q) ?_
    show own_Goes p e s below _ _ _ (s₁.setTop (mkF m 28 #[.val (.int p0), .val (.int p1), .val (.int p2), .val (.int p3), .unset] []))
    refine own_via (fun _ q => XS.iloadN X0.here hx rfl (hb hby d1_28) rfl q) ?_
    show own_Goes p e s below _ _ _ (s₁.setTop (mkF m 29 #[.val (.int p0), .val (.int p1), .val (.int p2), .val (.int p3), .unset] [(.int p1)]))
    refine own_via (X0.ldcInt hx hown (mvT hZ (hw _ (List.mem_of_getElem? (i := 0) rfl))) (g := (mkF m 29 #[.val (.int p0), .val (.int p1), .val (.int p2), .val (.int p3), .unset] [(.int p1)])) rfl (hb hby d1_29)) ?_
    show own_Goes p e s below _ _ _ (s₁.setTop (mkF m 31 #[.val (.int p0), .val (.int p1), .val (.int p2), .val (.int p3), .unset] [(.int (2147483647 : Int32)), (.int p1)]))
    refine own_via (fun _ q => XS.iand X0.here hx rfl (hb hby d1_31) rfl q) ?_
    show own_Goes p e s below _ _ _ (s₁.setTop (mkF m 32 #[.val (.int p0), .val (.int p1), .val (.int p2), .val (.int p3), .unset] [(.int (p1 &&& (2147483647 : Int32)))]))
    refine own_via (fun _ q => XS.iloadN X0.here hx rfl (hb hby d1_32) rfl q) ?_
    show own_Goes p e s below _ _ _ (s₁.setTop (mkF m 33 #[.val (.int p0), .val (.int p1), .val (.int p2), .val (.int p3), .unset] [(.int p2), (.int (p1 &&& (2147483647 : Int32)))]))
    refine own_via (fun _ q => iremM X0 hx rfl (hb hby d1_33) rfl (own_nz1 H1) q) ?_
    show own_Goes p e s below _ _ _ (s₁.setTop (mkF m 34 #[.val (.int p0), .val (.int p1), .val (.int p2), .val (.int p3), .unset] [(.int ((p1 &&& (2147483647 : Int32)) % p2))]))
    exact own_retI X0 hx hret hlk (hb hby d1_34) (by decide) (by decide) ⟨⟨_, rfl, own_rem p1 H1⟩, (Fr.nil n0), e0⟩
  · refine own_via (fun _ q => XS.ifNo X0.here hx rfl (hb hby d1_1) rfl (XT.i0_eq_f hk1_1) q) ?_
    show own_Goes p e s below _ _ _ (s₁.setTop (mkF m 4 #[.val (.int p0), .val (.int p1), .val (.int p2), .val (.int p3), .unset] []))
    refine own_via (fun _ q => XS.iloadN X0.here hx rfl (hb hby d1_4) rfl q) ?_
    show own_Goes p e s below _ _ _ (s₁.setTop (mkF m 5 #[.val (.int p0), .val (.int p1), .val (.int p2), .val (.int p3), .unset] [(.int p0)]))
    refine own_via (fun _ q => XT.bipushV X0.here hx rfl (-64 : Int32) (hb hby d1_5) rfl q) ?_
    show own_Goes p e s below _ _ _ (s₁.setTop (mkF m 7 #[.val (.int p0), .val (.int p1), .val (.int p2), .val (.int p3), .unset] [(.int (-64 : Int32)), (.int p0)]))
    refine own_via (fun _ q => XS.iand X0.here hx rfl (hb hby d1_7) rfl q) ?_
    show own_Goes p e s below _ _ _ (s₁.setTop (mkF m 8 #[.val (.int p0), .val (.int p1), .val (.int p2), .val (.int p3), .unset] [(.int (p0 &&& (-64 : Int32)))]))
    refine own_via (fun _ q => XS.iloadN X0.here hx rfl (hb hby d1_8) rfl q) ?_
    show own_Goes p e s below _ _ _ (s₁.setTop (mkF m 9 #[.val (.int p0), .val (.int p1), .val (.int p2), .val (.int p3), .unset] [(.int p1), (.int (p0 &&& (-64 : Int32)))]))
    refine own_via (fun _ q => XT.bipushV X0.here hx rfl (63 : Int32) (hb hby d1_9) rfl q) ?_
    show own_Goes p e s below _ _ _ (s₁.setTop (mkF m 11 #[.val (.int p0), .val (.int p1), .val (.int p2), .val (.int p3), .unset] [(.int (63 : Int32)), (.int p1), (.int (p0 &&& (-64 : Int32)))]))
    refine own_via (fun _ q => XS.iand X0.here hx rfl (hb hby d1_11) rfl q) ?_
    show own_Goes p e s below _ _ _ (s₁.setTop (mkF m 12 #[.val (.int p0), .val (.int p1), .val (.int p2), .val (.int p3), .unset] [(.int (p1 &&& (63 : Int32))), (.int (p0 &&& (-64 : Int32)))]))
    refine own_via (fun _ q => XT.ior X0.here hx rfl (hb hby d1_12) rfl q) ?_
    show own_Goes p e s below _ _ _ (s₁.setTop (mkF m 13 #[.val (.int p0), .val (.int p1), .val (.int p2), .val (.int p3), .unset] [(.int ((p0 &&& (-64 : Int32)) ||| (p1 &&& (63 : Int32))))]))
    refine own_via (fun _ q => XS.istore X0.here hx rfl (hb hby d1_13) rfl (l' := #[.val (.int p0), .val (.int p1), .val (.int p2), .val (.int p3), .val (.int ((p0 &&& (-64 : Int32)) ||| (p1 &&& (63 : Int32))))]) rfl q) ?_
    show own_Goes p e s below _ _ _ (s₁.setTop (mkF m 15 #[.val (.int p0), .val (.int p1), .val (.int p2), .val (.int p3), .val (.int ((p0 &&& (-64 : Int32)) ||| (p1 &&& (63 : Int32))))] []))
    refine own_via (fun _ q => XS.iload X0.here hx rfl (hb hby d1_15) rfl q) ?_
    show own_Goes p e s below _ _ _ (s₁.setTop (mkF m 17 #[.val (.int p0), .val (.int p1), .val (.int p2), .val (.int p3), .val (.int ((p0 &&& (-64 : Int32)) ||| (p1 &&& (63 : Int32))))] [(.int ((p0 &&& (-64 : Int32)) ||| (p1 &&& (63 : Int32))))]))
    refine own_via (fun _ q => XS.iloadN X0.here hx rfl (hb hby d1_17) rfl q) ?_
    show own_Goes p e s below _ _ _ (s₁.setTop (mkF m 18 #[.val (.int p0), .val (.int p1), .val (.int p2), .val (.int p3), .val (.int ((p0 &&& (-64 : Int32)) ||| (p1 &&& (63 : Int32))))] [(.int p2), (.int ((p0 &&& (-64 : Int32)) ||| (p1 &&& (63 : Int32))))]))
    by_cases hk18_2 : ((p0 &&& (-64 : Int32)) ||| (p1 &&& (63 : Int32))) < p2
    · refine own_via (fun _ q => XS.icmpNo X0.here hx rfl (hb hby d1_18) rfl (XT.ii_ge_f hk18_2) q) ?_
      show own_Goes p e s below _ _ _ (s₁.setTop (mkF m 21 #[.val (.int p0), .val (.int p1), .val (.int p2), .val (.int p3), .val (.int ((p0 &&& (-64 : Int32)) ||| (p1 &&& (63 : Int32))))] []))
      refine own_via (fun _ q => XS.iload X0.here hx rfl (hb hby d1_21) rfl q) ?_
      show own_Goes p e s below _ _ _ (s₁.setTop (mkF m 23 #[.val (.int p0), .val (.int p1), .val (.int p2), .val (.int p3), .val (.int ((p0 &&& (-64 : Int32)) ||| (p1 &&& (63 : Int32))))] [(.int ((p0 &&& (-64 : Int32)) ||| (p1 &&& (63 : Int32))))]))
      refine own_via (fun _ q => XS.goto X0.here hx rfl (pc0 := 23) (pc' := 27) rfl (hb hby d1_23) (by decide) (by decide) q) ?_
      show own_Goes p e s below _ _ _ (s₁.setTop (mkF m 27 #[.val (.int p0), .val (.int p1), .val (.int p2), .val (.int p3), .val (.int ((p0 &&& (-64 : Int32)) ||| (p1 &&& (63 : Int32))))] [(.int ((p0 &&& (-64 : Int32)) ||| (p1 &&& (63 : Int32))))]))
      exact own_retI X0 hx hret hlk (hb hby d1_27) (by decide) (by decide) ⟨⟨_, rfl, ⟨own_or p1 g, (by rw [Int32.lt_iff_toInt_lt] at hk18_2; exact hk18_2)⟩⟩, (Fr.nil n0), e0⟩
    · refine own_via (fun _ q => XS.icmpYes X0.here hx rfl (pc0 := 18) (pc' := 26) rfl (hb hby d1_18) rfl (XT.ii_ge_t hk18_2) (by decide) (by decide) q) ?_
      show own_Goes p e s below _ _ _ (s₁.setTop (mkF m 26 #[.val (.int p0), .val (.int p1), .val (.int p2), .val (.int p3), .val (.int ((p0 &&& (-64 : Int32)) ||| (p1 &&& (63 : Int32))))] []))
      refine own_via (fun _ q => XS.iloadN X0.here hx rfl (hb hby d1_26) rfl q) ?_
      show own_Goes p e s below _ _ _ (s₁.setTop (mkF m 27 #[.val (.int p0), .val (.int p1), .val (.int p2), .val (.int p3), .val (.int ((p0 &&& (-64 : Int32)) ||| (p1 &&& (63 : Int32))))] [(.int p0)]))
      exact own_retI X0 hx hret hlk (hb hby d1_27) (by decide) (by decide) ⟨⟨_, rfl, ⟨g, u⟩⟩, (Fr.nil n0), e0⟩
set_option maxRecDepth 65536 in
set_option maxHeartbeats 40000000 in
theorem sg60 {p : Program} {l : Launch} {e : Env} {s : State} {m : MethodId} {args : Array Value} {below : List Frame} {meth : Method} {c : Code} {Z : State} {a0 : Array Value} {T0 : State} {locs : List Loc} {h0 : Heap} {n0 : Nat}  (hw : ∀ d ∈ tables_1, d.before a0 Z = true) (C : own_Ctx Z p s m meth c code maxLocals "com/example/songpool/songpool/table/CrowdedHomesCrowdPinLaw" ret "law")
    (X0 : Stand p l e room_1 s m args below meth c T0 locs 0 0) (e0 : T0.heap = h0) (N0 : Fr n0 locs) (p0 p1 p2 p3 p4 n ya yb yc : Int32) (Z0 : n0 ≤ h0.size) (Hn1 : 1 ≤ n.toInt) (Hn : n.toInt ≤ 4096) (g1 : 0 ≤ ya.toInt) (u1 : ya.toInt < n.toInt) (g2 : 0 ≤ yb.toInt) (u2 : yb.toInt < n.toInt) (g3 : 0 ≤ yc.toInt) (u3 : yc.toInt < n.toInt) :
    own_Goes p e s below room_1.cells room_1.slots (own_One n0) (T0.setTop (mkF m 60 #[.val (.int p0), .val (.int p1), .val (.int p2), .val (.int p3), .val (.int p4), .val (.int n), .val (.int ya), .val (.int yb), .unset, .unset, .unset, .unset, .unset, .unset] [(.int yc)])) := by
  obtain ⟨hx, hZ, hby, hml, hown, hret, hlk, hnm⟩ := C
  have Hn0 : 0 ≤ n.toInt := by omega
  refine own_via (fun _ q => XS.istore X0.here hx rfl (hb hby at_60) rfl (l' := #[.val (.int p0), .val (.int p1), .val (.int p2), .val (.int p3), .val (.int p4), .val (.int n), .val (.int ya), .val (.int yb), .val (.int yc), .unset, .unset, .unset, .unset, .unset]) rfl q) ?_
  show own_Goes p e s below _ _ _ (T0.setTop (mkF m 62 #[.val (.int p0), .val (.int p1), .val (.int p2), .val (.int p3), .val (.int p4), .val (.int n), .val (.int ya), .val (.int yb), .val (.int yc), .unset, .unset, .unset, .unset, .unset] []))
  obtain ⟨T1, h1, X1, e1, E1, A1, D1, -, st1⟩ := newO X0 hx hZ hown (hw _ (List.mem_of_getElem? (i := 5) rfl)) (hw _ (List.mem_of_getElem? (i := 6) rfl)) (hw _ (List.mem_of_getElem? (i := 7) rfl)) e0 (g := (mkF m 62 #[.val (.int p0), .val (.int p1), .val (.int p2), .val (.int p3), .val (.int p4), .val (.int n), .val (.int ya), .val (.int yb), .val (.int yc), .unset, .unset, .unset, .unset, .unset] [])) rfl (hb hby at_62) (by decide) (by decide)
  refine own_via st1 ?_
  show own_Goes p e s below _ _ _ (T1.setTop (mkF m 65 #[.val (.int p0), .val (.int p1), .val (.int p2), .val (.int p3), .val (.int p4), .val (.int n), .val (.int ya), .val (.int yb), .val (.int yc), .unset, .unset, .unset, .unset, .unset] [(.ref h0.size)]))
  refine own_via (fun _ q => XS.dup X1.here hx rfl (hb hby at_65) rfl rfl q) ?_
  show own_Goes p e s below _ _ _ (T1.setTop (mkF m 66 #[.val (.int p0), .val (.int p1), .val (.int p2), .val (.int p3), .val (.int p4), .val (.int n), .val (.int ya), .val (.int yb), .val (.int yc), .unset, .unset, .unset, .unset, .unset] [(.ref h0.size), (.ref h0.size)]))
  refine own_via (fun _ q => XS.iload X1.here hx rfl (hb hby at_66) rfl q) ?_
  show own_Goes p e s below _ _ _ (T1.setTop (mkF m 68 #[.val (.int p0), .val (.int p1), .val (.int p2), .val (.int p3), .val (.int p4), .val (.int n), .val (.int ya), .val (.int yb), .val (.int yc), .unset, .unset, .unset, .unset, .unset] [(.int n), (.ref h0.size), (.ref h0.size)]))
  obtain ⟨_, _, ⟨T2, L2, k2, n2⟩, -, X2, ⟨Lc2, hQ2, l2, y2, z2⟩, st2⟩ := X1.specialBack hx (y := (⟨"com/example/songpool/songpool/table/CrowdedHomes", "<init>", "(I)V"⟩ : MethodName)) rfl hown (mvT hZ (hw _ (List.mem_of_getElem? (i := 8) rfl))) (mvT hZ (hw _ (List.mem_of_getElem? (i := 9) rfl))) (mvT hZ (hw _ (List.mem_of_getElem? (i := 10) rfl))) (by decide) (backOf (W := 1) (rm2 l Z a0 hw [] h0.size n h1 n0 (Nat.le_trans Z0 E1.1) Z0 A1 (D1 (Or.inl (hw _ (List.mem_of_getElem? (i := 18) rfl))) (ty := .array (.array .long)) (by decide)) Hn0 Hn) hZ (hw _ (List.mem_of_getElem? (i := 10) rfl)) (hw _ (List.mem_of_getElem? (i := 7) rfl)) (by decide) (by decide)) (g := (mkF m 68 #[.val (.int p0), .val (.int p1), .val (.int p2), .val (.int p3), .val (.int p4), .val (.int n), .val (.int ya), .val (.int yb), .val (.int yc), .unset, .unset, .unset, .unset, .unset] [(.int n), (.ref h0.size), (.ref h0.size)])) rfl (by rw [hml]; rfl) (Steps.refl _) (a := h0.size) (argsL := [(.int n)]) (rest := [(.ref h0.size)]) (lenOf pd__I_V rfl) rfl (by show 2 * 0 + _ ≤ _; exact Nat.le_of_eq rfl) (hb hby at_68) (fun _ _ => ⟨rfl, e1, (by decide : 1 + 1 ≤ _), (by decide : 1 + 64 ≤ _)⟩)
  dsimp only [Pt.U, Pt.locs, Pt.cells, Pt.slots] at X2 l2 y2 z2 st2 hQ2
  subst l2 y2 z2
  obtain ⟨rfl, N2q, hm2⟩ := hQ2
  have N2 := Fr.app N0 N2q
  refine own_on st2 ?_
  show own_Goes p e s below _ _ _ (T2.setTop (mkF m 71 #[.val (.int p0), .val (.int p1), .val (.int p2), .val (.int p3), .val (.int p4), .val (.int n), .val (.int ya), .val (.int yb), .val (.int yc), .unset, .unset, .unset, .unset, .unset] [(.ref h0.size)]))
  refine own_via (fun _ q => XS.astore X2.here hx rfl (hb hby at_71) rfl rfl (l' := #[.val (.int p0), .val (.int p1), .val (.int p2), .val (.int p3), .val (.int p4), .val (.int n), .val (.int ya), .val (.int yb), .val (.int yc), .val (.ref h0.size), .unset, .unset, .unset, .unset]) rfl q) ?_
  show own_Goes p e s below _ _ _ (T2.setTop (mkF m 73 #[.val (.int p0), .val (.int p1), .val (.int p2), .val (.int p3), .val (.int p4), .val (.int n), .val (.int ya), .val (.int yb), .val (.int yc), .val (.ref h0.size), .unset, .unset, .unset, .unset] []))
  refine own_via (fun _ q => XS.aload X2.here hx rfl (hb hby at_73) rfl rfl q) ?_
  show own_Goes p e s below _ _ _ (T2.setTop (mkF m 75 #[.val (.int p0), .val (.int p1), .val (.int p2), .val (.int p3), .val (.int p4), .val (.int n), .val (.int ya), .val (.int yb), .val (.int yc), .val (.ref h0.size), .unset, .unset, .unset, .unset] [(.ref h0.size)]))
  refine own_via (fun _ q => XS.iload X2.here hx rfl (hb hby at_75) rfl q) ?_
  show own_Goes p e s below _ _ _ (T2.setTop (mkF m 77 #[.val (.int p0), .val (.int p1), .val (.int p2), .val (.int p3), .val (.int p4), .val (.int n), .val (.int ya), .val (.int yb), .val (.int yc), .val (.ref h0.size), .unset, .unset, .unset, .unset] [(.int ya), (.ref h0.size)]))
  obtain ⟨cq3, kq3, q3a, q3b, q3c⟩ := isOf hZ rfl hm2.1
  obtain ⟨_, _, ⟨T3, L3, k3, n3⟩, -, X3, ⟨Lc3, hQ3, l3, y3, z3⟩, st3⟩ := X2.virtualBack hx (y := (⟨"com/example/songpool/songpool/table/CrowdedHomes", "crowd", "(I)V"⟩ : MethodName)) (z := (⟨"com/example/songpool/songpool/table/CrowdedHomes", "crowd", "(I)V"⟩ : MethodName)) hown (mvT hZ (hw _ (List.mem_of_getElem? (i := 19) rfl))) (mvT hZ (hw _ (List.mem_of_getElem? (i := 20) rfl))) (notFace_of_selects (args := #[]) (mvT hZ (hw _ (List.mem_of_getElem? (i := 22) rfl)))) (mvT hZ (hw _ (List.mem_of_getElem? (i := 22) rfl))) (mvT hZ (hw _ (List.mem_of_getElem? (i := 21) rfl))) (by decide) (backOf (W := 0) (rm4 l Z a0 hw [] h0.size ya n (fun _ => .long 0) T2.heap n0 (Nat.le_trans Z0 (Nat.le_of_lt hm2.1.lt)) hm2 g1 u1) hZ (hw _ (List.mem_of_getElem? (i := 23) rfl)) (hw _ (List.mem_of_getElem? (i := 7) rfl)) (by decide) (by decide)) q3a q3c (g := (mkF m 77 #[.val (.int p0), .val (.int p1), .val (.int p2), .val (.int p3), .val (.int p4), .val (.int n), .val (.int ya), .val (.int yb), .val (.int yc), .val (.ref h0.size), .unset, .unset, .unset, .unset] [(.int ya), (.ref h0.size)])) rfl (by rw [hml]; rfl) (Steps.refl _) (argsL := [(.int ya)]) (rest := []) (lenOf pd__I_V rfl) rfl (by show 2 * 0 + _ ≤ _; exact Nat.le_of_eq rfl) (hb hby at_77) (fun _ _ => ⟨rfl, rfl, (by decide : 2 + 1 ≤ _), (by decide : 65 + 64 ≤ _)⟩)
  dsimp only [Pt.U, Pt.locs, Pt.cells, Pt.slots] at X3 l3 y3 z3 st3 hQ3
  subst l3 y3 z3
  obtain ⟨rfl, N3q, hm3⟩ := hQ3
  have N3 := Fr.app N2 N3q
  refine own_on st3 ?_
  show own_Goes p e s below _ _ _ (T3.setTop (mkF m 80 #[.val (.int p0), .val (.int p1), .val (.int p2), .val (.int p3), .val (.int p4), .val (.int n), .val (.int ya), .val (.int yb), .val (.int yc), .val (.ref h0.size), .unset, .unset, .unset, .unset] []))
  refine own_via (fun _ q => XS.aload X3.here hx rfl (hb hby at_80) rfl rfl q) ?_
  show own_Goes p e s below _ _ _ (T3.setTop (mkF m 82 #[.val (.int p0), .val (.int p1), .val (.int p2), .val (.int p3), .val (.int p4), .val (.int n), .val (.int ya), .val (.int yb), .val (.int yc), .val (.ref h0.size), .unset, .unset, .unset, .unset] [(.ref h0.size)]))
  refine own_via (fun _ q => XS.iload X3.here hx rfl (hb hby at_82) rfl q) ?_
  show own_Goes p e s below _ _ _ (T3.setTop (mkF m 84 #[.val (.int p0), .val (.int p1), .val (.int p2), .val (.int p3), .val (.int p4), .val (.int n), .val (.int ya), .val (.int yb), .val (.int yc), .val (.ref h0.size), .unset, .unset, .unset, .unset] [(.int ya), (.ref h0.size)]))
  obtain ⟨cq4, kq4, q4a, q4b, q4c⟩ := isOf hZ rfl hm3.1
  obtain ⟨_, _, ⟨T4, L4, k4, n4⟩, -, X4, ⟨Lc4, hQ4, l4, y4, z4⟩, st4⟩ := X3.virtualBack hx (y := (⟨"com/example/songpool/songpool/table/CrowdedHomes", "stateOf", "(I)J"⟩ : MethodName)) (z := (⟨"com/example/songpool/songpool/table/CrowdedHomes", "stateOf", "(I)J"⟩ : MethodName)) hown (mvT hZ (hw _ (List.mem_of_getElem? (i := 27) rfl))) (mvT hZ (hw _ (List.mem_of_getElem? (i := 28) rfl))) (notFace_of_selects (args := #[]) (mvT hZ (hw _ (List.mem_of_getElem? (i := 30) rfl)))) (mvT hZ (hw _ (List.mem_of_getElem? (i := 30) rfl))) (mvT hZ (hw _ (List.mem_of_getElem? (i := 29) rfl))) (by decide) (backOf (W := 0) (rm5 l Z a0 hw [] h0.size ya n (-9223372036854775808 : Int64) (fun k => if k = ya.toInt.toNat then .long (-9223372036854775808 : Int64) else (fun _ => .long 0) k) T3.heap n0 hm3 g1 u1 (if_pos rfl)) hZ (hw _ (List.mem_of_getElem? (i := 31) rfl)) (hw _ (List.mem_of_getElem? (i := 7) rfl)) (by decide) (by decide)) q4a q4c (g := (mkF m 84 #[.val (.int p0), .val (.int p1), .val (.int p2), .val (.int p3), .val (.int p4), .val (.int n), .val (.int ya), .val (.int yb), .val (.int yc), .val (.ref h0.size), .unset, .unset, .unset, .unset] [(.int ya), (.ref h0.size)])) rfl (by rw [hml]; rfl) (Steps.refl _) (argsL := [(.int ya)]) (rest := []) (lenOf pd__I_J rfl) rfl (by show 2 * 0 + _ ≤ _; exact Nat.le_of_eq rfl) (hb hby at_84) (fun _ _ => ⟨rfl, rfl, (by decide : 3 + 0 ≤ _), (by decide : 129 + 0 ≤ _)⟩)
  dsimp only [Pt.U, Pt.locs, Pt.cells, Pt.slots] at X4 l4 y4 z4 st4 hQ4
  subst l4 y4 z4
  obtain ⟨rfl, N4q, e4'⟩ := hQ4
  have N4 := Fr.app N3 N4q
  have e4 := e4'
  refine own_on st4 ?_
  show own_Goes p e s below _ _ _ (T4.setTop (mkF m 87 #[.val (.int p0), .val (.int p1), .val (.int p2), .val (.int p3), .val (.int p4), .val (.int n), .val (.int ya), .val (.int yb), .val (.int yc), .val (.ref h0.size), .unset, .unset, .unset, .unset] [(.long (-9223372036854775808 : Int64))]))
  refine own_via (fun _ q => XT.lstore X4.here hx rfl (hb hby at_87) rfl (l' := #[.val (.int p0), .val (.int p1), .val (.int p2), .val (.int p3), .val (.int p4), .val (.int n), .val (.int ya), .val (.int yb), .val (.int yc), .val (.ref h0.size), .val (.long (-9223372036854775808 : Int64)), .second, .unset, .unset]) rfl q) ?_
  show own_Goes p e s below _ _ _ (T4.setTop (mkF m 89 #[.val (.int p0), .val (.int p1), .val (.int p2), .val (.int p3), .val (.int p4), .val (.int n), .val (.int ya), .val (.int yb), .val (.int yc), .val (.ref h0.size), .val (.long (-9223372036854775808 : Int64)), .second, .unset, .unset] []))
  refine own_via (fun _ q => XT.lload X4.here hx rfl (hb hby at_89) rfl q) ?_
  show own_Goes p e s below _ _ _ (T4.setTop (mkF m 91 #[.val (.int p0), .val (.int p1), .val (.int p2), .val (.int p3), .val (.int p4), .val (.int n), .val (.int ya), .val (.int yb), .val (.int yc), .val (.ref h0.size), .val (.long (-9223372036854775808 : Int64)), .second, .unset, .unset] [(.long (-9223372036854775808 : Int64))]))
  refine own_via (fun _ q => XT.lconstV X4.here hx rfl (0 : Int64) (hb hby at_91) rfl q) ?_
  show own_Goes p e s below _ _ _ (T4.setTop (mkF m 92 #[.val (.int p0), .val (.int p1), .val (.int p2), .val (.int p3), .val (.int p4), .val (.int n), .val (.int ya), .val (.int yb), .val (.int yc), .val (.ref h0.size), .val (.long (-9223372036854775808 : Int64)), .second, .unset, .unset] [(.long (0 : Int64)), (.long (-9223372036854775808 : Int64))]))
  refine own_via (fun _ q => XT.lcmp X4.here hx rfl (hb hby at_92) rfl q) ?_
  show own_Goes p e s below _ _ _ (T4.setTop (mkF m 93 #[.val (.int p0), .val (.int p1), .val (.int p2), .val (.int p3), .val (.int p4), .val (.int n), .val (.int ya), .val (.int yb), .val (.int yc), .val (.ref h0.size), .val (.long (-9223372036854775808 : Int64)), .second, .unset, .unset] [(.int (XT.cmpL (-9223372036854775808 : Int64) (0 : Int64)))]))
  refine own_via (fun _ q => XS.ifNo X4.here hx rfl (hb hby at_93) rfl (XT.ll_eq_f (by decide)) q) ?_
  show own_Goes p e s below _ _ _ (T4.setTop (mkF m 96 #[.val (.int p0), .val (.int p1), .val (.int p2), .val (.int p3), .val (.int p4), .val (.int n), .val (.int ya), .val (.int yb), .val (.int yc), .val (.ref h0.size), .val (.long (-9223372036854775808 : Int64)), .second, .unset, .unset] []))
  refine own_via (fun _ q => XT.lload X4.here hx rfl (hb hby at_96) rfl q) ?_
  show own_Goes p e s below _ _ _ (T4.setTop (mkF m 98 #[.val (.int p0), .val (.int p1), .val (.int p2), .val (.int p3), .val (.int p4), .val (.int n), .val (.int ya), .val (.int yb), .val (.int yc), .val (.ref h0.size), .val (.long (-9223372036854775808 : Int64)), .second, .unset, .unset] [(.long (-9223372036854775808 : Int64))]))
  obtain ⟨_, _, ⟨T5, L5, k5, n5⟩, -, X5, ⟨Lc5, hQ5, l5, y5, z5⟩, st5⟩ := Jvm.LawKit.callS X4 hx (y := (⟨"com/example/songpool/songpool/table/CrowdedHomes", "isCrowd", "(J)Z"⟩ : MethodName)) hown (mvT hZ (hw _ (List.mem_of_getElem? (i := 32) rfl))) (mvT hZ (hw _ (List.mem_of_getElem? (i := 33) rfl))) (mvT hZ (hw _ (List.mem_of_getElem? (i := 7) rfl))) (mvT hZ (hw _ (List.mem_of_getElem? (i := 34) rfl))) (by decide) (backOf (W := 0) (rm6 l Z a0 hw [] (-9223372036854775808 : Int64) (0 : Int32) T3.heap n0 (by decide +kernel)) hZ (hw _ (List.mem_of_getElem? (i := 34) rfl)) (hw _ (List.mem_of_getElem? (i := 7) rfl)) (by decide) (by decide)) (g := (mkF m 98 #[.val (.int p0), .val (.int p1), .val (.int p2), .val (.int p3), .val (.int p4), .val (.int n), .val (.int ya), .val (.int yb), .val (.int yc), .val (.ref h0.size), .val (.long (-9223372036854775808 : Int64)), .second, .unset, .unset] [(.long (-9223372036854775808 : Int64))])) rfl (by rw [hml]; rfl) (argsL := [(.long (-9223372036854775808 : Int64))]) (rest := []) (lenOf pd__J_Z rfl) rfl (by show 2 * 0 + _ ≤ _; exact Nat.le_of_eq rfl) (hb hby at_98) (fun _ _ => ⟨rfl, e4, (by decide : 3 + 0 ≤ _), (by decide : 129 + 0 ≤ _)⟩)
  dsimp only [Pt.U, Pt.locs, Pt.cells, Pt.slots] at X5 l5 y5 z5 st5 hQ5
  subst l5 y5 z5
  obtain ⟨rfl, N5q, e5'⟩ := hQ5
  have N5 := Fr.app N4 N5q
  have e5 := e5'
  refine own_via st5 ?_
  show own_Goes p e s below _ _ _ (T5.setTop (mkF m 101 #[.val (.int p0), .val (.int p1), .val (.int p2), .val (.int p3), .val (.int p4), .val (.int n), .val (.int ya), .val (.int yb), .val (.int yc), .val (.ref h0.size), .val (.long (-9223372036854775808 : Int64)), .second, .unset, .unset] [(.int (0 : Int32))]))
  refine own_via (fun _ q => XS.ifNo X5.here hx rfl (hb hby at_101) rfl (XT.i0_ne_f (by decide)) q) ?_
  show own_Goes p e s below _ _ _ (T5.setTop (mkF m 104 #[.val (.int p0), .val (.int p1), .val (.int p2), .val (.int p3), .val (.int p4), .val (.int n), .val (.int ya), .val (.int yb), .val (.int yc), .val (.ref h0.size), .val (.long (-9223372036854775808 : Int64)), .second, .unset, .unset] []))
  refine own_via (fun _ q => XT.lload X5.here hx rfl (hb hby at_104) rfl q) ?_
  show own_Goes p e s below _ _ _ (T5.setTop (mkF m 106 #[.val (.int p0), .val (.int p1), .val (.int p2), .val (.int p3), .val (.int p4), .val (.int n), .val (.int ya), .val (.int yb), .val (.int yc), .val (.ref h0.size), .val (.long (-9223372036854775808 : Int64)), .second, .unset, .unset] [(.long (-9223372036854775808 : Int64))]))
  obtain ⟨_, _, ⟨T6, L6, k6, n6⟩, -, X6, ⟨Lc6, hQ6, l6, y6, z6⟩, st6⟩ := Jvm.LawKit.callS X5 hx (y := (⟨"com/example/songpool/songpool/table/CrowdedHomes", "reach", "(J)I"⟩ : MethodName)) hown (mvT hZ (hw _ (List.mem_of_getElem? (i := 36) rfl))) (mvT hZ (hw _ (List.mem_of_getElem? (i := 37) rfl))) (mvT hZ (hw _ (List.mem_of_getElem? (i := 7) rfl))) (mvT hZ (hw _ (List.mem_of_getElem? (i := 38) rfl))) (by decide) (backOf (W := 0) (rm7 l Z a0 hw [] (-9223372036854775808 : Int64) (0 : Int32) T3.heap n0 (by decide +kernel)) hZ (hw _ (List.mem_of_getElem? (i := 38) rfl)) (hw _ (List.mem_of_getElem? (i := 7) rfl)) (by decide) (by decide)) (g := (mkF m 106 #[.val (.int p0), .val (.int p1), .val (.int p2), .val (.int p3), .val (.int p4), .val (.int n), .val (.int ya), .val (.int yb), .val (.int yc), .val (.ref h0.size), .val (.long (-9223372036854775808 : Int64)), .second, .unset, .unset] [(.long (-9223372036854775808 : Int64))])) rfl (by rw [hml]; rfl) (argsL := [(.long (-9223372036854775808 : Int64))]) (rest := []) (lenOf pd__J_I rfl) rfl (by show 2 * 0 + _ ≤ _; exact Nat.le_of_eq rfl) (hb hby at_106) (fun _ _ => ⟨rfl, e5, (by decide : 3 + 0 ≤ _), (by decide : 129 + 0 ≤ _)⟩)
  dsimp only [Pt.U, Pt.locs, Pt.cells, Pt.slots] at X6 l6 y6 z6 st6 hQ6
  subst l6 y6 z6
  obtain ⟨rfl, N6q, e6'⟩ := hQ6
  have N6 := Fr.app N5 N6q
  have e6 := e6'
  refine own_via st6 ?_
  show own_Goes p e s below _ _ _ (T6.setTop (mkF m 109 #[.val (.int p0), .val (.int p1), .val (.int p2), .val (.int p3), .val (.int p4), .val (.int n), .val (.int ya), .val (.int yb), .val (.int yc), .val (.ref h0.size), .val (.long (-9223372036854775808 : Int64)), .second, .unset, .unset] [(.int (0 : Int32))]))
  refine own_via (fun _ q => XS.ifNo X6.here hx rfl (hb hby at_109) rfl (XT.i0_ne_f (by decide)) q) ?_
  show own_Goes p e s below _ _ _ (T6.setTop (mkF m 112 #[.val (.int p0), .val (.int p1), .val (.int p2), .val (.int p3), .val (.int p4), .val (.int n), .val (.int ya), .val (.int yb), .val (.int yc), .val (.ref h0.size), .val (.long (-9223372036854775808 : Int64)), .second, .unset, .unset] []))
  refine own_via (fun _ q => XT.lload X6.here hx rfl (hb hby at_112) rfl q) ?_
  show own_Goes p e s below _ _ _ (T6.setTop (mkF m 114 #[.val (.int p0), .val (.int p1), .val (.int p2), .val (.int p3), .val (.int p4), .val (.int n), .val (.int ya), .val (.int yb), .val (.int yc), .val (.ref h0.size), .val (.long (-9223372036854775808 : Int64)), .second, .unset, .unset] [(.long (-9223372036854775808 : Int64))]))
  obtain ⟨_, _, ⟨T7, L7, k7, n7⟩, -, X7, ⟨Lc7, hQ7, l7, y7, z7⟩, st7⟩ := Jvm.LawKit.callS X6 hx (y := (⟨"com/example/songpool/songpool/table/CrowdedHomes", "names", "(J)I"⟩ : MethodName)) hown (mvT hZ (hw _ (List.mem_of_getElem? (i := 40) rfl))) (mvT hZ (hw _ (List.mem_of_getElem? (i := 41) rfl))) (mvT hZ (hw _ (List.mem_of_getElem? (i := 7) rfl))) (mvT hZ (hw _ (List.mem_of_getElem? (i := 42) rfl))) (by decide) (backOf (W := 0) (rm8 l Z a0 hw [] (-9223372036854775808 : Int64) (0 : Int32) T3.heap n0 (by decide +kernel)) hZ (hw _ (List.mem_of_getElem? (i := 42) rfl)) (hw _ (List.mem_of_getElem? (i := 7) rfl)) (by decide) (by decide)) (g := (mkF m 114 #[.val (.int p0), .val (.int p1), .val (.int p2), .val (.int p3), .val (.int p4), .val (.int n), .val (.int ya), .val (.int yb), .val (.int yc), .val (.ref h0.size), .val (.long (-9223372036854775808 : Int64)), .second, .unset, .unset] [(.long (-9223372036854775808 : Int64))])) rfl (by rw [hml]; rfl) (argsL := [(.long (-9223372036854775808 : Int64))]) (rest := []) (lenOf pd__J_I rfl) rfl (by show 2 * 0 + _ ≤ _; exact Nat.le_of_eq rfl) (hb hby at_114) (fun _ _ => ⟨rfl, e6, (by decide : 3 + 0 ≤ _), (by decide : 129 + 0 ≤ _)⟩)
  dsimp only [Pt.U, Pt.locs, Pt.cells, Pt.slots] at X7 l7 y7 z7 st7 hQ7
  subst l7 y7 z7
  obtain ⟨rfl, N7q, e7'⟩ := hQ7
  have N7 := Fr.app N6 N7q
  have e7 := e7'
  refine own_via st7 ?_
  show own_Goes p e s below _ _ _ (T7.setTop (mkF m 117 #[.val (.int p0), .val (.int p1), .val (.int p2), .val (.int p3), .val (.int p4), .val (.int n), .val (.int ya), .val (.int yb), .val (.int yc), .val (.ref h0.size), .val (.long (-9223372036854775808 : Int64)), .second, .unset, .unset] [(.int (0 : Int32))]))
  refine own_via (fun _ q => XS.ifNo X7.here hx rfl (hb hby at_117) rfl (XT.i0_ne_f (by decide)) q) ?_
  show own_Goes p e s below _ _ _ (T7.setTop (mkF m 120 #[.val (.int p0), .val (.int p1), .val (.int p2), .val (.int p3), .val (.int p4), .val (.int n), .val (.int ya), .val (.int yb), .val (.int yc), .val (.ref h0.size), .val (.long (-9223372036854775808 : Int64)), .second, .unset, .unset] []))
  refine own_via (fun _ q => XT.lload X7.here hx rfl (hb hby at_120) rfl q) ?_
  show own_Goes p e s below _ _ _ (T7.setTop (mkF m 122 #[.val (.int p0), .val (.int p1), .val (.int p2), .val (.int p3), .val (.int p4), .val (.int n), .val (.int ya), .val (.int yb), .val (.int yc), .val (.ref h0.size), .val (.long (-9223372036854775808 : Int64)), .second, .unset, .unset] [(.long (-9223372036854775808 : Int64))]))
  obtain ⟨_, _, ⟨T8, L8, k8, n8⟩, -, X8, ⟨Lc8, hQ8, l8, y8, z8⟩, st8⟩ := Jvm.LawKit.callS X7 hx (y := (⟨"com/example/songpool/songpool/table/CrowdedHomes", "isFar", "(J)Z"⟩ : MethodName)) hown (mvT hZ (hw _ (List.mem_of_getElem? (i := 43) rfl))) (mvT hZ (hw _ (List.mem_of_getElem? (i := 44) rfl))) (mvT hZ (hw _ (List.mem_of_getElem? (i := 7) rfl))) (mvT hZ (hw _ (List.mem_of_getElem? (i := 45) rfl))) (by decide) (backOf (W := 0) (rm9 l Z a0 hw [] (-9223372036854775808 : Int64) (0 : Int32) T3.heap n0 (by decide +kernel)) hZ (hw _ (List.mem_of_getElem? (i := 45) rfl)) (hw _ (List.mem_of_getElem? (i := 7) rfl)) (by decide) (by decide)) (g := (mkF m 122 #[.val (.int p0), .val (.int p1), .val (.int p2), .val (.int p3), .val (.int p4), .val (.int n), .val (.int ya), .val (.int yb), .val (.int yc), .val (.ref h0.size), .val (.long (-9223372036854775808 : Int64)), .second, .unset, .unset] [(.long (-9223372036854775808 : Int64))])) rfl (by rw [hml]; rfl) (argsL := [(.long (-9223372036854775808 : Int64))]) (rest := []) (lenOf pd__J_Z rfl) rfl (by show 2 * 0 + _ ≤ _; exact Nat.le_of_eq rfl) (hb hby at_122) (fun _ _ => ⟨rfl, e7, (by decide : 3 + 0 ≤ _), (by decide : 129 + 0 ≤ _)⟩)
  dsimp only [Pt.U, Pt.locs, Pt.cells, Pt.slots] at X8 l8 y8 z8 st8 hQ8
  subst l8 y8 z8
  obtain ⟨rfl, N8q, e8'⟩ := hQ8
  have N8 := Fr.app N7 N8q
  have e8 := e8'
  refine own_via st8 ?_
  show own_Goes p e s below _ _ _ (T8.setTop (mkF m 125 #[.val (.int p0), .val (.int p1), .val (.int p2), .val (.int p3), .val (.int p4), .val (.int n), .val (.int ya), .val (.int yb), .val (.int yc), .val (.ref h0.size), .val (.long (-9223372036854775808 : Int64)), .second, .unset, .unset] [(.int (0 : Int32))]))
  refine own_via (fun _ q => XS.ifNo X8.here hx rfl (hb hby at_125) rfl (XT.i0_ne_f (by decide)) q) ?_
  show own_Goes p e s below _ _ _ (T8.setTop (mkF m 128 #[.val (.int p0), .val (.int p1), .val (.int p2), .val (.int p3), .val (.int p4), .val (.int n), .val (.int ya), .val (.int yb), .val (.int yc), .val (.ref h0.size), .val (.long (-9223372036854775808 : Int64)), .second, .unset, .unset] []))
  refine own_via (fun _ q => XT.lload X8.here hx rfl (hb hby at_128) rfl q) ?_
  show own_Goes p e s below _ _ _ (T8.setTop (mkF m 130 #[.val (.int p0), .val (.int p1), .val (.int p2), .val (.int p3), .val (.int p4), .val (.int n), .val (.int ya), .val (.int yb), .val (.int yc), .val (.ref h0.size), .val (.long (-9223372036854775808 : Int64)), .second, .unset, .unset] [(.long (-9223372036854775808 : Int64))]))
  obtain ⟨_, _, ⟨T9, L9, k9, n9⟩, -, X9, ⟨Lc9, hQ9, l9, y9, z9⟩, st9⟩ := Jvm.LawKit.callS X8 hx (y := (⟨"com/example/songpool/songpool/table/CrowdedHomes", "hasFreed", "(J)Z"⟩ : MethodName)) hown (mvT hZ (hw _ (List.mem_of_getElem? (i := 47) rfl))) (mvT hZ (hw _ (List.mem_of_getElem? (i := 48) rfl))) (mvT hZ (hw _ (List.mem_of_getElem? (i := 7) rfl))) (mvT hZ (hw _ (List.mem_of_getElem? (i := 49) rfl))) (by decide) (backOf (W := 0) (rm10 l Z a0 hw [] (-9223372036854775808 : Int64) (0 : Int32) T3.heap n0 (by decide +kernel)) hZ (hw _ (List.mem_of_getElem? (i := 49) rfl)) (hw _ (List.mem_of_getElem? (i := 7) rfl)) (by decide) (by decide)) (g := (mkF m 130 #[.val (.int p0), .val (.int p1), .val (.int p2), .val (.int p3), .val (.int p4), .val (.int n), .val (.int ya), .val (.int yb), .val (.int yc), .val (.ref h0.size), .val (.long (-9223372036854775808 : Int64)), .second, .unset, .unset] [(.long (-9223372036854775808 : Int64))])) rfl (by rw [hml]; rfl) (argsL := [(.long (-9223372036854775808 : Int64))]) (rest := []) (lenOf pd__J_Z rfl) rfl (by show 2 * 0 + _ ≤ _; exact Nat.le_of_eq rfl) (hb hby at_130) (fun _ _ => ⟨rfl, e8, (by decide : 3 + 0 ≤ _), (by decide : 129 + 0 ≤ _)⟩)
  dsimp only [Pt.U, Pt.locs, Pt.cells, Pt.slots] at X9 l9 y9 z9 st9 hQ9
  subst l9 y9 z9
  obtain ⟨rfl, N9q, e9'⟩ := hQ9
  have N9 := Fr.app N8 N9q
  have e9 := e9'
  refine own_via st9 ?_
  show own_Goes p e s below _ _ _ (T9.setTop (mkF m 133 #[.val (.int p0), .val (.int p1), .val (.int p2), .val (.int p3), .val (.int p4), .val (.int n), .val (.int ya), .val (.int yb), .val (.int yc), .val (.ref h0.size), .val (.long (-9223372036854775808 : Int64)), .second, .unset, .unset] [(.int (0 : Int32))]))
  refine own_via (fun _ q => XS.ifNo X9.here hx rfl (hb hby at_133) rfl (XT.i0_ne_f (by decide)) q) ?_
  show own_Goes p e s below _ _ _ (T9.setTop (mkF m 136 #[.val (.int p0), .val (.int p1), .val (.int p2), .val (.int p3), .val (.int p4), .val (.int n), .val (.int ya), .val (.int yb), .val (.int yc), .val (.ref h0.size), .val (.long (-9223372036854775808 : Int64)), .second, .unset, .unset] []))
  refine own_via (fun _ q => XT.iconstV X9.here hx rfl (1 : Int32) (hb hby at_136) rfl q) ?_
  show own_Goes p e s below _ _ _ (T9.setTop (mkF m 137 #[.val (.int p0), .val (.int p1), .val (.int p2), .val (.int p3), .val (.int p4), .val (.int n), .val (.int ya), .val (.int yb), .val (.int yc), .val (.ref h0.size), .val (.long (-9223372036854775808 : Int64)), .second, .unset, .unset] [(.int (1 : Int32))]))
  refine own_via (fun _ q => XS.goto X9.here hx rfl (pc0 := 137) (pc' := 141) rfl (hb hby at_137) (by decide) (by decide) q) ?_
  show own_Goes p e s below _ _ _ (T9.setTop (mkF m 141 #[.val (.int p0), .val (.int p1), .val (.int p2), .val (.int p3), .val (.int p4), .val (.int n), .val (.int ya), .val (.int yb), .val (.int yc), .val (.ref h0.size), .val (.long (-9223372036854775808 : Int64)), .second, .unset, .unset] [(.int (1 : Int32))]))
  refine own_via (fun _ q => XS.istore X9.here hx rfl (hb hby at_141) rfl (l' := #[.val (.int p0), .val (.int p1), .val (.int p2), .val (.int p3), .val (.int p4), .val (.int n), .val (.int ya), .val (.int yb), .val (.int yc), .val (.ref h0.size), .val (.long (-9223372036854775808 : Int64)), .second, .val (.int (1 : Int32)), .unset]) rfl q) ?_
  show own_Goes p e s below _ _ _ (T9.setTop (mkF m 143 #[.val (.int p0), .val (.int p1), .val (.int p2), .val (.int p3), .val (.int p4), .val (.int n), .val (.int ya), .val (.int yb), .val (.int yc), .val (.ref h0.size), .val (.long (-9223372036854775808 : Int64)), .second, .val (.int (1 : Int32)), .unset] []))
  refine own_via (fun _ q => XS.iload X9.here hx rfl (hb hby at_143) rfl q) ?_
  show own_Goes p e s below _ _ _ (T9.setTop (mkF m 145 #[.val (.int p0), .val (.int p1), .val (.int p2), .val (.int p3), .val (.int p4), .val (.int n), .val (.int ya), .val (.int yb), .val (.int yc), .val (.ref h0.size), .val (.long (-9223372036854775808 : Int64)), .second, .val (.int (1 : Int32)), .unset] [(.int yb)]))
  refine own_via (fun _ q => XS.iload X9.here hx rfl (hb hby at_145) rfl q) ?_
  show own_Goes p e s below _ _ _ (T9.setTop (mkF m 147 #[.val (.int p0), .val (.int p1), .val (.int p2), .val (.int p3), .val (.int p4), .val (.int n), .val (.int ya), .val (.int yb), .val (.int yc), .val (.ref h0.size), .val (.long (-9223372036854775808 : Int64)), .second, .val (.int (1 : Int32)), .unset] [(.int ya), (.int yb)]))
  by_cases hk147_10 : yb = ya
  · refine own_via (fun _ q => XS.icmpYes X9.here hx rfl (pc0 := 147) (pc' := 154) rfl (hb hby at_147) rfl (XT.ii_eq_t hk147_10) (by decide) (by decide) q) ?_
    show own_Goes p e s below _ _ _ (T9.setTop (mkF m 154 #[.val (.int p0), .val (.int p1), .val (.int p2), .val (.int p3), .val (.int p4), .val (.int n), .val (.int ya), .val (.int yb), .val (.int yc), .val (.ref h0.size), .val (.long (-9223372036854775808 : Int64)), .second, .val (.int (1 : Int32)), .unset] []))
    refine own_via (fun _ q => XT.iconstV X9.here hx rfl (0 : Int32) (hb hby at_154) rfl q) ?_
    show own_Goes p e s below _ _ _ (T9.setTop (mkF m 155 #[.val (.int p0), .val (.int p1), .val (.int p2), .val (.int p3), .val (.int p4), .val (.int n), .val (.int ya), .val (.int yb), .val (.int yc), .val (.ref h0.size), .val (.long (-9223372036854775808 : Int64)), .second, .val (.int (1 : Int32)), .unset] [(.int (0 : Int32))]))
    refine own_via (fun _ q => XS.istore X9.here hx rfl (hb hby at_155) rfl (l' := #[.val (.int p0), .val (.int p1), .val (.int p2), .val (.int p3), .val (.int p4), .val (.int n), .val (.int ya), .val (.int yb), .val (.int yc), .val (.ref h0.size), .val (.long (-9223372036854775808 : Int64)), .second, .val (.int (1 : Int32)), .val (.int (0 : Int32))]) rfl q) ?_
    show own_Goes p e s below _ _ _ (T9.setTop (mkF m 157 #[.val (.int p0), .val (.int p1), .val (.int p2), .val (.int p3), .val (.int p4), .val (.int n), .val (.int ya), .val (.int yb), .val (.int yc), .val (.ref h0.size), .val (.long (-9223372036854775808 : Int64)), .second, .val (.int (1 : Int32)), .val (.int (0 : Int32))] []))
    refine own_via (fun _ q => XS.iload X9.here hx rfl (hb hby at_157) rfl q) ?_
    show own_Goes p e s below _ _ _ (T9.setTop (mkF m 159 #[.val (.int p0), .val (.int p1), .val (.int p2), .val (.int p3), .val (.int p4), .val (.int n), .val (.int ya), .val (.int yb), .val (.int yc), .val (.ref h0.size), .val (.long (-9223372036854775808 : Int64)), .second, .val (.int (1 : Int32)), .val (.int (0 : Int32))] [(.int (0 : Int32))]))
    refine own_via (fun _ q => XS.ifYes X9.here hx rfl (pc0 := 159) (pc' := 207) rfl (hb hby at_159) rfl (XT.i0_eq_t (by decide)) (by decide) (by decide) q) ?_
    show own_Goes p e s below _ _ _ (T9.setTop (mkF m 207 #[.val (.int p0), .val (.int p1), .val (.int p2), .val (.int p3), .val (.int p4), .val (.int n), .val (.int ya), .val (.int yb), .val (.int yc), .val (.ref h0.size), .val (.long (-9223372036854775808 : Int64)), .second, .val (.int (1 : Int32)), .val (.int (0 : Int32))] []))
    refine own_via (fun _ q => XS.iload X9.here hx rfl (hb hby at_207) rfl q) ?_
    show own_Goes p e s below _ _ _ (T9.setTop (mkF m 209 #[.val (.int p0), .val (.int p1), .val (.int p2), .val (.int p3), .val (.int p4), .val (.int n), .val (.int ya), .val (.int yb), .val (.int yc), .val (.ref h0.size), .val (.long (-9223372036854775808 : Int64)), .second, .val (.int (1 : Int32)), .val (.int (0 : Int32))] [(.int yc)]))
    refine own_via (fun _ q => XS.iload X9.here hx rfl (hb hby at_209) rfl q) ?_
    show own_Goes p e s below _ _ _ (T9.setTop (mkF m 211 #[.val (.int p0), .val (.int p1), .val (.int p2), .val (.int p3), .val (.int p4), .val (.int n), .val (.int ya), .val (.int yb), .val (.int yc), .val (.ref h0.size), .val (.long (-9223372036854775808 : Int64)), .second, .val (.int (1 : Int32)), .val (.int (0 : Int32))] [(.int ya), (.int yc)]))
    by_cases hk211_11 : yc = ya
    · refine own_via (fun _ q => XS.icmpYes X9.here hx rfl (pc0 := 211) (pc' := 250) rfl (hb hby at_211) rfl (XT.ii_eq_t hk211_11) (by decide) (by decide) q) ?_
      show own_Goes p e s below _ _ _ (T9.setTop (mkF m 250 #[.val (.int p0), .val (.int p1), .val (.int p2), .val (.int p3), .val (.int p4), .val (.int n), .val (.int ya), .val (.int yb), .val (.int yc), .val (.ref h0.size), .val (.long (-9223372036854775808 : Int64)), .second, .val (.int (1 : Int32)), .val (.int (0 : Int32))] []))
      refine own_via (fun _ q => XS.iload X9.here hx rfl (hb hby at_250) rfl q) ?_
      show own_Goes p e s below _ _ _ (T9.setTop (mkF m 252 #[.val (.int p0), .val (.int p1), .val (.int p2), .val (.int p3), .val (.int p4), .val (.int n), .val (.int ya), .val (.int yb), .val (.int yc), .val (.ref h0.size), .val (.long (-9223372036854775808 : Int64)), .second, .val (.int (1 : Int32)), .val (.int (0 : Int32))] [(.int (1 : Int32))]))
      exact own_retN X9 hx (t := .boolean) hret (by simp) hlk (hb hby at_252) (by decide) (by decide) ⟨rfl, N9⟩
    · refine own_via (fun _ q => XS.icmpNo X9.here hx rfl (hb hby at_211) rfl (XT.ii_eq_f hk211_11) q) ?_
      show own_Goes p e s below _ _ _ (T9.setTop (mkF m 214 #[.val (.int p0), .val (.int p1), .val (.int p2), .val (.int p3), .val (.int p4), .val (.int n), .val (.int ya), .val (.int yb), .val (.int yc), .val (.ref h0.size), .val (.long (-9223372036854775808 : Int64)), .second, .val (.int (1 : Int32)), .val (.int (0 : Int32))] []))
      refine own_via (fun _ q => XS.iload X9.here hx rfl (hb hby at_214) rfl q) ?_
      show own_Goes p e s below _ _ _ (T9.setTop (mkF m 216 #[.val (.int p0), .val (.int p1), .val (.int p2), .val (.int p3), .val (.int p4), .val (.int n), .val (.int ya), .val (.int yb), .val (.int yc), .val (.ref h0.size), .val (.long (-9223372036854775808 : Int64)), .second, .val (.int (1 : Int32)), .val (.int (0 : Int32))] [(.int (0 : Int32))]))
      refine own_via (fun _ q => XS.ifYes X9.here hx rfl (pc0 := 216) (pc' := 226) rfl (hb hby at_216) rfl (XT.i0_eq_t (by decide)) (by decide) (by decide) q) ?_
      show own_Goes p e s below _ _ _ (T9.setTop (mkF m 226 #[.val (.int p0), .val (.int p1), .val (.int p2), .val (.int p3), .val (.int p4), .val (.int n), .val (.int ya), .val (.int yb), .val (.int yc), .val (.ref h0.size), .val (.long (-9223372036854775808 : Int64)), .second, .val (.int (1 : Int32)), .val (.int (0 : Int32))] []))
      refine own_via (fun _ q => XS.iload X9.here hx rfl (hb hby at_226) rfl q) ?_
      show own_Goes p e s below _ _ _ (T9.setTop (mkF m 228 #[.val (.int p0), .val (.int p1), .val (.int p2), .val (.int p3), .val (.int p4), .val (.int n), .val (.int ya), .val (.int yb), .val (.int yc), .val (.ref h0.size), .val (.long (-9223372036854775808 : Int64)), .second, .val (.int (1 : Int32)), .val (.int (0 : Int32))] [(.int (1 : Int32))]))
      refine own_via (fun _ q => XS.ifNo X9.here hx rfl (hb hby at_228) rfl (XT.i0_eq_f (by decide)) q) ?_
      show own_Goes p e s below _ _ _ (T9.setTop (mkF m 231 #[.val (.int p0), .val (.int p1), .val (.int p2), .val (.int p3), .val (.int p4), .val (.int n), .val (.int ya), .val (.int yb), .val (.int yc), .val (.ref h0.size), .val (.long (-9223372036854775808 : Int64)), .second, .val (.int (1 : Int32)), .val (.int (0 : Int32))] []))
      refine own_via (fun _ q => XS.aload X9.here hx rfl (hb hby at_231) rfl rfl q) ?_
      show own_Goes p e s below _ _ _ (T9.setTop (mkF m 233 #[.val (.int p0), .val (.int p1), .val (.int p2), .val (.int p3), .val (.int p4), .val (.int n), .val (.int ya), .val (.int yb), .val (.int yc), .val (.ref h0.size), .val (.long (-9223372036854775808 : Int64)), .second, .val (.int (1 : Int32)), .val (.int (0 : Int32))] [(.ref h0.size)]))
      refine own_via (fun _ q => XS.iload X9.here hx rfl (hb hby at_233) rfl q) ?_
      show own_Goes p e s below _ _ _ (T9.setTop (mkF m 235 #[.val (.int p0), .val (.int p1), .val (.int p2), .val (.int p3), .val (.int p4), .val (.int n), .val (.int ya), .val (.int yb), .val (.int yc), .val (.ref h0.size), .val (.long (-9223372036854775808 : Int64)), .second, .val (.int (1 : Int32)), .val (.int (0 : Int32))] [(.int yc), (.ref h0.size)]))
      obtain ⟨cq12, kq12, q12a, q12b, q12c⟩ := isOf hZ e9 hm3.1
      obtain ⟨_, _, ⟨T12, L12, k12, n12⟩, -, X12, ⟨Lc12, hQ12, l12, y12, z12⟩, st12⟩ := X9.virtualBack hx (y := (⟨"com/example/songpool/songpool/table/CrowdedHomes", "stateOf", "(I)J"⟩ : MethodName)) (z := (⟨"com/example/songpool/songpool/table/CrowdedHomes", "stateOf", "(I)J"⟩ : MethodName)) hown (mvT hZ (hw _ (List.mem_of_getElem? (i := 27) rfl))) (mvT hZ (hw _ (List.mem_of_getElem? (i := 28) rfl))) (notFace_of_selects (args := #[]) (mvT hZ (hw _ (List.mem_of_getElem? (i := 30) rfl)))) (mvT hZ (hw _ (List.mem_of_getElem? (i := 30) rfl))) (mvT hZ (hw _ (List.mem_of_getElem? (i := 29) rfl))) (by decide) (backOf (W := 0) (rm5 l Z a0 hw [] h0.size yc n (0 : Int64) (fun k => if k = ya.toInt.toNat then .long (-9223372036854775808 : Int64) else (fun _ => .long 0) k) T3.heap n0 hm3 g3 u3 (if_neg (own_Hne g3 g1 hk211_11))) hZ (hw _ (List.mem_of_getElem? (i := 31) rfl)) (hw _ (List.mem_of_getElem? (i := 7) rfl)) (by decide) (by decide)) q12a q12c (g := (mkF m 235 #[.val (.int p0), .val (.int p1), .val (.int p2), .val (.int p3), .val (.int p4), .val (.int n), .val (.int ya), .val (.int yb), .val (.int yc), .val (.ref h0.size), .val (.long (-9223372036854775808 : Int64)), .second, .val (.int (1 : Int32)), .val (.int (0 : Int32))] [(.int yc), (.ref h0.size)])) rfl (by rw [hml]; rfl) (Steps.refl _) (argsL := [(.int yc)]) (rest := []) (lenOf pd__I_J rfl) rfl (by show 2 * 0 + _ ≤ _; exact Nat.le_of_eq rfl) (hb hby at_235) (fun _ _ => ⟨rfl, e9, (by decide : 3 + 0 ≤ _), (by decide : 129 + 0 ≤ _)⟩)
      dsimp only [Pt.U, Pt.locs, Pt.cells, Pt.slots] at X12 l12 y12 z12 st12 hQ12
      subst l12 y12 z12
      obtain ⟨rfl, N12q, e12'⟩ := hQ12
      have N12 := Fr.app N9 N12q
      have e12 := e12'
      refine own_on st12 ?_
      show own_Goes p e s below _ _ _ (T12.setTop (mkF m 238 #[.val (.int p0), .val (.int p1), .val (.int p2), .val (.int p3), .val (.int p4), .val (.int n), .val (.int ya), .val (.int yb), .val (.int yc), .val (.ref h0.size), .val (.long (-9223372036854775808 : Int64)), .second, .val (.int (1 : Int32)), .val (.int (0 : Int32))] [(.long (0 : Int64))]))
      refine own_via (fun _ q => XT.lconstV X12.here hx rfl (0 : Int64) (hb hby at_238) rfl q) ?_
      show own_Goes p e s below _ _ _ (T12.setTop (mkF m 239 #[.val (.int p0), .val (.int p1), .val (.int p2), .val (.int p3), .val (.int p4), .val (.int n), .val (.int ya), .val (.int yb), .val (.int yc), .val (.ref h0.size), .val (.long (-9223372036854775808 : Int64)), .second, .val (.int (1 : Int32)), .val (.int (0 : Int32))] [(.long (0 : Int64)), (.long (0 : Int64))]))
      refine own_via (fun _ q => XT.lcmp X12.here hx rfl (hb hby at_239) rfl q) ?_
      show own_Goes p e s below _ _ _ (T12.setTop (mkF m 240 #[.val (.int p0), .val (.int p1), .val (.int p2), .val (.int p3), .val (.int p4), .val (.int n), .val (.int ya), .val (.int yb), .val (.int yc), .val (.ref h0.size), .val (.long (-9223372036854775808 : Int64)), .second, .val (.int (1 : Int32)), .val (.int (0 : Int32))] [(.int (XT.cmpL (0 : Int64) (0 : Int64)))]))
      refine own_via (fun _ q => XS.ifNo X12.here hx rfl (hb hby at_240) rfl (XT.ll_ne_f (by decide)) q) ?_
      show own_Goes p e s below _ _ _ (T12.setTop (mkF m 243 #[.val (.int p0), .val (.int p1), .val (.int p2), .val (.int p3), .val (.int p4), .val (.int n), .val (.int ya), .val (.int yb), .val (.int yc), .val (.ref h0.size), .val (.long (-9223372036854775808 : Int64)), .second, .val (.int (1 : Int32)), .val (.int (0 : Int32))] []))
      refine own_via (fun _ q => XT.iconstV X12.here hx rfl (1 : Int32) (hb hby at_243) rfl q) ?_
      show own_Goes p e s below _ _ _ (T12.setTop (mkF m 244 #[.val (.int p0), .val (.int p1), .val (.int p2), .val (.int p3), .val (.int p4), .val (.int n), .val (.int ya), .val (.int yb), .val (.int yc), .val (.ref h0.size), .val (.long (-9223372036854775808 : Int64)), .second, .val (.int (1 : Int32)), .val (.int (0 : Int32))] [(.int (1 : Int32))]))
      refine own_via (fun _ q => XS.goto X12.here hx rfl (pc0 := 244) (pc' := 248) rfl (hb hby at_244) (by decide) (by decide) q) ?_
      show own_Goes p e s below _ _ _ (T12.setTop (mkF m 248 #[.val (.int p0), .val (.int p1), .val (.int p2), .val (.int p3), .val (.int p4), .val (.int n), .val (.int ya), .val (.int yb), .val (.int yc), .val (.ref h0.size), .val (.long (-9223372036854775808 : Int64)), .second, .val (.int (1 : Int32)), .val (.int (0 : Int32))] [(.int (1 : Int32))]))
      refine own_via (fun _ q => XS.istore X12.here hx rfl (hb hby at_248) rfl (l' := #[.val (.int p0), .val (.int p1), .val (.int p2), .val (.int p3), .val (.int p4), .val (.int n), .val (.int ya), .val (.int yb), .val (.int yc), .val (.ref h0.size), .val (.long (-9223372036854775808 : Int64)), .second, .val (.int (1 : Int32)), .val (.int (0 : Int32))]) rfl q) ?_
      show own_Goes p e s below _ _ _ (T12.setTop (mkF m 250 #[.val (.int p0), .val (.int p1), .val (.int p2), .val (.int p3), .val (.int p4), .val (.int n), .val (.int ya), .val (.int yb), .val (.int yc), .val (.ref h0.size), .val (.long (-9223372036854775808 : Int64)), .second, .val (.int (1 : Int32)), .val (.int (0 : Int32))] []))
      refine own_via (fun _ q => XS.iload X12.here hx rfl (hb hby at_250) rfl q) ?_
      show own_Goes p e s below _ _ _ (T12.setTop (mkF m 252 #[.val (.int p0), .val (.int p1), .val (.int p2), .val (.int p3), .val (.int p4), .val (.int n), .val (.int ya), .val (.int yb), .val (.int yc), .val (.ref h0.size), .val (.long (-9223372036854775808 : Int64)), .second, .val (.int (1 : Int32)), .val (.int (0 : Int32))] [(.int (1 : Int32))]))
      exact own_retN X12 hx (t := .boolean) hret (by simp) hlk (hb hby at_252) (by decide) (by decide) ⟨rfl, N12⟩
  · refine own_via (fun _ q => XS.icmpNo X9.here hx rfl (hb hby at_147) rfl (XT.ii_eq_f hk147_10) q) ?_
    show own_Goes p e s below _ _ _ (T9.setTop (mkF m 150 #[.val (.int p0), .val (.int p1), .val (.int p2), .val (.int p3), .val (.int p4), .val (.int n), .val (.int ya), .val (.int yb), .val (.int yc), .val (.ref h0.size), .val (.long (-9223372036854775808 : Int64)), .second, .val (.int (1 : Int32)), .unset] []))
    refine own_via (fun _ q => XT.iconstV X9.here hx rfl (1 : Int32) (hb hby at_150) rfl q) ?_
    show own_Goes p e s below _ _ _ (T9.setTop (mkF m 151 #[.val (.int p0), .val (.int p1), .val (.int p2), .val (.int p3), .val (.int p4), .val (.int n), .val (.int ya), .val (.int yb), .val (.int yc), .val (.ref h0.size), .val (.long (-9223372036854775808 : Int64)), .second, .val (.int (1 : Int32)), .unset] [(.int (1 : Int32))]))
    refine own_via (fun _ q => XS.goto X9.here hx rfl (pc0 := 151) (pc' := 155) rfl (hb hby at_151) (by decide) (by decide) q) ?_
    show own_Goes p e s below _ _ _ (T9.setTop (mkF m 155 #[.val (.int p0), .val (.int p1), .val (.int p2), .val (.int p3), .val (.int p4), .val (.int n), .val (.int ya), .val (.int yb), .val (.int yc), .val (.ref h0.size), .val (.long (-9223372036854775808 : Int64)), .second, .val (.int (1 : Int32)), .unset] [(.int (1 : Int32))]))
    refine own_via (fun _ q => XS.istore X9.here hx rfl (hb hby at_155) rfl (l' := #[.val (.int p0), .val (.int p1), .val (.int p2), .val (.int p3), .val (.int p4), .val (.int n), .val (.int ya), .val (.int yb), .val (.int yc), .val (.ref h0.size), .val (.long (-9223372036854775808 : Int64)), .second, .val (.int (1 : Int32)), .val (.int (1 : Int32))]) rfl q) ?_
    show own_Goes p e s below _ _ _ (T9.setTop (mkF m 157 #[.val (.int p0), .val (.int p1), .val (.int p2), .val (.int p3), .val (.int p4), .val (.int n), .val (.int ya), .val (.int yb), .val (.int yc), .val (.ref h0.size), .val (.long (-9223372036854775808 : Int64)), .second, .val (.int (1 : Int32)), .val (.int (1 : Int32))] []))
    refine own_via (fun _ q => XS.iload X9.here hx rfl (hb hby at_157) rfl q) ?_
    show own_Goes p e s below _ _ _ (T9.setTop (mkF m 159 #[.val (.int p0), .val (.int p1), .val (.int p2), .val (.int p3), .val (.int p4), .val (.int n), .val (.int ya), .val (.int yb), .val (.int yc), .val (.ref h0.size), .val (.long (-9223372036854775808 : Int64)), .second, .val (.int (1 : Int32)), .val (.int (1 : Int32))] [(.int (1 : Int32))]))
    refine own_via (fun _ q => XS.ifNo X9.here hx rfl (hb hby at_159) rfl (XT.i0_eq_f (by decide)) q) ?_
    show own_Goes p e s below _ _ _ (T9.setTop (mkF m 162 #[.val (.int p0), .val (.int p1), .val (.int p2), .val (.int p3), .val (.int p4), .val (.int n), .val (.int ya), .val (.int yb), .val (.int yc), .val (.ref h0.size), .val (.long (-9223372036854775808 : Int64)), .second, .val (.int (1 : Int32)), .val (.int (1 : Int32))] []))
    refine own_via (fun _ q => XS.aload X9.here hx rfl (hb hby at_162) rfl rfl q) ?_
    show own_Goes p e s below _ _ _ (T9.setTop (mkF m 164 #[.val (.int p0), .val (.int p1), .val (.int p2), .val (.int p3), .val (.int p4), .val (.int n), .val (.int ya), .val (.int yb), .val (.int yc), .val (.ref h0.size), .val (.long (-9223372036854775808 : Int64)), .second, .val (.int (1 : Int32)), .val (.int (1 : Int32))] [(.ref h0.size)]))
    refine own_via (fun _ q => XS.iload X9.here hx rfl (hb hby at_164) rfl q) ?_
    show own_Goes p e s below _ _ _ (T9.setTop (mkF m 166 #[.val (.int p0), .val (.int p1), .val (.int p2), .val (.int p3), .val (.int p4), .val (.int n), .val (.int ya), .val (.int yb), .val (.int yc), .val (.ref h0.size), .val (.long (-9223372036854775808 : Int64)), .second, .val (.int (1 : Int32)), .val (.int (1 : Int32))] [(.int yb), (.ref h0.size)]))
    obtain ⟨cq13, kq13, q13a, q13b, q13c⟩ := isOf hZ e9 hm3.1
    obtain ⟨_, _, ⟨T13, L13, k13, n13⟩, -, X13, ⟨Lc13, hQ13, l13, y13, z13⟩, st13⟩ := X9.virtualBack hx (y := (⟨"com/example/songpool/songpool/table/CrowdedHomes", "crowd", "(I)V"⟩ : MethodName)) (z := (⟨"com/example/songpool/songpool/table/CrowdedHomes", "crowd", "(I)V"⟩ : MethodName)) hown (mvT hZ (hw _ (List.mem_of_getElem? (i := 19) rfl))) (mvT hZ (hw _ (List.mem_of_getElem? (i := 20) rfl))) (notFace_of_selects (args := #[]) (mvT hZ (hw _ (List.mem_of_getElem? (i := 22) rfl)))) (mvT hZ (hw _ (List.mem_of_getElem? (i := 22) rfl))) (mvT hZ (hw _ (List.mem_of_getElem? (i := 21) rfl))) (by decide) (backOf (W := 0) (rm4 l Z a0 hw [] h0.size yb n (fun k => if k = ya.toInt.toNat then .long (-9223372036854775808 : Int64) else (fun _ => .long 0) k) T3.heap n0 (Nat.le_trans Z0 (Nat.le_of_lt hm3.1.lt)) hm3 g2 u2) hZ (hw _ (List.mem_of_getElem? (i := 23) rfl)) (hw _ (List.mem_of_getElem? (i := 7) rfl)) (by decide) (by decide)) q13a q13c (g := (mkF m 166 #[.val (.int p0), .val (.int p1), .val (.int p2), .val (.int p3), .val (.int p4), .val (.int n), .val (.int ya), .val (.int yb), .val (.int yc), .val (.ref h0.size), .val (.long (-9223372036854775808 : Int64)), .second, .val (.int (1 : Int32)), .val (.int (1 : Int32))] [(.int yb), (.ref h0.size)])) rfl (by rw [hml]; rfl) (Steps.refl _) (argsL := [(.int yb)]) (rest := []) (lenOf pd__I_V rfl) rfl (by show 2 * 0 + _ ≤ _; exact Nat.le_of_eq rfl) (hb hby at_166) (fun _ _ => ⟨rfl, e9, (by decide : 3 + 1 ≤ _), (by decide : 129 + 64 ≤ _)⟩)
    dsimp only [Pt.U, Pt.locs, Pt.cells, Pt.slots] at X13 l13 y13 z13 st13 hQ13
    subst l13 y13 z13
    obtain ⟨rfl, N13q, hm13⟩ := hQ13
    have N13 := Fr.app N9 N13q
    refine own_on st13 ?_
    show own_Goes p e s below _ _ _ (T13.setTop (mkF m 169 #[.val (.int p0), .val (.int p1), .val (.int p2), .val (.int p3), .val (.int p4), .val (.int n), .val (.int ya), .val (.int yb), .val (.int yc), .val (.ref h0.size), .val (.long (-9223372036854775808 : Int64)), .second, .val (.int (1 : Int32)), .val (.int (1 : Int32))] []))
    refine own_via (fun _ q => XS.iload X13.here hx rfl (hb hby at_169) rfl q) ?_
    show own_Goes p e s below _ _ _ (T13.setTop (mkF m 171 #[.val (.int p0), .val (.int p1), .val (.int p2), .val (.int p3), .val (.int p4), .val (.int n), .val (.int ya), .val (.int yb), .val (.int yc), .val (.ref h0.size), .val (.long (-9223372036854775808 : Int64)), .second, .val (.int (1 : Int32)), .val (.int (1 : Int32))] [(.int (1 : Int32))]))
    refine own_via (fun _ q => XS.ifNo X13.here hx rfl (hb hby at_171) rfl (XT.i0_eq_f (by decide)) q) ?_
    show own_Goes p e s below _ _ _ (T13.setTop (mkF m 174 #[.val (.int p0), .val (.int p1), .val (.int p2), .val (.int p3), .val (.int p4), .val (.int n), .val (.int ya), .val (.int yb), .val (.int yc), .val (.ref h0.size), .val (.long (-9223372036854775808 : Int64)), .second, .val (.int (1 : Int32)), .val (.int (1 : Int32))] []))
    refine own_via (fun _ q => XS.aload X13.here hx rfl (hb hby at_174) rfl rfl q) ?_
    show own_Goes p e s below _ _ _ (T13.setTop (mkF m 176 #[.val (.int p0), .val (.int p1), .val (.int p2), .val (.int p3), .val (.int p4), .val (.int n), .val (.int ya), .val (.int yb), .val (.int yc), .val (.ref h0.size), .val (.long (-9223372036854775808 : Int64)), .second, .val (.int (1 : Int32)), .val (.int (1 : Int32))] [(.ref h0.size)]))
    refine own_via (fun _ q => XS.iload X13.here hx rfl (hb hby at_176) rfl q) ?_
    show own_Goes p e s below _ _ _ (T13.setTop (mkF m 178 #[.val (.int p0), .val (.int p1), .val (.int p2), .val (.int p3), .val (.int p4), .val (.int n), .val (.int ya), .val (.int yb), .val (.int yc), .val (.ref h0.size), .val (.long (-9223372036854775808 : Int64)), .second, .val (.int (1 : Int32)), .val (.int (1 : Int32))] [(.int yb), (.ref h0.size)]))
    obtain ⟨cq14, kq14, q14a, q14b, q14c⟩ := isOf hZ rfl hm13.1
    obtain ⟨_, _, ⟨T14, L14, k14, n14⟩, -, X14, ⟨Lc14, hQ14, l14, y14, z14⟩, st14⟩ := X13.virtualBack hx (y := (⟨"com/example/songpool/songpool/table/CrowdedHomes", "stateOf", "(I)J"⟩ : MethodName)) (z := (⟨"com/example/songpool/songpool/table/CrowdedHomes", "stateOf", "(I)J"⟩ : MethodName)) hown (mvT hZ (hw _ (List.mem_of_getElem? (i := 27) rfl))) (mvT hZ (hw _ (List.mem_of_getElem? (i := 28) rfl))) (notFace_of_selects (args := #[]) (mvT hZ (hw _ (List.mem_of_getElem? (i := 30) rfl)))) (mvT hZ (hw _ (List.mem_of_getElem? (i := 30) rfl))) (mvT hZ (hw _ (List.mem_of_getElem? (i := 29) rfl))) (by decide) (backOf (W := 0) (rm5 l Z a0 hw [] h0.size yb n (-9223372036854775808 : Int64) (fun k => if k = yb.toInt.toNat then .long (-9223372036854775808 : Int64) else (fun k => if k = ya.toInt.toNat then .long (-9223372036854775808 : Int64) else (fun _ => .long 0) k) k) T13.heap n0 hm13 g2 u2 (if_pos rfl)) hZ (hw _ (List.mem_of_getElem? (i := 31) rfl)) (hw _ (List.mem_of_getElem? (i := 7) rfl)) (by decide) (by decide)) q14a q14c (g := (mkF m 178 #[.val (.int p0), .val (.int p1), .val (.int p2), .val (.int p3), .val (.int p4), .val (.int n), .val (.int ya), .val (.int yb), .val (.int yc), .val (.ref h0.size), .val (.long (-9223372036854775808 : Int64)), .second, .val (.int (1 : Int32)), .val (.int (1 : Int32))] [(.int yb), (.ref h0.size)])) rfl (by rw [hml]; rfl) (Steps.refl _) (argsL := [(.int yb)]) (rest := []) (lenOf pd__I_J rfl) rfl (by show 2 * 0 + _ ≤ _; exact Nat.le_of_eq rfl) (hb hby at_178) (fun _ _ => ⟨rfl, rfl, (by decide : 4 + 0 ≤ _), (by decide : 193 + 0 ≤ _)⟩)
    dsimp only [Pt.U, Pt.locs, Pt.cells, Pt.slots] at X14 l14 y14 z14 st14 hQ14
    subst l14 y14 z14
    obtain ⟨rfl, N14q, e14'⟩ := hQ14
    have N14 := Fr.app N13 N14q
    have e14 := e14'
    refine own_on st14 ?_
    show own_Goes p e s below _ _ _ (T14.setTop (mkF m 181 #[.val (.int p0), .val (.int p1), .val (.int p2), .val (.int p3), .val (.int p4), .val (.int n), .val (.int ya), .val (.int yb), .val (.int yc), .val (.ref h0.size), .val (.long (-9223372036854775808 : Int64)), .second, .val (.int (1 : Int32)), .val (.int (1 : Int32))] [(.long (-9223372036854775808 : Int64))]))
    refine own_via (fun _ q => XT.lload X14.here hx rfl (hb hby at_181) rfl q) ?_
    show own_Goes p e s below _ _ _ (T14.setTop (mkF m 183 #[.val (.int p0), .val (.int p1), .val (.int p2), .val (.int p3), .val (.int p4), .val (.int n), .val (.int ya), .val (.int yb), .val (.int yc), .val (.ref h0.size), .val (.long (-9223372036854775808 : Int64)), .second, .val (.int (1 : Int32)), .val (.int (1 : Int32))] [(.long (-9223372036854775808 : Int64)), (.long (-9223372036854775808 : Int64))]))
    refine own_via (fun _ q => XT.lcmp X14.here hx rfl (hb hby at_183) rfl q) ?_
    show own_Goes p e s below _ _ _ (T14.setTop (mkF m 184 #[.val (.int p0), .val (.int p1), .val (.int p2), .val (.int p3), .val (.int p4), .val (.int n), .val (.int ya), .val (.int yb), .val (.int yc), .val (.ref h0.size), .val (.long (-9223372036854775808 : Int64)), .second, .val (.int (1 : Int32)), .val (.int (1 : Int32))] [(.int (XT.cmpL (-9223372036854775808 : Int64) (-9223372036854775808 : Int64)))]))
    refine own_via (fun _ q => XS.ifNo X14.here hx rfl (hb hby at_184) rfl (XT.ll_ne_f (by decide)) q) ?_
    show own_Goes p e s below _ _ _ (T14.setTop (mkF m 187 #[.val (.int p0), .val (.int p1), .val (.int p2), .val (.int p3), .val (.int p4), .val (.int n), .val (.int ya), .val (.int yb), .val (.int yc), .val (.ref h0.size), .val (.long (-9223372036854775808 : Int64)), .second, .val (.int (1 : Int32)), .val (.int (1 : Int32))] []))
    refine own_via (fun _ q => XS.aload X14.here hx rfl (hb hby at_187) rfl rfl q) ?_
    show own_Goes p e s below _ _ _ (T14.setTop (mkF m 189 #[.val (.int p0), .val (.int p1), .val (.int p2), .val (.int p3), .val (.int p4), .val (.int n), .val (.int ya), .val (.int yb), .val (.int yc), .val (.ref h0.size), .val (.long (-9223372036854775808 : Int64)), .second, .val (.int (1 : Int32)), .val (.int (1 : Int32))] [(.ref h0.size)]))
    refine own_via (fun _ q => XS.iload X14.here hx rfl (hb hby at_189) rfl q) ?_
    show own_Goes p e s below _ _ _ (T14.setTop (mkF m 191 #[.val (.int p0), .val (.int p1), .val (.int p2), .val (.int p3), .val (.int p4), .val (.int n), .val (.int ya), .val (.int yb), .val (.int yc), .val (.ref h0.size), .val (.long (-9223372036854775808 : Int64)), .second, .val (.int (1 : Int32)), .val (.int (1 : Int32))] [(.int ya), (.ref h0.size)]))
    obtain ⟨cq15, kq15, q15a, q15b, q15c⟩ := isOf hZ e14 hm13.1
    obtain ⟨_, _, ⟨T15, L15, k15, n15⟩, -, X15, ⟨Lc15, hQ15, l15, y15, z15⟩, st15⟩ := X14.virtualBack hx (y := (⟨"com/example/songpool/songpool/table/CrowdedHomes", "stateOf", "(I)J"⟩ : MethodName)) (z := (⟨"com/example/songpool/songpool/table/CrowdedHomes", "stateOf", "(I)J"⟩ : MethodName)) hown (mvT hZ (hw _ (List.mem_of_getElem? (i := 27) rfl))) (mvT hZ (hw _ (List.mem_of_getElem? (i := 28) rfl))) (notFace_of_selects (args := #[]) (mvT hZ (hw _ (List.mem_of_getElem? (i := 30) rfl)))) (mvT hZ (hw _ (List.mem_of_getElem? (i := 30) rfl))) (mvT hZ (hw _ (List.mem_of_getElem? (i := 29) rfl))) (by decide) (backOf (W := 0) (rm5 l Z a0 hw [] h0.size ya n (-9223372036854775808 : Int64) (fun k => if k = yb.toInt.toNat then .long (-9223372036854775808 : Int64) else (fun k => if k = ya.toInt.toNat then .long (-9223372036854775808 : Int64) else (fun _ => .long 0) k) k) T13.heap n0 hm13 g1 u1 (by simp)) hZ (hw _ (List.mem_of_getElem? (i := 31) rfl)) (hw _ (List.mem_of_getElem? (i := 7) rfl)) (by decide) (by decide)) q15a q15c (g := (mkF m 191 #[.val (.int p0), .val (.int p1), .val (.int p2), .val (.int p3), .val (.int p4), .val (.int n), .val (.int ya), .val (.int yb), .val (.int yc), .val (.ref h0.size), .val (.long (-9223372036854775808 : Int64)), .second, .val (.int (1 : Int32)), .val (.int (1 : Int32))] [(.int ya), (.ref h0.size)])) rfl (by rw [hml]; rfl) (Steps.refl _) (argsL := [(.int ya)]) (rest := []) (lenOf pd__I_J rfl) rfl (by show 2 * 0 + _ ≤ _; exact Nat.le_of_eq rfl) (hb hby at_191) (fun _ _ => ⟨rfl, e14, (by decide : 4 + 0 ≤ _), (by decide : 193 + 0 ≤ _)⟩)
    dsimp only [Pt.U, Pt.locs, Pt.cells, Pt.slots] at X15 l15 y15 z15 st15 hQ15
    subst l15 y15 z15
    obtain ⟨rfl, N15q, e15'⟩ := hQ15
    have N15 := Fr.app N14 N15q
    have e15 := e15'
    refine own_on st15 ?_
    show own_Goes p e s below _ _ _ (T15.setTop (mkF m 194 #[.val (.int p0), .val (.int p1), .val (.int p2), .val (.int p3), .val (.int p4), .val (.int n), .val (.int ya), .val (.int yb), .val (.int yc), .val (.ref h0.size), .val (.long (-9223372036854775808 : Int64)), .second, .val (.int (1 : Int32)), .val (.int (1 : Int32))] [(.long (-9223372036854775808 : Int64))]))
    refine own_via (fun _ q => XT.lload X15.here hx rfl (hb hby at_194) rfl q) ?_
    show own_Goes p e s below _ _ _ (T15.setTop (mkF m 196 #[.val (.int p0), .val (.int p1), .val (.int p2), .val (.int p3), .val (.int p4), .val (.int n), .val (.int ya), .val (.int yb), .val (.int yc), .val (.ref h0.size), .val (.long (-9223372036854775808 : Int64)), .second, .val (.int (1 : Int32)), .val (.int (1 : Int32))] [(.long (-9223372036854775808 : Int64)), (.long (-9223372036854775808 : Int64))]))
    refine own_via (fun _ q => XT.lcmp X15.here hx rfl (hb hby at_196) rfl q) ?_
    show own_Goes p e s below _ _ _ (T15.setTop (mkF m 197 #[.val (.int p0), .val (.int p1), .val (.int p2), .val (.int p3), .val (.int p4), .val (.int n), .val (.int ya), .val (.int yb), .val (.int yc), .val (.ref h0.size), .val (.long (-9223372036854775808 : Int64)), .second, .val (.int (1 : Int32)), .val (.int (1 : Int32))] [(.int (XT.cmpL (-9223372036854775808 : Int64) (-9223372036854775808 : Int64)))]))
    refine own_via (fun _ q => XS.ifNo X15.here hx rfl (hb hby at_197) rfl (XT.ll_ne_f (by decide)) q) ?_
    show own_Goes p e s below _ _ _ (T15.setTop (mkF m 200 #[.val (.int p0), .val (.int p1), .val (.int p2), .val (.int p3), .val (.int p4), .val (.int n), .val (.int ya), .val (.int yb), .val (.int yc), .val (.ref h0.size), .val (.long (-9223372036854775808 : Int64)), .second, .val (.int (1 : Int32)), .val (.int (1 : Int32))] []))
    refine own_via (fun _ q => XT.iconstV X15.here hx rfl (1 : Int32) (hb hby at_200) rfl q) ?_
    show own_Goes p e s below _ _ _ (T15.setTop (mkF m 201 #[.val (.int p0), .val (.int p1), .val (.int p2), .val (.int p3), .val (.int p4), .val (.int n), .val (.int ya), .val (.int yb), .val (.int yc), .val (.ref h0.size), .val (.long (-9223372036854775808 : Int64)), .second, .val (.int (1 : Int32)), .val (.int (1 : Int32))] [(.int (1 : Int32))]))
    refine own_via (fun _ q => XS.goto X15.here hx rfl (pc0 := 201) (pc' := 205) rfl (hb hby at_201) (by decide) (by decide) q) ?_
    show own_Goes p e s below _ _ _ (T15.setTop (mkF m 205 #[.val (.int p0), .val (.int p1), .val (.int p2), .val (.int p3), .val (.int p4), .val (.int n), .val (.int ya), .val (.int yb), .val (.int yc), .val (.ref h0.size), .val (.long (-9223372036854775808 : Int64)), .second, .val (.int (1 : Int32)), .val (.int (1 : Int32))] [(.int (1 : Int32))]))
    refine own_via (fun _ q => XS.istore X15.here hx rfl (hb hby at_205) rfl (l' := #[.val (.int p0), .val (.int p1), .val (.int p2), .val (.int p3), .val (.int p4), .val (.int n), .val (.int ya), .val (.int yb), .val (.int yc), .val (.ref h0.size), .val (.long (-9223372036854775808 : Int64)), .second, .val (.int (1 : Int32)), .val (.int (1 : Int32))]) rfl q) ?_
    show own_Goes p e s below _ _ _ (T15.setTop (mkF m 207 #[.val (.int p0), .val (.int p1), .val (.int p2), .val (.int p3), .val (.int p4), .val (.int n), .val (.int ya), .val (.int yb), .val (.int yc), .val (.ref h0.size), .val (.long (-9223372036854775808 : Int64)), .second, .val (.int (1 : Int32)), .val (.int (1 : Int32))] []))
    refine own_via (fun _ q => XS.iload X15.here hx rfl (hb hby at_207) rfl q) ?_
    show own_Goes p e s below _ _ _ (T15.setTop (mkF m 209 #[.val (.int p0), .val (.int p1), .val (.int p2), .val (.int p3), .val (.int p4), .val (.int n), .val (.int ya), .val (.int yb), .val (.int yc), .val (.ref h0.size), .val (.long (-9223372036854775808 : Int64)), .second, .val (.int (1 : Int32)), .val (.int (1 : Int32))] [(.int yc)]))
    refine own_via (fun _ q => XS.iload X15.here hx rfl (hb hby at_209) rfl q) ?_
    show own_Goes p e s below _ _ _ (T15.setTop (mkF m 211 #[.val (.int p0), .val (.int p1), .val (.int p2), .val (.int p3), .val (.int p4), .val (.int n), .val (.int ya), .val (.int yb), .val (.int yc), .val (.ref h0.size), .val (.long (-9223372036854775808 : Int64)), .second, .val (.int (1 : Int32)), .val (.int (1 : Int32))] [(.int ya), (.int yc)]))
    by_cases hk211_16 : yc = ya
    · refine own_via (fun _ q => XS.icmpYes X15.here hx rfl (pc0 := 211) (pc' := 250) rfl (hb hby at_211) rfl (XT.ii_eq_t hk211_16) (by decide) (by decide) q) ?_
      show own_Goes p e s below _ _ _ (T15.setTop (mkF m 250 #[.val (.int p0), .val (.int p1), .val (.int p2), .val (.int p3), .val (.int p4), .val (.int n), .val (.int ya), .val (.int yb), .val (.int yc), .val (.ref h0.size), .val (.long (-9223372036854775808 : Int64)), .second, .val (.int (1 : Int32)), .val (.int (1 : Int32))] []))
      refine own_via (fun _ q => XS.iload X15.here hx rfl (hb hby at_250) rfl q) ?_
      show own_Goes p e s below _ _ _ (T15.setTop (mkF m 252 #[.val (.int p0), .val (.int p1), .val (.int p2), .val (.int p3), .val (.int p4), .val (.int n), .val (.int ya), .val (.int yb), .val (.int yc), .val (.ref h0.size), .val (.long (-9223372036854775808 : Int64)), .second, .val (.int (1 : Int32)), .val (.int (1 : Int32))] [(.int (1 : Int32))]))
      exact own_retN X15 hx (t := .boolean) hret (by simp) hlk (hb hby at_252) (by decide) (by decide) ⟨rfl, N15⟩
    · refine own_via (fun _ q => XS.icmpNo X15.here hx rfl (hb hby at_211) rfl (XT.ii_eq_f hk211_16) q) ?_
      show own_Goes p e s below _ _ _ (T15.setTop (mkF m 214 #[.val (.int p0), .val (.int p1), .val (.int p2), .val (.int p3), .val (.int p4), .val (.int n), .val (.int ya), .val (.int yb), .val (.int yc), .val (.ref h0.size), .val (.long (-9223372036854775808 : Int64)), .second, .val (.int (1 : Int32)), .val (.int (1 : Int32))] []))
      refine own_via (fun _ q => XS.iload X15.here hx rfl (hb hby at_214) rfl q) ?_
      show own_Goes p e s below _ _ _ (T15.setTop (mkF m 216 #[.val (.int p0), .val (.int p1), .val (.int p2), .val (.int p3), .val (.int p4), .val (.int n), .val (.int ya), .val (.int yb), .val (.int yc), .val (.ref h0.size), .val (.long (-9223372036854775808 : Int64)), .second, .val (.int (1 : Int32)), .val (.int (1 : Int32))] [(.int (1 : Int32))]))
      refine own_via (fun _ q => XS.ifNo X15.here hx rfl (hb hby at_216) rfl (XT.i0_eq_f (by decide)) q) ?_
      show own_Goes p e s below _ _ _ (T15.setTop (mkF m 219 #[.val (.int p0), .val (.int p1), .val (.int p2), .val (.int p3), .val (.int p4), .val (.int n), .val (.int ya), .val (.int yb), .val (.int yc), .val (.ref h0.size), .val (.long (-9223372036854775808 : Int64)), .second, .val (.int (1 : Int32)), .val (.int (1 : Int32))] []))
      refine own_via (fun _ q => XS.iload X15.here hx rfl (hb hby at_219) rfl q) ?_
      show own_Goes p e s below _ _ _ (T15.setTop (mkF m 221 #[.val (.int p0), .val (.int p1), .val (.int p2), .val (.int p3), .val (.int p4), .val (.int n), .val (.int ya), .val (.int yb), .val (.int yc), .val (.ref h0.size), .val (.long (-9223372036854775808 : Int64)), .second, .val (.int (1 : Int32)), .val (.int (1 : Int32))] [(.int yc)]))
      refine own_via (fun _ q => XS.iload X15.here hx rfl (hb hby at_221) rfl q) ?_
      show own_Goes p e s below _ _ _ (T15.setTop (mkF m 223 #[.val (.int p0), .val (.int p1), .val (.int p2), .val (.int p3), .val (.int p4), .val (.int n), .val (.int ya), .val (.int yb), .val (.int yc), .val (.ref h0.size), .val (.long (-9223372036854775808 : Int64)), .second, .val (.int (1 : Int32)), .val (.int (1 : Int32))] [(.int yb), (.int yc)]))
      by_cases hk223_17 : yc = yb
      · refine own_via (fun _ q => XS.icmpYes X15.here hx rfl (pc0 := 223) (pc' := 250) rfl (hb hby at_223) rfl (XT.ii_eq_t hk223_17) (by decide) (by decide) q) ?_
        show own_Goes p e s below _ _ _ (T15.setTop (mkF m 250 #[.val (.int p0), .val (.int p1), .val (.int p2), .val (.int p3), .val (.int p4), .val (.int n), .val (.int ya), .val (.int yb), .val (.int yc), .val (.ref h0.size), .val (.long (-9223372036854775808 : Int64)), .second, .val (.int (1 : Int32)), .val (.int (1 : Int32))] []))
        refine own_via (fun _ q => XS.iload X15.here hx rfl (hb hby at_250) rfl q) ?_
        show own_Goes p e s below _ _ _ (T15.setTop (mkF m 252 #[.val (.int p0), .val (.int p1), .val (.int p2), .val (.int p3), .val (.int p4), .val (.int n), .val (.int ya), .val (.int yb), .val (.int yc), .val (.ref h0.size), .val (.long (-9223372036854775808 : Int64)), .second, .val (.int (1 : Int32)), .val (.int (1 : Int32))] [(.int (1 : Int32))]))
        exact own_retN X15 hx (t := .boolean) hret (by simp) hlk (hb hby at_252) (by decide) (by decide) ⟨rfl, N15⟩
      · refine own_via (fun _ q => XS.icmpNo X15.here hx rfl (hb hby at_223) rfl (XT.ii_eq_f hk223_17) q) ?_
        show own_Goes p e s below _ _ _ (T15.setTop (mkF m 226 #[.val (.int p0), .val (.int p1), .val (.int p2), .val (.int p3), .val (.int p4), .val (.int n), .val (.int ya), .val (.int yb), .val (.int yc), .val (.ref h0.size), .val (.long (-9223372036854775808 : Int64)), .second, .val (.int (1 : Int32)), .val (.int (1 : Int32))] []))
        refine own_via (fun _ q => XS.iload X15.here hx rfl (hb hby at_226) rfl q) ?_
        show own_Goes p e s below _ _ _ (T15.setTop (mkF m 228 #[.val (.int p0), .val (.int p1), .val (.int p2), .val (.int p3), .val (.int p4), .val (.int n), .val (.int ya), .val (.int yb), .val (.int yc), .val (.ref h0.size), .val (.long (-9223372036854775808 : Int64)), .second, .val (.int (1 : Int32)), .val (.int (1 : Int32))] [(.int (1 : Int32))]))
        refine own_via (fun _ q => XS.ifNo X15.here hx rfl (hb hby at_228) rfl (XT.i0_eq_f (by decide)) q) ?_
        show own_Goes p e s below _ _ _ (T15.setTop (mkF m 231 #[.val (.int p0), .val (.int p1), .val (.int p2), .val (.int p3), .val (.int p4), .val (.int n), .val (.int ya), .val (.int yb), .val (.int yc), .val (.ref h0.size), .val (.long (-9223372036854775808 : Int64)), .second, .val (.int (1 : Int32)), .val (.int (1 : Int32))] []))
        refine own_via (fun _ q => XS.aload X15.here hx rfl (hb hby at_231) rfl rfl q) ?_
        show own_Goes p e s below _ _ _ (T15.setTop (mkF m 233 #[.val (.int p0), .val (.int p1), .val (.int p2), .val (.int p3), .val (.int p4), .val (.int n), .val (.int ya), .val (.int yb), .val (.int yc), .val (.ref h0.size), .val (.long (-9223372036854775808 : Int64)), .second, .val (.int (1 : Int32)), .val (.int (1 : Int32))] [(.ref h0.size)]))
        refine own_via (fun _ q => XS.iload X15.here hx rfl (hb hby at_233) rfl q) ?_
        show own_Goes p e s below _ _ _ (T15.setTop (mkF m 235 #[.val (.int p0), .val (.int p1), .val (.int p2), .val (.int p3), .val (.int p4), .val (.int n), .val (.int ya), .val (.int yb), .val (.int yc), .val (.ref h0.size), .val (.long (-9223372036854775808 : Int64)), .second, .val (.int (1 : Int32)), .val (.int (1 : Int32))] [(.int yc), (.ref h0.size)]))
        obtain ⟨cq18, kq18, q18a, q18b, q18c⟩ := isOf hZ e15 hm13.1
        obtain ⟨_, _, ⟨T18, L18, k18, n18⟩, -, X18, ⟨Lc18, hQ18, l18, y18, z18⟩, st18⟩ := X15.virtualBack hx (y := (⟨"com/example/songpool/songpool/table/CrowdedHomes", "stateOf", "(I)J"⟩ : MethodName)) (z := (⟨"com/example/songpool/songpool/table/CrowdedHomes", "stateOf", "(I)J"⟩ : MethodName)) hown (mvT hZ (hw _ (List.mem_of_getElem? (i := 27) rfl))) (mvT hZ (hw _ (List.mem_of_getElem? (i := 28) rfl))) (notFace_of_selects (args := #[]) (mvT hZ (hw _ (List.mem_of_getElem? (i := 30) rfl)))) (mvT hZ (hw _ (List.mem_of_getElem? (i := 30) rfl))) (mvT hZ (hw _ (List.mem_of_getElem? (i := 29) rfl))) (by decide) (backOf (W := 0) (rm5 l Z a0 hw [] h0.size yc n (0 : Int64) (fun k => if k = yb.toInt.toNat then .long (-9223372036854775808 : Int64) else (fun k => if k = ya.toInt.toNat then .long (-9223372036854775808 : Int64) else (fun _ => .long 0) k) k) T13.heap n0 hm13 g3 u3 ((if_neg (own_Hne g3 g2 hk223_17)).trans (if_neg (own_Hne g3 g1 hk211_16)))) hZ (hw _ (List.mem_of_getElem? (i := 31) rfl)) (hw _ (List.mem_of_getElem? (i := 7) rfl)) (by decide) (by decide)) q18a q18c (g := (mkF m 235 #[.val (.int p0), .val (.int p1), .val (.int p2), .val (.int p3), .val (.int p4), .val (.int n), .val (.int ya), .val (.int yb), .val (.int yc), .val (.ref h0.size), .val (.long (-9223372036854775808 : Int64)), .second, .val (.int (1 : Int32)), .val (.int (1 : Int32))] [(.int yc), (.ref h0.size)])) rfl (by rw [hml]; rfl) (Steps.refl _) (argsL := [(.int yc)]) (rest := []) (lenOf pd__I_J rfl) rfl (by show 2 * 0 + _ ≤ _; exact Nat.le_of_eq rfl) (hb hby at_235) (fun _ _ => ⟨rfl, e15, (by decide : 4 + 0 ≤ _), (by decide : 193 + 0 ≤ _)⟩)
        dsimp only [Pt.U, Pt.locs, Pt.cells, Pt.slots] at X18 l18 y18 z18 st18 hQ18
        subst l18 y18 z18
        obtain ⟨rfl, N18q, e18'⟩ := hQ18
        have N18 := Fr.app N15 N18q
        have e18 := e18'
        refine own_on st18 ?_
        show own_Goes p e s below _ _ _ (T18.setTop (mkF m 238 #[.val (.int p0), .val (.int p1), .val (.int p2), .val (.int p3), .val (.int p4), .val (.int n), .val (.int ya), .val (.int yb), .val (.int yc), .val (.ref h0.size), .val (.long (-9223372036854775808 : Int64)), .second, .val (.int (1 : Int32)), .val (.int (1 : Int32))] [(.long (0 : Int64))]))
        refine own_via (fun _ q => XT.lconstV X18.here hx rfl (0 : Int64) (hb hby at_238) rfl q) ?_
        show own_Goes p e s below _ _ _ (T18.setTop (mkF m 239 #[.val (.int p0), .val (.int p1), .val (.int p2), .val (.int p3), .val (.int p4), .val (.int n), .val (.int ya), .val (.int yb), .val (.int yc), .val (.ref h0.size), .val (.long (-9223372036854775808 : Int64)), .second, .val (.int (1 : Int32)), .val (.int (1 : Int32))] [(.long (0 : Int64)), (.long (0 : Int64))]))
        refine own_via (fun _ q => XT.lcmp X18.here hx rfl (hb hby at_239) rfl q) ?_
        show own_Goes p e s below _ _ _ (T18.setTop (mkF m 240 #[.val (.int p0), .val (.int p1), .val (.int p2), .val (.int p3), .val (.int p4), .val (.int n), .val (.int ya), .val (.int yb), .val (.int yc), .val (.ref h0.size), .val (.long (-9223372036854775808 : Int64)), .second, .val (.int (1 : Int32)), .val (.int (1 : Int32))] [(.int (XT.cmpL (0 : Int64) (0 : Int64)))]))
        refine own_via (fun _ q => XS.ifNo X18.here hx rfl (hb hby at_240) rfl (XT.ll_ne_f (by decide)) q) ?_
        show own_Goes p e s below _ _ _ (T18.setTop (mkF m 243 #[.val (.int p0), .val (.int p1), .val (.int p2), .val (.int p3), .val (.int p4), .val (.int n), .val (.int ya), .val (.int yb), .val (.int yc), .val (.ref h0.size), .val (.long (-9223372036854775808 : Int64)), .second, .val (.int (1 : Int32)), .val (.int (1 : Int32))] []))
        refine own_via (fun _ q => XT.iconstV X18.here hx rfl (1 : Int32) (hb hby at_243) rfl q) ?_
        show own_Goes p e s below _ _ _ (T18.setTop (mkF m 244 #[.val (.int p0), .val (.int p1), .val (.int p2), .val (.int p3), .val (.int p4), .val (.int n), .val (.int ya), .val (.int yb), .val (.int yc), .val (.ref h0.size), .val (.long (-9223372036854775808 : Int64)), .second, .val (.int (1 : Int32)), .val (.int (1 : Int32))] [(.int (1 : Int32))]))
        refine own_via (fun _ q => XS.goto X18.here hx rfl (pc0 := 244) (pc' := 248) rfl (hb hby at_244) (by decide) (by decide) q) ?_
        show own_Goes p e s below _ _ _ (T18.setTop (mkF m 248 #[.val (.int p0), .val (.int p1), .val (.int p2), .val (.int p3), .val (.int p4), .val (.int n), .val (.int ya), .val (.int yb), .val (.int yc), .val (.ref h0.size), .val (.long (-9223372036854775808 : Int64)), .second, .val (.int (1 : Int32)), .val (.int (1 : Int32))] [(.int (1 : Int32))]))
        refine own_via (fun _ q => XS.istore X18.here hx rfl (hb hby at_248) rfl (l' := #[.val (.int p0), .val (.int p1), .val (.int p2), .val (.int p3), .val (.int p4), .val (.int n), .val (.int ya), .val (.int yb), .val (.int yc), .val (.ref h0.size), .val (.long (-9223372036854775808 : Int64)), .second, .val (.int (1 : Int32)), .val (.int (1 : Int32))]) rfl q) ?_
        show own_Goes p e s below _ _ _ (T18.setTop (mkF m 250 #[.val (.int p0), .val (.int p1), .val (.int p2), .val (.int p3), .val (.int p4), .val (.int n), .val (.int ya), .val (.int yb), .val (.int yc), .val (.ref h0.size), .val (.long (-9223372036854775808 : Int64)), .second, .val (.int (1 : Int32)), .val (.int (1 : Int32))] []))
        refine own_via (fun _ q => XS.iload X18.here hx rfl (hb hby at_250) rfl q) ?_
        show own_Goes p e s below _ _ _ (T18.setTop (mkF m 252 #[.val (.int p0), .val (.int p1), .val (.int p2), .val (.int p3), .val (.int p4), .val (.int n), .val (.int ya), .val (.int yb), .val (.int yc), .val (.ref h0.size), .val (.long (-9223372036854775808 : Int64)), .second, .val (.int (1 : Int32)), .val (.int (1 : Int32))] [(.int (1 : Int32))]))
        exact own_retN X18 hx (t := .boolean) hret (by simp) hlk (hb hby at_252) (by decide) (by decide) ⟨rfl, N18⟩
set_option maxRecDepth 65536 in
set_option maxHeartbeats 40000000 in
theorem sg38 {p : Program} {l : Launch} {e : Env} {s : State} {m : MethodId} {args : Array Value} {below : List Frame} {meth : Method} {c : Code} {Z : State} {a0 : Array Value} {T0 : State} {locs : List Loc} {h0 : Heap} {n0 : Nat}  (hw : ∀ d ∈ tables_1, d.before a0 Z = true) (C : own_Ctx Z p s m meth c code maxLocals "com/example/songpool/songpool/table/CrowdedHomesCrowdPinLaw" ret "law")
    (X0 : Stand p l e room_1 s m args below meth c T0 locs 0 0) (e0 : T0.heap = h0) (N0 : Fr n0 locs) (p0 p1 p2 p3 p4 n ya yb : Int32) (Z0 : n0 ≤ h0.size) (Hn1 : 1 ≤ n.toInt) (Hn : n.toInt ≤ 4096) (g1 : 0 ≤ ya.toInt) (u1 : ya.toInt < n.toInt) (g2 : 0 ≤ yb.toInt) (u2 : yb.toInt < n.toInt) :
    own_Goes p e s below room_1.cells room_1.slots (own_One n0) (T0.setTop (mkF m 38 #[.val (.int p0), .val (.int p1), .val (.int p2), .val (.int p3), .val (.int p4), .val (.int n), .val (.int ya), .unset, .unset, .unset, .unset, .unset, .unset, .unset] [(.int yb)])) := by
  obtain ⟨hx, hZ, hby, hml, hown, hret, hlk, hnm⟩ := C
  refine own_via (fun _ q => XS.istore X0.here hx rfl (hb hby at_38) rfl (l' := #[.val (.int p0), .val (.int p1), .val (.int p2), .val (.int p3), .val (.int p4), .val (.int n), .val (.int ya), .val (.int yb), .unset, .unset, .unset, .unset, .unset, .unset]) rfl q) ?_
  show own_Goes p e s below _ _ _ (T0.setTop (mkF m 40 #[.val (.int p0), .val (.int p1), .val (.int p2), .val (.int p3), .val (.int p4), .val (.int n), .val (.int ya), .val (.int yb), .unset, .unset, .unset, .unset, .unset, .unset] []))
  refine own_via (fun _ q => XS.iload X0.here hx rfl (hb hby at_40) rfl q) ?_
  show own_Goes p e s below _ _ _ (T0.setTop (mkF m 42 #[.val (.int p0), .val (.int p1), .val (.int p2), .val (.int p3), .val (.int p4), .val (.int n), .val (.int ya), .val (.int yb), .unset, .unset, .unset, .unset, .unset, .unset] [(.int ya)]))
  refine own_via (fun _ q => XS.iloadN X0.here hx rfl (hb hby at_42) rfl q) ?_
  show own_Goes p e s below _ _ _ (T0.setTop (mkF m 43 #[.val (.int p0), .val (.int p1), .val (.int p2), .val (.int p3), .val (.int p4), .val (.int n), .val (.int ya), .val (.int yb), .unset, .unset, .unset, .unset, .unset, .unset] [(.int p3), (.int ya)]))
  refine own_via (fun _ q => XS.iload X0.here hx rfl (hb hby at_43) rfl q) ?_
  show own_Goes p e s below _ _ _ (T0.setTop (mkF m 45 #[.val (.int p0), .val (.int p1), .val (.int p2), .val (.int p3), .val (.int p4), .val (.int n), .val (.int ya), .val (.int yb), .unset, .unset, .unset, .unset, .unset, .unset] [(.int n), (.int p3), (.int ya)]))
  refine own_via (fun _ q => XS.iload X0.here hx rfl (hb hby at_45) rfl q) ?_
  show own_Goes p e s below _ _ _ (T0.setTop (mkF m 47 #[.val (.int p0), .val (.int p1), .val (.int p2), .val (.int p3), .val (.int p4), .val (.int n), .val (.int ya), .val (.int yb), .unset, .unset, .unset, .unset, .unset, .unset] [(.int p4), (.int n), (.int p3), (.int ya)]))
  refine own_via (fun _ q => XT.iconstV X0.here hx rfl (2 : Int32) (hb hby at_47) rfl q) ?_
  show own_Goes p e s below _ _ _ (T0.setTop (mkF m 48 #[.val (.int p0), .val (.int p1), .val (.int p2), .val (.int p3), .val (.int p4), .val (.int n), .val (.int ya), .val (.int yb), .unset, .unset, .unset, .unset, .unset, .unset] [(.int (2 : Int32)), (.int p4), (.int n), (.int p3), (.int ya)]))
  refine own_via (fun _ q => XS.iand X0.here hx rfl (hb hby at_48) rfl q) ?_
  show own_Goes p e s below _ _ _ (T0.setTop (mkF m 49 #[.val (.int p0), .val (.int p1), .val (.int p2), .val (.int p3), .val (.int p4), .val (.int n), .val (.int ya), .val (.int yb), .unset, .unset, .unset, .unset, .unset, .unset] [(.int (p4 &&& (2 : Int32))), (.int n), (.int p3), (.int ya)]))
  by_cases hk49_1 : (p4 &&& (2 : Int32)) = (0 : Int32)
  · refine own_via (fun _ q => XS.ifYes X0.here hx rfl (pc0 := 49) (pc' := 56) rfl (hb hby at_49) rfl (XT.i0_eq_t hk49_1) (by decide) (by decide) q) ?_
    show own_Goes p e s below _ _ _ (T0.setTop (mkF m 56 #[.val (.int p0), .val (.int p1), .val (.int p2), .val (.int p3), .val (.int p4), .val (.int n), .val (.int ya), .val (.int yb), .unset, .unset, .unset, .unset, .unset, .unset] [(.int n), (.int p3), (.int ya)]))
    refine own_via (fun _ q => XT.iconstV X0.here hx rfl (0 : Int32) (hb hby at_56) rfl q) ?_
    show own_Goes p e s below _ _ _ (T0.setTop (mkF m 57 #[.val (.int p0), .val (.int p1), .val (.int p2), .val (.int p3), .val (.int p4), .val (.int n), .val (.int ya), .val (.int yb), .unset, .unset, .unset, .unset, .unset, .unset] [(.int (0 : Int32)), (.int n), (.int p3), (.int ya)]))
    obtain ⟨_, _, ⟨T2, L2, k2, n2⟩, -, X2, ⟨Lc2, hQ2, l2, y2, z2⟩, st2⟩ := Jvm.LawKit.callS X0 hx (y := (⟨"com/example/songpool/songpool/table/CrowdedHomesCrowdPinLaw", "pick", "(IIIZ)I"⟩ : MethodName)) hown (mvT hZ (hw _ (List.mem_of_getElem? (i := 1) rfl))) (mvT hZ (hw _ (List.mem_of_getElem? (i := 2) rfl))) (mvT hZ (hw _ (List.mem_of_getElem? (i := 3) rfl))) (mvT hZ (hw _ (List.mem_of_getElem? (i := 4) rfl))) (by decide) (backOf (W := 0) (rm1 l Z a0 hw [] ya p3 n (0 : Int32) h0 n0 Hn1 g1 u1) hZ (hw _ (List.mem_of_getElem? (i := 4) rfl)) (hw _ (List.mem_of_getElem? (i := 3) rfl)) (by decide) (by decide)) (g := (mkF m 57 #[.val (.int p0), .val (.int p1), .val (.int p2), .val (.int p3), .val (.int p4), .val (.int n), .val (.int ya), .val (.int yb), .unset, .unset, .unset, .unset, .unset, .unset] [(.int (0 : Int32)), (.int n), (.int p3), (.int ya)])) rfl (by rw [hml]; rfl) (argsL := [(.int ya), (.int p3), (.int n), (.int (0 : Int32))]) (rest := []) (lenOf pd__IIIZ_I rfl) rfl (by show 2 * 0 + _ ≤ _; exact Nat.le_of_eq rfl) (hb hby at_57) (fun _ _ => ⟨rfl, e0, (by decide : 0 + 0 ≤ _), (by decide : 0 + 0 ≤ _)⟩)
    dsimp only [Pt.U, Pt.locs, Pt.cells, Pt.slots] at X2 l2 y2 z2 st2 hQ2
    subst l2 y2 z2
    obtain ⟨⟨r2, rfl, ga2, gb2⟩, N2q, e2⟩ := hQ2
    have N2 := Fr.app N0 N2q
    refine own_via st2 ?_
    show own_Goes p e s below _ _ _ (T2.setTop (mkF m 60 #[.val (.int p0), .val (.int p1), .val (.int p2), .val (.int p3), .val (.int p4), .val (.int n), .val (.int ya), .val (.int yb), .unset, .unset, .unset, .unset, .unset, .unset] [(.int r2)]))
    exact sg60 hw ⟨hx, hZ, hby, hml, hown, hret, hlk, hnm⟩ X2 e2 N2 p0 p1 p2 p3 p4 n ya yb r2 Z0 Hn1 Hn g1 u1 g2 u2 ga2 gb2
  · refine own_via (fun _ q => XS.ifNo X0.here hx rfl (hb hby at_49) rfl (XT.i0_eq_f hk49_1) q) ?_
    show own_Goes p e s below _ _ _ (T0.setTop (mkF m 52 #[.val (.int p0), .val (.int p1), .val (.int p2), .val (.int p3), .val (.int p4), .val (.int n), .val (.int ya), .val (.int yb), .unset, .unset, .unset, .unset, .unset, .unset] [(.int n), (.int p3), (.int ya)]))
    refine own_via (fun _ q => XT.iconstV X0.here hx rfl (1 : Int32) (hb hby at_52) rfl q) ?_
    show own_Goes p e s below _ _ _ (T0.setTop (mkF m 53 #[.val (.int p0), .val (.int p1), .val (.int p2), .val (.int p3), .val (.int p4), .val (.int n), .val (.int ya), .val (.int yb), .unset, .unset, .unset, .unset, .unset, .unset] [(.int (1 : Int32)), (.int n), (.int p3), (.int ya)]))
    refine own_via (fun _ q => XS.goto X0.here hx rfl (pc0 := 53) (pc' := 57) rfl (hb hby at_53) (by decide) (by decide) q) ?_
    show own_Goes p e s below _ _ _ (T0.setTop (mkF m 57 #[.val (.int p0), .val (.int p1), .val (.int p2), .val (.int p3), .val (.int p4), .val (.int n), .val (.int ya), .val (.int yb), .unset, .unset, .unset, .unset, .unset, .unset] [(.int (1 : Int32)), (.int n), (.int p3), (.int ya)]))
    obtain ⟨_, _, ⟨T3, L3, k3, n3⟩, -, X3, ⟨Lc3, hQ3, l3, y3, z3⟩, st3⟩ := Jvm.LawKit.callS X0 hx (y := (⟨"com/example/songpool/songpool/table/CrowdedHomesCrowdPinLaw", "pick", "(IIIZ)I"⟩ : MethodName)) hown (mvT hZ (hw _ (List.mem_of_getElem? (i := 1) rfl))) (mvT hZ (hw _ (List.mem_of_getElem? (i := 2) rfl))) (mvT hZ (hw _ (List.mem_of_getElem? (i := 3) rfl))) (mvT hZ (hw _ (List.mem_of_getElem? (i := 4) rfl))) (by decide) (backOf (W := 0) (rm1 l Z a0 hw [] ya p3 n (1 : Int32) h0 n0 Hn1 g1 u1) hZ (hw _ (List.mem_of_getElem? (i := 4) rfl)) (hw _ (List.mem_of_getElem? (i := 3) rfl)) (by decide) (by decide)) (g := (mkF m 57 #[.val (.int p0), .val (.int p1), .val (.int p2), .val (.int p3), .val (.int p4), .val (.int n), .val (.int ya), .val (.int yb), .unset, .unset, .unset, .unset, .unset, .unset] [(.int (1 : Int32)), (.int n), (.int p3), (.int ya)])) rfl (by rw [hml]; rfl) (argsL := [(.int ya), (.int p3), (.int n), (.int (1 : Int32))]) (rest := []) (lenOf pd__IIIZ_I rfl) rfl (by show 2 * 0 + _ ≤ _; exact Nat.le_of_eq rfl) (hb hby at_57) (fun _ _ => ⟨rfl, e0, (by decide : 0 + 0 ≤ _), (by decide : 0 + 0 ≤ _)⟩)
    dsimp only [Pt.U, Pt.locs, Pt.cells, Pt.slots] at X3 l3 y3 z3 st3 hQ3
    subst l3 y3 z3
    obtain ⟨⟨r3, rfl, ga3, gb3⟩, N3q, e3⟩ := hQ3
    have N3 := Fr.app N0 N3q
    refine own_via st3 ?_
    show own_Goes p e s below _ _ _ (T3.setTop (mkF m 60 #[.val (.int p0), .val (.int p1), .val (.int p2), .val (.int p3), .val (.int p4), .val (.int n), .val (.int ya), .val (.int yb), .unset, .unset, .unset, .unset, .unset, .unset] [(.int r3)]))
    exact sg60 hw ⟨hx, hZ, hby, hml, hown, hret, hlk, hnm⟩ X3 e3 N3 p0 p1 p2 p3 p4 n ya yb r3 Z0 Hn1 Hn g1 u1 g2 u2 ga3 gb3
set_option maxRecDepth 65536 in
set_option maxHeartbeats 40000000 in
theorem sg18 {p : Program} {l : Launch} {e : Env} {s : State} {m : MethodId} {args : Array Value} {below : List Frame} {meth : Method} {c : Code} {Z : State} {a0 : Array Value} {T0 : State} {locs : List Loc} {h0 : Heap} {n0 : Nat}  (hw : ∀ d ∈ tables_1, d.before a0 Z = true) (C : own_Ctx Z p s m meth c code maxLocals "com/example/songpool/songpool/table/CrowdedHomesCrowdPinLaw" ret "law")
    (X0 : Stand p l e room_1 s m args below meth c T0 locs 0 0) (e0 : T0.heap = h0) (N0 : Fr n0 locs) (p0 p1 p2 p3 p4 n ya : Int32) (Z0 : n0 ≤ h0.size) (Hn1 : 1 ≤ n.toInt) (Hn : n.toInt ≤ 4096) (g1 : 0 ≤ ya.toInt) (u1 : ya.toInt < n.toInt) :
    own_Goes p e s below room_1.cells room_1.slots (own_One n0) (T0.setTop (mkF m 18 #[.val (.int p0), .val (.int p1), .val (.int p2), .val (.int p3), .val (.int p4), .val (.int n), .val (.int ya), .unset, .unset, .unset, .unset, .unset, .unset, .unset] [])) := by
  obtain ⟨hx, hZ, hby, hml, hown, hret, hlk, hnm⟩ := C
  refine own_via (fun _ q => XS.iload X0.here hx rfl (hb hby at_18) rfl q) ?_
  show own_Goes p e s below _ _ _ (T0.setTop (mkF m 20 #[.val (.int p0), .val (.int p1), .val (.int p2), .val (.int p3), .val (.int p4), .val (.int n), .val (.int ya), .unset, .unset, .unset, .unset, .unset, .unset, .unset] [(.int ya)]))
  refine own_via (fun _ q => XS.iloadN X0.here hx rfl (hb hby at_20) rfl q) ?_
  show own_Goes p e s below _ _ _ (T0.setTop (mkF m 21 #[.val (.int p0), .val (.int p1), .val (.int p2), .val (.int p3), .val (.int p4), .val (.int n), .val (.int ya), .unset, .unset, .unset, .unset, .unset, .unset, .unset] [(.int p2), (.int ya)]))
  refine own_via (fun _ q => XS.iload X0.here hx rfl (hb hby at_21) rfl q) ?_
  show own_Goes p e s below _ _ _ (T0.setTop (mkF m 23 #[.val (.int p0), .val (.int p1), .val (.int p2), .val (.int p3), .val (.int p4), .val (.int n), .val (.int ya), .unset, .unset, .unset, .unset, .unset, .unset, .unset] [(.int n), (.int p2), (.int ya)]))
  refine own_via (fun _ q => XS.iload X0.here hx rfl (hb hby at_23) rfl q) ?_
  show own_Goes p e s below _ _ _ (T0.setTop (mkF m 25 #[.val (.int p0), .val (.int p1), .val (.int p2), .val (.int p3), .val (.int p4), .val (.int n), .val (.int ya), .unset, .unset, .unset, .unset, .unset, .unset, .unset] [(.int p4), (.int n), (.int p2), (.int ya)]))
  refine own_via (fun _ q => XT.iconstV X0.here hx rfl (1 : Int32) (hb hby at_25) rfl q) ?_
  show own_Goes p e s below _ _ _ (T0.setTop (mkF m 26 #[.val (.int p0), .val (.int p1), .val (.int p2), .val (.int p3), .val (.int p4), .val (.int n), .val (.int ya), .unset, .unset, .unset, .unset, .unset, .unset, .unset] [(.int (1 : Int32)), (.int p4), (.int n), (.int p2), (.int ya)]))
  refine own_via (fun _ q => XS.iand X0.here hx rfl (hb hby at_26) rfl q) ?_
  show own_Goes p e s below _ _ _ (T0.setTop (mkF m 27 #[.val (.int p0), .val (.int p1), .val (.int p2), .val (.int p3), .val (.int p4), .val (.int n), .val (.int ya), .unset, .unset, .unset, .unset, .unset, .unset, .unset] [(.int (p4 &&& (1 : Int32))), (.int n), (.int p2), (.int ya)]))
  by_cases hk27_1 : (p4 &&& (1 : Int32)) = (0 : Int32)
  · refine own_via (fun _ q => XS.ifYes X0.here hx rfl (pc0 := 27) (pc' := 34) rfl (hb hby at_27) rfl (XT.i0_eq_t hk27_1) (by decide) (by decide) q) ?_
    show own_Goes p e s below _ _ _ (T0.setTop (mkF m 34 #[.val (.int p0), .val (.int p1), .val (.int p2), .val (.int p3), .val (.int p4), .val (.int n), .val (.int ya), .unset, .unset, .unset, .unset, .unset, .unset, .unset] [(.int n), (.int p2), (.int ya)]))
    refine own_via (fun _ q => XT.iconstV X0.here hx rfl (0 : Int32) (hb hby at_34) rfl q) ?_
    show own_Goes p e s below _ _ _ (T0.setTop (mkF m 35 #[.val (.int p0), .val (.int p1), .val (.int p2), .val (.int p3), .val (.int p4), .val (.int n), .val (.int ya), .unset, .unset, .unset, .unset, .unset, .unset, .unset] [(.int (0 : Int32)), (.int n), (.int p2), (.int ya)]))
    obtain ⟨_, _, ⟨T2, L2, k2, n2⟩, -, X2, ⟨Lc2, hQ2, l2, y2, z2⟩, st2⟩ := Jvm.LawKit.callS X0 hx (y := (⟨"com/example/songpool/songpool/table/CrowdedHomesCrowdPinLaw", "pick", "(IIIZ)I"⟩ : MethodName)) hown (mvT hZ (hw _ (List.mem_of_getElem? (i := 1) rfl))) (mvT hZ (hw _ (List.mem_of_getElem? (i := 2) rfl))) (mvT hZ (hw _ (List.mem_of_getElem? (i := 3) rfl))) (mvT hZ (hw _ (List.mem_of_getElem? (i := 4) rfl))) (by decide) (backOf (W := 0) (rm1 l Z a0 hw [] ya p2 n (0 : Int32) h0 n0 Hn1 g1 u1) hZ (hw _ (List.mem_of_getElem? (i := 4) rfl)) (hw _ (List.mem_of_getElem? (i := 3) rfl)) (by decide) (by decide)) (g := (mkF m 35 #[.val (.int p0), .val (.int p1), .val (.int p2), .val (.int p3), .val (.int p4), .val (.int n), .val (.int ya), .unset, .unset, .unset, .unset, .unset, .unset, .unset] [(.int (0 : Int32)), (.int n), (.int p2), (.int ya)])) rfl (by rw [hml]; rfl) (argsL := [(.int ya), (.int p2), (.int n), (.int (0 : Int32))]) (rest := []) (lenOf pd__IIIZ_I rfl) rfl (by show 2 * 0 + _ ≤ _; exact Nat.le_of_eq rfl) (hb hby at_35) (fun _ _ => ⟨rfl, e0, (by decide : 0 + 0 ≤ _), (by decide : 0 + 0 ≤ _)⟩)
    dsimp only [Pt.U, Pt.locs, Pt.cells, Pt.slots] at X2 l2 y2 z2 st2 hQ2
    subst l2 y2 z2
    obtain ⟨⟨r2, rfl, ga2, gb2⟩, N2q, e2⟩ := hQ2
    have N2 := Fr.app N0 N2q
    refine own_via st2 ?_
    show own_Goes p e s below _ _ _ (T2.setTop (mkF m 38 #[.val (.int p0), .val (.int p1), .val (.int p2), .val (.int p3), .val (.int p4), .val (.int n), .val (.int ya), .unset, .unset, .unset, .unset, .unset, .unset, .unset] [(.int r2)]))
    exact sg38 hw ⟨hx, hZ, hby, hml, hown, hret, hlk, hnm⟩ X2 e2 N2 p0 p1 p2 p3 p4 n ya r2 Z0 Hn1 Hn g1 u1 ga2 gb2
  · refine own_via (fun _ q => XS.ifNo X0.here hx rfl (hb hby at_27) rfl (XT.i0_eq_f hk27_1) q) ?_
    show own_Goes p e s below _ _ _ (T0.setTop (mkF m 30 #[.val (.int p0), .val (.int p1), .val (.int p2), .val (.int p3), .val (.int p4), .val (.int n), .val (.int ya), .unset, .unset, .unset, .unset, .unset, .unset, .unset] [(.int n), (.int p2), (.int ya)]))
    refine own_via (fun _ q => XT.iconstV X0.here hx rfl (1 : Int32) (hb hby at_30) rfl q) ?_
    show own_Goes p e s below _ _ _ (T0.setTop (mkF m 31 #[.val (.int p0), .val (.int p1), .val (.int p2), .val (.int p3), .val (.int p4), .val (.int n), .val (.int ya), .unset, .unset, .unset, .unset, .unset, .unset, .unset] [(.int (1 : Int32)), (.int n), (.int p2), (.int ya)]))
    refine own_via (fun _ q => XS.goto X0.here hx rfl (pc0 := 31) (pc' := 35) rfl (hb hby at_31) (by decide) (by decide) q) ?_
    show own_Goes p e s below _ _ _ (T0.setTop (mkF m 35 #[.val (.int p0), .val (.int p1), .val (.int p2), .val (.int p3), .val (.int p4), .val (.int n), .val (.int ya), .unset, .unset, .unset, .unset, .unset, .unset, .unset] [(.int (1 : Int32)), (.int n), (.int p2), (.int ya)]))
    obtain ⟨_, _, ⟨T3, L3, k3, n3⟩, -, X3, ⟨Lc3, hQ3, l3, y3, z3⟩, st3⟩ := Jvm.LawKit.callS X0 hx (y := (⟨"com/example/songpool/songpool/table/CrowdedHomesCrowdPinLaw", "pick", "(IIIZ)I"⟩ : MethodName)) hown (mvT hZ (hw _ (List.mem_of_getElem? (i := 1) rfl))) (mvT hZ (hw _ (List.mem_of_getElem? (i := 2) rfl))) (mvT hZ (hw _ (List.mem_of_getElem? (i := 3) rfl))) (mvT hZ (hw _ (List.mem_of_getElem? (i := 4) rfl))) (by decide) (backOf (W := 0) (rm1 l Z a0 hw [] ya p2 n (1 : Int32) h0 n0 Hn1 g1 u1) hZ (hw _ (List.mem_of_getElem? (i := 4) rfl)) (hw _ (List.mem_of_getElem? (i := 3) rfl)) (by decide) (by decide)) (g := (mkF m 35 #[.val (.int p0), .val (.int p1), .val (.int p2), .val (.int p3), .val (.int p4), .val (.int n), .val (.int ya), .unset, .unset, .unset, .unset, .unset, .unset, .unset] [(.int (1 : Int32)), (.int n), (.int p2), (.int ya)])) rfl (by rw [hml]; rfl) (argsL := [(.int ya), (.int p2), (.int n), (.int (1 : Int32))]) (rest := []) (lenOf pd__IIIZ_I rfl) rfl (by show 2 * 0 + _ ≤ _; exact Nat.le_of_eq rfl) (hb hby at_35) (fun _ _ => ⟨rfl, e0, (by decide : 0 + 0 ≤ _), (by decide : 0 + 0 ≤ _)⟩)
    dsimp only [Pt.U, Pt.locs, Pt.cells, Pt.slots] at X3 l3 y3 z3 st3 hQ3
    subst l3 y3 z3
    obtain ⟨⟨r3, rfl, ga3, gb3⟩, N3q, e3⟩ := hQ3
    have N3 := Fr.app N0 N3q
    refine own_via st3 ?_
    show own_Goes p e s below _ _ _ (T3.setTop (mkF m 38 #[.val (.int p0), .val (.int p1), .val (.int p2), .val (.int p3), .val (.int p4), .val (.int n), .val (.int ya), .unset, .unset, .unset, .unset, .unset, .unset, .unset] [(.int r3)]))
    exact sg38 hw ⟨hx, hZ, hby, hml, hown, hret, hlk, hnm⟩ X3 e3 N3 p0 p1 p2 p3 p4 n ya r3 Z0 Hn1 Hn g1 u1 ga3 gb3
theorem pn_0 : plainName "com/example/songpool/songpool/table/CrowdedHomesCrowdPinLaw" = true := by first | (simp [plainName, overriddenIn]; done) | decide +kernel
theorem ef_0 (m : MethodId) (p0 : Int32) (p1 : Int32) (p2 : Int32) (p3 : Int32) (p4 : Int32) : entryFrame m #[(.int p0), (.int p1), (.int p2), (.int p3), (.int p4)] maxLocals = mkF m 0 #[.val (.int p0), .val (.int p1), .val (.int p2), .val (.int p3), .val (.int p4), .unset, .unset, .unset, .unset, .unset, .unset, .unset, .unset, .unset] [] := by first | (simp [entryFrame, mkF, argsToLocals, Value.category, maxLocals]; done) | rfl
set_option maxRecDepth 65536 in
set_option maxHeartbeats 40000000 in
theorem rm0 (l : Launch) (Z : State) (a0 : Array Value) (hw : ∀ d ∈ tables_1, d.before a0 Z = true) (ws : List Jvm.Cond) (p0 : Int32) (p1 : Int32) (p2 : Int32) (p3 : Int32) (p4 : Int32)  (h0 : Heap) (n0 : Nat) (Z0 : n0 ≤ h0.size) :
    own_Met l Z x code maxLocals ret ws room_1 #[(.int p0), (.int p1), (.int p2), (.int p3), (.int p4)] h0 (own_One n0) := by
  refine own_met (plainFor_of_name pn_0) ?_
  intro p e s m below meth c s₁ C X0 e0
  obtain ⟨hx, hZ, hby, hml, hown, hret, hlk, hnm⟩ := C
  rw [ef_0]
  show own_Goes p e s below _ _ _ (s₁.setTop (mkF m 0 #[.val (.int p0), .val (.int p1), .val (.int p2), .val (.int p3), .val (.int p4), .unset, .unset, .unset, .unset, .unset, .unset, .unset, .unset, .unset] []))
  refine own_via (fun _ q => XS.iloadN X0.here hx rfl (hb hby at_0) rfl q) ?_
  show own_Goes p e s below _ _ _ (s₁.setTop (mkF m 1 #[.val (.int p0), .val (.int p1), .val (.int p2), .val (.int p3), .val (.int p4), .unset, .unset, .unset, .unset, .unset, .unset, .unset, .unset, .unset] [(.int p0)]))
  refine own_via (fun _ q => XT.sipushV X0.here hx rfl (4095 : Int32) (hb hby at_1) rfl q) ?_
  show own_Goes p e s below _ _ _ (s₁.setTop (mkF m 4 #[.val (.int p0), .val (.int p1), .val (.int p2), .val (.int p3), .val (.int p4), .unset, .unset, .unset, .unset, .unset, .unset, .unset, .unset, .unset] [(.int (4095 : Int32)), (.int p0)]))
  refine own_via (fun _ q => XS.iand X0.here hx rfl (hb hby at_4) rfl q) ?_
  show own_Goes p e s below _ _ _ (s₁.setTop (mkF m 5 #[.val (.int p0), .val (.int p1), .val (.int p2), .val (.int p3), .val (.int p4), .unset, .unset, .unset, .unset, .unset, .unset, .unset, .unset, .unset] [(.int (p0 &&& (4095 : Int32)))]))
  refine own_via (fun _ q => XT.iconstV X0.here hx rfl (1 : Int32) (hb hby at_5) rfl q) ?_
  show own_Goes p e s below _ _ _ (s₁.setTop (mkF m 6 #[.val (.int p0), .val (.int p1), .val (.int p2), .val (.int p3), .val (.int p4), .unset, .unset, .unset, .unset, .unset, .unset, .unset, .unset, .unset] [(.int (1 : Int32)), (.int (p0 &&& (4095 : Int32)))]))
  refine own_via (fun _ q => XS.iadd X0.here hx rfl (hb hby at_6) rfl q) ?_
  show own_Goes p e s below _ _ _ (s₁.setTop (mkF m 7 #[.val (.int p0), .val (.int p1), .val (.int p2), .val (.int p3), .val (.int p4), .unset, .unset, .unset, .unset, .unset, .unset, .unset, .unset, .unset] [(.int ((p0 &&& (4095 : Int32)) + (1 : Int32)))]))
  refine own_via (fun _ q => XS.istore X0.here hx rfl (hb hby at_7) rfl (l' := #[.val (.int p0), .val (.int p1), .val (.int p2), .val (.int p3), .val (.int p4), .val (.int ((p0 &&& (4095 : Int32)) + (1 : Int32))), .unset, .unset, .unset, .unset, .unset, .unset, .unset, .unset]) rfl q) ?_
  show own_Goes p e s below _ _ _ (s₁.setTop (mkF m 9 #[.val (.int p0), .val (.int p1), .val (.int p2), .val (.int p3), .val (.int p4), .val (.int ((p0 &&& (4095 : Int32)) + (1 : Int32))), .unset, .unset, .unset, .unset, .unset, .unset, .unset, .unset] []))
  refine own_via (fun _ q => XS.iloadN X0.here hx rfl (hb hby at_9) rfl q) ?_
  show own_Goes p e s below _ _ _ (s₁.setTop (mkF m 10 #[.val (.int p0), .val (.int p1), .val (.int p2), .val (.int p3), .val (.int p4), .val (.int ((p0 &&& (4095 : Int32)) + (1 : Int32))), .unset, .unset, .unset, .unset, .unset, .unset, .unset, .unset] [(.int p1)]))
  refine own_via (X0.ldcInt hx hown (mvT hZ (hw _ (List.mem_of_getElem? (i := 0) rfl))) (g := (mkF m 10 #[.val (.int p0), .val (.int p1), .val (.int p2), .val (.int p3), .val (.int p4), .val (.int ((p0 &&& (4095 : Int32)) + (1 : Int32))), .unset, .unset, .unset, .unset, .unset, .unset, .unset, .unset] [(.int p1)])) rfl (hb hby at_10)) ?_
  show own_Goes p e s below _ _ _ (s₁.setTop (mkF m 12 #[.val (.int p0), .val (.int p1), .val (.int p2), .val (.int p3), .val (.int p4), .val (.int ((p0 &&& (4095 : Int32)) + (1 : Int32))), .unset, .unset, .unset, .unset, .unset, .unset, .unset, .unset] [(.int (2147483647 : Int32)), (.int p1)]))
  refine own_via (fun _ q => XS.iand X0.here hx rfl (hb hby at_12) rfl q) ?_
  show own_Goes p e s below _ _ _ (s₁.setTop (mkF m 13 #[.val (.int p0), .val (.int p1), .val (.int p2), .val (.int p3), .val (.int p4), .val (.int ((p0 &&& (4095 : Int32)) + (1 : Int32))), .unset, .unset, .unset, .unset, .unset, .unset, .unset, .unset] [(.int (p1 &&& (2147483647 : Int32)))]))
  refine own_via (fun _ q => XS.iload X0.here hx rfl (hb hby at_13) rfl q) ?_
  show own_Goes p e s below _ _ _ (s₁.setTop (mkF m 15 #[.val (.int p0), .val (.int p1), .val (.int p2), .val (.int p3), .val (.int p4), .val (.int ((p0 &&& (4095 : Int32)) + (1 : Int32))), .unset, .unset, .unset, .unset, .unset, .unset, .unset, .unset] [(.int ((p0 &&& (4095 : Int32)) + (1 : Int32))), (.int (p1 &&& (2147483647 : Int32)))]))
  refine own_via (fun _ q => iremM X0 hx rfl (hb hby at_15) rfl (own_nz1 (own_n p0).1) q) ?_
  show own_Goes p e s below _ _ _ (s₁.setTop (mkF m 16 #[.val (.int p0), .val (.int p1), .val (.int p2), .val (.int p3), .val (.int p4), .val (.int ((p0 &&& (4095 : Int32)) + (1 : Int32))), .unset, .unset, .unset, .unset, .unset, .unset, .unset, .unset] [(.int ((p1 &&& (2147483647 : Int32)) % ((p0 &&& (4095 : Int32)) + (1 : Int32))))]))
  refine own_via (fun _ q => XS.istore X0.here hx rfl (hb hby at_16) rfl (l' := #[.val (.int p0), .val (.int p1), .val (.int p2), .val (.int p3), .val (.int p4), .val (.int ((p0 &&& (4095 : Int32)) + (1 : Int32))), .val (.int ((p1 &&& (2147483647 : Int32)) % ((p0 &&& (4095 : Int32)) + (1 : Int32)))), .unset, .unset, .unset, .unset, .unset, .unset, .unset]) rfl q) ?_
  show own_Goes p e s below _ _ _ (s₁.setTop (mkF m 18 #[.val (.int p0), .val (.int p1), .val (.int p2), .val (.int p3), .val (.int p4), .val (.int ((p0 &&& (4095 : Int32)) + (1 : Int32))), .val (.int ((p1 &&& (2147483647 : Int32)) % ((p0 &&& (4095 : Int32)) + (1 : Int32)))), .unset, .unset, .unset, .unset, .unset, .unset, .unset] []))
  obtain ⟨n1, n2⟩ := own_n p0
  obtain ⟨b1, c1⟩ := own_rem p1 n1
  exact sg18 hw ⟨hx, hZ, hby, hml, hown, hret, hlk, hnm⟩ X0 e0 (Fr.nil n0) p0 p1 p2 p3 p4 ((p0 &&& (4095 : Int32)) + (1 : Int32)) ((p1 &&& (2147483647 : Int32)) % ((p0 &&& (4095 : Int32)) + (1 : Int32))) Z0 n1 n2 b1 c1
set_option maxRecDepth 65536 in
set_option maxHeartbeats 40000000 in
theorem comes_1 {Post : Tables → Env → Array Value → State → Outcome → State → Prop} (hpost : ∀ tb e args s v u, (limb_1_1.after args s (.returned v) u = true ∧ limb_1_2.after args s (.returned v) u = true ∧ True) → FrameEnd s (.returned v) u (Jvm.fieldLocs frame_1_writes args s ++ Jvm.arrayLocs frame_1_arrays args s ++ Jvm.staticLocs frame_1_statics s) 16 512 → Post tb e args s (.returned v) u) :
    ArmFor flags0 classFile x code maxLocals ret World_1 tables_1 room_1 Calls_1 rest_1 Pre_1 Post := by
  intro l hfl _ _ p e ha hc hk s m args below hf hA hF happ hP
  obtain ⟨hcalls, hrest, hpre⟩ := hP
  obtain ⟨-, -, -, hnamed, -, -, -, hat⟩ := (Spec.applies_iff hf).mp happ
  obtain ⟨hg, hn⟩ := and_e (Cond.before_iff.mp (show (Jvm.Cond.and given_1 narrow_1).before args s = true from hpre))
  obtain ⟨h1, g0⟩ := and_e hg
  obtain ⟨w0, w1, w2, w3, w4, rfl⟩ : ∃ w0 w1 w2 w3 w4 : Value, args = #[w0, w1, w2, w3, w4] := by
    have hs : args.size = 5 := by simpa [Cond.value, given_1] using h1
    obtain ⟨L⟩ := args
    match L, hs with
    | [w0, w1, w2, w3, w4], _ => exact ⟨w0, w1, w2, w3, w4, rfl⟩
  have hw := fun d (hd : d ∈ tables_1) => atoms_spec (ws := Jvm.Cond.code x code maxLocals ret :: tables_1) hat d (List.mem_cons_of_mem _ hd)
  obtain ⟨g0', g1⟩ := and_e g0
  obtain ⟨i0, e0⟩ := is_v g0'
  obtain rfl : w0 = (.int i0) := Option.some.inj e0
  obtain ⟨g1', g2⟩ := and_e g1
  obtain ⟨i1, e1⟩ := is_v g1'
  obtain rfl : w1 = (.int i1) := Option.some.inj e1
  obtain ⟨g2', g3⟩ := and_e g2
  obtain ⟨i2, e2⟩ := is_v g2'
  obtain rfl : w2 = (.int i2) := Option.some.inj e2
  obtain ⟨g3', g4⟩ := and_e g3
  obtain ⟨i3, e3⟩ := is_v g3'
  obtain rfl : w3 = (.int i3) := Option.some.inj e3
  obtain ⟨i4, e4⟩ := is_v g4
  obtain rfl : w4 = (.int i4) := Option.some.inj e4
  obtain ⟨n, o, h1, h2, h3, _, L, rfl, ⟨rfl, N⟩, hq⟩ := rm0 l s _ hw tables_1 i0 i1 i2 i3 i4 s.heap s.heap.size (Nat.le_refl _) p e ha hc hk s m _ below hf ((Spec.applies_iff_loose hf).mp happ).1 ⟨rfl, State.Warmed39.refl s, rfl⟩ trivial
  refine ⟨n, _, h1, h2, h3, hpost _ _ _ _ _ _ ⟨Cond.after_iff.mpr rfl, Cond.after_iff.mpr (eq_i res_at (Term.int_eval (1)) rfl), trivial⟩ ⟨hq.1, hq.2.1, (hq.2.2.sift fun y hy => Or.inr (N y hy)).mono (by decide) (by decide)⟩⟩
theorem main_1_1 : Claimed_1_1 := comes_1 fun _ _ _ _ _ _ h hF => ⟨h.1, hF⟩
theorem main_1_2 : Claimed_1_2 := comes_1 fun _ _ _ _ _ _ h hF => ⟨h.2.1, hF⟩
end Jvm.Pilot.@@N@@
namespace Jvm.Pilot.@@N@@
open Jvm Jvm.ClassFile Sem Op Lib Jvm.Free Jvm.Stand Jvm.Pilot.@@N@@.Jvm.D
/-! MADE BY PROGRAM (witnessworld.py) out of the Statement's table words and the real class files: 11 classes; the members and pool entries that the words name. The judged class is class 1, her method 1. -/
namespace start1
open Jvm.ClassFile
def u (s : String) : CpInfo := .utf8 (stringToUtf16 s)
/-- a pool by its gaps: so many unusable entries, then the entry; so many at the end -/
def gap : Nat → List CpInfo → List CpInfo
  | 0, r => r
  | n + 1, r => .unusable :: gap n r
def poolList (es : List (Nat × CpInfo)) (last : Nat) : List CpInfo := es.foldr (fun e r => gap e.1 (e.2 :: r)) (gap last [])
def pool (es : List (Nat × CpInfo)) (last : Nat) : Array CpInfo := ⟨poolList es last⟩
def fileOf (pool : Array CpInfo) (this : Nat) (attrs : Array Attribute := #[]) (ms : Array MethodInfo := #[]) (fl : Nat := 33) (sup : Nat := 0) (ifs : Array Nat := #[]) (fds : Array FieldInfo := #[]) : ClassFile where
  minorVersion := 0
  majorVersion := 65
  constantPool := pool
  accessFlags := fl
  thisClass := this
  superClass := sup
  interfaces := ifs
  fields := fds
  methods := ms
  attributes := attrs
def plain (name : String) (sup : Option ClassId) : Class where
  name := name
  kind := .ordinary
  loader := none
  accessFlags := 33
  super := sup
  interfaces := #[]
  cf := none
  fields := #[]
  methods := #[]
  instanceTypes := #[]
  staticTypes := #[]
  resolved := #[]
  callSites := []
  init := .initialized
  statics := none
  mirror := none

def pool0 : Array CpInfo := pool [(5, u "<init>"), (0, u "()V"), (1, .class_ 10), (1, u "java/lang/Object")] 113

def k0c0 : Code := { maxStack := 0, maxLocals := 1, code := object_method_1_code, exceptionTable := #[], attributes := #[] }
def k0m0 : Method := { name := "<init>", desc := "()V", sig := { parameters := [], returnType := none }, accessFlags := 1, code := some k0c0 }
/-- java/lang/Object -/
def k0 : Class := { plain "java/lang/Object" none with
  accessFlags := 33
  interfaces := #[]
  cf := some (fileOf pool0 8 #[] #[{ accessFlags := 1, nameIndex := 5, descriptorIndex := 6, attributes := #[] }] 33 0 #[] #[])
  fields := #[]
  methods := #[k0m0]
  instanceTypes := #[]
  staticTypes := #[]
  resolved := Array.replicate 124 none
  statics := none }

def pool1 : Array CpInfo := pool [(2, .class_ 4), (1, u "java/lang/Object"), (0, u "<init>"), (0, u "()V"), (0, .integer 2147483647), (0, .methodref 9 10), (0, .class_ 11), (0, .nameAndType 12 13), (0, u "com/example/songpool/songpool/table/CrowdedHomesCrowdPinLaw"), (0, u "pick"), (0, u "(IIIZ)I"), (0, .class_ 15), (0, u "com/example/songpool/songpool/table/CrowdedHomes"), (0, .methodref 14 17), (0, .nameAndType 5 18), (0, u "(I)V"), (0, .methodref 14 20), (0, .nameAndType 21 18), (0, u "crowd"), (0, .methodref 14 23), (0, .nameAndType 24 25), (0, u "stateOf"), (0, u "(I)J"), (0, .methodref 14 27), (0, .nameAndType 28 29), (0, u "isCrowd"), (0, u "(J)Z"), (0, .methodref 14 31), (0, .nameAndType 32 33), (0, u "reach"), (0, u "(J)I"), (0, .methodref 14 35), (0, .nameAndType 36 33), (0, u "names"), (0, .methodref 14 38), (0, .nameAndType 39 29), (0, u "isFar"), (0, .methodref 14 41), (0, .nameAndType 42 29), (0, u "hasFreed"), (2, u "law"), (0, u "(IIIII)Z")] 3

def k1m0 : Method := { name := "<init>", desc := "()V", sig := { parameters := [], returnType := none }, accessFlags := 1, code := none }
def k1c1 : Code := { maxStack := 5, maxLocals := 14, code := code, exceptionTable := #[], attributes := #[] }
def k1m1 : Method := { name := "law", desc := "(IIIII)Z", sig := { parameters := [.int, .int, .int, .int, .int], returnType := some .boolean }, accessFlags := 9, code := some k1c1 }
def k1c2 : Code := { maxStack := 3, maxLocals := 5, code := method_3_code, exceptionTable := #[], attributes := #[] }
def k1m2 : Method := { name := "pick", desc := "(IIIZ)I", sig := { parameters := [.int, .int, .int, .boolean], returnType := some .int }, accessFlags := 10, code := some k1c2 }
/-- com/example/songpool/songpool/table/CrowdedHomesCrowdPinLaw -/
def k1 : Class := { plain "com/example/songpool/songpool/table/CrowdedHomesCrowdPinLaw" (some 0) with
  accessFlags := 49
  interfaces := #[]
  cf := some (fileOf pool1 9 #[] #[{ accessFlags := 1, nameIndex := 5, descriptorIndex := 6, attributes := #[] }, { accessFlags := 9, nameIndex := 45, descriptorIndex := 46, attributes := #[] }, { accessFlags := 10, nameIndex := 12, descriptorIndex := 13, attributes := #[] }] 49 2 #[] #[])
  fields := #[]
  methods := #[k1m0, k1m1, k1m2]
  instanceTypes := #[]
  staticTypes := #[]
  resolved := Array.replicate 50 none
  statics := none }

def pool2 : Array CpInfo := pool [(1, .class_ 2), (0, u "com/example/songpool/songpool/table/CrowdedHomes"), (0, .methodref 4 5), (0, .class_ 6), (0, .nameAndType 7 8), (0, u "java/lang/Object"), (0, u "<init>"), (0, u "()V"), (0, .long 63), (1, .class_ 12), (0, u "[J"), (0, .fieldref 1 14), (0, .nameAndType 15 16), (0, u "blocks"), (0, u "[[J"), (2, u "stateOf"), (0, u "(I)J"), (0, .long 9223372036854775808), (1, .long 4611686018427387904), (1, .long 1073741823), (1, .long 2147483648), (1, .long 1073741824), (7, u "NOT_CROWDED"), (0, u "J"), (3, u "BLOCK_BITS"), (0, u "I"), (1, u "BLOCK_MASK"), (1, u "CROWDED"), (0, u "CROWD"), (0, u "NAMES_SHIFT"), (1, u "NAMES_MASK"), (0, u "FAR"), (0, u "FREED"), (0, u "REACH_MASK"), (0, u "(I)V"), (6, u "crowd"), (2, u "isCrowd"), (0, u "(J)Z"), (0, u "reach"), (0, u "(J)I"), (0, u "names"), (0, u "isFar"), (0, u "hasFreed")] 10

def k2c0 : Code := { maxStack := 5, maxLocals := 2, code := prog_59_method_1_code, exceptionTable := #[], attributes := #[] }
def k2m0 : Method := { name := "<init>", desc := "(I)V", sig := { parameters := [.int], returnType := none }, accessFlags := 0, code := some k2c0 }
def k2c1 : Code := { maxStack := 3, maxLocals := 3, code := prog_59_method_3_code, exceptionTable := #[], attributes := #[] }
def k2m1 : Method := { name := "stateOf", desc := "(I)J", sig := { parameters := [.int], returnType := some .long }, accessFlags := 0, code := some k2c1 }
def k2c2 : Code := { maxStack := 4, maxLocals := 3, code := prog_59_method_5_code, exceptionTable := #[], attributes := #[] }
def k2m2 : Method := { name := "crowd", desc := "(I)V", sig := { parameters := [.int], returnType := none }, accessFlags := 0, code := some k2c2 }
def k2c3 : Code := { maxStack := 4, maxLocals := 2, code := prog_59_method_7_code, exceptionTable := #[], attributes := #[] }
def k2m3 : Method := { name := "isCrowd", desc := "(J)Z", sig := { parameters := [.long], returnType := some .boolean }, accessFlags := 8, code := some k2c3 }
def k2c4 : Code := { maxStack := 4, maxLocals := 2, code := prog_59_method_8_code, exceptionTable := #[], attributes := #[] }
def k2m4 : Method := { name := "reach", desc := "(J)I", sig := { parameters := [.long], returnType := some .int }, accessFlags := 8, code := some k2c4 }
def k2c5 : Code := { maxStack := 4, maxLocals := 2, code := prog_59_method_9_code, exceptionTable := #[], attributes := #[] }
def k2m5 : Method := { name := "names", desc := "(J)I", sig := { parameters := [.long], returnType := some .int }, accessFlags := 8, code := some k2c5 }
def k2c6 : Code := { maxStack := 4, maxLocals := 2, code := prog_59_method_10_code, exceptionTable := #[], attributes := #[] }
def k2m6 : Method := { name := "isFar", desc := "(J)Z", sig := { parameters := [.long], returnType := some .boolean }, accessFlags := 8, code := some k2c6 }
def k2c7 : Code := { maxStack := 4, maxLocals := 2, code := prog_59_method_11_code, exceptionTable := #[], attributes := #[] }
def k2m7 : Method := { name := "hasFreed", desc := "(J)Z", sig := { parameters := [.long], returnType := some .boolean }, accessFlags := 8, code := some k2c7 }
/-- com/example/songpool/songpool/table/CrowdedHomes -/
def k2 : Class := { plain "com/example/songpool/songpool/table/CrowdedHomes" (some 0) with
  accessFlags := 48
  interfaces := #[]
  cf := some (fileOf pool2 1 #[] #[{ accessFlags := 0, nameIndex := 7, descriptorIndex := 55, attributes := #[] }, { accessFlags := 0, nameIndex := 19, descriptorIndex := 20, attributes := #[] }, { accessFlags := 0, nameIndex := 62, descriptorIndex := 55, attributes := #[] }, { accessFlags := 8, nameIndex := 65, descriptorIndex := 66, attributes := #[] }, { accessFlags := 8, nameIndex := 67, descriptorIndex := 68, attributes := #[] }, { accessFlags := 8, nameIndex := 69, descriptorIndex := 68, attributes := #[] }, { accessFlags := 8, nameIndex := 70, descriptorIndex := 66, attributes := #[] }, { accessFlags := 8, nameIndex := 71, descriptorIndex := 66, attributes := #[] }] 48 4 #[] #[{ accessFlags := 24, nameIndex := 37, descriptorIndex := 38, attributes := #[] }, { accessFlags := 26, nameIndex := 42, descriptorIndex := 43, attributes := #[] }, { accessFlags := 26, nameIndex := 45, descriptorIndex := 43, attributes := #[] }, { accessFlags := 26, nameIndex := 47, descriptorIndex := 38, attributes := #[] }, { accessFlags := 26, nameIndex := 48, descriptorIndex := 38, attributes := #[] }, { accessFlags := 26, nameIndex := 49, descriptorIndex := 43, attributes := #[] }, { accessFlags := 26, nameIndex := 51, descriptorIndex := 38, attributes := #[] }, { accessFlags := 26, nameIndex := 52, descriptorIndex := 38, attributes := #[] }, { accessFlags := 26, nameIndex := 53, descriptorIndex := 38, attributes := #[] }, { accessFlags := 26, nameIndex := 54, descriptorIndex := 38, attributes := #[] }, { accessFlags := 2, nameIndex := 15, descriptorIndex := 16, attributes := #[] }])
  fields := #[{ name := "NOT_CROWDED", type := .long, accessFlags := 24, slot := 0, constantValue := 0 }, { name := "BLOCK_BITS", type := .int, accessFlags := 26, slot := 1, constantValue := 0 }, { name := "BLOCK_MASK", type := .int, accessFlags := 26, slot := 2, constantValue := 0 }, { name := "CROWDED", type := .long, accessFlags := 26, slot := 3, constantValue := 0 }, { name := "CROWD", type := .long, accessFlags := 26, slot := 4, constantValue := 0 }, { name := "NAMES_SHIFT", type := .int, accessFlags := 26, slot := 5, constantValue := 0 }, { name := "NAMES_MASK", type := .long, accessFlags := 26, slot := 6, constantValue := 0 }, { name := "FAR", type := .long, accessFlags := 26, slot := 7, constantValue := 0 }, { name := "FREED", type := .long, accessFlags := 26, slot := 8, constantValue := 0 }, { name := "REACH_MASK", type := .long, accessFlags := 26, slot := 9, constantValue := 0 }, { name := "blocks", type := (.array (.array .long)), accessFlags := 2, slot := 0, constantValue := 0 }]
  methods := #[k2m0, k2m1, k2m2, k2m3, k2m4, k2m5, k2m6, k2m7]
  instanceTypes := #[(.array (.array .long))]
  staticTypes := #[.long, .int, .int, .long, .long, .int, .long, .long, .long, .long]
  resolved := Array.replicate 82 none
  statics := none }

def pool3 : Array CpInfo := pool [(1, u "java/lang/Cloneable"), (0, .class_ 1), (0, u "java/lang/Object"), (0, .class_ 3)] 3

/-- java/lang/Cloneable -/
def k3 : Class := { plain "java/lang/Cloneable" (some 0) with
  accessFlags := 1537
  interfaces := #[]
  cf := some (fileOf pool3 2 #[] #[] 1537 4 #[] #[])
  fields := #[]
  methods := #[]
  instanceTypes := #[]
  staticTypes := #[]
  resolved := Array.replicate 8 none
  statics := none }

def pool4 : Array CpInfo := pool [(1, u "java/io/Serializable"), (0, .class_ 1), (0, u "java/lang/Object"), (0, .class_ 3)] 3

/-- java/io/Serializable -/
def k4 : Class := { plain "java/io/Serializable" (some 0) with
  accessFlags := 1537
  interfaces := #[]
  cf := some (fileOf pool4 2 #[] #[] 1537 4 #[] #[])
  fields := #[]
  methods := #[]
  instanceTypes := #[]
  staticTypes := #[]
  resolved := Array.replicate 8 none
  statics := none }

/-- the primitive byte -/
def k5 : Class := { plain "byte" none with kind := .primitive 'B', accessFlags := 0x411 }
/-- [B -/
def k6 : Class := { plain "[B" (some 0) with kind := .array 5 .byte, interfaces := #[3, 4], accessFlags := 1041 }

/-- the primitive int -/
def k7 : Class := { plain "int" none with kind := .primitive 'I', accessFlags := 0x411 }
/-- [I -/
def k8 : Class := { plain "[I" (some 0) with kind := .array 7 .int, interfaces := #[3, 4], accessFlags := 1041 }

/-- the primitive long -/
def k9 : Class := { plain "long" none with kind := .primitive 'J', accessFlags := 0x411 }
/-- [J -/
def k10 : Class := { plain "[J" (some 0) with kind := .array 9 .long, interfaces := #[3, 4], accessFlags := 1041 }

/-- [[J -/
def k11 : Class := { plain "[[J" (some 0) with kind := .array 10 (.array .long), interfaces := #[3, 4], accessFlags := 1041 }
def heap : Heap := #[]
def classes : Array Class := #[k0, k1, k2, k3, k4, k5, k6, k7, k8, k9, k10, k11]
def interned : List (Array UInt16 × Addr) := []
def slotsUsed : Nat := 0
def theMethod : MethodId := ⟨1, 1⟩
def args0 : Array Value := #[.int 5, .int 7, .int 9, .int 11, .int 13]
def aboutOver (below : List Frame) : State where
  vm := { classes := classes, interned := interned.toArray }
  heap := heap
  slotsUsed := slotsUsed
  threads := #[{ frames := .invoking theMethod args0 :: below }]
def below0 : List Frame := [.native { method := ⟨0, 0⟩, args := #[] }]
def about1 : State := aboutOver below0
def p0 : Program := .bare "" "" ""
def e0 : Env := launch0.env 0 0 0
theorem w_frames : about1.frames = Frame.invoking theMethod args0 :: below0 := rfl
set_option maxRecDepth 65536 in
theorem w_args : argsFit about1.vm theMethod args0 = true := by decide +kernel
set_option maxRecDepth 65536 in
theorem w_heap : heapFits about1 = true := by decide +kernel
set_option maxRecDepth 65536 in
theorem w_runnable : about1.curStatus? = some .runnable := by decide +kernel
set_option maxRecDepth 65536 in
theorem w_alone : about1.alone = true := by decide +kernel
set_option maxRecDepth 65536 in
theorem w_named : about1.methodNamed? x = some theMethod := by decide +kernel
set_option maxRecDepth 65536 in
theorem w_hears : about1.hears theMethod below0 = true := by decide +kernel
set_option maxRecDepth 65536 in
theorem w_ripe : about1.ripe theMethod args0 below0 = true := by decide +kernel
theorem w_running : about1.status = .running := rfl
set_option maxRecDepth 65536 in
theorem w_room : about1.hasRoom e0.platform room_1 = true :=
  launch0.hasRoom_least _ room_1 (by decide +kernel) (by decide +kernel) (by decide +kernel) (by decide +kernel) (by decide +kernel) (by decide +kernel)
theorem allAtoms_all (ts : List Jvm.Cond) (a : Array Jvm.Value) (st : Jvm.State) : (allAtoms ts).before a st = ts.all (fun c => c.before a st) := by
  induction ts with
  | nil => rfl
  | cons c t ih =>
    show (Jvm.Cond.and c (allAtoms t)).before a st = _
    rw [Jvm.Cond.before_and, ih, List.all_cons]
def words1 : List Jvm.Cond := Jvm.Cond.code x code maxLocals ret :: tables_1
/-- a 'code' word, met by the world's own term for the bytes: nothing is compared byte by byte -/
theorem code_word {y : MethodName} {bytes : ByteArray} {mx : Nat} {rt : Option FieldType} {a : Array Value} {s : State} {m : MethodId} {meth : Method} {c : Code} (h1 : s.methodNamed? y = some m) (h2 : s.vm.method? m = some meth) (h3 : meth.code = some c) (h4 : c.code = bytes)
    (h5 : (c.maxLocals == mx && c.exceptionTable.isEmpty && decide (c.maxStack ≤ mostOperands) && decide (meth.sig.returnType = rt) && !meth.locks && decide (parseMethodDescriptor y.desc = some meth.sig)) = true) : (Jvm.Cond.code y bytes mx rt).before a s = true := by
  simp only [Bool.and_eq_true, beq_iff_eq, Bool.not_eq_true', decide_eq_true_eq] at h5
  obtain ⟨⟨⟨⟨⟨g1, g2⟩, g3⟩, g4⟩, g5⟩, g6⟩ := h5
  simp [Cond.before, Cond.holds, Cond.value, h1, h2, h3, h4, g1, g2, g3, g4, g5, g6]
def isCode : Jvm.Cond → Bool
  | .code _ _ _ _ => true
  | _ => false
theorem all_split {L : List Jvm.Cond} {P : Jvm.Cond → Bool} (h1 : L.all (fun c => isCode c || P c) = true) (h2 : ∀ c ∈ L.filter isCode, P c = true) : L.all P = true := by
  refine List.all_eq_true.mpr fun c hc => ?_
  have h := List.all_eq_true.mp h1 c hc
  rcases Bool.eq_false_or_eq_true (isCode c) with hi | hi
  · exact h2 c (List.mem_filter.mpr ⟨hc, hi⟩)
  · simpa [hi] using h
set_option maxRecDepth 65536 in
theorem w_c0 : (Jvm.Cond.code x code maxLocals ret).before args0 about1 = true := code_word (m := ⟨1, 1⟩) (meth := k1m1) (c := k1c1) (by decide +kernel) rfl rfl rfl (by decide +kernel)
set_option maxRecDepth 65536 in
theorem w_c1 : (Jvm.Cond.code ({ cls := "com/example/songpool/songpool/table/CrowdedHomesCrowdPinLaw", name := "pick", desc := "(IIIZ)I" } : Jvm.MethodName) method_3_code (5 : Nat) (Option.some Jvm.ClassFile.FieldType.int)).before args0 about1 = true := code_word (m := ⟨1, 2⟩) (meth := k1m2) (c := k1c2) (by decide +kernel) rfl rfl rfl (by decide +kernel)
set_option maxRecDepth 65536 in
theorem w_c2 : (Jvm.Cond.code ({ cls := "com/example/songpool/songpool/table/CrowdedHomes", name := "<init>", desc := "(I)V" } : Jvm.MethodName) prog_59_method_1_code (2 : Nat) (Option.none : Option Jvm.ClassFile.FieldType)).before args0 about1 = true := code_word (m := ⟨2, 0⟩) (meth := k2m0) (c := k2c0) (by decide +kernel) rfl rfl rfl (by decide +kernel)
set_option maxRecDepth 65536 in
theorem w_c3 : (Jvm.Cond.code ({ cls := "java/lang/Object", name := "<init>", desc := "()V" } : Jvm.MethodName) object_method_1_code (1 : Nat) (Option.none : Option Jvm.ClassFile.FieldType)).before args0 about1 = true := code_word (m := ⟨0, 0⟩) (meth := k0m0) (c := k0c0) (by decide +kernel) rfl rfl rfl (by decide +kernel)
set_option maxRecDepth 65536 in
theorem w_c4 : (Jvm.Cond.code ({ cls := "com/example/songpool/songpool/table/CrowdedHomes", name := "crowd", desc := "(I)V" } : Jvm.MethodName) prog_59_method_5_code (3 : Nat) (Option.none : Option Jvm.ClassFile.FieldType)).before args0 about1 = true := code_word (m := ⟨2, 2⟩) (meth := k2m2) (c := k2c2) (by decide +kernel) rfl rfl rfl (by decide +kernel)
set_option maxRecDepth 65536 in
theorem w_c5 : (Jvm.Cond.code ({ cls := "com/example/songpool/songpool/table/CrowdedHomes", name := "stateOf", desc := "(I)J" } : Jvm.MethodName) prog_59_method_3_code (3 : Nat) (Option.some Jvm.ClassFile.FieldType.long)).before args0 about1 = true := code_word (m := ⟨2, 1⟩) (meth := k2m1) (c := k2c1) (by decide +kernel) rfl rfl rfl (by decide +kernel)
set_option maxRecDepth 65536 in
theorem w_c6 : (Jvm.Cond.code ({ cls := "com/example/songpool/songpool/table/CrowdedHomes", name := "isCrowd", desc := "(J)Z" } : Jvm.MethodName) prog_59_method_7_code (2 : Nat) (Option.some Jvm.ClassFile.FieldType.boolean)).before args0 about1 = true := code_word (m := ⟨2, 3⟩) (meth := k2m3) (c := k2c3) (by decide +kernel) rfl rfl rfl (by decide +kernel)
set_option maxRecDepth 65536 in
theorem w_c7 : (Jvm.Cond.code ({ cls := "com/example/songpool/songpool/table/CrowdedHomes", name := "reach", desc := "(J)I" } : Jvm.MethodName) prog_59_method_8_code (2 : Nat) (Option.some Jvm.ClassFile.FieldType.int)).before args0 about1 = true := code_word (m := ⟨2, 4⟩) (meth := k2m4) (c := k2c4) (by decide +kernel) rfl rfl rfl (by decide +kernel)
set_option maxRecDepth 65536 in
theorem w_c8 : (Jvm.Cond.code ({ cls := "com/example/songpool/songpool/table/CrowdedHomes", name := "names", desc := "(J)I" } : Jvm.MethodName) prog_59_method_9_code (2 : Nat) (Option.some Jvm.ClassFile.FieldType.int)).before args0 about1 = true := code_word (m := ⟨2, 5⟩) (meth := k2m5) (c := k2c5) (by decide +kernel) rfl rfl rfl (by decide +kernel)
set_option maxRecDepth 65536 in
theorem w_c9 : (Jvm.Cond.code ({ cls := "com/example/songpool/songpool/table/CrowdedHomes", name := "isFar", desc := "(J)Z" } : Jvm.MethodName) prog_59_method_10_code (2 : Nat) (Option.some Jvm.ClassFile.FieldType.boolean)).before args0 about1 = true := code_word (m := ⟨2, 6⟩) (meth := k2m6) (c := k2c6) (by decide +kernel) rfl rfl rfl (by decide +kernel)
set_option maxRecDepth 65536 in
theorem w_c10 : (Jvm.Cond.code ({ cls := "com/example/songpool/songpool/table/CrowdedHomes", name := "hasFreed", desc := "(J)Z" } : Jvm.MethodName) prog_59_method_11_code (2 : Nat) (Option.some Jvm.ClassFile.FieldType.boolean)).before args0 about1 = true := code_word (m := ⟨2, 7⟩) (meth := k2m7) (c := k2c7) (by decide +kernel) rfl rfl rfl (by decide +kernel)
def codes1 : List Jvm.Cond := [Jvm.Cond.code x code maxLocals ret, Jvm.Cond.code ({ cls := "com/example/songpool/songpool/table/CrowdedHomesCrowdPinLaw", name := "pick", desc := "(IIIZ)I" } : Jvm.MethodName) method_3_code (5 : Nat) (Option.some Jvm.ClassFile.FieldType.int), Jvm.Cond.code ({ cls := "com/example/songpool/songpool/table/CrowdedHomes", name := "<init>", desc := "(I)V" } : Jvm.MethodName) prog_59_method_1_code (2 : Nat) (Option.none : Option Jvm.ClassFile.FieldType), Jvm.Cond.code ({ cls := "java/lang/Object", name := "<init>", desc := "()V" } : Jvm.MethodName) object_method_1_code (1 : Nat) (Option.none : Option Jvm.ClassFile.FieldType), Jvm.Cond.code ({ cls := "com/example/songpool/songpool/table/CrowdedHomes", name := "crowd", desc := "(I)V" } : Jvm.MethodName) prog_59_method_5_code (3 : Nat) (Option.none : Option Jvm.ClassFile.FieldType), Jvm.Cond.code ({ cls := "com/example/songpool/songpool/table/CrowdedHomes", name := "stateOf", desc := "(I)J" } : Jvm.MethodName) prog_59_method_3_code (3 : Nat) (Option.some Jvm.ClassFile.FieldType.long), Jvm.Cond.code ({ cls := "com/example/songpool/songpool/table/CrowdedHomes", name := "isCrowd", desc := "(J)Z" } : Jvm.MethodName) prog_59_method_7_code (2 : Nat) (Option.some Jvm.ClassFile.FieldType.boolean), Jvm.Cond.code ({ cls := "com/example/songpool/songpool/table/CrowdedHomes", name := "reach", desc := "(J)I" } : Jvm.MethodName) prog_59_method_8_code (2 : Nat) (Option.some Jvm.ClassFile.FieldType.int), Jvm.Cond.code ({ cls := "com/example/songpool/songpool/table/CrowdedHomes", name := "names", desc := "(J)I" } : Jvm.MethodName) prog_59_method_9_code (2 : Nat) (Option.some Jvm.ClassFile.FieldType.int), Jvm.Cond.code ({ cls := "com/example/songpool/songpool/table/CrowdedHomes", name := "isFar", desc := "(J)Z" } : Jvm.MethodName) prog_59_method_10_code (2 : Nat) (Option.some Jvm.ClassFile.FieldType.boolean), Jvm.Cond.code ({ cls := "com/example/songpool/songpool/table/CrowdedHomes", name := "hasFreed", desc := "(J)Z" } : Jvm.MethodName) prog_59_method_11_code (2 : Nat) (Option.some Jvm.ClassFile.FieldType.boolean)]
set_option maxRecDepth 65536 in
theorem codes_eq : words1.filter isCode = codes1 := rfl
theorem w_codes : ∀ c ∈ words1.filter isCode, c.before args0 about1 = true := by
  rw [codes_eq]
  intro c hc
  simp only [codes1, List.mem_cons, List.not_mem_nil, or_false] at hc
  rcases hc with rfl | rfl | rfl | rfl | rfl | rfl | rfl | rfl | rfl | rfl | rfl
  · exact w_c0
  · exact w_c1
  · exact w_c2
  · exact w_c3
  · exact w_c4
  · exact w_c5
  · exact w_c6
  · exact w_c7
  · exact w_c8
  · exact w_c9
  · exact w_c10
set_option maxRecDepth 65536 in
theorem w_t1 : (words1.take 24).all (fun c => isCode c || c.before args0 about1) = true := by decide +kernel
set_option maxRecDepth 65536 in
theorem w_t2 : ((words1.drop 24).take 24).all (fun c => isCode c || c.before args0 about1) = true := by decide +kernel
set_option maxRecDepth 65536 in
theorem w_t3 : ((words1.drop 24).drop 24).all (fun c => isCode c || c.before args0 about1) = true := by decide +kernel
theorem w_tables : (allAtoms (Jvm.Cond.code x code maxLocals ret :: tables_1)).before args0 about1 = true := by
  rw [allAtoms_all]
  show words1.all (fun c => c.before args0 about1) = true
  refine all_split ?_ w_codes
  rw [← List.take_append_drop 24 words1, List.all_append, w_t1, ← List.take_append_drop 24 (words1.drop 24), List.all_append, w_t2, w_t3]
  rfl
set_option maxRecDepth 65536 in
theorem w_case : (Jvm.Cond.and given_1 narrow_1).before args0 about1 = true := by decide +kernel
theorem w_applies : (headSpec (Jvm.Cond.code x code maxLocals ret :: tables_1) room_1).applies x e0.platform about1 = true :=
  (Spec.applies_iff w_frames).mpr ⟨w_running, w_runnable, w_alone, w_named, w_hears, w_ripe, w_room, w_tables⟩
theorem atStart : AtStart classFile x code maxLocals ret World_1 tables_1 room_1 Calls_1 rest_1 Pre_1 launch0 p0 e0 about1 theMethod args0 below0 :=
  ⟨lists_1, trivial, launch0.admits_env _ _ _, launch0.least_env, fairChoices_fair.cas, fairChoices_fair.clock, w_frames, w_args, w_heap, w_applies, trivial, trivial, w_case⟩
end start1
theorem witness_1 : WitnessClaimed_1 := ⟨start1.p0, start1.e0, start1.about1, start1.theMethod, start1.args0, start1.below0, start1.atStart⟩
end Jvm.Pilot.@@N@@
