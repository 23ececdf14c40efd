import JvmDerived
import JvmDerived.Pilot.@@N@@Statement
import JvmDerived.Pilot.@@N@@Code
set_option linter.unusedVariables false
set_option linter.unusedSimpArgs false
namespace Jvm.Pilot.@@N@@
open Jvm Jvm.ClassFile Sem Op Lib Jvm.Free Jvm.Stand Jvm.LawKit Jvm.RoadKit Bundle Jvm.Pilot.@@N@@.Jvm.D
section OwnKit
variable {p : Program} {l : Launch} {e : Env} {R : Room} {s : State} {m : MethodId} {args : Array Value} {below : List Frame} {meth : Method} {c : Code} {T : State} {locs : List Loc} {cells slots : Nat} {rc rs : Nat} {Q : Option Value → Heap → List Loc → Prop}
/-- from A the run comes to its end by a return, and Q tells of the value, the heap and the places written -/
def own_Goes (p : Program) (e : Env) (s : State) (below : List Frame) (rc rs : Nat) (Q : Option Value → Heap → List Loc → Prop) (A : State) : Prop :=
  ∃ s₂ o, Steps p.tables e below A s₂ ∧ s₂.status = .running ∧ Ended s₂ below o ∧ ∃ v L, o = .returned v ∧ Q v s₂.heap L ∧ FrameEnd s o s₂ L rc rs
theorem own_via {A B : State} (k : ∀ t, Steps p.tables e below B t → Steps p.tables e below A t) (h : own_Goes p e s below rc rs Q B) : own_Goes p e s below rc rs Q A := by
  obtain ⟨s₂, o, h1, h2⟩ := h
  exact ⟨s₂, o, k _ h1, h2⟩
theorem own_on {A B : State} (k : Steps p.tables e below A B) (h : own_Goes p e s below rc rs Q B) : own_Goes p e s below rc rs Q A := own_via (fun _ q => k.trans q) h
theorem own_leave (X : Stand p l e R s m args below meth c T locs cells slots) {v : Option Value} {A : State} (hv : meth.sig.returnType = none → v = none) (hlk : meth.locks = false) (hc : cells ≤ rc) (hs : slots ≤ rs) (hQ : Q v T.heap locs)
    (st : ∀ fs, (∀ (f : JFrame) (acts : List Action), f.method = m → f.locked = none → f.entered = [] → (doReturn e (T.setTop f) acts v).1 = T.setFrames fs) → Steps p.tables e below A (T.setFrames fs)) : own_Goes p e s below rc rs Q A := by
  obtain ⟨fs, hr, hrun, hended, hW, hsame⟩ := X.leave (v := v) hv hlk
  exact ⟨_, _, st fs hr, hrun, hended, _, _, rfl, hQ, ⟨_, rfl⟩, hW, hsame.mono hc hs⟩
theorem own_retN (X : Stand p l e R s m args below meth c T locs cells slots) (hx : p.tables.exec = Jvm.exec) {pc : Nat} {Ls : Array Slot} {z : Int32} {t : FieldType} {rest : List Value} (hret : meth.sig.returnType = some t) (ht : t = .boolean ∨ t = .byte ∨ t = .char ∨ t = .short) (hlk : meth.locks = false)
    (hd : decode c.code pc = .ok (.ireturn, 1)) (hc : cells ≤ rc) (hs : slots ≤ rs) (hQ : Q (some (.int (nar t z))) T.heap locs) : own_Goes p e s below rc rs Q (T.setTop (mkF m pc Ls (.int z :: rest))) :=
  own_leave X (fun h => by rw [hret] at h; cases h) hlk hc hs hQ fun fs hr => retN X hx hret ht hd hr
theorem own_retI (X : Stand p l e R s m args below meth c T locs cells slots) (hx : p.tables.exec = Jvm.exec) {pc : Nat} {Ls : Array Slot} {z : Int32} {rest : List Value} (hret : meth.sig.returnType = some .int) (hlk : meth.locks = false)
    (hd : decode c.code pc = .ok (.ireturn, 1)) (hc : cells ≤ rc) (hs : slots ≤ rs) (hQ : Q (some (.int z)) T.heap locs) : own_Goes p e s below rc rs Q (T.setTop (mkF m pc Ls (.int z :: rest))) :=
  own_leave X (fun h => by rw [hret] at h; cases h) hlk hc hs hQ fun fs hr => retOut X hx hret rfl (Or.inl ⟨rfl, Or.inl rfl, z, rfl⟩) hd hr
theorem own_retJ (X : Stand p l e R s m args below meth c T locs cells slots) (hx : p.tables.exec = Jvm.exec) {pc : Nat} {Ls : Array Slot} {z : Int64} {rest : List Value} (hret : meth.sig.returnType = some .long) (hlk : meth.locks = false)
    (hd : decode c.code pc = .ok (.lreturn, 1)) (hc : cells ≤ rc) (hs : slots ≤ rs) (hQ : Q (some (.long z)) T.heap locs) : own_Goes p e s below rc rs Q (T.setTop (mkF m pc Ls (.long z :: rest))) :=
  own_leave X (fun h => by rw [hret] at h; cases h) hlk hc hs hQ fun fs hr => retOut X hx hret rfl (Or.inr (Or.inl ⟨rfl, rfl, z, rfl⟩)) hd hr
theorem own_retA (X : Stand p l e R s m args below meth c T locs cells slots) (hx : p.tables.exec = Jvm.exec) {pc : Nat} {Ls : Array Slot} {w : Value} {t : FieldType} {rest : List Value} (hret : meth.sig.returnType = some t) (ht : t.isReference = true) (hw : w.isRef = true) (hlk : meth.locks = false)
    (hd : decode c.code pc = .ok (.areturn, 1)) (hc : cells ≤ rc) (hs : slots ≤ rs) (hQ : Q (some w) T.heap locs) : own_Goes p e s below rc rs Q (T.setTop (mkF m pc Ls (w :: rest))) :=
  own_leave X (fun h => by rw [hret] at h; cases h) hlk hc hs hQ fun fs hr => retOut X hx hret (by rcases ref_cases hw with rfl | ⟨z, rfl⟩ <;> cases t <;> first | rfl | exact absurd ht (by decide)) (Or.inr (Or.inr (Or.inr (Or.inr ⟨rfl, ht, hw⟩)))) hd hr
theorem own_ret0 (X : Stand p l e R s m args below meth c T locs cells slots) (hx : p.tables.exec = Jvm.exec) {pc : Nat} {Ls : Array Slot} (hret : meth.sig.returnType = none) (hlk : meth.locks = false)
    (hd : decode c.code pc = .ok (.return_, 1)) (hc : cells ≤ rc) (hs : slots ≤ rs) (hQ : Q none T.heap locs) : own_Goes p e s below rc rs Q (T.setTop (mkF m pc Ls [])) :=
  own_leave X (fun _ => rfl) hlk hc hs hQ fun fs hr => X.returnOut hx hret hd hr
/-- what a walk through one body knows of it -/
def own_Ctx (Z : State) (p : Program) (s : State) (m : MethodId) (meth : Method) (c : Code) (bytes : ByteArray) (maxl : Nat) (own : String) (ret : Option FieldType) (nm : String) : Prop :=
  p.tables.exec = Jvm.exec ∧ Z.Warmed39 s.vm ∧ c.code = bytes ∧ c.maxLocals = maxl ∧ s.vm.findClass own = some m.cls ∧ meth.sig.returnType = ret ∧ meth.locks = false ∧ meth.name = nm
/-- the contract of one body: from the arguments as' and the heap h0 it returns, and Q tells what it leaves -/
abbrev own_Met (l : Launch) (Z : State) (y : MethodName) (bytes : ByteArray) (maxl : Nat) (ret : Option FieldType) (ws : List Jvm.Cond) (rm : Room) (as' : Array Value) (h0 : Heap) (Q : Option Value → Heap → List Loc → Prop) : Prop :=
  MetFree l y (head1 (Jvm.Cond.code y bytes maxl ret :: ws) rm) (fun a U => a = as' ∧ Z.Warmed39 U.vm ∧ U.heap = h0) (fun _ _ _ _ _ => True) (fun _ U o U' => ∃ v L, o = .returned v ∧ Q v U'.heap L ∧ FrameEnd U o U' L rm.cells rm.slots)
theorem own_met {Z : State} {y : MethodName} {bytes : ByteArray} {maxl : Nat} {ret : Option FieldType} {ws : List Jvm.Cond} {rm : Room} {as' : Array Value} {h0 : Heap} (hp : plainFor y = true)
    (body : ∀ (p : Program) (e : Env) (s : State) (m : MethodId) (below : List Frame) (meth : Method) (c : Code) (s₁ : State), own_Ctx Z p s m meth c bytes maxl y.cls ret y.name → Stand p l e rm s m as' below meth c s₁ [] 0 0 → s₁.heap = h0 → own_Goes p e s below rm.cells rm.slots Q (s₁.setTop (entryFrame m as' maxl))) :
    own_Met l Z y bytes maxl ret ws rm as' h0 Q := by
  refine MetFree.of_bodySF hp hisR ?_
  intro p e s m args below meth c s₁ Bd hml0 hP hK
  obtain ⟨rfl, hZ, hh⟩ := hP
  have X0 : Stand p l e rm s m args below meth c s₁ [] 0 0 := Stand.of_body Bd
  exact body p e s m below meth c s₁ ⟨Bd.exec, hZ, Bd.bytes, hml0, findClass_of_methodNamed Bd.named, Bd.returns, Bd.notSynchronized, (name_of_methodNamed Bd.named Bd.method).1⟩ X0 (by rw [← hh, Bd.state]; rfl)
/-- a body that writes nothing and returns w -/
def own_Pure (w : Value) (h0 : Heap) (n0 : Nat) (v : Option Value) (h : Heap) (L : List Loc) : Prop := v = some w ∧ Fr n0 L ∧ h = h0
/-- the law returns 1 and wrote nothing old -/
def own_One (n0 : Nat) (v : Option Value) (h : Heap) (L : List Loc) : Prop := v = some (.int 1) ∧ Fr n0 L
theorem own_narT : nar .boolean (1 : Int32) = 1 := rfl
theorem own_narF : nar .boolean (0 : Int32) = 0 := rfl
theorem own_eqi {t : Term} {k : Int32} {a : Array Value} {s : State} (h : (Cond.eq t (.int k)).value a s none s [] = some true) : t.eval a s none [] s = some (.int k) := by
  simp only [Cond.value, Term.eval] at h
  cases ht : t.eval a s none [] s with
  | none => simp [ht] at h
  | some x => cases x <;> simp [ht] at h ⊢; exact h
end OwnKit
theorem pd___J : parseMethodDescriptor "()J" = some ⟨[], some .long⟩ := by decide +kernel
theorem d1_0 : decode prog_15_method_7_code 0 = .ok (.aload_n 0, 1) := by decide +kernel
theorem d1_1 : decode prog_15_method_7_code 1 = .ok (.getfield 51, 3) := by decide +kernel
theorem d1_4 : decode prog_15_method_7_code 4 = .ok (.ifCond .eq 17, 3) := by decide +kernel
theorem d1_7 : decode prog_15_method_7_code 7 = .ok (.ldc2_w 65, 3) := by decide +kernel
theorem d1_10 : decode prog_15_method_7_code 10 = .ok (.bipush 64, 2) := by decide +kernel
theorem d1_12 : decode prog_15_method_7_code 12 = .ok (.aload_n 0, 1) := by decide +kernel
theorem d1_13 : decode prog_15_method_7_code 13 = .ok (.getfield 47, 3) := by decide +kernel
theorem d1_16 : decode prog_15_method_7_code 16 = .ok (.isub, 1) := by decide +kernel
theorem d1_17 : decode prog_15_method_7_code 17 = .ok (.lshr, 1) := by decide +kernel
theorem d1_18 : decode prog_15_method_7_code 18 = .ok (.goto 4, 3) := by decide +kernel
theorem d1_21 : decode prog_15_method_7_code 21 = .ok (.lconst 0, 1) := by decide +kernel
theorem d1_22 : decode prog_15_method_7_code 22 = .ok (.lreturn, 1) := by decide +kernel
theorem pn_1 : plainName "com/example/cuarteto/cuarteto/pascal/IntegerType" = true := by first | (simp [plainName, overriddenIn]; done) | decide +kernel
theorem ef_1 (m : MethodId) (a1 : Addr) : entryFrame m #[(.ref a1)] 1 = mkF m 0 #[.val (.ref a1)] [] := by first | (simp [entryFrame, mkF, argsToLocals, Value.category]; done) | rfl
set_option maxRecDepth 65536 in
set_option maxHeartbeats 40000000 in
theorem rm1 (l : Launch) (Z : State) (a0 : Array Value) (hw : ∀ d ∈ tables_1, d.before a0 Z = true) (ws : List Jvm.Cond) (a1 : Addr) (bt sg : Int32) (r : Int64) (h0 : Heap) (n0 : Nat) (Fb : Fld Z h0 a1 "com/example/cuarteto/cuarteto/pascal/IntegerType" "bits" "I" (.int bt)) (Fs : Fld Z h0 a1 "com/example/cuarteto/cuarteto/pascal/IntegerType" "signed" "Z" (.int sg)) (hr : (if sg = 0 then (0 : Int64) else (-9223372036854775808 : Int64) >>> (((64 : Int32) - bt).toInt64 &&& 63)) = r) :
    own_Met l Z (⟨"com/example/cuarteto/cuarteto/pascal/IntegerType", "minimum", "()J"⟩ : MethodName) prog_15_method_7_code 1 (some .long) ws ({ frames := 0, cells := 0, slots := 0, locals := 0 } : Room) #[(.ref a1)] h0 (own_Pure (.long r) h0 n0) := by
  refine own_met (plainFor_of_name pn_1) ?_
  intro p e s m below meth c s₁ C X0 e0
  obtain ⟨hx, hZ, hby, hml, hown, hret, hlk, hnm⟩ := C
  rw [ef_1]
  show own_Goes p e s below _ _ _ (s₁.setTop (mkF m 0 #[.val (.ref a1)] []))
  refine own_via (fun _ q => XS.aloadN X0.here hx rfl (hb hby d1_0) rfl rfl q) ?_
  show own_Goes p e s below _ _ _ (s₁.setTop (mkF m 1 #[.val (.ref a1)] [(.ref a1)]))
  obtain ⟨T1, X1, e1, st1⟩ := getF X0 hx hZ hown (host := "") (Or.inl (hw _ (List.mem_of_getElem? (i := 9) rfl))) Via.refl e0 Fs (g := (mkF m 1 #[.val (.ref a1)] [(.ref a1)])) rfl rfl (hb hby d1_1)
  refine own_via st1 ?_
  show own_Goes p e s below _ _ _ (T1.setTop (mkF m 4 #[.val (.ref a1)] [(.int sg)]))
  by_cases hk4_2 : sg = (0 : Int32)
  · refine own_via (fun _ q => XS.ifYes X1.here hx rfl (pc0 := 4) (pc' := 21) rfl (hb hby d1_4) rfl (XT.i0_eq_t hk4_2) (by decide) (by decide) q) ?_
    show own_Goes p e s below _ _ _ (T1.setTop (mkF m 21 #[.val (.ref a1)] []))
    refine own_via (fun _ q => XT.lconstV X1.here hx rfl (0 : Int64) (hb hby d1_21) rfl q) ?_
    show own_Goes p e s below _ _ _ (T1.setTop (mkF m 22 #[.val (.ref a1)] [(.long (0 : Int64))]))
    exact own_retJ X1 hx hret hlk (hb hby d1_22) (by decide) (by decide) ⟨by subst hr; simp [hk4_2], (Fr.nil n0), e1⟩
  · refine own_via (fun _ q => XS.ifNo X1.here hx rfl (hb hby d1_4) rfl (XT.i0_eq_f hk4_2) q) ?_
    show own_Goes p e s below _ _ _ (T1.setTop (mkF m 7 #[.val (.ref a1)] []))
    refine own_via (X1.ldc2Long hx hown (mvT hZ (hw _ (List.mem_of_getElem? (i := 11) rfl))) (g := (mkF m 7 #[.val (.ref a1)] [])) rfl (hb hby d1_7)) ?_
    show own_Goes p e s below _ _ _ (T1.setTop (mkF m 10 #[.val (.ref a1)] [(.long (-9223372036854775808 : Int64))]))
    refine own_via (fun _ q => XT.bipushV X1.here hx rfl (64 : Int32) (hb hby d1_10) rfl q) ?_
    show own_Goes p e s below _ _ _ (T1.setTop (mkF m 12 #[.val (.ref a1)] [(.int (64 : Int32)), (.long (-9223372036854775808 : Int64))]))
    refine own_via (fun _ q => XS.aloadN X1.here hx rfl (hb hby d1_12) rfl rfl q) ?_
    show own_Goes p e s below _ _ _ (T1.setTop (mkF m 13 #[.val (.ref a1)] [(.ref a1), (.int (64 : Int32)), (.long (-9223372036854775808 : Int64))]))
    obtain ⟨T3, X3, e3, st3⟩ := getF X1 hx hZ hown (host := "") (Or.inl (hw _ (List.mem_of_getElem? (i := 12) rfl))) Via.refl e1 Fb (g := (mkF m 13 #[.val (.ref a1)] [(.ref a1), (.int (64 : Int32)), (.long (-9223372036854775808 : Int64))])) rfl rfl (hb hby d1_13)
    refine own_via st3 ?_
    show own_Goes p e s below _ _ _ (T3.setTop (mkF m 16 #[.val (.ref a1)] [(.int bt), (.int (64 : Int32)), (.long (-9223372036854775808 : Int64))]))
    refine own_via (fun _ q => XS.isub X3.here hx rfl (hb hby d1_16) rfl q) ?_
    show own_Goes p e s below _ _ _ (T3.setTop (mkF m 17 #[.val (.ref a1)] [(.int ((64 : Int32) - bt)), (.long (-9223372036854775808 : Int64))]))
    refine own_via (fun _ q => XT.lshr X3.here hx rfl (hb hby d1_17) rfl q) ?_
    show own_Goes p e s below _ _ _ (T3.setTop (mkF m 18 #[.val (.ref a1)] [(.long ((-9223372036854775808 : Int64) >>> (((64 : Int32) - bt).toInt64 &&& 63)))]))
    refine own_via (fun _ q => XS.goto X3.here hx rfl (pc0 := 18) (pc' := 22) rfl (hb hby d1_18) (by decide) (by decide) q) ?_
    show own_Goes p e s below _ _ _ (T3.setTop (mkF m 22 #[.val (.ref a1)] [(.long ((-9223372036854775808 : Int64) >>> (((64 : Int32) - bt).toInt64 &&& 63)))]))
    exact own_retJ X3 hx hret hlk (hb hby d1_22) (by decide) (by decide) ⟨by subst hr; simp [hk4_2], (Fr.nil n0), e3⟩
theorem pn_0 : plainName "com/example/cuarteto/cuarteto/pascal/IntegerTypeMinimumPinLaw" = true := by first | (simp [plainName, overriddenIn]; done) | decide +kernel
theorem ef_0 (m : MethodId) (p1 : Int32) : entryFrame m #[(.int p1)] maxLocals = mkF m 0 #[.val (.int p1), .unset, .unset, .unset, .unset] [] := by first | (simp [entryFrame, mkF, argsToLocals, Value.category, maxLocals]; done) | rfl
set_option maxRecDepth 65536 in
set_option maxHeartbeats 40000000 in
theorem rm0 (l : Launch) (Z : State) (a0 : Array Value) (hw : ∀ d ∈ tables_1, d.before a0 Z = true) (ws : List Jvm.Cond) (p1 : Int32) (a_SHORTINT : Addr) (a_BYTE : Addr) (a_SMALLINT : Addr) (a_WORD : Addr) (a_LONGINT : Addr) (a_CARDINAL : Addr) (a_INT64 : Addr) (a_QWORD : Addr) (h0 : Heap) (n0 : Nat) (S_SHORTINT : Sta Z h0 "com/example/cuarteto/cuarteto/pascal/IntegerType" "SHORTINT" "Lcom/example/cuarteto/cuarteto/pascal/IntegerType;" (.ref a_SHORTINT)) (S_BYTE : Sta Z h0 "com/example/cuarteto/cuarteto/pascal/IntegerType" "BYTE" "Lcom/example/cuarteto/cuarteto/pascal/IntegerType;" (.ref a_BYTE)) (S_SMALLINT : Sta Z h0 "com/example/cuarteto/cuarteto/pascal/IntegerType" "SMALLINT" "Lcom/example/cuarteto/cuarteto/pascal/IntegerType;" (.ref a_SMALLINT)) (S_WORD : Sta Z h0 "com/example/cuarteto/cuarteto/pascal/IntegerType" "WORD" "Lcom/example/cuarteto/cuarteto/pascal/IntegerType;" (.ref a_WORD)) (S_LONGINT : Sta Z h0 "com/example/cuarteto/cuarteto/pascal/IntegerType" "LONGINT" "Lcom/example/cuarteto/cuarteto/pascal/IntegerType;" (.ref a_LONGINT)) (S_CARDINAL : Sta Z h0 "com/example/cuarteto/cuarteto/pascal/IntegerType" "CARDINAL" "Lcom/example/cuarteto/cuarteto/pascal/IntegerType;" (.ref a_CARDINAL)) (S_INT64 : Sta Z h0 "com/example/cuarteto/cuarteto/pascal/IntegerType" "INT64" "Lcom/example/cuarteto/cuarteto/pascal/IntegerType;" (.ref a_INT64)) (S_QWORD : Sta Z h0 "com/example/cuarteto/cuarteto/pascal/IntegerType" "QWORD" "Lcom/example/cuarteto/cuarteto/pascal/IntegerType;" (.ref a_QWORD)) (E_SHORTINT : Exa Z h0 a_SHORTINT "com/example/cuarteto/cuarteto/pascal/IntegerType") (E_BYTE : Exa Z h0 a_BYTE "com/example/cuarteto/cuarteto/pascal/IntegerType") (E_SMALLINT : Exa Z h0 a_SMALLINT "com/example/cuarteto/cuarteto/pascal/IntegerType") (E_WORD : Exa Z h0 a_WORD "com/example/cuarteto/cuarteto/pascal/IntegerType") (E_LONGINT : Exa Z h0 a_LONGINT "com/example/cuarteto/cuarteto/pascal/IntegerType") (E_CARDINAL : Exa Z h0 a_CARDINAL "com/example/cuarteto/cuarteto/pascal/IntegerType") (E_INT64 : Exa Z h0 a_INT64 "com/example/cuarteto/cuarteto/pascal/IntegerType") (E_QWORD : Exa Z h0 a_QWORD "com/example/cuarteto/cuarteto/pascal/IntegerType") (Fb_SHORTINT : Fld Z h0 a_SHORTINT "com/example/cuarteto/cuarteto/pascal/IntegerType" "bits" "I" (.int (8 : Int32))) (Fs_SHORTINT : Fld Z h0 a_SHORTINT "com/example/cuarteto/cuarteto/pascal/IntegerType" "signed" "Z" (.int (1 : Int32))) (Fb_BYTE : Fld Z h0 a_BYTE "com/example/cuarteto/cuarteto/pascal/IntegerType" "bits" "I" (.int (8 : Int32))) (Fs_BYTE : Fld Z h0 a_BYTE "com/example/cuarteto/cuarteto/pascal/IntegerType" "signed" "Z" (.int (0 : Int32))) (Fb_SMALLINT : Fld Z h0 a_SMALLINT "com/example/cuarteto/cuarteto/pascal/IntegerType" "bits" "I" (.int (16 : Int32))) (Fs_SMALLINT : Fld Z h0 a_SMALLINT "com/example/cuarteto/cuarteto/pascal/IntegerType" "signed" "Z" (.int (1 : Int32))) (Fb_WORD : Fld Z h0 a_WORD "com/example/cuarteto/cuarteto/pascal/IntegerType" "bits" "I" (.int (16 : Int32))) (Fs_WORD : Fld Z h0 a_WORD "com/example/cuarteto/cuarteto/pascal/IntegerType" "signed" "Z" (.int (0 : Int32))) (Fb_LONGINT : Fld Z h0 a_LONGINT "com/example/cuarteto/cuarteto/pascal/IntegerType" "bits" "I" (.int (32 : Int32))) (Fs_LONGINT : Fld Z h0 a_LONGINT "com/example/cuarteto/cuarteto/pascal/IntegerType" "signed" "Z" (.int (1 : Int32))) (Fb_CARDINAL : Fld Z h0 a_CARDINAL "com/example/cuarteto/cuarteto/pascal/IntegerType" "bits" "I" (.int (32 : Int32))) (Fs_CARDINAL : Fld Z h0 a_CARDINAL "com/example/cuarteto/cuarteto/pascal/IntegerType" "signed" "Z" (.int (0 : Int32))) (Fb_INT64 : Fld Z h0 a_INT64 "com/example/cuarteto/cuarteto/pascal/IntegerType" "bits" "I" (.int (64 : Int32))) (Fs_INT64 : Fld Z h0 a_INT64 "com/example/cuarteto/cuarteto/pascal/IntegerType" "signed" "Z" (.int (1 : Int32))) (Fb_QWORD : Fld Z h0 a_QWORD "com/example/cuarteto/cuarteto/pascal/IntegerType" "bits" "I" (.int (64 : Int32))) (Fs_QWORD : Fld Z h0 a_QWORD "com/example/cuarteto/cuarteto/pascal/IntegerType" "signed" "Z" (.int (0 : Int32))) :
    own_Met l Z x code maxLocals ret ws room_1 #[(.int p1)] h0 (own_One n0) := by
  refine own_met (plainFor_of_name pn_0) ?_
  intro p e s m below meth c s₁ C X0 e0
  obtain ⟨hx, hZ, hby, hml, hown, hret, hlk, hnm⟩ := C
  rw [ef_0]
  show own_Goes p e s below _ _ _ (s₁.setTop (mkF m 0 #[.val (.int p1), .unset, .unset, .unset, .unset] []))
  refine own_via (fun _ q => XS.iloadN X0.here hx rfl (hb hby at_0) rfl q) ?_
  show own_Goes p e s below _ _ _ (s₁.setTop (mkF m 1 #[.val (.int p1), .unset, .unset, .unset, .unset] [(.int p1)]))
  refine own_via (fun _ q => XT.bipushV X0.here hx rfl (7 : Int32) (hb hby at_1) rfl q) ?_
  show own_Goes p e s below _ _ _ (s₁.setTop (mkF m 3 #[.val (.int p1), .unset, .unset, .unset, .unset] [(.int (7 : Int32)), (.int p1)]))
  refine own_via (fun _ q => XS.iand X0.here hx rfl (hb hby at_3) rfl q) ?_
  show own_Goes p e s below _ _ _ (s₁.setTop (mkF m 4 #[.val (.int p1), .unset, .unset, .unset, .unset] [(.int (p1 &&& (7 : Int32)))]))
  refine own_via (fun _ q => XS.istoreN X0.here hx rfl (hb hby at_4) rfl (l' := #[.val (.int p1), .val (.int (p1 &&& (7 : Int32))), .unset, .unset, .unset]) rfl q) ?_
  show own_Goes p e s below _ _ _ (s₁.setTop (mkF m 5 #[.val (.int p1), .val (.int (p1 &&& (7 : Int32))), .unset, .unset, .unset] []))
  refine own_via (fun _ q => XS.iloadN X0.here hx rfl (hb hby at_5) rfl q) ?_
  show own_Goes p e s below _ _ _ (s₁.setTop (mkF m 6 #[.val (.int p1), .val (.int (p1 &&& (7 : Int32))), .unset, .unset, .unset] [(.int (p1 &&& (7 : Int32)))]))
  by_cases hk6_1 : (p1 &&& (7 : Int32)) = (0 : Int32)
  · refine own_via (fun _ q => XS.ifNo X0.here hx rfl (hb hby at_6) rfl (XT.i0_ne_f hk6_1) q) ?_
    show own_Goes p e s below _ _ _ (s₁.setTop (mkF m 9 #[.val (.int p1), .val (.int (p1 &&& (7 : Int32))), .unset, .unset, .unset] []))
    obtain ⟨T2, X2, e2, st2⟩ := getS2 X0 hx hZ hown (host := "") (Or.inl (hw _ (List.mem_of_getElem? (i := 0) rfl))) Via.refl e0 S_SHORTINT (g := (mkF m 9 #[.val (.int p1), .val (.int (p1 &&& (7 : Int32))), .unset, .unset, .unset] [])) rfl (hb hby at_9)
    refine own_via st2 ?_
    show own_Goes p e s below _ _ _ (T2.setTop (mkF m 12 #[.val (.int p1), .val (.int (p1 &&& (7 : Int32))), .unset, .unset, .unset] [(.ref a_SHORTINT)]))
    refine own_via (fun _ q => XS.astoreN X2.here hx rfl (hb hby at_12) rfl rfl (l' := #[.val (.int p1), .val (.int (p1 &&& (7 : Int32))), .val (.ref a_SHORTINT), .unset, .unset]) rfl q) ?_
    show own_Goes p e s below _ _ _ (T2.setTop (mkF m 13 #[.val (.int p1), .val (.int (p1 &&& (7 : Int32))), .val (.ref a_SHORTINT), .unset, .unset] []))
    refine own_via (X2.ldc2Long hx hown (mvT hZ (hw _ (List.mem_of_getElem? (i := 3) rfl))) (g := (mkF m 13 #[.val (.int p1), .val (.int (p1 &&& (7 : Int32))), .val (.ref a_SHORTINT), .unset, .unset] [])) rfl (hb hby at_13)) ?_
    show own_Goes p e s below _ _ _ (T2.setTop (mkF m 16 #[.val (.int p1), .val (.int (p1 &&& (7 : Int32))), .val (.ref a_SHORTINT), .unset, .unset] [(.long (-128 : Int64))]))
    refine own_via (fun _ q => XT.lstoreN X2.here hx rfl (hb hby at_16) rfl (l' := #[.val (.int p1), .val (.int (p1 &&& (7 : Int32))), .val (.ref a_SHORTINT), .val (.long (-128 : Int64)), .second]) rfl q) ?_
    show own_Goes p e s below _ _ _ (T2.setTop (mkF m 17 #[.val (.int p1), .val (.int (p1 &&& (7 : Int32))), .val (.ref a_SHORTINT), .val (.long (-128 : Int64)), .second] []))
    refine own_via (fun _ q => XS.goto X2.here hx rfl (pc0 := 17) (pc' := 117) rfl (hb hby at_17) (by decide) (by decide) q) ?_
    show own_Goes p e s below _ _ _ (T2.setTop (mkF m 117 #[.val (.int p1), .val (.int (p1 &&& (7 : Int32))), .val (.ref a_SHORTINT), .val (.long (-128 : Int64)), .second] []))
    refine own_via (fun _ q => XS.aloadN X2.here hx rfl (hb hby at_117) rfl rfl q) ?_
    show own_Goes p e s below _ _ _ (T2.setTop (mkF m 118 #[.val (.int p1), .val (.int (p1 &&& (7 : Int32))), .val (.ref a_SHORTINT), .val (.long (-128 : Int64)), .second] [(.ref a_SHORTINT)]))
    obtain ⟨cq3, kq3, q3a, q3b, q3c⟩ := isOf hZ e2 E_SHORTINT
    obtain ⟨_, _, ⟨T3, L3, k3, n3⟩, -, X3, ⟨Lc3, hQ3, l3, y3, z3⟩, st3⟩ := X2.virtualBack hx (y := (⟨"com/example/cuarteto/cuarteto/pascal/IntegerType", "minimum", "()J"⟩ : MethodName)) (z := (⟨"com/example/cuarteto/cuarteto/pascal/IntegerType", "minimum", "()J"⟩ : MethodName)) hown (mvT hZ (hw _ (List.mem_of_getElem? (i := 4) rfl))) (mvT hZ (hw _ (List.mem_of_getElem? (i := 5) rfl))) (notFace_of_selects (args := #[]) (mvT hZ (hw _ (List.mem_of_getElem? (i := 7) rfl)))) (mvT hZ (hw _ (List.mem_of_getElem? (i := 7) rfl))) (mvT hZ (hw _ (List.mem_of_getElem? (i := 6) rfl))) (by decide) (backOf (W := 0) (rm1 l Z a0 hw [] a_SHORTINT (8 : Int32) (1 : Int32) (-128 : Int64) h0 n0 Fb_SHORTINT Fs_SHORTINT (by decide +kernel)) hZ (hw _ (List.mem_of_getElem? (i := 8) rfl)) (hw _ (List.mem_of_getElem? (i := 1) rfl)) (by decide) (by decide)) q3a q3c (g := (mkF m 118 #[.val (.int p1), .val (.int (p1 &&& (7 : Int32))), .val (.ref a_SHORTINT), .val (.long (-128 : Int64)), .second] [(.ref a_SHORTINT)])) rfl (by rw [hml]; rfl) (Steps.refl _) (argsL := []) (rest := []) (lenOf pd___J rfl) rfl (by show 2 * 0 + _ ≤ _; exact Nat.le_of_eq rfl) (hb hby at_118) (fun _ _ => ⟨rfl, e2, (by decide : 0 + 0 ≤ _), (by decide : 0 + 0 ≤ _)⟩)
    dsimp only [Pt.U, Pt.locs, Pt.cells, Pt.slots] at X3 l3 y3 z3 st3 hQ3
    subst l3 y3 z3
    obtain ⟨rfl, N3q, e3⟩ := hQ3
    have N3 := Fr.app (Fr.nil n0) N3q
    refine own_on st3 ?_
    show own_Goes p e s below _ _ _ (T3.setTop (mkF m 121 #[.val (.int p1), .val (.int (p1 &&& (7 : Int32))), .val (.ref a_SHORTINT), .val (.long (-128 : Int64)), .second] [(.long (-128 : Int64))]))
    refine own_via (fun _ q => XT.lloadN X3.here hx rfl (hb hby at_121) rfl q) ?_
    show own_Goes p e s below _ _ _ (T3.setTop (mkF m 122 #[.val (.int p1), .val (.int (p1 &&& (7 : Int32))), .val (.ref a_SHORTINT), .val (.long (-128 : Int64)), .second] [(.long (-128 : Int64)), (.long (-128 : Int64))]))
    refine own_via (fun _ q => XT.lcmp X3.here hx rfl (hb hby at_122) rfl q) ?_
    show own_Goes p e s below _ _ _ (T3.setTop (mkF m 123 #[.val (.int p1), .val (.int (p1 &&& (7 : Int32))), .val (.ref a_SHORTINT), .val (.long (-128 : Int64)), .second] [(.int (XT.cmpL (-128 : Int64) (-128 : Int64)))]))
    refine own_via (fun _ q => XS.ifNo X3.here hx rfl (hb hby at_123) rfl (XT.ll_ne_f (by decide)) q) ?_
    show own_Goes p e s below _ _ _ (T3.setTop (mkF m 126 #[.val (.int p1), .val (.int (p1 &&& (7 : Int32))), .val (.ref a_SHORTINT), .val (.long (-128 : Int64)), .second] []))
    refine own_via (fun _ q => XT.iconstV X3.here hx rfl (1 : Int32) (hb hby at_126) rfl q) ?_
    show own_Goes p e s below _ _ _ (T3.setTop (mkF m 127 #[.val (.int p1), .val (.int (p1 &&& (7 : Int32))), .val (.ref a_SHORTINT), .val (.long (-128 : Int64)), .second] [(.int (1 : Int32))]))
    refine own_via (fun _ q => XS.goto X3.here hx rfl (pc0 := 127) (pc' := 131) rfl (hb hby at_127) (by decide) (by decide) q) ?_
    show own_Goes p e s below _ _ _ (T3.setTop (mkF m 131 #[.val (.int p1), .val (.int (p1 &&& (7 : Int32))), .val (.ref a_SHORTINT), .val (.long (-128 : Int64)), .second] [(.int (1 : Int32))]))
    exact own_retN X3 hx (t := .boolean) hret (by simp) hlk (hb hby at_131) (by decide) (by decide) ⟨rfl, N3⟩
  · refine own_via (fun _ q => XS.ifYes X0.here hx rfl (pc0 := 6) (pc' := 20) rfl (hb hby at_6) rfl (XT.i0_ne_t hk6_1) (by decide) (by decide) q) ?_
    show own_Goes p e s below _ _ _ (s₁.setTop (mkF m 20 #[.val (.int p1), .val (.int (p1 &&& (7 : Int32))), .unset, .unset, .unset] []))
    refine own_via (fun _ q => XS.iloadN X0.here hx rfl (hb hby at_20) rfl q) ?_
    show own_Goes p e s below _ _ _ (s₁.setTop (mkF m 21 #[.val (.int p1), .val (.int (p1 &&& (7 : Int32))), .unset, .unset, .unset] [(.int (p1 &&& (7 : Int32)))]))
    refine own_via (fun _ q => XT.iconstV X0.here hx rfl (1 : Int32) (hb hby at_21) rfl q) ?_
    show own_Goes p e s below _ _ _ (s₁.setTop (mkF m 22 #[.val (.int p1), .val (.int (p1 &&& (7 : Int32))), .unset, .unset, .unset] [(.int (1 : Int32)), (.int (p1 &&& (7 : Int32)))]))
    by_cases hk22_4 : (p1 &&& (7 : Int32)) = (1 : Int32)
    · refine own_via (fun _ q => XS.icmpNo X0.here hx rfl (hb hby at_22) rfl (XT.ii_ne_f hk22_4) q) ?_
      show own_Goes p e s below _ _ _ (s₁.setTop (mkF m 25 #[.val (.int p1), .val (.int (p1 &&& (7 : Int32))), .unset, .unset, .unset] []))
      obtain ⟨T5, X5, e5, st5⟩ := getS2 X0 hx hZ hown (host := "") (Or.inl (hw _ (List.mem_of_getElem? (i := 24) rfl))) Via.refl e0 S_BYTE (g := (mkF m 25 #[.val (.int p1), .val (.int (p1 &&& (7 : Int32))), .unset, .unset, .unset] [])) rfl (hb hby at_25)
      refine own_via st5 ?_
      show own_Goes p e s below _ _ _ (T5.setTop (mkF m 28 #[.val (.int p1), .val (.int (p1 &&& (7 : Int32))), .unset, .unset, .unset] [(.ref a_BYTE)]))
      refine own_via (fun _ q => XS.astoreN X5.here hx rfl (hb hby at_28) rfl rfl (l' := #[.val (.int p1), .val (.int (p1 &&& (7 : Int32))), .val (.ref a_BYTE), .unset, .unset]) rfl q) ?_
      show own_Goes p e s below _ _ _ (T5.setTop (mkF m 29 #[.val (.int p1), .val (.int (p1 &&& (7 : Int32))), .val (.ref a_BYTE), .unset, .unset] []))
      refine own_via (fun _ q => XT.lconstV X5.here hx rfl (0 : Int64) (hb hby at_29) rfl q) ?_
      show own_Goes p e s below _ _ _ (T5.setTop (mkF m 30 #[.val (.int p1), .val (.int (p1 &&& (7 : Int32))), .val (.ref a_BYTE), .unset, .unset] [(.long (0 : Int64))]))
      refine own_via (fun _ q => XT.lstoreN X5.here hx rfl (hb hby at_30) rfl (l' := #[.val (.int p1), .val (.int (p1 &&& (7 : Int32))), .val (.ref a_BYTE), .val (.long (0 : Int64)), .second]) rfl q) ?_
      show own_Goes p e s below _ _ _ (T5.setTop (mkF m 31 #[.val (.int p1), .val (.int (p1 &&& (7 : Int32))), .val (.ref a_BYTE), .val (.long (0 : Int64)), .second] []))
      refine own_via (fun _ q => XS.goto X5.here hx rfl (pc0 := 31) (pc' := 117) rfl (hb hby at_31) (by decide) (by decide) q) ?_
      show own_Goes p e s below _ _ _ (T5.setTop (mkF m 117 #[.val (.int p1), .val (.int (p1 &&& (7 : Int32))), .val (.ref a_BYTE), .val (.long (0 : Int64)), .second] []))
      refine own_via (fun _ q => XS.aloadN X5.here hx rfl (hb hby at_117) rfl rfl q) ?_
      show own_Goes p e s below _ _ _ (T5.setTop (mkF m 118 #[.val (.int p1), .val (.int (p1 &&& (7 : Int32))), .val (.ref a_BYTE), .val (.long (0 : Int64)), .second] [(.ref a_BYTE)]))
      obtain ⟨cq6, kq6, q6a, q6b, q6c⟩ := isOf hZ e5 E_BYTE
      obtain ⟨_, _, ⟨T6, L6, k6, n6⟩, -, X6, ⟨Lc6, hQ6, l6, y6, z6⟩, st6⟩ := X5.virtualBack hx (y := (⟨"com/example/cuarteto/cuarteto/pascal/IntegerType", "minimum", "()J"⟩ : MethodName)) (z := (⟨"com/example/cuarteto/cuarteto/pascal/IntegerType", "minimum", "()J"⟩ : MethodName)) hown (mvT hZ (hw _ (List.mem_of_getElem? (i := 4) rfl))) (mvT hZ (hw _ (List.mem_of_getElem? (i := 5) rfl))) (notFace_of_selects (args := #[]) (mvT hZ (hw _ (List.mem_of_getElem? (i := 7) rfl)))) (mvT hZ (hw _ (List.mem_of_getElem? (i := 7) rfl))) (mvT hZ (hw _ (List.mem_of_getElem? (i := 6) rfl))) (by decide) (backOf (W := 0) (rm1 l Z a0 hw [] a_BYTE (8 : Int32) (0 : Int32) (0 : Int64) h0 n0 Fb_BYTE Fs_BYTE (by decide +kernel)) hZ (hw _ (List.mem_of_getElem? (i := 8) rfl)) (hw _ (List.mem_of_getElem? (i := 1) rfl)) (by decide) (by decide)) q6a q6c (g := (mkF m 118 #[.val (.int p1), .val (.int (p1 &&& (7 : Int32))), .val (.ref a_BYTE), .val (.long (0 : Int64)), .second] [(.ref a_BYTE)])) rfl (by rw [hml]; rfl) (Steps.refl _) (argsL := []) (rest := []) (lenOf pd___J rfl) rfl (by show 2 * 0 + _ ≤ _; exact Nat.le_of_eq rfl) (hb hby at_118) (fun _ _ => ⟨rfl, e5, (by decide : 0 + 0 ≤ _), (by decide : 0 + 0 ≤ _)⟩)
      dsimp only [Pt.U, Pt.locs, Pt.cells, Pt.slots] at X6 l6 y6 z6 st6 hQ6
      subst l6 y6 z6
      obtain ⟨rfl, N6q, e6⟩ := hQ6
      have N6 := Fr.app (Fr.nil n0) N6q
      refine own_on st6 ?_
      show own_Goes p e s below _ _ _ (T6.setTop (mkF m 121 #[.val (.int p1), .val (.int (p1 &&& (7 : Int32))), .val (.ref a_BYTE), .val (.long (0 : Int64)), .second] [(.long (0 : Int64))]))
      refine own_via (fun _ q => XT.lloadN X6.here hx rfl (hb hby at_121) rfl q) ?_
      show own_Goes p e s below _ _ _ (T6.setTop (mkF m 122 #[.val (.int p1), .val (.int (p1 &&& (7 : Int32))), .val (.ref a_BYTE), .val (.long (0 : Int64)), .second] [(.long (0 : Int64)), (.long (0 : Int64))]))
      refine own_via (fun _ q => XT.lcmp X6.here hx rfl (hb hby at_122) rfl q) ?_
      show own_Goes p e s below _ _ _ (T6.setTop (mkF m 123 #[.val (.int p1), .val (.int (p1 &&& (7 : Int32))), .val (.ref a_BYTE), .val (.long (0 : Int64)), .second] [(.int (XT.cmpL (0 : Int64) (0 : Int64)))]))
      refine own_via (fun _ q => XS.ifNo X6.here hx rfl (hb hby at_123) rfl (XT.ll_ne_f (by decide)) q) ?_
      show own_Goes p e s below _ _ _ (T6.setTop (mkF m 126 #[.val (.int p1), .val (.int (p1 &&& (7 : Int32))), .val (.ref a_BYTE), .val (.long (0 : Int64)), .second] []))
      refine own_via (fun _ q => XT.iconstV X6.here hx rfl (1 : Int32) (hb hby at_126) rfl q) ?_
      show own_Goes p e s below _ _ _ (T6.setTop (mkF m 127 #[.val (.int p1), .val (.int (p1 &&& (7 : Int32))), .val (.ref a_BYTE), .val (.long (0 : Int64)), .second] [(.int (1 : Int32))]))
      refine own_via (fun _ q => XS.goto X6.here hx rfl (pc0 := 127) (pc' := 131) rfl (hb hby at_127) (by decide) (by decide) q) ?_
      show own_Goes p e s below _ _ _ (T6.setTop (mkF m 131 #[.val (.int p1), .val (.int (p1 &&& (7 : Int32))), .val (.ref a_BYTE), .val (.long (0 : Int64)), .second] [(.int (1 : Int32))]))
      exact own_retN X6 hx (t := .boolean) hret (by simp) hlk (hb hby at_131) (by decide) (by decide) ⟨rfl, N6⟩
    · refine own_via (fun _ q => XS.icmpYes X0.here hx rfl (pc0 := 22) (pc' := 34) rfl (hb hby at_22) rfl (XT.ii_ne_t hk22_4) (by decide) (by decide) q) ?_
      show own_Goes p e s below _ _ _ (s₁.setTop (mkF m 34 #[.val (.int p1), .val (.int (p1 &&& (7 : Int32))), .unset, .unset, .unset] []))
      refine own_via (fun _ q => XS.iloadN X0.here hx rfl (hb hby at_34) rfl q) ?_
      show own_Goes p e s below _ _ _ (s₁.setTop (mkF m 35 #[.val (.int p1), .val (.int (p1 &&& (7 : Int32))), .unset, .unset, .unset] [(.int (p1 &&& (7 : Int32)))]))
      refine own_via (fun _ q => XT.iconstV X0.here hx rfl (2 : Int32) (hb hby at_35) rfl q) ?_
      show own_Goes p e s below _ _ _ (s₁.setTop (mkF m 36 #[.val (.int p1), .val (.int (p1 &&& (7 : Int32))), .unset, .unset, .unset] [(.int (2 : Int32)), (.int (p1 &&& (7 : Int32)))]))
      by_cases hk36_7 : (p1 &&& (7 : Int32)) = (2 : Int32)
      · refine own_via (fun _ q => XS.icmpNo X0.here hx rfl (hb hby at_36) rfl (XT.ii_ne_f hk36_7) q) ?_
        show own_Goes p e s below _ _ _ (s₁.setTop (mkF m 39 #[.val (.int p1), .val (.int (p1 &&& (7 : Int32))), .unset, .unset, .unset] []))
        obtain ⟨T8, X8, e8, st8⟩ := getS2 X0 hx hZ hown (host := "") (Or.inl (hw _ (List.mem_of_getElem? (i := 21) rfl))) Via.refl e0 S_SMALLINT (g := (mkF m 39 #[.val (.int p1), .val (.int (p1 &&& (7 : Int32))), .unset, .unset, .unset] [])) rfl (hb hby at_39)
        refine own_via st8 ?_
        show own_Goes p e s below _ _ _ (T8.setTop (mkF m 42 #[.val (.int p1), .val (.int (p1 &&& (7 : Int32))), .unset, .unset, .unset] [(.ref a_SMALLINT)]))
        refine own_via (fun _ q => XS.astoreN X8.here hx rfl (hb hby at_42) rfl rfl (l' := #[.val (.int p1), .val (.int (p1 &&& (7 : Int32))), .val (.ref a_SMALLINT), .unset, .unset]) rfl q) ?_
        show own_Goes p e s below _ _ _ (T8.setTop (mkF m 43 #[.val (.int p1), .val (.int (p1 &&& (7 : Int32))), .val (.ref a_SMALLINT), .unset, .unset] []))
        refine own_via (X8.ldc2Long hx hown (mvT hZ (hw _ (List.mem_of_getElem? (i := 23) rfl))) (g := (mkF m 43 #[.val (.int p1), .val (.int (p1 &&& (7 : Int32))), .val (.ref a_SMALLINT), .unset, .unset] [])) rfl (hb hby at_43)) ?_
        show own_Goes p e s below _ _ _ (T8.setTop (mkF m 46 #[.val (.int p1), .val (.int (p1 &&& (7 : Int32))), .val (.ref a_SMALLINT), .unset, .unset] [(.long (-32768 : Int64))]))
        refine own_via (fun _ q => XT.lstoreN X8.here hx rfl (hb hby at_46) rfl (l' := #[.val (.int p1), .val (.int (p1 &&& (7 : Int32))), .val (.ref a_SMALLINT), .val (.long (-32768 : Int64)), .second]) rfl q) ?_
        show own_Goes p e s below _ _ _ (T8.setTop (mkF m 47 #[.val (.int p1), .val (.int (p1 &&& (7 : Int32))), .val (.ref a_SMALLINT), .val (.long (-32768 : Int64)), .second] []))
        refine own_via (fun _ q => XS.goto X8.here hx rfl (pc0 := 47) (pc' := 117) rfl (hb hby at_47) (by decide) (by decide) q) ?_
        show own_Goes p e s below _ _ _ (T8.setTop (mkF m 117 #[.val (.int p1), .val (.int (p1 &&& (7 : Int32))), .val (.ref a_SMALLINT), .val (.long (-32768 : Int64)), .second] []))
        refine own_via (fun _ q => XS.aloadN X8.here hx rfl (hb hby at_117) rfl rfl q) ?_
        show own_Goes p e s below _ _ _ (T8.setTop (mkF m 118 #[.val (.int p1), .val (.int (p1 &&& (7 : Int32))), .val (.ref a_SMALLINT), .val (.long (-32768 : Int64)), .second] [(.ref a_SMALLINT)]))
        obtain ⟨cq9, kq9, q9a, q9b, q9c⟩ := isOf hZ e8 E_SMALLINT
        obtain ⟨_, _, ⟨T9, L9, k9, n9⟩, -, X9, ⟨Lc9, hQ9, l9, y9, z9⟩, st9⟩ := X8.virtualBack hx (y := (⟨"com/example/cuarteto/cuarteto/pascal/IntegerType", "minimum", "()J"⟩ : MethodName)) (z := (⟨"com/example/cuarteto/cuarteto/pascal/IntegerType", "minimum", "()J"⟩ : MethodName)) hown (mvT hZ (hw _ (List.mem_of_getElem? (i := 4) rfl))) (mvT hZ (hw _ (List.mem_of_getElem? (i := 5) rfl))) (notFace_of_selects (args := #[]) (mvT hZ (hw _ (List.mem_of_getElem? (i := 7) rfl)))) (mvT hZ (hw _ (List.mem_of_getElem? (i := 7) rfl))) (mvT hZ (hw _ (List.mem_of_getElem? (i := 6) rfl))) (by decide) (backOf (W := 0) (rm1 l Z a0 hw [] a_SMALLINT (16 : Int32) (1 : Int32) (-32768 : Int64) h0 n0 Fb_SMALLINT Fs_SMALLINT (by decide +kernel)) hZ (hw _ (List.mem_of_getElem? (i := 8) rfl)) (hw _ (List.mem_of_getElem? (i := 1) rfl)) (by decide) (by decide)) q9a q9c (g := (mkF m 118 #[.val (.int p1), .val (.int (p1 &&& (7 : Int32))), .val (.ref a_SMALLINT), .val (.long (-32768 : Int64)), .second] [(.ref a_SMALLINT)])) rfl (by rw [hml]; rfl) (Steps.refl _) (argsL := []) (rest := []) (lenOf pd___J rfl) rfl (by show 2 * 0 + _ ≤ _; exact Nat.le_of_eq rfl) (hb hby at_118) (fun _ _ => ⟨rfl, e8, (by decide : 0 + 0 ≤ _), (by decide : 0 + 0 ≤ _)⟩)
        dsimp only [Pt.U, Pt.locs, Pt.cells, Pt.slots] at X9 l9 y9 z9 st9 hQ9
        subst l9 y9 z9
        obtain ⟨rfl, N9q, e9⟩ := hQ9
        have N9 := Fr.app (Fr.nil n0) N9q
        refine own_on st9 ?_
        show own_Goes p e s below _ _ _ (T9.setTop (mkF m 121 #[.val (.int p1), .val (.int (p1 &&& (7 : Int32))), .val (.ref a_SMALLINT), .val (.long (-32768 : Int64)), .second] [(.long (-32768 : Int64))]))
        refine own_via (fun _ q => XT.lloadN X9.here hx rfl (hb hby at_121) rfl q) ?_
        show own_Goes p e s below _ _ _ (T9.setTop (mkF m 122 #[.val (.int p1), .val (.int (p1 &&& (7 : Int32))), .val (.ref a_SMALLINT), .val (.long (-32768 : Int64)), .second] [(.long (-32768 : Int64)), (.long (-32768 : Int64))]))
        refine own_via (fun _ q => XT.lcmp X9.here hx rfl (hb hby at_122) rfl q) ?_
        show own_Goes p e s below _ _ _ (T9.setTop (mkF m 123 #[.val (.int p1), .val (.int (p1 &&& (7 : Int32))), .val (.ref a_SMALLINT), .val (.long (-32768 : Int64)), .second] [(.int (XT.cmpL (-32768 : Int64) (-32768 : Int64)))]))
        refine own_via (fun _ q => XS.ifNo X9.here hx rfl (hb hby at_123) rfl (XT.ll_ne_f (by decide)) q) ?_
        show own_Goes p e s below _ _ _ (T9.setTop (mkF m 126 #[.val (.int p1), .val (.int (p1 &&& (7 : Int32))), .val (.ref a_SMALLINT), .val (.long (-32768 : Int64)), .second] []))
        refine own_via (fun _ q => XT.iconstV X9.here hx rfl (1 : Int32) (hb hby at_126) rfl q) ?_
        show own_Goes p e s below _ _ _ (T9.setTop (mkF m 127 #[.val (.int p1), .val (.int (p1 &&& (7 : Int32))), .val (.ref a_SMALLINT), .val (.long (-32768 : Int64)), .second] [(.int (1 : Int32))]))
        refine own_via (fun _ q => XS.goto X9.here hx rfl (pc0 := 127) (pc' := 131) rfl (hb hby at_127) (by decide) (by decide) q) ?_
        show own_Goes p e s below _ _ _ (T9.setTop (mkF m 131 #[.val (.int p1), .val (.int (p1 &&& (7 : Int32))), .val (.ref a_SMALLINT), .val (.long (-32768 : Int64)), .second] [(.int (1 : Int32))]))
        exact own_retN X9 hx (t := .boolean) hret (by simp) hlk (hb hby at_131) (by decide) (by decide) ⟨rfl, N9⟩
      · refine own_via (fun _ q => XS.icmpYes X0.here hx rfl (pc0 := 36) (pc' := 50) rfl (hb hby at_36) rfl (XT.ii_ne_t hk36_7) (by decide) (by decide) q) ?_
        show own_Goes p e s below _ _ _ (s₁.setTop (mkF m 50 #[.val (.int p1), .val (.int (p1 &&& (7 : Int32))), .unset, .unset, .unset] []))
        refine own_via (fun _ q => XS.iloadN X0.here hx rfl (hb hby at_50) rfl q) ?_
        show own_Goes p e s below _ _ _ (s₁.setTop (mkF m 51 #[.val (.int p1), .val (.int (p1 &&& (7 : Int32))), .unset, .unset, .unset] [(.int (p1 &&& (7 : Int32)))]))
        refine own_via (fun _ q => XT.iconstV X0.here hx rfl (3 : Int32) (hb hby at_51) rfl q) ?_
        show own_Goes p e s below _ _ _ (s₁.setTop (mkF m 52 #[.val (.int p1), .val (.int (p1 &&& (7 : Int32))), .unset, .unset, .unset] [(.int (3 : Int32)), (.int (p1 &&& (7 : Int32)))]))
        by_cases hk52_10 : (p1 &&& (7 : Int32)) = (3 : Int32)
        · refine own_via (fun _ q => XS.icmpNo X0.here hx rfl (hb hby at_52) rfl (XT.ii_ne_f hk52_10) q) ?_
          show own_Goes p e s below _ _ _ (s₁.setTop (mkF m 55 #[.val (.int p1), .val (.int (p1 &&& (7 : Int32))), .unset, .unset, .unset] []))
          obtain ⟨T11, X11, e11, st11⟩ := getS2 X0 hx hZ hown (host := "") (Or.inl (hw _ (List.mem_of_getElem? (i := 14) rfl))) Via.refl e0 S_WORD (g := (mkF m 55 #[.val (.int p1), .val (.int (p1 &&& (7 : Int32))), .unset, .unset, .unset] [])) rfl (hb hby at_55)
          refine own_via st11 ?_
          show own_Goes p e s below _ _ _ (T11.setTop (mkF m 58 #[.val (.int p1), .val (.int (p1 &&& (7 : Int32))), .unset, .unset, .unset] [(.ref a_WORD)]))
          refine own_via (fun _ q => XS.astoreN X11.here hx rfl (hb hby at_58) rfl rfl (l' := #[.val (.int p1), .val (.int (p1 &&& (7 : Int32))), .val (.ref a_WORD), .unset, .unset]) rfl q) ?_
          show own_Goes p e s below _ _ _ (T11.setTop (mkF m 59 #[.val (.int p1), .val (.int (p1 &&& (7 : Int32))), .val (.ref a_WORD), .unset, .unset] []))
          refine own_via (fun _ q => XT.lconstV X11.here hx rfl (0 : Int64) (hb hby at_59) rfl q) ?_
          show own_Goes p e s below _ _ _ (T11.setTop (mkF m 60 #[.val (.int p1), .val (.int (p1 &&& (7 : Int32))), .val (.ref a_WORD), .unset, .unset] [(.long (0 : Int64))]))
          refine own_via (fun _ q => XT.lstoreN X11.here hx rfl (hb hby at_60) rfl (l' := #[.val (.int p1), .val (.int (p1 &&& (7 : Int32))), .val (.ref a_WORD), .val (.long (0 : Int64)), .second]) rfl q) ?_
          show own_Goes p e s below _ _ _ (T11.setTop (mkF m 61 #[.val (.int p1), .val (.int (p1 &&& (7 : Int32))), .val (.ref a_WORD), .val (.long (0 : Int64)), .second] []))
          refine own_via (fun _ q => XS.goto X11.here hx rfl (pc0 := 61) (pc' := 117) rfl (hb hby at_61) (by decide) (by decide) q) ?_
          show own_Goes p e s below _ _ _ (T11.setTop (mkF m 117 #[.val (.int p1), .val (.int (p1 &&& (7 : Int32))), .val (.ref a_WORD), .val (.long (0 : Int64)), .second] []))
          refine own_via (fun _ q => XS.aloadN X11.here hx rfl (hb hby at_117) rfl rfl q) ?_
          show own_Goes p e s below _ _ _ (T11.setTop (mkF m 118 #[.val (.int p1), .val (.int (p1 &&& (7 : Int32))), .val (.ref a_WORD), .val (.long (0 : Int64)), .second] [(.ref a_WORD)]))
          obtain ⟨cq12, kq12, q12a, q12b, q12c⟩ := isOf hZ e11 E_WORD
          obtain ⟨_, _, ⟨T12, L12, k12, n12⟩, -, X12, ⟨Lc12, hQ12, l12, y12, z12⟩, st12⟩ := X11.virtualBack hx (y := (⟨"com/example/cuarteto/cuarteto/pascal/IntegerType", "minimum", "()J"⟩ : MethodName)) (z := (⟨"com/example/cuarteto/cuarteto/pascal/IntegerType", "minimum", "()J"⟩ : MethodName)) hown (mvT hZ (hw _ (List.mem_of_getElem? (i := 4) rfl))) (mvT hZ (hw _ (List.mem_of_getElem? (i := 5) rfl))) (notFace_of_selects (args := #[]) (mvT hZ (hw _ (List.mem_of_getElem? (i := 7) rfl)))) (mvT hZ (hw _ (List.mem_of_getElem? (i := 7) rfl))) (mvT hZ (hw _ (List.mem_of_getElem? (i := 6) rfl))) (by decide) (backOf (W := 0) (rm1 l Z a0 hw [] a_WORD (16 : Int32) (0 : Int32) (0 : Int64) h0 n0 Fb_WORD Fs_WORD (by decide +kernel)) hZ (hw _ (List.mem_of_getElem? (i := 8) rfl)) (hw _ (List.mem_of_getElem? (i := 1) rfl)) (by decide) (by decide)) q12a q12c (g := (mkF m 118 #[.val (.int p1), .val (.int (p1 &&& (7 : Int32))), .val (.ref a_WORD), .val (.long (0 : Int64)), .second] [(.ref a_WORD)])) rfl (by rw [hml]; rfl) (Steps.refl _) (argsL := []) (rest := []) (lenOf pd___J rfl) rfl (by show 2 * 0 + _ ≤ _; exact Nat.le_of_eq rfl) (hb hby at_118) (fun _ _ => ⟨rfl, e11, (by decide : 0 + 0 ≤ _), (by decide : 0 + 0 ≤ _)⟩)
          dsimp only [Pt.U, Pt.locs, Pt.cells, Pt.slots] at X12 l12 y12 z12 st12 hQ12
          subst l12 y12 z12
          obtain ⟨rfl, N12q, e12⟩ := hQ12
          have N12 := Fr.app (Fr.nil n0) N12q
          refine own_on st12 ?_
          show own_Goes p e s below _ _ _ (T12.setTop (mkF m 121 #[.val (.int p1), .val (.int (p1 &&& (7 : Int32))), .val (.ref a_WORD), .val (.long (0 : Int64)), .second] [(.long (0 : Int64))]))
          refine own_via (fun _ q => XT.lloadN X12.here hx rfl (hb hby at_121) rfl q) ?_
          show own_Goes p e s below _ _ _ (T12.setTop (mkF m 122 #[.val (.int p1), .val (.int (p1 &&& (7 : Int32))), .val (.ref a_WORD), .val (.long (0 : Int64)), .second] [(.long (0 : Int64)), (.long (0 : Int64))]))
          refine own_via (fun _ q => XT.lcmp X12.here hx rfl (hb hby at_122) rfl q) ?_
          show own_Goes p e s below _ _ _ (T12.setTop (mkF m 123 #[.val (.int p1), .val (.int (p1 &&& (7 : Int32))), .val (.ref a_WORD), .val (.long (0 : Int64)), .second] [(.int (XT.cmpL (0 : Int64) (0 : Int64)))]))
          refine own_via (fun _ q => XS.ifNo X12.here hx rfl (hb hby at_123) rfl (XT.ll_ne_f (by decide)) q) ?_
          show own_Goes p e s below _ _ _ (T12.setTop (mkF m 126 #[.val (.int p1), .val (.int (p1 &&& (7 : Int32))), .val (.ref a_WORD), .val (.long (0 : Int64)), .second] []))
          refine own_via (fun _ q => XT.iconstV X12.here hx rfl (1 : Int32) (hb hby at_126) rfl q) ?_
          show own_Goes p e s below _ _ _ (T12.setTop (mkF m 127 #[.val (.int p1), .val (.int (p1 &&& (7 : Int32))), .val (.ref a_WORD), .val (.long (0 : Int64)), .second] [(.int (1 : Int32))]))
          refine own_via (fun _ q => XS.goto X12.here hx rfl (pc0 := 127) (pc' := 131) rfl (hb hby at_127) (by decide) (by decide) q) ?_
          show own_Goes p e s below _ _ _ (T12.setTop (mkF m 131 #[.val (.int p1), .val (.int (p1 &&& (7 : Int32))), .val (.ref a_WORD), .val (.long (0 : Int64)), .second] [(.int (1 : Int32))]))
          exact own_retN X12 hx (t := .boolean) hret (by simp) hlk (hb hby at_131) (by decide) (by decide) ⟨rfl, N12⟩
        · refine own_via (fun _ q => XS.icmpYes X0.here hx rfl (pc0 := 52) (pc' := 64) rfl (hb hby at_52) rfl (XT.ii_ne_t hk52_10) (by decide) (by decide) q) ?_
          show own_Goes p e s below _ _ _ (s₁.setTop (mkF m 64 #[.val (.int p1), .val (.int (p1 &&& (7 : Int32))), .unset, .unset, .unset] []))
          refine own_via (fun _ q => XS.iloadN X0.here hx rfl (hb hby at_64) rfl q) ?_
          show own_Goes p e s below _ _ _ (s₁.setTop (mkF m 65 #[.val (.int p1), .val (.int (p1 &&& (7 : Int32))), .unset, .unset, .unset] [(.int (p1 &&& (7 : Int32)))]))
          refine own_via (fun _ q => XT.iconstV X0.here hx rfl (4 : Int32) (hb hby at_65) rfl q) ?_
          show own_Goes p e s below _ _ _ (s₁.setTop (mkF m 66 #[.val (.int p1), .val (.int (p1 &&& (7 : Int32))), .unset, .unset, .unset] [(.int (4 : Int32)), (.int (p1 &&& (7 : Int32)))]))
          by_cases hk66_13 : (p1 &&& (7 : Int32)) = (4 : Int32)
          · refine own_via (fun _ q => XS.icmpNo X0.here hx rfl (hb hby at_66) rfl (XT.ii_ne_f hk66_13) q) ?_
            show own_Goes p e s below _ _ _ (s₁.setTop (mkF m 69 #[.val (.int p1), .val (.int (p1 &&& (7 : Int32))), .unset, .unset, .unset] []))
            obtain ⟨T14, X14, e14, st14⟩ := getS2 X0 hx hZ hown (host := "") (Or.inl (hw _ (List.mem_of_getElem? (i := 26) rfl))) Via.refl e0 S_LONGINT (g := (mkF m 69 #[.val (.int p1), .val (.int (p1 &&& (7 : Int32))), .unset, .unset, .unset] [])) rfl (hb hby at_69)
            refine own_via st14 ?_
            show own_Goes p e s below _ _ _ (T14.setTop (mkF m 72 #[.val (.int p1), .val (.int (p1 &&& (7 : Int32))), .unset, .unset, .unset] [(.ref a_LONGINT)]))
            refine own_via (fun _ q => XS.astoreN X14.here hx rfl (hb hby at_72) rfl rfl (l' := #[.val (.int p1), .val (.int (p1 &&& (7 : Int32))), .val (.ref a_LONGINT), .unset, .unset]) rfl q) ?_
            show own_Goes p e s below _ _ _ (T14.setTop (mkF m 73 #[.val (.int p1), .val (.int (p1 &&& (7 : Int32))), .val (.ref a_LONGINT), .unset, .unset] []))
            refine own_via (X14.ldc2Long hx hown (mvT hZ (hw _ (List.mem_of_getElem? (i := 28) rfl))) (g := (mkF m 73 #[.val (.int p1), .val (.int (p1 &&& (7 : Int32))), .val (.ref a_LONGINT), .unset, .unset] [])) rfl (hb hby at_73)) ?_
            show own_Goes p e s below _ _ _ (T14.setTop (mkF m 76 #[.val (.int p1), .val (.int (p1 &&& (7 : Int32))), .val (.ref a_LONGINT), .unset, .unset] [(.long (-2147483648 : Int64))]))
            refine own_via (fun _ q => XT.lstoreN X14.here hx rfl (hb hby at_76) rfl (l' := #[.val (.int p1), .val (.int (p1 &&& (7 : Int32))), .val (.ref a_LONGINT), .val (.long (-2147483648 : Int64)), .second]) rfl q) ?_
            show own_Goes p e s below _ _ _ (T14.setTop (mkF m 77 #[.val (.int p1), .val (.int (p1 &&& (7 : Int32))), .val (.ref a_LONGINT), .val (.long (-2147483648 : Int64)), .second] []))
            refine own_via (fun _ q => XS.goto X14.here hx rfl (pc0 := 77) (pc' := 117) rfl (hb hby at_77) (by decide) (by decide) q) ?_
            show own_Goes p e s below _ _ _ (T14.setTop (mkF m 117 #[.val (.int p1), .val (.int (p1 &&& (7 : Int32))), .val (.ref a_LONGINT), .val (.long (-2147483648 : Int64)), .second] []))
            refine own_via (fun _ q => XS.aloadN X14.here hx rfl (hb hby at_117) rfl rfl q) ?_
            show own_Goes p e s below _ _ _ (T14.setTop (mkF m 118 #[.val (.int p1), .val (.int (p1 &&& (7 : Int32))), .val (.ref a_LONGINT), .val (.long (-2147483648 : Int64)), .second] [(.ref a_LONGINT)]))
            obtain ⟨cq15, kq15, q15a, q15b, q15c⟩ := isOf hZ e14 E_LONGINT
            obtain ⟨_, _, ⟨T15, L15, k15, n15⟩, -, X15, ⟨Lc15, hQ15, l15, y15, z15⟩, st15⟩ := X14.virtualBack hx (y := (⟨"com/example/cuarteto/cuarteto/pascal/IntegerType", "minimum", "()J"⟩ : MethodName)) (z := (⟨"com/example/cuarteto/cuarteto/pascal/IntegerType", "minimum", "()J"⟩ : MethodName)) hown (mvT hZ (hw _ (List.mem_of_getElem? (i := 4) rfl))) (mvT hZ (hw _ (List.mem_of_getElem? (i := 5) rfl))) (notFace_of_selects (args := #[]) (mvT hZ (hw _ (List.mem_of_getElem? (i := 7) rfl)))) (mvT hZ (hw _ (List.mem_of_getElem? (i := 7) rfl))) (mvT hZ (hw _ (List.mem_of_getElem? (i := 6) rfl))) (by decide) (backOf (W := 0) (rm1 l Z a0 hw [] a_LONGINT (32 : Int32) (1 : Int32) (-2147483648 : Int64) h0 n0 Fb_LONGINT Fs_LONGINT (by decide +kernel)) hZ (hw _ (List.mem_of_getElem? (i := 8) rfl)) (hw _ (List.mem_of_getElem? (i := 1) rfl)) (by decide) (by decide)) q15a q15c (g := (mkF m 118 #[.val (.int p1), .val (.int (p1 &&& (7 : Int32))), .val (.ref a_LONGINT), .val (.long (-2147483648 : Int64)), .second] [(.ref a_LONGINT)])) rfl (by rw [hml]; rfl) (Steps.refl _) (argsL := []) (rest := []) (lenOf pd___J rfl) rfl (by show 2 * 0 + _ ≤ _; exact Nat.le_of_eq rfl) (hb hby at_118) (fun _ _ => ⟨rfl, e14, (by decide : 0 + 0 ≤ _), (by decide : 0 + 0 ≤ _)⟩)
            dsimp only [Pt.U, Pt.locs, Pt.cells, Pt.slots] at X15 l15 y15 z15 st15 hQ15
            subst l15 y15 z15
            obtain ⟨rfl, N15q, e15⟩ := hQ15
            have N15 := Fr.app (Fr.nil n0) N15q
            refine own_on st15 ?_
            show own_Goes p e s below _ _ _ (T15.setTop (mkF m 121 #[.val (.int p1), .val (.int (p1 &&& (7 : Int32))), .val (.ref a_LONGINT), .val (.long (-2147483648 : Int64)), .second] [(.long (-2147483648 : Int64))]))
            refine own_via (fun _ q => XT.lloadN X15.here hx rfl (hb hby at_121) rfl q) ?_
            show own_Goes p e s below _ _ _ (T15.setTop (mkF m 122 #[.val (.int p1), .val (.int (p1 &&& (7 : Int32))), .val (.ref a_LONGINT), .val (.long (-2147483648 : Int64)), .second] [(.long (-2147483648 : Int64)), (.long (-2147483648 : Int64))]))
            refine own_via (fun _ q => XT.lcmp X15.here hx rfl (hb hby at_122) rfl q) ?_
            show own_Goes p e s below _ _ _ (T15.setTop (mkF m 123 #[.val (.int p1), .val (.int (p1 &&& (7 : Int32))), .val (.ref a_LONGINT), .val (.long (-2147483648 : Int64)), .second] [(.int (XT.cmpL (-2147483648 : Int64) (-2147483648 : Int64)))]))
            refine own_via (fun _ q => XS.ifNo X15.here hx rfl (hb hby at_123) rfl (XT.ll_ne_f (by decide)) q) ?_
            show own_Goes p e s below _ _ _ (T15.setTop (mkF m 126 #[.val (.int p1), .val (.int (p1 &&& (7 : Int32))), .val (.ref a_LONGINT), .val (.long (-2147483648 : Int64)), .second] []))
            refine own_via (fun _ q => XT.iconstV X15.here hx rfl (1 : Int32) (hb hby at_126) rfl q) ?_
            show own_Goes p e s below _ _ _ (T15.setTop (mkF m 127 #[.val (.int p1), .val (.int (p1 &&& (7 : Int32))), .val (.ref a_LONGINT), .val (.long (-2147483648 : Int64)), .second] [(.int (1 : Int32))]))
            refine own_via (fun _ q => XS.goto X15.here hx rfl (pc0 := 127) (pc' := 131) rfl (hb hby at_127) (by decide) (by decide) q) ?_
            show own_Goes p e s below _ _ _ (T15.setTop (mkF m 131 #[.val (.int p1), .val (.int (p1 &&& (7 : Int32))), .val (.ref a_LONGINT), .val (.long (-2147483648 : Int64)), .second] [(.int (1 : Int32))]))
            exact own_retN X15 hx (t := .boolean) hret (by simp) hlk (hb hby at_131) (by decide) (by decide) ⟨rfl, N15⟩
          · refine own_via (fun _ q => XS.icmpYes X0.here hx rfl (pc0 := 66) (pc' := 80) rfl (hb hby at_66) rfl (XT.ii_ne_t hk66_13) (by decide) (by decide) q) ?_
            show own_Goes p e s below _ _ _ (s₁.setTop (mkF m 80 #[.val (.int p1), .val (.int (p1 &&& (7 : Int32))), .unset, .unset, .unset] []))
            refine own_via (fun _ q => XS.iloadN X0.here hx rfl (hb hby at_80) rfl q) ?_
            show own_Goes p e s below _ _ _ (s₁.setTop (mkF m 81 #[.val (.int p1), .val (.int (p1 &&& (7 : Int32))), .unset, .unset, .unset] [(.int (p1 &&& (7 : Int32)))]))
            refine own_via (fun _ q => XT.iconstV X0.here hx rfl (5 : Int32) (hb hby at_81) rfl q) ?_
            show own_Goes p e s below _ _ _ (s₁.setTop (mkF m 82 #[.val (.int p1), .val (.int (p1 &&& (7 : Int32))), .unset, .unset, .unset] [(.int (5 : Int32)), (.int (p1 &&& (7 : Int32)))]))
            by_cases hk82_16 : (p1 &&& (7 : Int32)) = (5 : Int32)
            · refine own_via (fun _ q => XS.icmpNo X0.here hx rfl (hb hby at_82) rfl (XT.ii_ne_f hk82_16) q) ?_
              show own_Goes p e s below _ _ _ (s₁.setTop (mkF m 85 #[.val (.int p1), .val (.int (p1 &&& (7 : Int32))), .unset, .unset, .unset] []))
              obtain ⟨T17, X17, e17, st17⟩ := getS2 X0 hx hZ hown (host := "") (Or.inl (hw _ (List.mem_of_getElem? (i := 29) rfl))) Via.refl e0 S_CARDINAL (g := (mkF m 85 #[.val (.int p1), .val (.int (p1 &&& (7 : Int32))), .unset, .unset, .unset] [])) rfl (hb hby at_85)
              refine own_via st17 ?_
              show own_Goes p e s below _ _ _ (T17.setTop (mkF m 88 #[.val (.int p1), .val (.int (p1 &&& (7 : Int32))), .unset, .unset, .unset] [(.ref a_CARDINAL)]))
              refine own_via (fun _ q => XS.astoreN X17.here hx rfl (hb hby at_88) rfl rfl (l' := #[.val (.int p1), .val (.int (p1 &&& (7 : Int32))), .val (.ref a_CARDINAL), .unset, .unset]) rfl q) ?_
              show own_Goes p e s below _ _ _ (T17.setTop (mkF m 89 #[.val (.int p1), .val (.int (p1 &&& (7 : Int32))), .val (.ref a_CARDINAL), .unset, .unset] []))
              refine own_via (fun _ q => XT.lconstV X17.here hx rfl (0 : Int64) (hb hby at_89) rfl q) ?_
              show own_Goes p e s below _ _ _ (T17.setTop (mkF m 90 #[.val (.int p1), .val (.int (p1 &&& (7 : Int32))), .val (.ref a_CARDINAL), .unset, .unset] [(.long (0 : Int64))]))
              refine own_via (fun _ q => XT.lstoreN X17.here hx rfl (hb hby at_90) rfl (l' := #[.val (.int p1), .val (.int (p1 &&& (7 : Int32))), .val (.ref a_CARDINAL), .val (.long (0 : Int64)), .second]) rfl q) ?_
              show own_Goes p e s below _ _ _ (T17.setTop (mkF m 91 #[.val (.int p1), .val (.int (p1 &&& (7 : Int32))), .val (.ref a_CARDINAL), .val (.long (0 : Int64)), .second] []))
              refine own_via (fun _ q => XS.goto X17.here hx rfl (pc0 := 91) (pc' := 117) rfl (hb hby at_91) (by decide) (by decide) q) ?_
              show own_Goes p e s below _ _ _ (T17.setTop (mkF m 117 #[.val (.int p1), .val (.int (p1 &&& (7 : Int32))), .val (.ref a_CARDINAL), .val (.long (0 : Int64)), .second] []))
              refine own_via (fun _ q => XS.aloadN X17.here hx rfl (hb hby at_117) rfl rfl q) ?_
              show own_Goes p e s below _ _ _ (T17.setTop (mkF m 118 #[.val (.int p1), .val (.int (p1 &&& (7 : Int32))), .val (.ref a_CARDINAL), .val (.long (0 : Int64)), .second] [(.ref a_CARDINAL)]))
              obtain ⟨cq18, kq18, q18a, q18b, q18c⟩ := isOf hZ e17 E_CARDINAL
              obtain ⟨_, _, ⟨T18, L18, k18, n18⟩, -, X18, ⟨Lc18, hQ18, l18, y18, z18⟩, st18⟩ := X17.virtualBack hx (y := (⟨"com/example/cuarteto/cuarteto/pascal/IntegerType", "minimum", "()J"⟩ : MethodName)) (z := (⟨"com/example/cuarteto/cuarteto/pascal/IntegerType", "minimum", "()J"⟩ : MethodName)) hown (mvT hZ (hw _ (List.mem_of_getElem? (i := 4) rfl))) (mvT hZ (hw _ (List.mem_of_getElem? (i := 5) rfl))) (notFace_of_selects (args := #[]) (mvT hZ (hw _ (List.mem_of_getElem? (i := 7) rfl)))) (mvT hZ (hw _ (List.mem_of_getElem? (i := 7) rfl))) (mvT hZ (hw _ (List.mem_of_getElem? (i := 6) rfl))) (by decide) (backOf (W := 0) (rm1 l Z a0 hw [] a_CARDINAL (32 : Int32) (0 : Int32) (0 : Int64) h0 n0 Fb_CARDINAL Fs_CARDINAL (by decide +kernel)) hZ (hw _ (List.mem_of_getElem? (i := 8) rfl)) (hw _ (List.mem_of_getElem? (i := 1) rfl)) (by decide) (by decide)) q18a q18c (g := (mkF m 118 #[.val (.int p1), .val (.int (p1 &&& (7 : Int32))), .val (.ref a_CARDINAL), .val (.long (0 : Int64)), .second] [(.ref a_CARDINAL)])) rfl (by rw [hml]; rfl) (Steps.refl _) (argsL := []) (rest := []) (lenOf pd___J rfl) rfl (by show 2 * 0 + _ ≤ _; exact Nat.le_of_eq rfl) (hb hby at_118) (fun _ _ => ⟨rfl, e17, (by decide : 0 + 0 ≤ _), (by decide : 0 + 0 ≤ _)⟩)
              dsimp only [Pt.U, Pt.locs, Pt.cells, Pt.slots] at X18 l18 y18 z18 st18 hQ18
              subst l18 y18 z18
              obtain ⟨rfl, N18q, e18⟩ := hQ18
              have N18 := Fr.app (Fr.nil n0) N18q
              refine own_on st18 ?_
              show own_Goes p e s below _ _ _ (T18.setTop (mkF m 121 #[.val (.int p1), .val (.int (p1 &&& (7 : Int32))), .val (.ref a_CARDINAL), .val (.long (0 : Int64)), .second] [(.long (0 : Int64))]))
              refine own_via (fun _ q => XT.lloadN X18.here hx rfl (hb hby at_121) rfl q) ?_
              show own_Goes p e s below _ _ _ (T18.setTop (mkF m 122 #[.val (.int p1), .val (.int (p1 &&& (7 : Int32))), .val (.ref a_CARDINAL), .val (.long (0 : Int64)), .second] [(.long (0 : Int64)), (.long (0 : Int64))]))
              refine own_via (fun _ q => XT.lcmp X18.here hx rfl (hb hby at_122) rfl q) ?_
              show own_Goes p e s below _ _ _ (T18.setTop (mkF m 123 #[.val (.int p1), .val (.int (p1 &&& (7 : Int32))), .val (.ref a_CARDINAL), .val (.long (0 : Int64)), .second] [(.int (XT.cmpL (0 : Int64) (0 : Int64)))]))
              refine own_via (fun _ q => XS.ifNo X18.here hx rfl (hb hby at_123) rfl (XT.ll_ne_f (by decide)) q) ?_
              show own_Goes p e s below _ _ _ (T18.setTop (mkF m 126 #[.val (.int p1), .val (.int (p1 &&& (7 : Int32))), .val (.ref a_CARDINAL), .val (.long (0 : Int64)), .second] []))
              refine own_via (fun _ q => XT.iconstV X18.here hx rfl (1 : Int32) (hb hby at_126) rfl q) ?_
              show own_Goes p e s below _ _ _ (T18.setTop (mkF m 127 #[.val (.int p1), .val (.int (p1 &&& (7 : Int32))), .val (.ref a_CARDINAL), .val (.long (0 : Int64)), .second] [(.int (1 : Int32))]))
              refine own_via (fun _ q => XS.goto X18.here hx rfl (pc0 := 127) (pc' := 131) rfl (hb hby at_127) (by decide) (by decide) q) ?_
              show own_Goes p e s below _ _ _ (T18.setTop (mkF m 131 #[.val (.int p1), .val (.int (p1 &&& (7 : Int32))), .val (.ref a_CARDINAL), .val (.long (0 : Int64)), .second] [(.int (1 : Int32))]))
              exact own_retN X18 hx (t := .boolean) hret (by simp) hlk (hb hby at_131) (by decide) (by decide) ⟨rfl, N18⟩
            · refine own_via (fun _ q => XS.icmpYes X0.here hx rfl (pc0 := 82) (pc' := 94) rfl (hb hby at_82) rfl (XT.ii_ne_t hk82_16) (by decide) (by decide) q) ?_
              show own_Goes p e s below _ _ _ (s₁.setTop (mkF m 94 #[.val (.int p1), .val (.int (p1 &&& (7 : Int32))), .unset, .unset, .unset] []))
              refine own_via (fun _ q => XS.iloadN X0.here hx rfl (hb hby at_94) rfl q) ?_
              show own_Goes p e s below _ _ _ (s₁.setTop (mkF m 95 #[.val (.int p1), .val (.int (p1 &&& (7 : Int32))), .unset, .unset, .unset] [(.int (p1 &&& (7 : Int32)))]))
              refine own_via (fun _ q => XT.bipushV X0.here hx rfl (6 : Int32) (hb hby at_95) rfl q) ?_
              show own_Goes p e s below _ _ _ (s₁.setTop (mkF m 97 #[.val (.int p1), .val (.int (p1 &&& (7 : Int32))), .unset, .unset, .unset] [(.int (6 : Int32)), (.int (p1 &&& (7 : Int32)))]))
              by_cases hk97_19 : (p1 &&& (7 : Int32)) = (6 : Int32)
              · refine own_via (fun _ q => XS.icmpNo X0.here hx rfl (hb hby at_97) rfl (XT.ii_ne_f hk97_19) q) ?_
                show own_Goes p e s below _ _ _ (s₁.setTop (mkF m 100 #[.val (.int p1), .val (.int (p1 &&& (7 : Int32))), .unset, .unset, .unset] []))
                obtain ⟨T20, X20, e20, st20⟩ := getS2 X0 hx hZ hown (host := "") (Or.inl (hw _ (List.mem_of_getElem? (i := 16) rfl))) Via.refl e0 S_INT64 (g := (mkF m 100 #[.val (.int p1), .val (.int (p1 &&& (7 : Int32))), .unset, .unset, .unset] [])) rfl (hb hby at_100)
                refine own_via st20 ?_
                show own_Goes p e s below _ _ _ (T20.setTop (mkF m 103 #[.val (.int p1), .val (.int (p1 &&& (7 : Int32))), .unset, .unset, .unset] [(.ref a_INT64)]))
                refine own_via (fun _ q => XS.astoreN X20.here hx rfl (hb hby at_103) rfl rfl (l' := #[.val (.int p1), .val (.int (p1 &&& (7 : Int32))), .val (.ref a_INT64), .unset, .unset]) rfl q) ?_
                show own_Goes p e s below _ _ _ (T20.setTop (mkF m 104 #[.val (.int p1), .val (.int (p1 &&& (7 : Int32))), .val (.ref a_INT64), .unset, .unset] []))
                refine own_via (X20.ldc2Long hx hown (mvT hZ (hw _ (List.mem_of_getElem? (i := 18) rfl))) (g := (mkF m 104 #[.val (.int p1), .val (.int (p1 &&& (7 : Int32))), .val (.ref a_INT64), .unset, .unset] [])) rfl (hb hby at_104)) ?_
                show own_Goes p e s below _ _ _ (T20.setTop (mkF m 107 #[.val (.int p1), .val (.int (p1 &&& (7 : Int32))), .val (.ref a_INT64), .unset, .unset] [(.long (-9223372036854775808 : Int64))]))
                refine own_via (fun _ q => XT.lstoreN X20.here hx rfl (hb hby at_107) rfl (l' := #[.val (.int p1), .val (.int (p1 &&& (7 : Int32))), .val (.ref a_INT64), .val (.long (-9223372036854775808 : Int64)), .second]) rfl q) ?_
                show own_Goes p e s below _ _ _ (T20.setTop (mkF m 108 #[.val (.int p1), .val (.int (p1 &&& (7 : Int32))), .val (.ref a_INT64), .val (.long (-9223372036854775808 : Int64)), .second] []))
                refine own_via (fun _ q => XS.goto X20.here hx rfl (pc0 := 108) (pc' := 117) rfl (hb hby at_108) (by decide) (by decide) q) ?_
                show own_Goes p e s below _ _ _ (T20.setTop (mkF m 117 #[.val (.int p1), .val (.int (p1 &&& (7 : Int32))), .val (.ref a_INT64), .val (.long (-9223372036854775808 : Int64)), .second] []))
                refine own_via (fun _ q => XS.aloadN X20.here hx rfl (hb hby at_117) rfl rfl q) ?_
                show own_Goes p e s below _ _ _ (T20.setTop (mkF m 118 #[.val (.int p1), .val (.int (p1 &&& (7 : Int32))), .val (.ref a_INT64), .val (.long (-9223372036854775808 : Int64)), .second] [(.ref a_INT64)]))
                obtain ⟨cq21, kq21, q21a, q21b, q21c⟩ := isOf hZ e20 E_INT64
                obtain ⟨_, _, ⟨T21, L21, k21, n21⟩, -, X21, ⟨Lc21, hQ21, l21, y21, z21⟩, st21⟩ := X20.virtualBack hx (y := (⟨"com/example/cuarteto/cuarteto/pascal/IntegerType", "minimum", "()J"⟩ : MethodName)) (z := (⟨"com/example/cuarteto/cuarteto/pascal/IntegerType", "minimum", "()J"⟩ : MethodName)) hown (mvT hZ (hw _ (List.mem_of_getElem? (i := 4) rfl))) (mvT hZ (hw _ (List.mem_of_getElem? (i := 5) rfl))) (notFace_of_selects (args := #[]) (mvT hZ (hw _ (List.mem_of_getElem? (i := 7) rfl)))) (mvT hZ (hw _ (List.mem_of_getElem? (i := 7) rfl))) (mvT hZ (hw _ (List.mem_of_getElem? (i := 6) rfl))) (by decide) (backOf (W := 0) (rm1 l Z a0 hw [] a_INT64 (64 : Int32) (1 : Int32) (-9223372036854775808 : Int64) h0 n0 Fb_INT64 Fs_INT64 (by decide +kernel)) hZ (hw _ (List.mem_of_getElem? (i := 8) rfl)) (hw _ (List.mem_of_getElem? (i := 1) rfl)) (by decide) (by decide)) q21a q21c (g := (mkF m 118 #[.val (.int p1), .val (.int (p1 &&& (7 : Int32))), .val (.ref a_INT64), .val (.long (-9223372036854775808 : Int64)), .second] [(.ref a_INT64)])) rfl (by rw [hml]; rfl) (Steps.refl _) (argsL := []) (rest := []) (lenOf pd___J rfl) rfl (by show 2 * 0 + _ ≤ _; exact Nat.le_of_eq rfl) (hb hby at_118) (fun _ _ => ⟨rfl, e20, (by decide : 0 + 0 ≤ _), (by decide : 0 + 0 ≤ _)⟩)
                dsimp only [Pt.U, Pt.locs, Pt.cells, Pt.slots] at X21 l21 y21 z21 st21 hQ21
                subst l21 y21 z21
                obtain ⟨rfl, N21q, e21⟩ := hQ21
                have N21 := Fr.app (Fr.nil n0) N21q
                refine own_on st21 ?_
                show own_Goes p e s below _ _ _ (T21.setTop (mkF m 121 #[.val (.int p1), .val (.int (p1 &&& (7 : Int32))), .val (.ref a_INT64), .val (.long (-9223372036854775808 : Int64)), .second] [(.long (-9223372036854775808 : Int64))]))
                refine own_via (fun _ q => XT.lloadN X21.here hx rfl (hb hby at_121) rfl q) ?_
                show own_Goes p e s below _ _ _ (T21.setTop (mkF m 122 #[.val (.int p1), .val (.int (p1 &&& (7 : Int32))), .val (.ref a_INT64), .val (.long (-9223372036854775808 : Int64)), .second] [(.long (-9223372036854775808 : Int64)), (.long (-9223372036854775808 : Int64))]))
                refine own_via (fun _ q => XT.lcmp X21.here hx rfl (hb hby at_122) rfl q) ?_
                show own_Goes p e s below _ _ _ (T21.setTop (mkF m 123 #[.val (.int p1), .val (.int (p1 &&& (7 : Int32))), .val (.ref a_INT64), .val (.long (-9223372036854775808 : Int64)), .second] [(.int (XT.cmpL (-9223372036854775808 : Int64) (-9223372036854775808 : Int64)))]))
                refine own_via (fun _ q => XS.ifNo X21.here hx rfl (hb hby at_123) rfl (XT.ll_ne_f (by decide)) q) ?_
                show own_Goes p e s below _ _ _ (T21.setTop (mkF m 126 #[.val (.int p1), .val (.int (p1 &&& (7 : Int32))), .val (.ref a_INT64), .val (.long (-9223372036854775808 : Int64)), .second] []))
                refine own_via (fun _ q => XT.iconstV X21.here hx rfl (1 : Int32) (hb hby at_126) rfl q) ?_
                show own_Goes p e s below _ _ _ (T21.setTop (mkF m 127 #[.val (.int p1), .val (.int (p1 &&& (7 : Int32))), .val (.ref a_INT64), .val (.long (-9223372036854775808 : Int64)), .second] [(.int (1 : Int32))]))
                refine own_via (fun _ q => XS.goto X21.here hx rfl (pc0 := 127) (pc' := 131) rfl (hb hby at_127) (by decide) (by decide) q) ?_
                show own_Goes p e s below _ _ _ (T21.setTop (mkF m 131 #[.val (.int p1), .val (.int (p1 &&& (7 : Int32))), .val (.ref a_INT64), .val (.long (-9223372036854775808 : Int64)), .second] [(.int (1 : Int32))]))
                exact own_retN X21 hx (t := .boolean) hret (by simp) hlk (hb hby at_131) (by decide) (by decide) ⟨rfl, N21⟩
              · refine own_via (fun _ q => XS.icmpYes X0.here hx rfl (pc0 := 97) (pc' := 111) rfl (hb hby at_97) rfl (XT.ii_ne_t hk97_19) (by decide) (by decide) q) ?_
                show own_Goes p e s below _ _ _ (s₁.setTop (mkF m 111 #[.val (.int p1), .val (.int (p1 &&& (7 : Int32))), .unset, .unset, .unset] []))
                obtain ⟨T22, X22, e22, st22⟩ := getS2 X0 hx hZ hown (host := "") (Or.inl (hw _ (List.mem_of_getElem? (i := 19) rfl))) Via.refl e0 S_QWORD (g := (mkF m 111 #[.val (.int p1), .val (.int (p1 &&& (7 : Int32))), .unset, .unset, .unset] [])) rfl (hb hby at_111)
                refine own_via st22 ?_
                show own_Goes p e s below _ _ _ (T22.setTop (mkF m 114 #[.val (.int p1), .val (.int (p1 &&& (7 : Int32))), .unset, .unset, .unset] [(.ref a_QWORD)]))
                refine own_via (fun _ q => XS.astoreN X22.here hx rfl (hb hby at_114) rfl rfl (l' := #[.val (.int p1), .val (.int (p1 &&& (7 : Int32))), .val (.ref a_QWORD), .unset, .unset]) rfl q) ?_
                show own_Goes p e s below _ _ _ (T22.setTop (mkF m 115 #[.val (.int p1), .val (.int (p1 &&& (7 : Int32))), .val (.ref a_QWORD), .unset, .unset] []))
                refine own_via (fun _ q => XT.lconstV X22.here hx rfl (0 : Int64) (hb hby at_115) rfl q) ?_
                show own_Goes p e s below _ _ _ (T22.setTop (mkF m 116 #[.val (.int p1), .val (.int (p1 &&& (7 : Int32))), .val (.ref a_QWORD), .unset, .unset] [(.long (0 : Int64))]))
                refine own_via (fun _ q => XT.lstoreN X22.here hx rfl (hb hby at_116) rfl (l' := #[.val (.int p1), .val (.int (p1 &&& (7 : Int32))), .val (.ref a_QWORD), .val (.long (0 : Int64)), .second]) rfl q) ?_
                show own_Goes p e s below _ _ _ (T22.setTop (mkF m 117 #[.val (.int p1), .val (.int (p1 &&& (7 : Int32))), .val (.ref a_QWORD), .val (.long (0 : Int64)), .second] []))
                refine own_via (fun _ q => XS.aloadN X22.here hx rfl (hb hby at_117) rfl rfl q) ?_
                show own_Goes p e s below _ _ _ (T22.setTop (mkF m 118 #[.val (.int p1), .val (.int (p1 &&& (7 : Int32))), .val (.ref a_QWORD), .val (.long (0 : Int64)), .second] [(.ref a_QWORD)]))
                obtain ⟨cq23, kq23, q23a, q23b, q23c⟩ := isOf hZ e22 E_QWORD
                obtain ⟨_, _, ⟨T23, L23, k23, n23⟩, -, X23, ⟨Lc23, hQ23, l23, y23, z23⟩, st23⟩ := X22.virtualBack hx (y := (⟨"com/example/cuarteto/cuarteto/pascal/IntegerType", "minimum", "()J"⟩ : MethodName)) (z := (⟨"com/example/cuarteto/cuarteto/pascal/IntegerType", "minimum", "()J"⟩ : MethodName)) hown (mvT hZ (hw _ (List.mem_of_getElem? (i := 4) rfl))) (mvT hZ (hw _ (List.mem_of_getElem? (i := 5) rfl))) (notFace_of_selects (args := #[]) (mvT hZ (hw _ (List.mem_of_getElem? (i := 7) rfl)))) (mvT hZ (hw _ (List.mem_of_getElem? (i := 7) rfl))) (mvT hZ (hw _ (List.mem_of_getElem? (i := 6) rfl))) (by decide) (backOf (W := 0) (rm1 l Z a0 hw [] a_QWORD (64 : Int32) (0 : Int32) (0 : Int64) h0 n0 Fb_QWORD Fs_QWORD (by decide +kernel)) hZ (hw _ (List.mem_of_getElem? (i := 8) rfl)) (hw _ (List.mem_of_getElem? (i := 1) rfl)) (by decide) (by decide)) q23a q23c (g := (mkF m 118 #[.val (.int p1), .val (.int (p1 &&& (7 : Int32))), .val (.ref a_QWORD), .val (.long (0 : Int64)), .second] [(.ref a_QWORD)])) rfl (by rw [hml]; rfl) (Steps.refl _) (argsL := []) (rest := []) (lenOf pd___J rfl) rfl (by show 2 * 0 + _ ≤ _; exact Nat.le_of_eq rfl) (hb hby at_118) (fun _ _ => ⟨rfl, e22, (by decide : 0 + 0 ≤ _), (by decide : 0 + 0 ≤ _)⟩)
                dsimp only [Pt.U, Pt.locs, Pt.cells, Pt.slots] at X23 l23 y23 z23 st23 hQ23
                subst l23 y23 z23
                obtain ⟨rfl, N23q, e23⟩ := hQ23
                have N23 := Fr.app (Fr.nil n0) N23q
                refine own_on st23 ?_
                show own_Goes p e s below _ _ _ (T23.setTop (mkF m 121 #[.val (.int p1), .val (.int (p1 &&& (7 : Int32))), .val (.ref a_QWORD), .val (.long (0 : Int64)), .second] [(.long (0 : Int64))]))
                refine own_via (fun _ q => XT.lloadN X23.here hx rfl (hb hby at_121) rfl q) ?_
                show own_Goes p e s below _ _ _ (T23.setTop (mkF m 122 #[.val (.int p1), .val (.int (p1 &&& (7 : Int32))), .val (.ref a_QWORD), .val (.long (0 : Int64)), .second] [(.long (0 : Int64)), (.long (0 : Int64))]))
                refine own_via (fun _ q => XT.lcmp X23.here hx rfl (hb hby at_122) rfl q) ?_
                show own_Goes p e s below _ _ _ (T23.setTop (mkF m 123 #[.val (.int p1), .val (.int (p1 &&& (7 : Int32))), .val (.ref a_QWORD), .val (.long (0 : Int64)), .second] [(.int (XT.cmpL (0 : Int64) (0 : Int64)))]))
                refine own_via (fun _ q => XS.ifNo X23.here hx rfl (hb hby at_123) rfl (XT.ll_ne_f (by decide)) q) ?_
                show own_Goes p e s below _ _ _ (T23.setTop (mkF m 126 #[.val (.int p1), .val (.int (p1 &&& (7 : Int32))), .val (.ref a_QWORD), .val (.long (0 : Int64)), .second] []))
                refine own_via (fun _ q => XT.iconstV X23.here hx rfl (1 : Int32) (hb hby at_126) rfl q) ?_
                show own_Goes p e s below _ _ _ (T23.setTop (mkF m 127 #[.val (.int p1), .val (.int (p1 &&& (7 : Int32))), .val (.ref a_QWORD), .val (.long (0 : Int64)), .second] [(.int (1 : Int32))]))
                refine own_via (fun _ q => XS.goto X23.here hx rfl (pc0 := 127) (pc' := 131) rfl (hb hby at_127) (by decide) (by decide) q) ?_
                show own_Goes p e s below _ _ _ (T23.setTop (mkF m 131 #[.val (.int p1), .val (.int (p1 &&& (7 : Int32))), .val (.ref a_QWORD), .val (.long (0 : Int64)), .second] [(.int (1 : Int32))]))
                exact own_retN X23 hx (t := .boolean) hret (by simp) hlk (hb hby at_131) (by decide) (by decide) ⟨rfl, N23⟩
set_option maxRecDepth 65536 in
set_option maxHeartbeats 40000000 in
theorem comes_1 {Post : Tables → Env → Array Value → State → Outcome → State → Prop} (hpost : ∀ tb e args s v u, (limb_1_1.after args s (.returned v) u = true ∧ limb_1_2.after args s (.returned v) u = true ∧ True) → FrameEnd s (.returned v) u (Jvm.fieldLocs frame_1_writes args s ++ Jvm.arrayLocs frame_1_arrays args s ++ Jvm.staticLocs frame_1_statics s) 0 0 → Post tb e args s (.returned v) u) :
    ArmFor flags0 classFile x code maxLocals ret World_1 tables_1 room_1 Calls_1 rest_1 Pre_1 Post := by
  intro l hfl _ _ p e ha hc hk s m args below hf hA hF happ hP
  obtain ⟨hcalls, hrest, hpre⟩ := hP
  obtain ⟨-, -, -, hnamed, -, -, -, hat⟩ := (Spec.applies_iff hf).mp happ
  obtain ⟨hg, hn⟩ := and_e (Cond.before_iff.mp (show (Jvm.Cond.and given_1 narrow_1).before args s = true from hpre))
  obtain ⟨h1, g0⟩ := and_e hg
  obtain ⟨w0, rfl⟩ : ∃ w0 : Value, args = #[w0] := by
    have hs : args.size = 1 := by simpa [Cond.value, given_1] using h1
    obtain ⟨L⟩ := args
    match L, hs with
    | [w0], _ => exact ⟨w0, rfl⟩
  have hw := fun d (hd : d ∈ tables_1) => atoms_spec (ws := Jvm.Cond.code x code maxLocals ret :: tables_1) hat d (List.mem_cons_of_mem _ hd)
  obtain ⟨i0, e0⟩ := is_v g0
  obtain rfl : w0 = (.int i0) := Option.some.inj e0
  have n0 := hn
  obtain ⟨n0', n1⟩ := and_e n0
  obtain ⟨a_SHORTINT, ev_SHORTINT⟩ := exa_v n0'
  have E_SHORTINT : Exa s s.heap a_SHORTINT "com/example/cuarteto/cuarteto/pascal/IntegerType" := Exa.start ev_SHORTINT n0'
  have S_SHORTINT : Sta s s.heap "com/example/cuarteto/cuarteto/pascal/IntegerType" "SHORTINT" "Lcom/example/cuarteto/cuarteto/pascal/IntegerType;" (.ref a_SHORTINT) := Sta.start ev_SHORTINT (Or.inr ⟨(hw _ (List.mem_of_getElem? (i := 1) rfl)), (hw _ (List.mem_of_getElem? (i := 2) rfl))⟩)
  obtain ⟨n1', n2⟩ := and_e n1
  obtain ⟨n2', n3⟩ := and_e n2
  obtain ⟨n3', n4⟩ := and_e n3
  obtain ⟨a_WORD, ev_WORD⟩ := exa_v n3'
  have E_WORD : Exa s s.heap a_WORD "com/example/cuarteto/cuarteto/pascal/IntegerType" := Exa.start ev_WORD n3'
  have S_WORD : Sta s s.heap "com/example/cuarteto/cuarteto/pascal/IntegerType" "WORD" "Lcom/example/cuarteto/cuarteto/pascal/IntegerType;" (.ref a_WORD) := Sta.start ev_WORD (Or.inr ⟨(hw _ (List.mem_of_getElem? (i := 1) rfl)), (hw _ (List.mem_of_getElem? (i := 15) rfl))⟩)
  obtain ⟨n4', n5⟩ := and_e n4
  obtain ⟨n5', n6⟩ := and_e n5
  obtain ⟨a_INT64, ev_INT64⟩ := exa_v n5'
  have E_INT64 : Exa s s.heap a_INT64 "com/example/cuarteto/cuarteto/pascal/IntegerType" := Exa.start ev_INT64 n5'
  have S_INT64 : Sta s s.heap "com/example/cuarteto/cuarteto/pascal/IntegerType" "INT64" "Lcom/example/cuarteto/cuarteto/pascal/IntegerType;" (.ref a_INT64) := Sta.start ev_INT64 (Or.inr ⟨(hw _ (List.mem_of_getElem? (i := 1) rfl)), (hw _ (List.mem_of_getElem? (i := 17) rfl))⟩)
  obtain ⟨n6', n7⟩ := and_e n6
  obtain ⟨n7', n8⟩ := and_e n7
  obtain ⟨n8', n9⟩ := and_e n8
  obtain ⟨a_QWORD, ev_QWORD⟩ := exa_v n8'
  have E_QWORD : Exa s s.heap a_QWORD "com/example/cuarteto/cuarteto/pascal/IntegerType" := Exa.start ev_QWORD n8'
  have S_QWORD : Sta s s.heap "com/example/cuarteto/cuarteto/pascal/IntegerType" "QWORD" "Lcom/example/cuarteto/cuarteto/pascal/IntegerType;" (.ref a_QWORD) := Sta.start ev_QWORD (Or.inr ⟨(hw _ (List.mem_of_getElem? (i := 1) rfl)), (hw _ (List.mem_of_getElem? (i := 20) rfl))⟩)
  obtain ⟨n9', n10⟩ := and_e n9
  obtain ⟨n10', n11⟩ := and_e n10
  obtain ⟨a_SMALLINT, ev_SMALLINT⟩ := exa_v n10'
  have E_SMALLINT : Exa s s.heap a_SMALLINT "com/example/cuarteto/cuarteto/pascal/IntegerType" := Exa.start ev_SMALLINT n10'
  have S_SMALLINT : Sta s s.heap "com/example/cuarteto/cuarteto/pascal/IntegerType" "SMALLINT" "Lcom/example/cuarteto/cuarteto/pascal/IntegerType;" (.ref a_SMALLINT) := Sta.start ev_SMALLINT (Or.inr ⟨(hw _ (List.mem_of_getElem? (i := 1) rfl)), (hw _ (List.mem_of_getElem? (i := 22) rfl))⟩)
  obtain ⟨n11', n12⟩ := and_e n11
  obtain ⟨n12', n13⟩ := and_e n12
  obtain ⟨n13', n14⟩ := and_e n13
  obtain ⟨a_BYTE, ev_BYTE⟩ := exa_v n13'
  have E_BYTE : Exa s s.heap a_BYTE "com/example/cuarteto/cuarteto/pascal/IntegerType" := Exa.start ev_BYTE n13'
  have S_BYTE : Sta s s.heap "com/example/cuarteto/cuarteto/pascal/IntegerType" "BYTE" "Lcom/example/cuarteto/cuarteto/pascal/IntegerType;" (.ref a_BYTE) := Sta.start ev_BYTE (Or.inr ⟨(hw _ (List.mem_of_getElem? (i := 1) rfl)), (hw _ (List.mem_of_getElem? (i := 25) rfl))⟩)
  obtain ⟨n14', n15⟩ := and_e n14
  obtain ⟨n15', n16⟩ := and_e n15
  obtain ⟨a_LONGINT, ev_LONGINT⟩ := exa_v n15'
  have E_LONGINT : Exa s s.heap a_LONGINT "com/example/cuarteto/cuarteto/pascal/IntegerType" := Exa.start ev_LONGINT n15'
  have S_LONGINT : Sta s s.heap "com/example/cuarteto/cuarteto/pascal/IntegerType" "LONGINT" "Lcom/example/cuarteto/cuarteto/pascal/IntegerType;" (.ref a_LONGINT) := Sta.start ev_LONGINT (Or.inr ⟨(hw _ (List.mem_of_getElem? (i := 1) rfl)), (hw _ (List.mem_of_getElem? (i := 27) rfl))⟩)
  obtain ⟨n16', n17⟩ := and_e n16
  obtain ⟨n17', n18⟩ := and_e n17
  obtain ⟨n18', n19⟩ := and_e n18
  obtain ⟨a_CARDINAL, ev_CARDINAL⟩ := exa_v n18'
  have E_CARDINAL : Exa s s.heap a_CARDINAL "com/example/cuarteto/cuarteto/pascal/IntegerType" := Exa.start ev_CARDINAL n18'
  have S_CARDINAL : Sta s s.heap "com/example/cuarteto/cuarteto/pascal/IntegerType" "CARDINAL" "Lcom/example/cuarteto/cuarteto/pascal/IntegerType;" (.ref a_CARDINAL) := Sta.start ev_CARDINAL (Or.inr ⟨(hw _ (List.mem_of_getElem? (i := 1) rfl)), (hw _ (List.mem_of_getElem? (i := 30) rfl))⟩)
  obtain ⟨n19', n20⟩ := and_e n19
  obtain ⟨n20', n21⟩ := and_e n20
  obtain ⟨n21', n22⟩ := and_e n21
  obtain ⟨n22', n23⟩ := and_e n22
  have F_SHORTINT_signed : Fld s s.heap a_SHORTINT "com/example/cuarteto/cuarteto/pascal/IntegerType" "signed" "Z" (.int (1 : Int32)) := Fld.start ((fld_at ev_SHORTINT).symm.trans (own_eqi n1'))
  have F_SHORTINT_bits : Fld s s.heap a_SHORTINT "com/example/cuarteto/cuarteto/pascal/IntegerType" "bits" "I" (.int (8 : Int32)) := Fld.start ((fld_at ev_SHORTINT).symm.trans (own_eqi n2'))
  have F_WORD_signed : Fld s s.heap a_WORD "com/example/cuarteto/cuarteto/pascal/IntegerType" "signed" "Z" (.int (0 : Int32)) := Fld.start ((fld_at ev_WORD).symm.trans (own_eqi n4'))
  have F_INT64_signed : Fld s s.heap a_INT64 "com/example/cuarteto/cuarteto/pascal/IntegerType" "signed" "Z" (.int (1 : Int32)) := Fld.start ((fld_at ev_INT64).symm.trans (own_eqi n6'))
  have F_INT64_bits : Fld s s.heap a_INT64 "com/example/cuarteto/cuarteto/pascal/IntegerType" "bits" "I" (.int (64 : Int32)) := Fld.start ((fld_at ev_INT64).symm.trans (own_eqi n7'))
  have F_QWORD_signed : Fld s s.heap a_QWORD "com/example/cuarteto/cuarteto/pascal/IntegerType" "signed" "Z" (.int (0 : Int32)) := Fld.start ((fld_at ev_QWORD).symm.trans (own_eqi n9'))
  have F_SMALLINT_signed : Fld s s.heap a_SMALLINT "com/example/cuarteto/cuarteto/pascal/IntegerType" "signed" "Z" (.int (1 : Int32)) := Fld.start ((fld_at ev_SMALLINT).symm.trans (own_eqi n11'))
  have F_SMALLINT_bits : Fld s s.heap a_SMALLINT "com/example/cuarteto/cuarteto/pascal/IntegerType" "bits" "I" (.int (16 : Int32)) := Fld.start ((fld_at ev_SMALLINT).symm.trans (own_eqi n12'))
  have F_BYTE_signed : Fld s s.heap a_BYTE "com/example/cuarteto/cuarteto/pascal/IntegerType" "signed" "Z" (.int (0 : Int32)) := Fld.start ((fld_at ev_BYTE).symm.trans (own_eqi n14'))
  have F_LONGINT_signed : Fld s s.heap a_LONGINT "com/example/cuarteto/cuarteto/pascal/IntegerType" "signed" "Z" (.int (1 : Int32)) := Fld.start ((fld_at ev_LONGINT).symm.trans (own_eqi n16'))
  have F_LONGINT_bits : Fld s s.heap a_LONGINT "com/example/cuarteto/cuarteto/pascal/IntegerType" "bits" "I" (.int (32 : Int32)) := Fld.start ((fld_at ev_LONGINT).symm.trans (own_eqi n17'))
  have F_CARDINAL_signed : Fld s s.heap a_CARDINAL "com/example/cuarteto/cuarteto/pascal/IntegerType" "signed" "Z" (.int (0 : Int32)) := Fld.start ((fld_at ev_CARDINAL).symm.trans (own_eqi n19'))
  have F_WORD_bits : Fld s s.heap a_WORD "com/example/cuarteto/cuarteto/pascal/IntegerType" "bits" "I" (.int (16 : Int32)) := Fld.start ((fld_at ev_WORD).symm.trans (own_eqi n20'))
  have F_QWORD_bits : Fld s s.heap a_QWORD "com/example/cuarteto/cuarteto/pascal/IntegerType" "bits" "I" (.int (64 : Int32)) := Fld.start ((fld_at ev_QWORD).symm.trans (own_eqi n21'))
  have F_BYTE_bits : Fld s s.heap a_BYTE "com/example/cuarteto/cuarteto/pascal/IntegerType" "bits" "I" (.int (8 : Int32)) := Fld.start ((fld_at ev_BYTE).symm.trans (own_eqi n22'))
  have F_CARDINAL_bits : Fld s s.heap a_CARDINAL "com/example/cuarteto/cuarteto/pascal/IntegerType" "bits" "I" (.int (32 : Int32)) := Fld.start ((fld_at ev_CARDINAL).symm.trans (own_eqi n23))
  obtain ⟨n, o, h1, h2, h3, _, L, rfl, ⟨rfl, N⟩, hq⟩ := rm0 l s _ hw tables_1 i0 a_SHORTINT a_BYTE a_SMALLINT a_WORD a_LONGINT a_CARDINAL a_INT64 a_QWORD s.heap s.heap.size S_SHORTINT S_BYTE S_SMALLINT S_WORD S_LONGINT S_CARDINAL S_INT64 S_QWORD E_SHORTINT E_BYTE E_SMALLINT E_WORD E_LONGINT E_CARDINAL E_INT64 E_QWORD F_SHORTINT_bits F_SHORTINT_signed F_BYTE_bits F_BYTE_signed F_SMALLINT_bits F_SMALLINT_signed F_WORD_bits F_WORD_signed F_LONGINT_bits F_LONGINT_signed F_CARDINAL_bits F_CARDINAL_signed F_INT64_bits F_INT64_signed F_QWORD_bits F_QWORD_signed p e ha hc hk s m _ below hf ((Spec.applies_iff_loose hf).mp happ).1 ⟨rfl, State.Warmed39.refl s, rfl⟩ trivial
  refine ⟨n, _, h1, h2, h3, hpost _ _ _ _ _ _ ⟨Cond.after_iff.mpr rfl, Cond.after_iff.mpr (eq_i res_at (Term.int_eval (1)) rfl), trivial⟩ ⟨hq.1, hq.2.1, (hq.2.2.sift fun y hy => Or.inr (N y hy)).mono (by decide) (by decide)⟩⟩
theorem main_1_1 : Claimed_1_1 := comes_1 fun _ _ _ _ _ _ h hF => ⟨h.1, hF⟩
theorem main_1_2 : Claimed_1_2 := comes_1 fun _ _ _ _ _ _ h hF => ⟨h.2.1, hF⟩
end Jvm.Pilot.@@N@@
namespace Jvm.Pilot.@@N@@
open Jvm Jvm.ClassFile Sem Op Lib Jvm.Free Jvm.Stand Jvm.Pilot.@@N@@.Jvm.D
/-! MADE BY PROGRAM (witnessworld.py) out of the Statement's table words and the real class files: 12 classes; the members and pool entries that the words name. The judged class is class 1, her method 1. -/
namespace start1
open Jvm.ClassFile
def u (s : String) : CpInfo := .utf8 (stringToUtf16 s)
/-- a pool by its gaps: so many unusable entries, then the entry; so many at the end -/
def gap : Nat → List CpInfo → List CpInfo
  | 0, r => r
  | n + 1, r => .unusable :: gap n r
def poolList (es : List (Nat × CpInfo)) (last : Nat) : List CpInfo := es.foldr (fun e r => gap e.1 (e.2 :: r)) (gap last [])
def pool (es : List (Nat × CpInfo)) (last : Nat) : Array CpInfo := ⟨poolList es last⟩
def fileOf (pool : Array CpInfo) (this : Nat) (attrs : Array Attribute := #[]) (ms : Array MethodInfo := #[]) (fl : Nat := 33) (sup : Nat := 0) (ifs : Array Nat := #[]) (fds : Array FieldInfo := #[]) : ClassFile where
  minorVersion := 0
  majorVersion := 65
  constantPool := pool
  accessFlags := fl
  thisClass := this
  superClass := sup
  interfaces := ifs
  fields := fds
  methods := ms
  attributes := attrs
def plain (name : String) (sup : Option ClassId) : Class where
  name := name
  kind := .ordinary
  loader := none
  accessFlags := 33
  super := sup
  interfaces := #[]
  cf := none
  fields := #[]
  methods := #[]
  instanceTypes := #[]
  staticTypes := #[]
  resolved := #[]
  callSites := []
  init := .initialized
  statics := none
  mirror := none

def pool0 : Array CpInfo := pool [(5, u "<init>"), (0, u "()V"), (1, .class_ 10), (1, u "java/lang/Object")] 113

def k0m0 : Method := { name := "<init>", desc := "()V", sig := { parameters := [], returnType := none }, accessFlags := 1, code := none }
/-- java/lang/Object -/
def k0 : Class := { plain "java/lang/Object" none with
  accessFlags := 33
  interfaces := #[]
  cf := some (fileOf pool0 8 #[] #[{ accessFlags := 1, nameIndex := 5, descriptorIndex := 6, attributes := #[] }] 33 0 #[] #[])
  fields := #[]
  methods := #[k0m0]
  instanceTypes := #[]
  staticTypes := #[]
  resolved := Array.replicate 124 none
  statics := none }

def pool1 : Array CpInfo := pool [(2, .class_ 4), (1, u "java/lang/Object"), (0, u "<init>"), (0, u "()V"), (0, .fieldref 8 9), (0, .class_ 10), (0, .nameAndType 11 12), (0, u "com/example/cuarteto/cuarteto/pascal/IntegerType"), (0, u "SHORTINT"), (0, u "Lcom/example/cuarteto/cuarteto/pascal/IntegerType;"), (0, .long 18446744073709551488), (1, .fieldref 8 16), (0, .nameAndType 17 12), (0, u "BYTE"), (0, .fieldref 8 19), (0, .nameAndType 20 12), (0, u "SMALLINT"), (0, .long 18446744073709518848), (1, .fieldref 8 24), (0, .nameAndType 25 12), (0, u "WORD"), (0, .fieldref 8 27), (0, .nameAndType 28 12), (0, u "LONGINT"), (0, .long 18446744071562067968), (1, .fieldref 8 32), (0, .nameAndType 33 12), (0, u "CARDINAL"), (0, .fieldref 8 35), (0, .nameAndType 36 12), (0, u "INT64"), (2, .long 9223372036854775808), (1, .fieldref 8 42), (0, .nameAndType 43 12), (0, u "QWORD"), (0, .methodref 8 45), (0, .nameAndType 46 47), (0, u "minimum"), (0, u "()J"), (0, .class_ 49), (0, u "com/example/cuarteto/cuarteto/pascal/IntegerTypeMinimumPinLaw"), (2, u "law"), (0, u "(I)Z")] 3

def k1m0 : Method := { name := "<init>", desc := "()V", sig := { parameters := [], returnType := none }, accessFlags := 1, code := none }
def k1c1 : Code := { maxStack := 4, maxLocals := 5, code := code, exceptionTable := #[], attributes := #[] }
def k1m1 : Method := { name := "law", desc := "(I)Z", sig := { parameters := [.int], returnType := some .boolean }, accessFlags := 9, code := some k1c1 }
/-- com/example/cuarteto/cuarteto/pascal/IntegerTypeMinimumPinLaw -/
def k1 : Class := { plain "com/example/cuarteto/cuarteto/pascal/IntegerTypeMinimumPinLaw" (some 0) with
  accessFlags := 49
  interfaces := #[]
  cf := some (fileOf pool1 48 #[] #[{ accessFlags := 1, nameIndex := 5, descriptorIndex := 6, attributes := #[] }, { accessFlags := 9, nameIndex := 52, descriptorIndex := 53, attributes := #[] }] 49 2 #[] #[])
  fields := #[]
  methods := #[k1m0, k1m1]
  instanceTypes := #[]
  staticTypes := #[]
  resolved := Array.replicate 57 none
  statics := none }

def pool2 : Array CpInfo := pool [(1, .class_ 2), (0, u "java/lang/constant/Constable"), (0, .class_ 4), (0, u "java/lang/Object")] 6

/-- java/lang/constant/Constable -/
def k2 : Class := { plain "java/lang/constant/Constable" (some 0) with
  accessFlags := 1537
  interfaces := #[]
  cf := some (fileOf pool2 1 #[] #[] 1537 3 #[] #[])
  fields := #[]
  methods := #[]
  instanceTypes := #[]
  staticTypes := #[]
  resolved := Array.replicate 11 none
  statics := none }

def pool3 : Array CpInfo := pool [(1, .class_ 2), (0, u "java/lang/Comparable"), (0, .class_ 4), (0, u "java/lang/Object")] 7

/-- java/lang/Comparable -/
def k3 : Class := { plain "java/lang/Comparable" (some 0) with
  accessFlags := 1537
  interfaces := #[]
  cf := some (fileOf pool3 1 #[] #[] 1537 3 #[] #[])
  fields := #[]
  methods := #[]
  instanceTypes := #[]
  staticTypes := #[]
  resolved := Array.replicate 12 none
  statics := none }

def pool4 : Array CpInfo := pool [(1, .class_ 2), (0, u "java/io/Serializable"), (0, .class_ 4), (0, u "java/lang/Object")] 2

/-- java/io/Serializable -/
def k4 : Class := { plain "java/io/Serializable" (some 0) with
  accessFlags := 1537
  interfaces := #[]
  cf := some (fileOf pool4 1 #[] #[] 1537 3 #[] #[])
  fields := #[]
  methods := #[]
  instanceTypes := #[]
  staticTypes := #[]
  resolved := Array.replicate 7 none
  statics := none }

def pool5 : Array CpInfo := pool [(2, .class_ 4), (1, u "java/lang/Enum"), (0, u "name"), (0, u "Ljava/lang/String;"), (2, u "ordinal"), (0, u "I"), (1, .class_ 14), (1, u "java/lang/Object"), (4, u "hash"), (86, .class_ 108), (1, u "java/lang/Enum$EnumDesc"), (2, .class_ 112), (0, u "java/lang/constant/Constable"), (0, .class_ 114), (0, u "java/lang/Comparable"), (0, .class_ 116), (0, u "java/io/Serializable")] 87

/-- java/lang/Enum -/
def k5 : Class := { plain "java/lang/Enum" (some 0) with
  accessFlags := 1057
  interfaces := #[2, 3, 4]
  cf := some (fileOf pool5 2 #[.nestMembers #[106]] #[] 1057 12 #[111, 113, 115] #[{ accessFlags := 18, nameIndex := 5, descriptorIndex := 6, attributes := #[] }, { accessFlags := 18, nameIndex := 9, descriptorIndex := 10, attributes := #[] }, { accessFlags := 2, nameIndex := 19, descriptorIndex := 10, attributes := #[] }])
  fields := #[{ name := "name", type := (.object "java/lang/String"), accessFlags := 18, slot := 0, constantValue := 0 }, { name := "ordinal", type := .int, accessFlags := 18, slot := 1, constantValue := 0 }, { name := "hash", type := .int, accessFlags := 2, slot := 2, constantValue := 0 }]
  methods := #[]
  instanceTypes := #[(.object "java/lang/String"), .int, .int]
  staticTypes := #[]
  resolved := Array.replicate 204 none
  statics := none }

def pool6 : Array CpInfo := pool [(1, .class_ 2), (0, u "com/example/cuarteto/cuarteto/pascal/IntegerType"), (2, u "SHORTINT"), (0, u "Lcom/example/cuarteto/cuarteto/pascal/IntegerType;"), (2, u "BYTE"), (2, u "SMALLINT"), (2, u "WORD"), (2, u "LONGINT"), (2, u "CARDINAL"), (2, u "INT64"), (2, u "QWORD"), (2, u "$VALUES"), (0, u "[Lcom/example/cuarteto/cuarteto/pascal/IntegerType;"), (6, .class_ 40), (1, u "java/lang/Enum"), (6, .fieldref 1 48), (0, .nameAndType 49 50), (0, u "bits"), (0, u "I"), (0, .fieldref 1 52), (0, .nameAndType 53 54), (0, u "signed"), (0, u "Z"), (10, .long 9223372036854775808), (7, u "minimum"), (0, u "()J")] 36

def k6c0 : Code := { maxStack := 4, maxLocals := 1, code := prog_15_method_7_code, exceptionTable := #[], attributes := #[] }
def k6m0 : Method := { name := "minimum", desc := "()J", sig := { parameters := [], returnType := some .long }, accessFlags := 1, code := some k6c0 }
/-- com/example/cuarteto/cuarteto/pascal/IntegerType -/
def k6 : Class := { plain "com/example/cuarteto/cuarteto/pascal/IntegerType" (some 5) with
  accessFlags := 16433
  interfaces := #[]
  cf := some (fileOf pool6 1 #[] #[{ accessFlags := 1, nameIndex := 73, descriptorIndex := 74, attributes := #[] }] 16433 38 #[] #[{ accessFlags := 16409, nameIndex := 5, descriptorIndex := 6, attributes := #[] }, { accessFlags := 16409, nameIndex := 9, descriptorIndex := 6, attributes := #[] }, { accessFlags := 16409, nameIndex := 12, descriptorIndex := 6, attributes := #[] }, { accessFlags := 16409, nameIndex := 15, descriptorIndex := 6, attributes := #[] }, { accessFlags := 16409, nameIndex := 18, descriptorIndex := 6, attributes := #[] }, { accessFlags := 16409, nameIndex := 21, descriptorIndex := 6, attributes := #[] }, { accessFlags := 16409, nameIndex := 24, descriptorIndex := 6, attributes := #[] }, { accessFlags := 16409, nameIndex := 27, descriptorIndex := 6, attributes := #[] }, { accessFlags := 18, nameIndex := 49, descriptorIndex := 50, attributes := #[] }, { accessFlags := 18, nameIndex := 53, descriptorIndex := 54, attributes := #[] }, { accessFlags := 4122, nameIndex := 30, descriptorIndex := 31, attributes := #[] }])
  fields := #[{ name := "SHORTINT", type := (.object "com/example/cuarteto/cuarteto/pascal/IntegerType"), accessFlags := 16409, slot := 0, constantValue := 0 }, { name := "BYTE", type := (.object "com/example/cuarteto/cuarteto/pascal/IntegerType"), accessFlags := 16409, slot := 1, constantValue := 0 }, { name := "SMALLINT", type := (.object "com/example/cuarteto/cuarteto/pascal/IntegerType"), accessFlags := 16409, slot := 2, constantValue := 0 }, { name := "WORD", type := (.object "com/example/cuarteto/cuarteto/pascal/IntegerType"), accessFlags := 16409, slot := 3, constantValue := 0 }, { name := "LONGINT", type := (.object "com/example/cuarteto/cuarteto/pascal/IntegerType"), accessFlags := 16409, slot := 4, constantValue := 0 }, { name := "CARDINAL", type := (.object "com/example/cuarteto/cuarteto/pascal/IntegerType"), accessFlags := 16409, slot := 5, constantValue := 0 }, { name := "INT64", type := (.object "com/example/cuarteto/cuarteto/pascal/IntegerType"), accessFlags := 16409, slot := 6, constantValue := 0 }, { name := "QWORD", type := (.object "com/example/cuarteto/cuarteto/pascal/IntegerType"), accessFlags := 16409, slot := 7, constantValue := 0 }, { name := "bits", type := .int, accessFlags := 18, slot := 3, constantValue := 0 }, { name := "signed", type := .boolean, accessFlags := 18, slot := 4, constantValue := 0 }, { name := "$VALUES", type := (.array (.object "com/example/cuarteto/cuarteto/pascal/IntegerType")), accessFlags := 4122, slot := 8, constantValue := 0 }]
  methods := #[k6m0]
  instanceTypes := #[(.object "java/lang/String"), .int, .int, .int, .boolean]
  staticTypes := #[(.object "com/example/cuarteto/cuarteto/pascal/IntegerType"), (.object "com/example/cuarteto/cuarteto/pascal/IntegerType"), (.object "com/example/cuarteto/cuarteto/pascal/IntegerType"), (.object "com/example/cuarteto/cuarteto/pascal/IntegerType"), (.object "com/example/cuarteto/cuarteto/pascal/IntegerType"), (.object "com/example/cuarteto/cuarteto/pascal/IntegerType"), (.object "com/example/cuarteto/cuarteto/pascal/IntegerType"), (.object "com/example/cuarteto/cuarteto/pascal/IntegerType"), (.array (.object "com/example/cuarteto/cuarteto/pascal/IntegerType"))]
  resolved := Array.replicate 111 none
  statics := some 0 }

def pool7 : Array CpInfo := pool [(1, u "java/lang/Cloneable"), (0, .class_ 1), (0, u "java/lang/Object"), (0, .class_ 3)] 3

/-- java/lang/Cloneable -/
def k7 : Class := { plain "java/lang/Cloneable" (some 0) with
  accessFlags := 1537
  interfaces := #[]
  cf := some (fileOf pool7 2 #[] #[] 1537 4 #[] #[])
  fields := #[]
  methods := #[]
  instanceTypes := #[]
  staticTypes := #[]
  resolved := Array.replicate 8 none
  statics := none }

/-- the primitive byte -/
def k8 : Class := { plain "byte" none with kind := .primitive 'B', accessFlags := 0x411 }
/-- [B -/
def k9 : Class := { plain "[B" (some 0) with kind := .array 8 .byte, interfaces := #[7, 4], accessFlags := 1041 }

/-- the primitive int -/
def k10 : Class := { plain "int" none with kind := .primitive 'I', accessFlags := 0x411 }
/-- [I -/
def k11 : Class := { plain "[I" (some 0) with kind := .array 10 .int, interfaces := #[7, 4], accessFlags := 1041 }

def heap : Heap := #[{ cls := 6, slots := #[.ref 1, .ref 6, .ref 5, .ref 2, .ref 7, .ref 8, .ref 3, .ref 4, .null], vm := .statics 6 },
  { cls := 6, slots := #[.null, .int 0, .int 0, .int 8, .int 1], vm := .none },
  { cls := 6, slots := #[.null, .int 0, .int 0, .int 16, .int 0], vm := .none },
  { cls := 6, slots := #[.null, .int 0, .int 0, .int 64, .int 1], vm := .none },
  { cls := 6, slots := #[.null, .int 0, .int 0, .int 64, .int 0], vm := .none },
  { cls := 6, slots := #[.null, .int 0, .int 0, .int 16, .int 1], vm := .none },
  { cls := 6, slots := #[.null, .int 0, .int 0, .int 8, .int 0], vm := .none },
  { cls := 6, slots := #[.null, .int 0, .int 0, .int 32, .int 1], vm := .none },
  { cls := 6, slots := #[.null, .int 0, .int 0, .int 32, .int 0], vm := .none }]
def classes : Array Class := #[k0, k1, k2, k3, k4, k5, k6, k7, k8, k9, k10, k11]
def interned : List (Array UInt16 × Addr) := []
def slotsUsed : Nat := 49
def theMethod : MethodId := ⟨1, 1⟩
def args0 : Array Value := #[.int 5]
def aboutOver (below : List Frame) : State where
  vm := { classes := classes, interned := interned.toArray }
  heap := heap
  slotsUsed := slotsUsed
  threads := #[{ frames := .invoking theMethod args0 :: below }]
def below0 : List Frame := [.native { method := ⟨0, 0⟩, args := #[] }]
def about1 : State := aboutOver below0
def p0 : Program := .bare "" "" ""
def e0 : Env := launch0.env 0 0 0
theorem w_frames : about1.frames = Frame.invoking theMethod args0 :: below0 := rfl
set_option maxRecDepth 65536 in
theorem w_args : argsFit about1.vm theMethod args0 = true := by decide +kernel
set_option maxRecDepth 65536 in
theorem w_heap : heapFits about1 = true := by decide +kernel
set_option maxRecDepth 65536 in
theorem w_runnable : about1.curStatus? = some .runnable := by decide +kernel
set_option maxRecDepth 65536 in
theorem w_alone : about1.alone = true := by decide +kernel
set_option maxRecDepth 65536 in
theorem w_named : about1.methodNamed? x = some theMethod := by decide +kernel
set_option maxRecDepth 65536 in
theorem w_hears : about1.hears theMethod below0 = true := by decide +kernel
set_option maxRecDepth 65536 in
theorem w_ripe : about1.ripe theMethod args0 below0 = true := by decide +kernel
theorem w_running : about1.status = .running := rfl
set_option maxRecDepth 65536 in
theorem w_room : about1.hasRoom e0.platform room_1 = true :=
  launch0.hasRoom_least _ room_1 (by decide +kernel) (by decide +kernel) (by decide +kernel) (by decide +kernel) (by decide +kernel) (by decide +kernel)
theorem allAtoms_all (ts : List Jvm.Cond) (a : Array Jvm.Value) (st : Jvm.State) : (allAtoms ts).before a st = ts.all (fun c => c.before a st) := by
  induction ts with
  | nil => rfl
  | cons c t ih =>
    show (Jvm.Cond.and c (allAtoms t)).before a st = _
    rw [Jvm.Cond.before_and, ih, List.all_cons]
def words1 : List Jvm.Cond := Jvm.Cond.code x code maxLocals ret :: tables_1
/-- a 'code' word, met by the world's own term for the bytes: nothing is compared byte by byte -/
theorem code_word {y : MethodName} {bytes : ByteArray} {mx : Nat} {rt : Option FieldType} {a : Array Value} {s : State} {m : MethodId} {meth : Method} {c : Code} (h1 : s.methodNamed? y = some m) (h2 : s.vm.method? m = some meth) (h3 : meth.code = some c) (h4 : c.code = bytes)
    (h5 : (c.maxLocals == mx && c.exceptionTable.isEmpty && decide (c.maxStack ≤ mostOperands) && decide (meth.sig.returnType = rt) && !meth.locks && decide (parseMethodDescriptor y.desc = some meth.sig)) = true) : (Jvm.Cond.code y bytes mx rt).before a s = true := by
  simp only [Bool.and_eq_true, beq_iff_eq, Bool.not_eq_true', decide_eq_true_eq] at h5
  obtain ⟨⟨⟨⟨⟨g1, g2⟩, g3⟩, g4⟩, g5⟩, g6⟩ := h5
  simp [Cond.before, Cond.holds, Cond.value, h1, h2, h3, h4, g1, g2, g3, g4, g5, g6]
def isCode : Jvm.Cond → Bool
  | .code _ _ _ _ => true
  | _ => false
theorem all_split {L : List Jvm.Cond} {P : Jvm.Cond → Bool} (h1 : L.all (fun c => isCode c || P c) = true) (h2 : ∀ c ∈ L.filter isCode, P c = true) : L.all P = true := by
  refine List.all_eq_true.mpr fun c hc => ?_
  have h := List.all_eq_true.mp h1 c hc
  rcases Bool.eq_false_or_eq_true (isCode c) with hi | hi
  · exact h2 c (List.mem_filter.mpr ⟨hc, hi⟩)
  · simpa [hi] using h
set_option maxRecDepth 65536 in
theorem w_c0 : (Jvm.Cond.code x code maxLocals ret).before args0 about1 = true := code_word (m := ⟨1, 1⟩) (meth := k1m1) (c := k1c1) (by decide +kernel) rfl rfl rfl (by decide +kernel)
set_option maxRecDepth 65536 in
theorem w_c1 : (Jvm.Cond.code ({ cls := "com/example/cuarteto/cuarteto/pascal/IntegerType", name := "minimum", desc := "()J" } : Jvm.MethodName) prog_15_method_7_code (1 : Nat) (Option.some Jvm.ClassFile.FieldType.long)).before args0 about1 = true := code_word (m := ⟨6, 0⟩) (meth := k6m0) (c := k6c0) (by decide +kernel) rfl rfl rfl (by decide +kernel)
def codes1 : List Jvm.Cond := [Jvm.Cond.code x code maxLocals ret, Jvm.Cond.code ({ cls := "com/example/cuarteto/cuarteto/pascal/IntegerType", name := "minimum", desc := "()J" } : Jvm.MethodName) prog_15_method_7_code (1 : Nat) (Option.some Jvm.ClassFile.FieldType.long)]
set_option maxRecDepth 65536 in
theorem codes_eq : words1.filter isCode = codes1 := rfl
theorem w_codes : ∀ c ∈ words1.filter isCode, c.before args0 about1 = true := by
  rw [codes_eq]
  intro c hc
  simp only [codes1, List.mem_cons, List.not_mem_nil, or_false] at hc
  rcases hc with rfl | rfl
  · exact w_c0
  · exact w_c1
set_option maxRecDepth 65536 in
theorem w_t1 : (words1.take 24).all (fun c => isCode c || c.before args0 about1) = true := by decide +kernel
set_option maxRecDepth 65536 in
theorem w_t2 : (words1.drop 24).all (fun c => isCode c || c.before args0 about1) = true := by decide +kernel
theorem w_tables : (allAtoms (Jvm.Cond.code x code maxLocals ret :: tables_1)).before args0 about1 = true := by
  rw [allAtoms_all]
  show words1.all (fun c => c.before args0 about1) = true
  refine all_split ?_ w_codes
  rw [← List.take_append_drop 24 words1, List.all_append, w_t1, w_t2]
  rfl
set_option maxRecDepth 65536 in
theorem w_case : (Jvm.Cond.and given_1 narrow_1).before args0 about1 = true := by decide +kernel
theorem w_applies : (headSpec (Jvm.Cond.code x code maxLocals ret :: tables_1) room_1).applies x e0.platform about1 = true :=
  (Spec.applies_iff w_frames).mpr ⟨w_running, w_runnable, w_alone, w_named, w_hears, w_ripe, w_room, w_tables⟩
theorem atStart : AtStart classFile x code maxLocals ret World_1 tables_1 room_1 Calls_1 rest_1 Pre_1 launch0 p0 e0 about1 theMethod args0 below0 :=
  ⟨lists_1, trivial, launch0.admits_env _ _ _, launch0.least_env, fairChoices_fair.cas, fairChoices_fair.clock, w_frames, w_args, w_heap, w_applies, trivial, trivial, w_case⟩
end start1
theorem witness_1 : WitnessClaimed_1 := ⟨start1.p0, start1.e0, start1.about1, start1.theMethod, start1.args0, start1.below0, start1.atStart⟩
end Jvm.Pilot.@@N@@
