import JvmDerived
import JvmDerived.Pilot.@@N@@Statement
import JvmDerived.Pilot.@@N@@Code
set_option linter.unusedVariables false
set_option linter.unusedSimpArgs false
namespace Jvm.Pilot.@@N@@
open Jvm Jvm.ClassFile Sem Op Lib Jvm.Free Jvm.Stand Jvm.LawKit Jvm.RoadKit Bundle Jvm.Pilot.@@N@@.Jvm.D
section OwnKit
variable {p : Program} {l : Launch} {e : Env} {R : Room} {s : State} {m : MethodId} {args : Array Value} {below : List Frame} {meth : Method} {c : Code} {T : State} {locs : List Loc} {cells slots : Nat} {rc rs : Nat} {Q : Option Value → Heap → List Loc → Prop}
/-- from A the run comes to its end by a return, and Q tells of the value, the heap and the places written -/
def own_Goes (p : Program) (e : Env) (s : State) (below : List Frame) (rc rs : Nat) (Q : Option Value → Heap → List Loc → Prop) (A : State) : Prop :=
  ∃ s₂ o, Steps p.tables e below A s₂ ∧ s₂.status = .running ∧ Ended s₂ below o ∧ ∃ v L, o = .returned v ∧ Q v s₂.heap L ∧ FrameEnd s o s₂ L rc rs
theorem own_via {A B : State} (k : ∀ t, Steps p.tables e below B t → Steps p.tables e below A t) (h : own_Goes p e s below rc rs Q B) : own_Goes p e s below rc rs Q A := by
  obtain ⟨s₂, o, h1, h2⟩ := h
  exact ⟨s₂, o, k _ h1, h2⟩
theorem own_on {A B : State} (k : Steps p.tables e below A B) (h : own_Goes p e s below rc rs Q B) : own_Goes p e s below rc rs Q A := own_via (fun _ q => k.trans q) h
theorem own_leave (X : Stand p l e R s m args below meth c T locs cells slots) {v : Option Value} {A : State} (hv : meth.sig.returnType = none → v = none) (hlk : meth.locks = false) (hc : cells ≤ rc) (hs : slots ≤ rs) (hQ : Q v T.heap locs)
    (st : ∀ fs, (∀ (f : JFrame) (acts : List Action), f.method = m → f.locked = none → f.entered = [] → (doReturn e (T.setTop f) acts v).1 = T.setFrames fs) → Steps p.tables e below A (T.setFrames fs)) : own_Goes p e s below rc rs Q A := by
  obtain ⟨fs, hr, hrun, hended, hW, hsame⟩ := X.leave (v := v) hv hlk
  exact ⟨_, _, st fs hr, hrun, hended, _, _, rfl, hQ, ⟨_, rfl⟩, hW, hsame.mono hc hs⟩
theorem own_retN (X : Stand p l e R s m args below meth c T locs cells slots) (hx : p.tables.exec = Jvm.exec) {pc : Nat} {Ls : Array Slot} {z : Int32} {t : FieldType} {rest : List Value} (hret : meth.sig.returnType = some t) (ht : t = .boolean ∨ t = .byte ∨ t = .char ∨ t = .short) (hlk : meth.locks = false)
    (hd : decode c.code pc = .ok (.ireturn, 1)) (hc : cells ≤ rc) (hs : slots ≤ rs) (hQ : Q (some (.int (nar t z))) T.heap locs) : own_Goes p e s below rc rs Q (T.setTop (mkF m pc Ls (.int z :: rest))) :=
  own_leave X (fun h => by rw [hret] at h; cases h) hlk hc hs hQ fun fs hr => retN X hx hret ht hd hr
theorem own_retI (X : Stand p l e R s m args below meth c T locs cells slots) (hx : p.tables.exec = Jvm.exec) {pc : Nat} {Ls : Array Slot} {z : Int32} {rest : List Value} (hret : meth.sig.returnType = some .int) (hlk : meth.locks = false)
    (hd : decode c.code pc = .ok (.ireturn, 1)) (hc : cells ≤ rc) (hs : slots ≤ rs) (hQ : Q (some (.int z)) T.heap locs) : own_Goes p e s below rc rs Q (T.setTop (mkF m pc Ls (.int z :: rest))) :=
  own_leave X (fun h => by rw [hret] at h; cases h) hlk hc hs hQ fun fs hr => retOut X hx hret rfl (Or.inl ⟨rfl, Or.inl rfl, z, rfl⟩) hd hr
theorem own_retJ (X : Stand p l e R s m args below meth c T locs cells slots) (hx : p.tables.exec = Jvm.exec) {pc : Nat} {Ls : Array Slot} {z : Int64} {rest : List Value} (hret : meth.sig.returnType = some .long) (hlk : meth.locks = false)
    (hd : decode c.code pc = .ok (.lreturn, 1)) (hc : cells ≤ rc) (hs : slots ≤ rs) (hQ : Q (some (.long z)) T.heap locs) : own_Goes p e s below rc rs Q (T.setTop (mkF m pc Ls (.long z :: rest))) :=
  own_leave X (fun h => by rw [hret] at h; cases h) hlk hc hs hQ fun fs hr => retOut X hx hret rfl (Or.inr (Or.inl ⟨rfl, rfl, z, rfl⟩)) hd hr
theorem own_retA (X : Stand p l e R s m args below meth c T locs cells slots) (hx : p.tables.exec = Jvm.exec) {pc : Nat} {Ls : Array Slot} {w : Value} {t : FieldType} {rest : List Value} (hret : meth.sig.returnType = some t) (ht : t.isReference = true) (hw : w.isRef = true) (hlk : meth.locks = false)
    (hd : decode c.code pc = .ok (.areturn, 1)) (hc : cells ≤ rc) (hs : slots ≤ rs) (hQ : Q (some w) T.heap locs) : own_Goes p e s below rc rs Q (T.setTop (mkF m pc Ls (w :: rest))) :=
  own_leave X (fun h => by rw [hret] at h; cases h) hlk hc hs hQ fun fs hr => retOut X hx hret (by rcases ref_cases hw with rfl | ⟨z, rfl⟩ <;> cases t <;> first | rfl | exact absurd ht (by decide)) (Or.inr (Or.inr (Or.inr (Or.inr ⟨rfl, ht, hw⟩)))) hd hr
theorem own_ret0 (X : Stand p l e R s m args below meth c T locs cells slots) (hx : p.tables.exec = Jvm.exec) {pc : Nat} {Ls : Array Slot} (hret : meth.sig.returnType = none) (hlk : meth.locks = false)
    (hd : decode c.code pc = .ok (.return_, 1)) (hc : cells ≤ rc) (hs : slots ≤ rs) (hQ : Q none T.heap locs) : own_Goes p e s below rc rs Q (T.setTop (mkF m pc Ls [])) :=
  own_leave X (fun _ => rfl) hlk hc hs hQ fun fs hr => X.returnOut hx hret hd hr
/-- what a walk through one body knows of it -/
def own_Ctx (Z : State) (p : Program) (s : State) (m : MethodId) (meth : Method) (c : Code) (bytes : ByteArray) (maxl : Nat) (own : String) (ret : Option FieldType) (nm : String) : Prop :=
  p.tables.exec = Jvm.exec ∧ Z.Warmed39 s.vm ∧ c.code = bytes ∧ c.maxLocals = maxl ∧ s.vm.findClass own = some m.cls ∧ meth.sig.returnType = ret ∧ meth.locks = false ∧ meth.name = nm
/-- the contract of one body: from the arguments as' and the heap h0 it returns, and Q tells what it leaves -/
abbrev own_Met (l : Launch) (Z : State) (y : MethodName) (bytes : ByteArray) (maxl : Nat) (ret : Option FieldType) (ws : List Jvm.Cond) (rm : Room) (as' : Array Value) (h0 : Heap) (Q : Option Value → Heap → List Loc → Prop) : Prop :=
  MetFree l y (head1 (Jvm.Cond.code y bytes maxl ret :: ws) rm) (fun a U => a = as' ∧ Z.Warmed39 U.vm ∧ U.heap = h0) (fun _ _ _ _ _ => True) (fun _ U o U' => ∃ v L, o = .returned v ∧ Q v U'.heap L ∧ FrameEnd U o U' L rm.cells rm.slots)
theorem own_met {Z : State} {y : MethodName} {bytes : ByteArray} {maxl : Nat} {ret : Option FieldType} {ws : List Jvm.Cond} {rm : Room} {as' : Array Value} {h0 : Heap} (hp : plainFor y = true)
    (body : ∀ (p : Program) (e : Env) (s : State) (m : MethodId) (below : List Frame) (meth : Method) (c : Code) (s₁ : State), own_Ctx Z p s m meth c bytes maxl y.cls ret y.name → Stand p l e rm s m as' below meth c s₁ [] 0 0 → s₁.heap = h0 → own_Goes p e s below rm.cells rm.slots Q (s₁.setTop (entryFrame m as' maxl))) :
    own_Met l Z y bytes maxl ret ws rm as' h0 Q := by
  refine MetFree.of_bodySF hp hisR ?_
  intro p e s m args below meth c s₁ Bd hml0 hP hK
  obtain ⟨rfl, hZ, hh⟩ := hP
  have X0 : Stand p l e rm s m args below meth c s₁ [] 0 0 := Stand.of_body Bd
  exact body p e s m below meth c s₁ ⟨Bd.exec, hZ, Bd.bytes, hml0, findClass_of_methodNamed Bd.named, Bd.returns, Bd.notSynchronized, (name_of_methodNamed Bd.named Bd.method).1⟩ X0 (by rw [← hh, Bd.state]; rfl)
/-- a body that writes nothing and returns w -/
def own_Pure (w : Value) (h0 : Heap) (n0 : Nat) (v : Option Value) (h : Heap) (L : List Loc) : Prop := v = some w ∧ Fr n0 L ∧ h = h0
/-- the law returns 1 and wrote nothing old -/
def own_One (n0 : Nat) (v : Option Value) (h : Heap) (L : List Loc) : Prop := v = some (.int 1) ∧ Fr n0 L
theorem own_narT : nar .boolean (1 : Int32) = 1 := rfl
theorem own_narF : nar .boolean (0 : Int32) = 0 := rfl
theorem own_eqi {t : Term} {k : Int32} {a : Array Value} {s : State} (h : (Cond.eq t (.int k)).value a s none s [] = some true) : t.eval a s none [] s = some (.int k) := by
  simp only [Cond.value, Term.eval] at h
  cases ht : t.eval a s none [] s with
  | none => simp [ht] at h
  | some x => cases x <;> simp [ht] at h ⊢; exact h
end OwnKit
theorem own_tri (x : Int32) : (0 < x ∧ ¬ x < 0) ∨ (¬ 0 < x ∧ x < 0) ∨ (¬ 0 < x ∧ ¬ x < 0) := by
  have e : (0 : Int32).toInt = 0 := rfl
  simp only [Int32.lt_iff_toInt_lt, e]
  omega
theorem pd___I : parseMethodDescriptor "()I" = some ⟨[], some .int⟩ := by decide +kernel
theorem pd__I_Z : parseMethodDescriptor "(I)Z" = some ⟨[.int], some .boolean⟩ := by decide +kernel
theorem d2_0 : decode jdk_37_method_2_code 0 = .ok (.aload_n 0, 1) := by decide +kernel
theorem d2_1 : decode jdk_37_method_2_code 1 = .ok (.getfield 7, 3) := by decide +kernel
theorem d2_4 : decode jdk_37_method_2_code 4 = .ok (.ireturn, 1) := by decide +kernel
theorem pn_2 : plainName "java/lang/Enum" = true := by first | (simp [plainName, overriddenIn]; done) | decide +kernel
theorem ef_2 (m : MethodId) (a1 : Addr) : entryFrame m #[(.ref a1)] 1 = mkF m 0 #[.val (.ref a1)] [] := by first | (simp [entryFrame, mkF, argsToLocals, Value.category]; done) | rfl
set_option maxRecDepth 65536 in
set_option maxHeartbeats 40000000 in
theorem rm2 (l : Launch) (Z : State) (a0 : Array Value) (hw : ∀ d ∈ tables_1, d.before a0 Z = true) (ws : List Jvm.Cond) (a1 : Addr) (o : Int32) (h0 : Heap) (n0 : Nat) (F : Fld Z h0 a1 "java/lang/Enum" "ordinal" "I" (.int o)) :
    own_Met l Z (⟨"java/lang/Enum", "ordinal", "()I"⟩ : MethodName) jdk_37_method_2_code 1 (some .int) ws ({ frames := 0, cells := 0, slots := 0, locals := 0 } : Room) #[(.ref a1)] h0 (own_Pure (.int o) h0 n0) := by
  refine own_met (plainFor_of_name pn_2) ?_
  intro p e s m below meth c s₁ C X0 e0
  obtain ⟨hx, hZ, hby, hml, hown, hret, hlk, hnm⟩ := C
  rw [ef_2]
  show own_Goes p e s below _ _ _ (s₁.setTop (mkF m 0 #[.val (.ref a1)] []))
  refine own_via (fun _ q => XS.aloadN X0.here hx rfl (hb hby d2_0) rfl rfl q) ?_
  show own_Goes p e s below _ _ _ (s₁.setTop (mkF m 1 #[.val (.ref a1)] [(.ref a1)]))
  obtain ⟨T1, X1, e1, st1⟩ := getF X0 hx hZ hown (host := "") (Or.inl (hw _ (List.mem_of_getElem? (i := 15) rfl))) Via.refl e0 F (g := (mkF m 1 #[.val (.ref a1)] [(.ref a1)])) rfl rfl (hb hby d2_1)
  refine own_via st1 ?_
  show own_Goes p e s below _ _ _ (T1.setTop (mkF m 4 #[.val (.ref a1)] [(.int o)]))
  exact own_retI X1 hx hret hlk (hb hby d2_4) (by decide) (by decide) ⟨rfl, (Fr.nil n0), e1⟩
theorem d1_0 : decode prog_34_method_4_code 0 = .ok (.aload_n 0, 1) := by decide +kernel
theorem d1_1 : decode prog_34_method_4_code 1 = .ok (.invokevirtual 35, 3) := by decide +kernel
theorem d1_4 : decode prog_34_method_4_code 4 = .ok (.tableswitch 32 0 3 #[42, 54, 66, 78], 32) := by decide +kernel
theorem d1_46 : decode prog_34_method_4_code 46 = .ok (.iload_n 1, 1) := by decide +kernel
theorem d1_47 : decode prog_34_method_4_code 47 = .ok (.ifCond .ge 7, 3) := by decide +kernel
theorem d1_50 : decode prog_34_method_4_code 50 = .ok (.iconst 1, 1) := by decide +kernel
theorem d1_51 : decode prog_34_method_4_code 51 = .ok (.goto 40, 3) := by decide +kernel
theorem d1_54 : decode prog_34_method_4_code 54 = .ok (.iconst 0, 1) := by decide +kernel
theorem d1_55 : decode prog_34_method_4_code 55 = .ok (.goto 36, 3) := by decide +kernel
theorem d1_91 : decode prog_34_method_4_code 91 = .ok (.ireturn, 1) := by decide +kernel
theorem pn_1 : plainName "com/example/uppslag/uppslag/query/Condition$Comparison$Operator" = true := by first | (simp [plainName, overriddenIn]; done) | decide +kernel
theorem ef_1 (m : MethodId) (a1 : Addr) (p2 : Int32) : entryFrame m #[(.ref a1), (.int p2)] 2 = mkF m 0 #[.val (.ref a1), .val (.int p2)] [] := by first | (simp [entryFrame, mkF, argsToLocals, Value.category]; done) | rfl
set_option maxRecDepth 65536 in
set_option maxHeartbeats 40000000 in
theorem rmh0 (l : Launch) (Z : State) (a0 : Array Value) (hw : ∀ d ∈ tables_1, d.before a0 Z = true) (ws : List Jvm.Cond) (a1 : Addr) (p2 : Int32) (r : Int32) (h0 : Heap) (n0 : Nat) (E1 : Exa Z h0 a1 "com/example/uppslag/uppslag/query/Condition$Comparison$Operator") (F : Fld Z h0 a1 "java/lang/Enum" "ordinal" "I" (.int (0 : Int32))) (hr : (if p2 < 0 then (1 : Int32) else 0) = r) :
    own_Met l Z (⟨"com/example/uppslag/uppslag/query/Condition$Comparison$Operator", "holds", "(I)Z"⟩ : MethodName) prog_34_method_4_code 2 (some .boolean) ws ({ frames := 1, cells := 0, slots := 0, locals := 12 } : Room) #[(.ref a1), (.int p2)] h0 (own_Pure (.int r) h0 n0) := by
  refine own_met (plainFor_of_name pn_1) ?_
  intro p e s m below meth c s₁ C X0 e0
  obtain ⟨hx, hZ, hby, hml, hown, hret, hlk, hnm⟩ := C
  rw [ef_1]
  show own_Goes p e s below _ _ _ (s₁.setTop (mkF m 0 #[.val (.ref a1), .val (.int p2)] []))
  refine own_via (fun _ q => XS.aloadN X0.here hx rfl (hb hby d1_0) rfl rfl q) ?_
  show own_Goes p e s below _ _ _ (s₁.setTop (mkF m 1 #[.val (.ref a1), .val (.int p2)] [(.ref a1)]))
  obtain ⟨cq1, kq1, q1a, q1b, q1c⟩ := isOf hZ e0 E1
  obtain ⟨_, _, ⟨T1, L1, k1, n1⟩, -, X1, ⟨Lc1, hQ1, l1, y1, z1⟩, st1⟩ := X0.virtualBackUp hx (x := (⟨"com/example/uppslag/uppslag/query/Condition$Comparison$Operator", "ordinal", "()I"⟩ : MethodName)) (y := (⟨"java/lang/Enum", "ordinal", "()I"⟩ : MethodName)) (owner := "java/lang/Enum") hown (mvT hZ (hw _ (List.mem_of_getElem? (i := 8) rfl))) (mvT hZ (hw _ (List.mem_of_getElem? (i := 9) rfl))) (mvT hZ (hw _ (List.mem_of_getElem? (i := 10) rfl))) (by decide) (mvT hZ (hw _ (List.mem_of_getElem? (i := 12) rfl))) (mvT hZ (hw _ (List.mem_of_getElem? (i := 11) rfl))) (backOf (W := 0) (rm2 l Z a0 hw [] a1 (0 : Int32) h0 n0 F) hZ (hw _ (List.mem_of_getElem? (i := 14) rfl)) (hw _ (List.mem_of_getElem? (i := 13) rfl)) (by decide) (by decide)) q1a q1c (g := (mkF m 1 #[.val (.ref a1), .val (.int p2)] [(.ref a1)])) rfl (by rw [hml]; rfl) (Steps.refl _) (argsL := []) (rest := []) (lenOf pd___I rfl) rfl (by show 2 * 0 + _ ≤ _; exact Nat.le_of_eq rfl) (hb hby d1_1) (fun _ _ => ⟨rfl, e0, (by decide : 0 + 0 ≤ _), (by decide : 0 + 0 ≤ _)⟩)
  dsimp only [Pt.U, Pt.locs, Pt.cells, Pt.slots] at X1 l1 y1 z1 st1 hQ1
  subst l1 y1 z1
  obtain ⟨rfl, N1q, e1⟩ := hQ1
  have N1 := Fr.app (Fr.nil n0) N1q
  refine own_on st1 ?_
  show own_Goes p e s below _ _ _ (T1.setTop (mkF m 4 #[.val (.ref a1), .val (.int p2)] [(.int (0 : Int32))]))
  refine own_via (fun _ q => XS.tswIn X1.here hx rfl (o := 42) (pc0 := 4) (pc' := 46) rfl (hb hby d1_4) rfl (by decide) (by decide) (by decide) (by decide) q) ?_
  show own_Goes p e s below _ _ _ (T1.setTop (mkF m 46 #[.val (.ref a1), .val (.int p2)] []))
  refine own_via (fun _ q => XS.iloadN X1.here hx rfl (hb hby d1_46) rfl q) ?_
  show own_Goes p e s below _ _ _ (T1.setTop (mkF m 47 #[.val (.ref a1), .val (.int p2)] [(.int p2)]))
  by_cases hk47_2 : p2 < (0 : Int32)
  · refine own_via (fun _ q => XS.ifNo X1.here hx rfl (hb hby d1_47) rfl (XT.i0_ge_f hk47_2) q) ?_
    show own_Goes p e s below _ _ _ (T1.setTop (mkF m 50 #[.val (.ref a1), .val (.int p2)] []))
    refine own_via (fun _ q => XT.iconstV X1.here hx rfl (1 : Int32) (hb hby d1_50) rfl q) ?_
    show own_Goes p e s below _ _ _ (T1.setTop (mkF m 51 #[.val (.ref a1), .val (.int p2)] [(.int (1 : Int32))]))
    refine own_via (fun _ q => XS.goto X1.here hx rfl (pc0 := 51) (pc' := 91) rfl (hb hby d1_51) (by decide) (by decide) q) ?_
    show own_Goes p e s below _ _ _ (T1.setTop (mkF m 91 #[.val (.ref a1), .val (.int p2)] [(.int (1 : Int32))]))
    exact own_retN X1 hx (t := .boolean) hret (by simp) hlk (hb hby d1_91) (by decide) (by decide) ⟨by subst hr; simp [hk47_2, own_narT, own_narF], N1, e1⟩
  · refine own_via (fun _ q => XS.ifYes X1.here hx rfl (pc0 := 47) (pc' := 54) rfl (hb hby d1_47) rfl (XT.i0_ge_t hk47_2) (by decide) (by decide) q) ?_
    show own_Goes p e s below _ _ _ (T1.setTop (mkF m 54 #[.val (.ref a1), .val (.int p2)] []))
    refine own_via (fun _ q => XT.iconstV X1.here hx rfl (0 : Int32) (hb hby d1_54) rfl q) ?_
    show own_Goes p e s below _ _ _ (T1.setTop (mkF m 55 #[.val (.ref a1), .val (.int p2)] [(.int (0 : Int32))]))
    refine own_via (fun _ q => XS.goto X1.here hx rfl (pc0 := 55) (pc' := 91) rfl (hb hby d1_55) (by decide) (by decide) q) ?_
    show own_Goes p e s below _ _ _ (T1.setTop (mkF m 91 #[.val (.ref a1), .val (.int p2)] [(.int (0 : Int32))]))
    exact own_retN X1 hx (t := .boolean) hret (by simp) hlk (hb hby d1_91) (by decide) (by decide) ⟨by subst hr; simp [hk47_2, own_narT, own_narF], N1, e1⟩
theorem d1_58 : decode prog_34_method_4_code 58 = .ok (.iload_n 1, 1) := by decide +kernel
theorem d1_59 : decode prog_34_method_4_code 59 = .ok (.ifCond .gt 7, 3) := by decide +kernel
theorem d1_62 : decode prog_34_method_4_code 62 = .ok (.iconst 1, 1) := by decide +kernel
theorem d1_63 : decode prog_34_method_4_code 63 = .ok (.goto 28, 3) := by decide +kernel
theorem d1_66 : decode prog_34_method_4_code 66 = .ok (.iconst 0, 1) := by decide +kernel
theorem d1_67 : decode prog_34_method_4_code 67 = .ok (.goto 24, 3) := by decide +kernel
set_option maxRecDepth 65536 in
set_option maxHeartbeats 40000000 in
theorem rmh1 (l : Launch) (Z : State) (a0 : Array Value) (hw : ∀ d ∈ tables_1, d.before a0 Z = true) (ws : List Jvm.Cond) (a1 : Addr) (p2 : Int32) (r : Int32) (h0 : Heap) (n0 : Nat) (E1 : Exa Z h0 a1 "com/example/uppslag/uppslag/query/Condition$Comparison$Operator") (F : Fld Z h0 a1 "java/lang/Enum" "ordinal" "I" (.int (1 : Int32))) (hr : (if 0 < p2 then (0 : Int32) else 1) = r) :
    own_Met l Z (⟨"com/example/uppslag/uppslag/query/Condition$Comparison$Operator", "holds", "(I)Z"⟩ : MethodName) prog_34_method_4_code 2 (some .boolean) ws ({ frames := 1, cells := 0, slots := 0, locals := 12 } : Room) #[(.ref a1), (.int p2)] h0 (own_Pure (.int r) h0 n0) := by
  refine own_met (plainFor_of_name pn_1) ?_
  intro p e s m below meth c s₁ C X0 e0
  obtain ⟨hx, hZ, hby, hml, hown, hret, hlk, hnm⟩ := C
  rw [ef_1]
  show own_Goes p e s below _ _ _ (s₁.setTop (mkF m 0 #[.val (.ref a1), .val (.int p2)] []))
  refine own_via (fun _ q => XS.aloadN X0.here hx rfl (hb hby d1_0) rfl rfl q) ?_
  show own_Goes p e s below _ _ _ (s₁.setTop (mkF m 1 #[.val (.ref a1), .val (.int p2)] [(.ref a1)]))
  obtain ⟨cq1, kq1, q1a, q1b, q1c⟩ := isOf hZ e0 E1
  obtain ⟨_, _, ⟨T1, L1, k1, n1⟩, -, X1, ⟨Lc1, hQ1, l1, y1, z1⟩, st1⟩ := X0.virtualBackUp hx (x := (⟨"com/example/uppslag/uppslag/query/Condition$Comparison$Operator", "ordinal", "()I"⟩ : MethodName)) (y := (⟨"java/lang/Enum", "ordinal", "()I"⟩ : MethodName)) (owner := "java/lang/Enum") hown (mvT hZ (hw _ (List.mem_of_getElem? (i := 8) rfl))) (mvT hZ (hw _ (List.mem_of_getElem? (i := 9) rfl))) (mvT hZ (hw _ (List.mem_of_getElem? (i := 10) rfl))) (by decide) (mvT hZ (hw _ (List.mem_of_getElem? (i := 12) rfl))) (mvT hZ (hw _ (List.mem_of_getElem? (i := 11) rfl))) (backOf (W := 0) (rm2 l Z a0 hw [] a1 (1 : Int32) h0 n0 F) hZ (hw _ (List.mem_of_getElem? (i := 14) rfl)) (hw _ (List.mem_of_getElem? (i := 13) rfl)) (by decide) (by decide)) q1a q1c (g := (mkF m 1 #[.val (.ref a1), .val (.int p2)] [(.ref a1)])) rfl (by rw [hml]; rfl) (Steps.refl _) (argsL := []) (rest := []) (lenOf pd___I rfl) rfl (by show 2 * 0 + _ ≤ _; exact Nat.le_of_eq rfl) (hb hby d1_1) (fun _ _ => ⟨rfl, e0, (by decide : 0 + 0 ≤ _), (by decide : 0 + 0 ≤ _)⟩)
  dsimp only [Pt.U, Pt.locs, Pt.cells, Pt.slots] at X1 l1 y1 z1 st1 hQ1
  subst l1 y1 z1
  obtain ⟨rfl, N1q, e1⟩ := hQ1
  have N1 := Fr.app (Fr.nil n0) N1q
  refine own_on st1 ?_
  show own_Goes p e s below _ _ _ (T1.setTop (mkF m 4 #[.val (.ref a1), .val (.int p2)] [(.int (1 : Int32))]))
  refine own_via (fun _ q => XS.tswIn X1.here hx rfl (o := 54) (pc0 := 4) (pc' := 58) rfl (hb hby d1_4) rfl (by decide) (by decide) (by decide) (by decide) q) ?_
  show own_Goes p e s below _ _ _ (T1.setTop (mkF m 58 #[.val (.ref a1), .val (.int p2)] []))
  refine own_via (fun _ q => XS.iloadN X1.here hx rfl (hb hby d1_58) rfl q) ?_
  show own_Goes p e s below _ _ _ (T1.setTop (mkF m 59 #[.val (.ref a1), .val (.int p2)] [(.int p2)]))
  by_cases hk59_2 : (0 : Int32) < p2
  · refine own_via (fun _ q => XS.ifYes X1.here hx rfl (pc0 := 59) (pc' := 66) rfl (hb hby d1_59) rfl (XT.i0_gt_t hk59_2) (by decide) (by decide) q) ?_
    show own_Goes p e s below _ _ _ (T1.setTop (mkF m 66 #[.val (.ref a1), .val (.int p2)] []))
    refine own_via (fun _ q => XT.iconstV X1.here hx rfl (0 : Int32) (hb hby d1_66) rfl q) ?_
    show own_Goes p e s below _ _ _ (T1.setTop (mkF m 67 #[.val (.ref a1), .val (.int p2)] [(.int (0 : Int32))]))
    refine own_via (fun _ q => XS.goto X1.here hx rfl (pc0 := 67) (pc' := 91) rfl (hb hby d1_67) (by decide) (by decide) q) ?_
    show own_Goes p e s below _ _ _ (T1.setTop (mkF m 91 #[.val (.ref a1), .val (.int p2)] [(.int (0 : Int32))]))
    exact own_retN X1 hx (t := .boolean) hret (by simp) hlk (hb hby d1_91) (by decide) (by decide) ⟨by subst hr; simp [hk59_2, own_narT, own_narF], N1, e1⟩
  · refine own_via (fun _ q => XS.ifNo X1.here hx rfl (hb hby d1_59) rfl (XT.i0_gt_f hk59_2) q) ?_
    show own_Goes p e s below _ _ _ (T1.setTop (mkF m 62 #[.val (.ref a1), .val (.int p2)] []))
    refine own_via (fun _ q => XT.iconstV X1.here hx rfl (1 : Int32) (hb hby d1_62) rfl q) ?_
    show own_Goes p e s below _ _ _ (T1.setTop (mkF m 63 #[.val (.ref a1), .val (.int p2)] [(.int (1 : Int32))]))
    refine own_via (fun _ q => XS.goto X1.here hx rfl (pc0 := 63) (pc' := 91) rfl (hb hby d1_63) (by decide) (by decide) q) ?_
    show own_Goes p e s below _ _ _ (T1.setTop (mkF m 91 #[.val (.ref a1), .val (.int p2)] [(.int (1 : Int32))]))
    exact own_retN X1 hx (t := .boolean) hret (by simp) hlk (hb hby d1_91) (by decide) (by decide) ⟨by subst hr; simp [hk59_2, own_narT, own_narF], N1, e1⟩
theorem d1_70 : decode prog_34_method_4_code 70 = .ok (.iload_n 1, 1) := by decide +kernel
theorem d1_71 : decode prog_34_method_4_code 71 = .ok (.ifCond .le 7, 3) := by decide +kernel
theorem d1_74 : decode prog_34_method_4_code 74 = .ok (.iconst 1, 1) := by decide +kernel
theorem d1_75 : decode prog_34_method_4_code 75 = .ok (.goto 16, 3) := by decide +kernel
theorem d1_78 : decode prog_34_method_4_code 78 = .ok (.iconst 0, 1) := by decide +kernel
theorem d1_79 : decode prog_34_method_4_code 79 = .ok (.goto 12, 3) := by decide +kernel
set_option maxRecDepth 65536 in
set_option maxHeartbeats 40000000 in
theorem rmh2 (l : Launch) (Z : State) (a0 : Array Value) (hw : ∀ d ∈ tables_1, d.before a0 Z = true) (ws : List Jvm.Cond) (a1 : Addr) (p2 : Int32) (r : Int32) (h0 : Heap) (n0 : Nat) (E1 : Exa Z h0 a1 "com/example/uppslag/uppslag/query/Condition$Comparison$Operator") (F : Fld Z h0 a1 "java/lang/Enum" "ordinal" "I" (.int (2 : Int32))) (hr : (if 0 < p2 then (1 : Int32) else 0) = r) :
    own_Met l Z (⟨"com/example/uppslag/uppslag/query/Condition$Comparison$Operator", "holds", "(I)Z"⟩ : MethodName) prog_34_method_4_code 2 (some .boolean) ws ({ frames := 1, cells := 0, slots := 0, locals := 12 } : Room) #[(.ref a1), (.int p2)] h0 (own_Pure (.int r) h0 n0) := by
  refine own_met (plainFor_of_name pn_1) ?_
  intro p e s m below meth c s₁ C X0 e0
  obtain ⟨hx, hZ, hby, hml, hown, hret, hlk, hnm⟩ := C
  rw [ef_1]
  show own_Goes p e s below _ _ _ (s₁.setTop (mkF m 0 #[.val (.ref a1), .val (.int p2)] []))
  refine own_via (fun _ q => XS.aloadN X0.here hx rfl (hb hby d1_0) rfl rfl q) ?_
  show own_Goes p e s below _ _ _ (s₁.setTop (mkF m 1 #[.val (.ref a1), .val (.int p2)] [(.ref a1)]))
  obtain ⟨cq1, kq1, q1a, q1b, q1c⟩ := isOf hZ e0 E1
  obtain ⟨_, _, ⟨T1, L1, k1, n1⟩, -, X1, ⟨Lc1, hQ1, l1, y1, z1⟩, st1⟩ := X0.virtualBackUp hx (x := (⟨"com/example/uppslag/uppslag/query/Condition$Comparison$Operator", "ordinal", "()I"⟩ : MethodName)) (y := (⟨"java/lang/Enum", "ordinal", "()I"⟩ : MethodName)) (owner := "java/lang/Enum") hown (mvT hZ (hw _ (List.mem_of_getElem? (i := 8) rfl))) (mvT hZ (hw _ (List.mem_of_getElem? (i := 9) rfl))) (mvT hZ (hw _ (List.mem_of_getElem? (i := 10) rfl))) (by decide) (mvT hZ (hw _ (List.mem_of_getElem? (i := 12) rfl))) (mvT hZ (hw _ (List.mem_of_getElem? (i := 11) rfl))) (backOf (W := 0) (rm2 l Z a0 hw [] a1 (2 : Int32) h0 n0 F) hZ (hw _ (List.mem_of_getElem? (i := 14) rfl)) (hw _ (List.mem_of_getElem? (i := 13) rfl)) (by decide) (by decide)) q1a q1c (g := (mkF m 1 #[.val (.ref a1), .val (.int p2)] [(.ref a1)])) rfl (by rw [hml]; rfl) (Steps.refl _) (argsL := []) (rest := []) (lenOf pd___I rfl) rfl (by show 2 * 0 + _ ≤ _; exact Nat.le_of_eq rfl) (hb hby d1_1) (fun _ _ => ⟨rfl, e0, (by decide : 0 + 0 ≤ _), (by decide : 0 + 0 ≤ _)⟩)
  dsimp only [Pt.U, Pt.locs, Pt.cells, Pt.slots] at X1 l1 y1 z1 st1 hQ1
  subst l1 y1 z1
  obtain ⟨rfl, N1q, e1⟩ := hQ1
  have N1 := Fr.app (Fr.nil n0) N1q
  refine own_on st1 ?_
  show own_Goes p e s below _ _ _ (T1.setTop (mkF m 4 #[.val (.ref a1), .val (.int p2)] [(.int (2 : Int32))]))
  refine own_via (fun _ q => XS.tswIn X1.here hx rfl (o := 66) (pc0 := 4) (pc' := 70) rfl (hb hby d1_4) rfl (by decide) (by decide) (by decide) (by decide) q) ?_
  show own_Goes p e s below _ _ _ (T1.setTop (mkF m 70 #[.val (.ref a1), .val (.int p2)] []))
  refine own_via (fun _ q => XS.iloadN X1.here hx rfl (hb hby d1_70) rfl q) ?_
  show own_Goes p e s below _ _ _ (T1.setTop (mkF m 71 #[.val (.ref a1), .val (.int p2)] [(.int p2)]))
  by_cases hk71_2 : (0 : Int32) < p2
  · refine own_via (fun _ q => XS.ifNo X1.here hx rfl (hb hby d1_71) rfl (XT.i0_le_f hk71_2) q) ?_
    show own_Goes p e s below _ _ _ (T1.setTop (mkF m 74 #[.val (.ref a1), .val (.int p2)] []))
    refine own_via (fun _ q => XT.iconstV X1.here hx rfl (1 : Int32) (hb hby d1_74) rfl q) ?_
    show own_Goes p e s below _ _ _ (T1.setTop (mkF m 75 #[.val (.ref a1), .val (.int p2)] [(.int (1 : Int32))]))
    refine own_via (fun _ q => XS.goto X1.here hx rfl (pc0 := 75) (pc' := 91) rfl (hb hby d1_75) (by decide) (by decide) q) ?_
    show own_Goes p e s below _ _ _ (T1.setTop (mkF m 91 #[.val (.ref a1), .val (.int p2)] [(.int (1 : Int32))]))
    exact own_retN X1 hx (t := .boolean) hret (by simp) hlk (hb hby d1_91) (by decide) (by decide) ⟨by subst hr; simp [hk71_2, own_narT, own_narF], N1, e1⟩
  · refine own_via (fun _ q => XS.ifYes X1.here hx rfl (pc0 := 71) (pc' := 78) rfl (hb hby d1_71) rfl (XT.i0_le_t hk71_2) (by decide) (by decide) q) ?_
    show own_Goes p e s below _ _ _ (T1.setTop (mkF m 78 #[.val (.ref a1), .val (.int p2)] []))
    refine own_via (fun _ q => XT.iconstV X1.here hx rfl (0 : Int32) (hb hby d1_78) rfl q) ?_
    show own_Goes p e s below _ _ _ (T1.setTop (mkF m 79 #[.val (.ref a1), .val (.int p2)] [(.int (0 : Int32))]))
    refine own_via (fun _ q => XS.goto X1.here hx rfl (pc0 := 79) (pc' := 91) rfl (hb hby d1_79) (by decide) (by decide) q) ?_
    show own_Goes p e s below _ _ _ (T1.setTop (mkF m 91 #[.val (.ref a1), .val (.int p2)] [(.int (0 : Int32))]))
    exact own_retN X1 hx (t := .boolean) hret (by simp) hlk (hb hby d1_91) (by decide) (by decide) ⟨by subst hr; simp [hk71_2, own_narT, own_narF], N1, e1⟩
theorem d1_82 : decode prog_34_method_4_code 82 = .ok (.iload_n 1, 1) := by decide +kernel
theorem d1_83 : decode prog_34_method_4_code 83 = .ok (.ifCond .lt 7, 3) := by decide +kernel
theorem d1_86 : decode prog_34_method_4_code 86 = .ok (.iconst 1, 1) := by decide +kernel
theorem d1_87 : decode prog_34_method_4_code 87 = .ok (.goto 4, 3) := by decide +kernel
theorem d1_90 : decode prog_34_method_4_code 90 = .ok (.iconst 0, 1) := by decide +kernel
set_option maxRecDepth 65536 in
set_option maxHeartbeats 40000000 in
theorem rmh3 (l : Launch) (Z : State) (a0 : Array Value) (hw : ∀ d ∈ tables_1, d.before a0 Z = true) (ws : List Jvm.Cond) (a1 : Addr) (p2 : Int32) (r : Int32) (h0 : Heap) (n0 : Nat) (E1 : Exa Z h0 a1 "com/example/uppslag/uppslag/query/Condition$Comparison$Operator") (F : Fld Z h0 a1 "java/lang/Enum" "ordinal" "I" (.int (3 : Int32))) (hr : (if p2 < 0 then (0 : Int32) else 1) = r) :
    own_Met l Z (⟨"com/example/uppslag/uppslag/query/Condition$Comparison$Operator", "holds", "(I)Z"⟩ : MethodName) prog_34_method_4_code 2 (some .boolean) ws ({ frames := 1, cells := 0, slots := 0, locals := 12 } : Room) #[(.ref a1), (.int p2)] h0 (own_Pure (.int r) h0 n0) := by
  refine own_met (plainFor_of_name pn_1) ?_
  intro p e s m below meth c s₁ C X0 e0
  obtain ⟨hx, hZ, hby, hml, hown, hret, hlk, hnm⟩ := C
  rw [ef_1]
  show own_Goes p e s below _ _ _ (s₁.setTop (mkF m 0 #[.val (.ref a1), .val (.int p2)] []))
  refine own_via (fun _ q => XS.aloadN X0.here hx rfl (hb hby d1_0) rfl rfl q) ?_
  show own_Goes p e s below _ _ _ (s₁.setTop (mkF m 1 #[.val (.ref a1), .val (.int p2)] [(.ref a1)]))
  obtain ⟨cq1, kq1, q1a, q1b, q1c⟩ := isOf hZ e0 E1
  obtain ⟨_, _, ⟨T1, L1, k1, n1⟩, -, X1, ⟨Lc1, hQ1, l1, y1, z1⟩, st1⟩ := X0.virtualBackUp hx (x := (⟨"com/example/uppslag/uppslag/query/Condition$Comparison$Operator", "ordinal", "()I"⟩ : MethodName)) (y := (⟨"java/lang/Enum", "ordinal", "()I"⟩ : MethodName)) (owner := "java/lang/Enum") hown (mvT hZ (hw _ (List.mem_of_getElem? (i := 8) rfl))) (mvT hZ (hw _ (List.mem_of_getElem? (i := 9) rfl))) (mvT hZ (hw _ (List.mem_of_getElem? (i := 10) rfl))) (by decide) (mvT hZ (hw _ (List.mem_of_getElem? (i := 12) rfl))) (mvT hZ (hw _ (List.mem_of_getElem? (i := 11) rfl))) (backOf (W := 0) (rm2 l Z a0 hw [] a1 (3 : Int32) h0 n0 F) hZ (hw _ (List.mem_of_getElem? (i := 14) rfl)) (hw _ (List.mem_of_getElem? (i := 13) rfl)) (by decide) (by decide)) q1a q1c (g := (mkF m 1 #[.val (.ref a1), .val (.int p2)] [(.ref a1)])) rfl (by rw [hml]; rfl) (Steps.refl _) (argsL := []) (rest := []) (lenOf pd___I rfl) rfl (by show 2 * 0 + _ ≤ _; exact Nat.le_of_eq rfl) (hb hby d1_1) (fun _ _ => ⟨rfl, e0, (by decide : 0 + 0 ≤ _), (by decide : 0 + 0 ≤ _)⟩)
  dsimp only [Pt.U, Pt.locs, Pt.cells, Pt.slots] at X1 l1 y1 z1 st1 hQ1
  subst l1 y1 z1
  obtain ⟨rfl, N1q, e1⟩ := hQ1
  have N1 := Fr.app (Fr.nil n0) N1q
  refine own_on st1 ?_
  show own_Goes p e s below _ _ _ (T1.setTop (mkF m 4 #[.val (.ref a1), .val (.int p2)] [(.int (3 : Int32))]))
  refine own_via (fun _ q => XS.tswIn X1.here hx rfl (o := 78) (pc0 := 4) (pc' := 82) rfl (hb hby d1_4) rfl (by decide) (by decide) (by decide) (by decide) q) ?_
  show own_Goes p e s below _ _ _ (T1.setTop (mkF m 82 #[.val (.ref a1), .val (.int p2)] []))
  refine own_via (fun _ q => XS.iloadN X1.here hx rfl (hb hby d1_82) rfl q) ?_
  show own_Goes p e s below _ _ _ (T1.setTop (mkF m 83 #[.val (.ref a1), .val (.int p2)] [(.int p2)]))
  by_cases hk83_2 : p2 < (0 : Int32)
  · refine own_via (fun _ q => XS.ifYes X1.here hx rfl (pc0 := 83) (pc' := 90) rfl (hb hby d1_83) rfl (XT.i0_lt_t hk83_2) (by decide) (by decide) q) ?_
    show own_Goes p e s below _ _ _ (T1.setTop (mkF m 90 #[.val (.ref a1), .val (.int p2)] []))
    refine own_via (fun _ q => XT.iconstV X1.here hx rfl (0 : Int32) (hb hby d1_90) rfl q) ?_
    show own_Goes p e s below _ _ _ (T1.setTop (mkF m 91 #[.val (.ref a1), .val (.int p2)] [(.int (0 : Int32))]))
    exact own_retN X1 hx (t := .boolean) hret (by simp) hlk (hb hby d1_91) (by decide) (by decide) ⟨by subst hr; simp [hk83_2, own_narT, own_narF], N1, e1⟩
  · refine own_via (fun _ q => XS.ifNo X1.here hx rfl (hb hby d1_83) rfl (XT.i0_lt_f hk83_2) q) ?_
    show own_Goes p e s below _ _ _ (T1.setTop (mkF m 86 #[.val (.ref a1), .val (.int p2)] []))
    refine own_via (fun _ q => XT.iconstV X1.here hx rfl (1 : Int32) (hb hby d1_86) rfl q) ?_
    show own_Goes p e s below _ _ _ (T1.setTop (mkF m 87 #[.val (.ref a1), .val (.int p2)] [(.int (1 : Int32))]))
    refine own_via (fun _ q => XS.goto X1.here hx rfl (pc0 := 87) (pc' := 91) rfl (hb hby d1_87) (by decide) (by decide) q) ?_
    show own_Goes p e s below _ _ _ (T1.setTop (mkF m 91 #[.val (.ref a1), .val (.int p2)] [(.int (1 : Int32))]))
    exact own_retN X1 hx (t := .boolean) hret (by simp) hlk (hb hby d1_91) (by decide) (by decide) ⟨by subst hr; simp [hk83_2, own_narT, own_narF], N1, e1⟩
theorem pn_0 : plainName "com/example/uppslag/uppslag/query/OperatorHoldsPinLaw" = true := by first | (simp [plainName, overriddenIn]; done) | decide +kernel
theorem ef_0 (m : MethodId) (p1 : Int32) (p2 : Int32) : entryFrame m #[(.int p1), (.int p2)] maxLocals = mkF m 0 #[.val (.int p1), .val (.int p2), .unset, .unset, .unset, .unset] [] := by first | (simp [entryFrame, mkF, argsToLocals, Value.category, maxLocals]; done) | rfl
set_option maxRecDepth 65536 in
set_option maxHeartbeats 40000000 in
theorem rm0 (l : Launch) (Z : State) (a0 : Array Value) (hw : ∀ d ∈ tables_1, d.before a0 Z = true) (ws : List Jvm.Cond) (p1 : Int32) (p2 : Int32) (a_LESS_THAN : Addr) (a_LESS_THAN_OR_EQUAL : Addr) (a_GREATER_THAN : Addr) (a_GREATER_THAN_OR_EQUAL : Addr) (h0 : Heap) (n0 : Nat) (S_LESS_THAN : Sta Z h0 "com/example/uppslag/uppslag/query/Condition$Comparison$Operator" "LESS_THAN" "Lcom/example/uppslag/uppslag/query/Condition$Comparison$Operator;" (.ref a_LESS_THAN)) (S_LESS_THAN_OR_EQUAL : Sta Z h0 "com/example/uppslag/uppslag/query/Condition$Comparison$Operator" "LESS_THAN_OR_EQUAL" "Lcom/example/uppslag/uppslag/query/Condition$Comparison$Operator;" (.ref a_LESS_THAN_OR_EQUAL)) (S_GREATER_THAN : Sta Z h0 "com/example/uppslag/uppslag/query/Condition$Comparison$Operator" "GREATER_THAN" "Lcom/example/uppslag/uppslag/query/Condition$Comparison$Operator;" (.ref a_GREATER_THAN)) (S_GREATER_THAN_OR_EQUAL : Sta Z h0 "com/example/uppslag/uppslag/query/Condition$Comparison$Operator" "GREATER_THAN_OR_EQUAL" "Lcom/example/uppslag/uppslag/query/Condition$Comparison$Operator;" (.ref a_GREATER_THAN_OR_EQUAL)) (E_LESS_THAN : Exa Z h0 a_LESS_THAN "com/example/uppslag/uppslag/query/Condition$Comparison$Operator") (E_LESS_THAN_OR_EQUAL : Exa Z h0 a_LESS_THAN_OR_EQUAL "com/example/uppslag/uppslag/query/Condition$Comparison$Operator") (E_GREATER_THAN : Exa Z h0 a_GREATER_THAN "com/example/uppslag/uppslag/query/Condition$Comparison$Operator") (E_GREATER_THAN_OR_EQUAL : Exa Z h0 a_GREATER_THAN_OR_EQUAL "com/example/uppslag/uppslag/query/Condition$Comparison$Operator") (F_LESS_THAN : Fld Z h0 a_LESS_THAN "java/lang/Enum" "ordinal" "I" (.int (0 : Int32))) (F_LESS_THAN_OR_EQUAL : Fld Z h0 a_LESS_THAN_OR_EQUAL "java/lang/Enum" "ordinal" "I" (.int (1 : Int32))) (F_GREATER_THAN : Fld Z h0 a_GREATER_THAN "java/lang/Enum" "ordinal" "I" (.int (2 : Int32))) (F_GREATER_THAN_OR_EQUAL : Fld Z h0 a_GREATER_THAN_OR_EQUAL "java/lang/Enum" "ordinal" "I" (.int (3 : Int32))) :
    own_Met l Z x code maxLocals ret ws room_1 #[(.int p1), (.int p2)] h0 (own_One n0) := by
  refine own_met (plainFor_of_name pn_0) ?_
  intro p e s m below meth c s₁ C X0 e0
  obtain ⟨hx, hZ, hby, hml, hown, hret, hlk, hnm⟩ := C
  rw [ef_0]
  show own_Goes p e s below _ _ _ (s₁.setTop (mkF m 0 #[.val (.int p1), .val (.int p2), .unset, .unset, .unset, .unset] []))
  refine own_via (fun _ q => XS.iloadN X0.here hx rfl (hb hby at_0) rfl q) ?_
  show own_Goes p e s below _ _ _ (s₁.setTop (mkF m 1 #[.val (.int p1), .val (.int p2), .unset, .unset, .unset, .unset] [(.int p1)]))
  refine own_via (fun _ q => XT.iconstV X0.here hx rfl (3 : Int32) (hb hby at_1) rfl q) ?_
  show own_Goes p e s below _ _ _ (s₁.setTop (mkF m 2 #[.val (.int p1), .val (.int p2), .unset, .unset, .unset, .unset] [(.int (3 : Int32)), (.int p1)]))
  refine own_via (fun _ q => XS.iand X0.here hx rfl (hb hby at_2) rfl q) ?_
  show own_Goes p e s below _ _ _ (s₁.setTop (mkF m 3 #[.val (.int p1), .val (.int p2), .unset, .unset, .unset, .unset] [(.int (p1 &&& (3 : Int32)))]))
  refine own_via (fun _ q => XS.istoreN X0.here hx rfl (hb hby at_3) rfl (l' := #[.val (.int p1), .val (.int p2), .val (.int (p1 &&& (3 : Int32))), .unset, .unset, .unset]) rfl q) ?_
  show own_Goes p e s below _ _ _ (s₁.setTop (mkF m 4 #[.val (.int p1), .val (.int p2), .val (.int (p1 &&& (3 : Int32))), .unset, .unset, .unset] []))
  refine own_via (fun _ q => XS.iloadN X0.here hx rfl (hb hby at_4) rfl q) ?_
  show own_Goes p e s below _ _ _ (s₁.setTop (mkF m 5 #[.val (.int p1), .val (.int p2), .val (.int (p1 &&& (3 : Int32))), .unset, .unset, .unset] [(.int (p1 &&& (3 : Int32)))]))
  by_cases hk5_1 : (p1 &&& (3 : Int32)) = (0 : Int32)
  · refine own_via (fun _ q => XS.ifNo X0.here hx rfl (hb hby at_5) rfl (XT.i0_ne_f hk5_1) q) ?_
    show own_Goes p e s below _ _ _ (s₁.setTop (mkF m 8 #[.val (.int p1), .val (.int p2), .val (.int (p1 &&& (3 : Int32))), .unset, .unset, .unset] []))
    obtain ⟨T2, X2, e2, st2⟩ := getS2 X0 hx hZ hown (host := "") (Or.inl (hw _ (List.mem_of_getElem? (i := 0) rfl))) Via.refl e0 S_LESS_THAN (g := (mkF m 8 #[.val (.int p1), .val (.int p2), .val (.int (p1 &&& (3 : Int32))), .unset, .unset, .unset] [])) rfl (hb hby at_8)
    refine own_via st2 ?_
    show own_Goes p e s below _ _ _ (T2.setTop (mkF m 11 #[.val (.int p1), .val (.int p2), .val (.int (p1 &&& (3 : Int32))), .unset, .unset, .unset] [(.ref a_LESS_THAN)]))
    refine own_via (fun _ q => XS.astoreN X2.here hx rfl (hb hby at_11) rfl rfl (l' := #[.val (.int p1), .val (.int p2), .val (.int (p1 &&& (3 : Int32))), .val (.ref a_LESS_THAN), .unset, .unset]) rfl q) ?_
    show own_Goes p e s below _ _ _ (T2.setTop (mkF m 12 #[.val (.int p1), .val (.int p2), .val (.int (p1 &&& (3 : Int32))), .val (.ref a_LESS_THAN), .unset, .unset] []))
    refine own_via (fun _ q => XS.goto X2.here hx rfl (pc0 := 12) (pc' := 43) rfl (hb hby at_12) (by decide) (by decide) q) ?_
    show own_Goes p e s below _ _ _ (T2.setTop (mkF m 43 #[.val (.int p1), .val (.int p2), .val (.int (p1 &&& (3 : Int32))), .val (.ref a_LESS_THAN), .unset, .unset] []))
    refine own_via (fun _ q => XS.iloadN X2.here hx rfl (hb hby at_43) rfl q) ?_
    show own_Goes p e s below _ _ _ (T2.setTop (mkF m 44 #[.val (.int p1), .val (.int p2), .val (.int (p1 &&& (3 : Int32))), .val (.ref a_LESS_THAN), .unset, .unset] [(.int p2)]))
    rcases own_tri p2 with ⟨hkp, hkm⟩ | ⟨hkp, hkm⟩ | ⟨hkp, hkm⟩
    · show own_Goes p e s below _ _ _ (T2.setTop (mkF m 44 #[.val (.int p1), .val (.int p2), .val (.int (p1 &&& (3 : Int32))), .val (.ref a_LESS_THAN), .unset, .unset] [(.int p2)]))
      refine own_via (fun _ q => XS.ifNo X2.here hx rfl (hb hby at_44) rfl (XT.i0_le_f hkp) q) ?_
      show own_Goes p e s below _ _ _ (T2.setTop (mkF m 47 #[.val (.int p1), .val (.int p2), .val (.int (p1 &&& (3 : Int32))), .val (.ref a_LESS_THAN), .unset, .unset] []))
      refine own_via (fun _ q => XT.iconstV X2.here hx rfl (1 : Int32) (hb hby at_47) rfl q) ?_
      show own_Goes p e s below _ _ _ (T2.setTop (mkF m 48 #[.val (.int p1), .val (.int p2), .val (.int (p1 &&& (3 : Int32))), .val (.ref a_LESS_THAN), .unset, .unset] [(.int (1 : Int32))]))
      refine own_via (fun _ q => XS.istore X2.here hx rfl (hb hby at_48) rfl (l' := #[.val (.int p1), .val (.int p2), .val (.int (p1 &&& (3 : Int32))), .val (.ref a_LESS_THAN), .val (.int (1 : Int32)), .unset]) rfl q) ?_
      show own_Goes p e s below _ _ _ (T2.setTop (mkF m 50 #[.val (.int p1), .val (.int p2), .val (.int (p1 &&& (3 : Int32))), .val (.ref a_LESS_THAN), .val (.int (1 : Int32)), .unset] []))
      refine own_via (fun _ q => XS.goto X2.here hx rfl (pc0 := 50) (pc' := 66) rfl (hb hby at_50) (by decide) (by decide) q) ?_
      show own_Goes p e s below _ _ _ (T2.setTop (mkF m 66 #[.val (.int p1), .val (.int p2), .val (.int (p1 &&& (3 : Int32))), .val (.ref a_LESS_THAN), .val (.int (1 : Int32)), .unset] []))
      refine own_via (fun _ q => XS.iloadN X2.here hx rfl (hb hby at_66) rfl q) ?_
      show own_Goes p e s below _ _ _ (T2.setTop (mkF m 67 #[.val (.int p1), .val (.int p2), .val (.int (p1 &&& (3 : Int32))), .val (.ref a_LESS_THAN), .val (.int (1 : Int32)), .unset] [(.int (p1 &&& (3 : Int32)))]))
      refine own_via (fun _ q => XS.ifNo X2.here hx rfl (hb hby at_67) rfl (XT.i0_ne_f hk5_1) q) ?_
      show own_Goes p e s below _ _ _ (T2.setTop (mkF m 70 #[.val (.int p1), .val (.int p2), .val (.int (p1 &&& (3 : Int32))), .val (.ref a_LESS_THAN), .val (.int (1 : Int32)), .unset] []))
      refine own_via (fun _ q => XS.iload X2.here hx rfl (hb hby at_70) rfl q) ?_
      show own_Goes p e s below _ _ _ (T2.setTop (mkF m 72 #[.val (.int p1), .val (.int p2), .val (.int (p1 &&& (3 : Int32))), .val (.ref a_LESS_THAN), .val (.int (1 : Int32)), .unset] [(.int (1 : Int32))]))
      refine own_via (fun _ q => XT.iconstV X2.here hx rfl (-1 : Int32) (hb hby at_72) rfl q) ?_
      show own_Goes p e s below _ _ _ (T2.setTop (mkF m 73 #[.val (.int p1), .val (.int p2), .val (.int (p1 &&& (3 : Int32))), .val (.ref a_LESS_THAN), .val (.int (1 : Int32)), .unset] [(.int (-1 : Int32)), (.int (1 : Int32))]))
      refine own_via (fun _ q => XS.icmpYes X2.here hx rfl (pc0 := 73) (pc' := 80) rfl (hb hby at_73) rfl (XT.ii_ne_t (by decide)) (by decide) (by decide) q) ?_
      show own_Goes p e s below _ _ _ (T2.setTop (mkF m 80 #[.val (.int p1), .val (.int p2), .val (.int (p1 &&& (3 : Int32))), .val (.ref a_LESS_THAN), .val (.int (1 : Int32)), .unset] []))
      refine own_via (fun _ q => XT.iconstV X2.here hx rfl (0 : Int32) (hb hby at_80) rfl q) ?_
      show own_Goes p e s below _ _ _ (T2.setTop (mkF m 81 #[.val (.int p1), .val (.int p2), .val (.int (p1 &&& (3 : Int32))), .val (.ref a_LESS_THAN), .val (.int (1 : Int32)), .unset] [(.int (0 : Int32))]))
      refine own_via (fun _ q => XS.istore X2.here hx rfl (hb hby at_81) rfl (l' := #[.val (.int p1), .val (.int p2), .val (.int (p1 &&& (3 : Int32))), .val (.ref a_LESS_THAN), .val (.int (1 : Int32)), .val (.int (0 : Int32))]) rfl q) ?_
      show own_Goes p e s below _ _ _ (T2.setTop (mkF m 83 #[.val (.int p1), .val (.int p2), .val (.int (p1 &&& (3 : Int32))), .val (.ref a_LESS_THAN), .val (.int (1 : Int32)), .val (.int (0 : Int32))] []))
      refine own_via (fun _ q => XS.goto X2.here hx rfl (pc0 := 83) (pc' := 141) rfl (hb hby at_83) (by decide) (by decide) q) ?_
      show own_Goes p e s below _ _ _ (T2.setTop (mkF m 141 #[.val (.int p1), .val (.int p2), .val (.int (p1 &&& (3 : Int32))), .val (.ref a_LESS_THAN), .val (.int (1 : Int32)), .val (.int (0 : Int32))] []))
      refine own_via (fun _ q => XS.aloadN X2.here hx rfl (hb hby at_141) rfl rfl q) ?_
      show own_Goes p e s below _ _ _ (T2.setTop (mkF m 142 #[.val (.int p1), .val (.int p2), .val (.int (p1 &&& (3 : Int32))), .val (.ref a_LESS_THAN), .val (.int (1 : Int32)), .val (.int (0 : Int32))] [(.ref a_LESS_THAN)]))
      refine own_via (fun _ q => XS.iloadN X2.here hx rfl (hb hby at_142) rfl q) ?_
      show own_Goes p e s below _ _ _ (T2.setTop (mkF m 143 #[.val (.int p1), .val (.int p2), .val (.int (p1 &&& (3 : Int32))), .val (.ref a_LESS_THAN), .val (.int (1 : Int32)), .val (.int (0 : Int32))] [(.int p2), (.ref a_LESS_THAN)]))
      obtain ⟨cq3, kq3, q3a, q3b, q3c⟩ := isOf hZ e2 E_LESS_THAN
      obtain ⟨_, _, ⟨T3, L3, k3, n3⟩, -, X3, ⟨Lc3, hQ3, l3, y3, z3⟩, st3⟩ := X2.virtualBack hx (y := (⟨"com/example/uppslag/uppslag/query/Condition$Comparison$Operator", "holds", "(I)Z"⟩ : MethodName)) (z := (⟨"com/example/uppslag/uppslag/query/Condition$Comparison$Operator", "holds", "(I)Z"⟩ : MethodName)) hown (mvT hZ (hw _ (List.mem_of_getElem? (i := 3) rfl))) (mvT hZ (hw _ (List.mem_of_getElem? (i := 4) rfl))) (notFace_of_selects (args := #[]) (mvT hZ (hw _ (List.mem_of_getElem? (i := 6) rfl)))) (mvT hZ (hw _ (List.mem_of_getElem? (i := 6) rfl))) (mvT hZ (hw _ (List.mem_of_getElem? (i := 5) rfl))) (by decide) (backOf (W := 0) (rmh0 l Z a0 hw [] a_LESS_THAN p2 (0 : Int32) h0 n0 E_LESS_THAN F_LESS_THAN (by simp [hkp, hkm])) hZ (hw _ (List.mem_of_getElem? (i := 7) rfl)) (hw _ (List.mem_of_getElem? (i := 1) rfl)) (by decide) (by decide)) q3a q3c (g := (mkF m 143 #[.val (.int p1), .val (.int p2), .val (.int (p1 &&& (3 : Int32))), .val (.ref a_LESS_THAN), .val (.int (1 : Int32)), .val (.int (0 : Int32))] [(.int p2), (.ref a_LESS_THAN)])) rfl (by rw [hml]; rfl) (Steps.refl _) (argsL := [(.int p2)]) (rest := []) (lenOf pd__I_Z rfl) rfl (by show 2 * 0 + _ ≤ _; exact Nat.le_of_eq rfl) (hb hby at_143) (fun _ _ => ⟨rfl, e2, (by decide : 0 + 0 ≤ _), (by decide : 0 + 0 ≤ _)⟩)
      dsimp only [Pt.U, Pt.locs, Pt.cells, Pt.slots] at X3 l3 y3 z3 st3 hQ3
      subst l3 y3 z3
      obtain ⟨rfl, N3q, e3⟩ := hQ3
      have N3 := Fr.app (Fr.nil n0) N3q
      refine own_on st3 ?_
      show own_Goes p e s below _ _ _ (T3.setTop (mkF m 146 #[.val (.int p1), .val (.int p2), .val (.int (p1 &&& (3 : Int32))), .val (.ref a_LESS_THAN), .val (.int (1 : Int32)), .val (.int (0 : Int32))] [(.int (0 : Int32))]))
      refine own_via (fun _ q => XS.iload X3.here hx rfl (hb hby at_146) rfl q) ?_
      show own_Goes p e s below _ _ _ (T3.setTop (mkF m 148 #[.val (.int p1), .val (.int p2), .val (.int (p1 &&& (3 : Int32))), .val (.ref a_LESS_THAN), .val (.int (1 : Int32)), .val (.int (0 : Int32))] [(.int (0 : Int32)), (.int (0 : Int32))]))
      refine own_via (fun _ q => XS.icmpNo X3.here hx rfl (hb hby at_148) rfl (XT.ii_ne_f (by decide)) q) ?_
      show own_Goes p e s below _ _ _ (T3.setTop (mkF m 151 #[.val (.int p1), .val (.int p2), .val (.int (p1 &&& (3 : Int32))), .val (.ref a_LESS_THAN), .val (.int (1 : Int32)), .val (.int (0 : Int32))] []))
      refine own_via (fun _ q => XS.aloadN X3.here hx rfl (hb hby at_151) rfl rfl q) ?_
      show own_Goes p e s below _ _ _ (T3.setTop (mkF m 152 #[.val (.int p1), .val (.int p2), .val (.int (p1 &&& (3 : Int32))), .val (.ref a_LESS_THAN), .val (.int (1 : Int32)), .val (.int (0 : Int32))] [(.ref a_LESS_THAN)]))
      refine own_via (fun _ q => XS.iload X3.here hx rfl (hb hby at_152) rfl q) ?_
      show own_Goes p e s below _ _ _ (T3.setTop (mkF m 154 #[.val (.int p1), .val (.int p2), .val (.int (p1 &&& (3 : Int32))), .val (.ref a_LESS_THAN), .val (.int (1 : Int32)), .val (.int (0 : Int32))] [(.int (1 : Int32)), (.ref a_LESS_THAN)]))
      obtain ⟨cq4, kq4, q4a, q4b, q4c⟩ := isOf hZ e3 E_LESS_THAN
      obtain ⟨_, _, ⟨T4, L4, k4, n4⟩, -, X4, ⟨Lc4, hQ4, l4, y4, z4⟩, st4⟩ := X3.virtualBack hx (y := (⟨"com/example/uppslag/uppslag/query/Condition$Comparison$Operator", "holds", "(I)Z"⟩ : MethodName)) (z := (⟨"com/example/uppslag/uppslag/query/Condition$Comparison$Operator", "holds", "(I)Z"⟩ : MethodName)) hown (mvT hZ (hw _ (List.mem_of_getElem? (i := 3) rfl))) (mvT hZ (hw _ (List.mem_of_getElem? (i := 4) rfl))) (notFace_of_selects (args := #[]) (mvT hZ (hw _ (List.mem_of_getElem? (i := 6) rfl)))) (mvT hZ (hw _ (List.mem_of_getElem? (i := 6) rfl))) (mvT hZ (hw _ (List.mem_of_getElem? (i := 5) rfl))) (by decide) (backOf (W := 0) (rmh0 l Z a0 hw [] a_LESS_THAN (1 : Int32) (0 : Int32) h0 n0 E_LESS_THAN F_LESS_THAN (by decide)) hZ (hw _ (List.mem_of_getElem? (i := 7) rfl)) (hw _ (List.mem_of_getElem? (i := 1) rfl)) (by decide) (by decide)) q4a q4c (g := (mkF m 154 #[.val (.int p1), .val (.int p2), .val (.int (p1 &&& (3 : Int32))), .val (.ref a_LESS_THAN), .val (.int (1 : Int32)), .val (.int (0 : Int32))] [(.int (1 : Int32)), (.ref a_LESS_THAN)])) rfl (by rw [hml]; rfl) (Steps.refl _) (argsL := [(.int (1 : Int32))]) (rest := []) (lenOf pd__I_Z rfl) rfl (by show 2 * 0 + _ ≤ _; exact Nat.le_of_eq rfl) (hb hby at_154) (fun _ _ => ⟨rfl, e3, (by decide : 0 + 0 ≤ _), (by decide : 0 + 0 ≤ _)⟩)
      dsimp only [Pt.U, Pt.locs, Pt.cells, Pt.slots] at X4 l4 y4 z4 st4 hQ4
      subst l4 y4 z4
      obtain ⟨rfl, N4q, e4⟩ := hQ4
      have N4 := Fr.app N3 N4q
      refine own_on st4 ?_
      show own_Goes p e s below _ _ _ (T4.setTop (mkF m 157 #[.val (.int p1), .val (.int p2), .val (.int (p1 &&& (3 : Int32))), .val (.ref a_LESS_THAN), .val (.int (1 : Int32)), .val (.int (0 : Int32))] [(.int (0 : Int32))]))
      refine own_via (fun _ q => XS.iload X4.here hx rfl (hb hby at_157) rfl q) ?_
      show own_Goes p e s below _ _ _ (T4.setTop (mkF m 159 #[.val (.int p1), .val (.int p2), .val (.int (p1 &&& (3 : Int32))), .val (.ref a_LESS_THAN), .val (.int (1 : Int32)), .val (.int (0 : Int32))] [(.int (0 : Int32)), (.int (0 : Int32))]))
      refine own_via (fun _ q => XS.icmpNo X4.here hx rfl (hb hby at_159) rfl (XT.ii_ne_f (by decide)) q) ?_
      show own_Goes p e s below _ _ _ (T4.setTop (mkF m 162 #[.val (.int p1), .val (.int p2), .val (.int (p1 &&& (3 : Int32))), .val (.ref a_LESS_THAN), .val (.int (1 : Int32)), .val (.int (0 : Int32))] []))
      refine own_via (fun _ q => XT.iconstV X4.here hx rfl (1 : Int32) (hb hby at_162) rfl q) ?_
      show own_Goes p e s below _ _ _ (T4.setTop (mkF m 163 #[.val (.int p1), .val (.int p2), .val (.int (p1 &&& (3 : Int32))), .val (.ref a_LESS_THAN), .val (.int (1 : Int32)), .val (.int (0 : Int32))] [(.int (1 : Int32))]))
      refine own_via (fun _ q => XS.goto X4.here hx rfl (pc0 := 163) (pc' := 167) rfl (hb hby at_163) (by decide) (by decide) q) ?_
      show own_Goes p e s below _ _ _ (T4.setTop (mkF m 167 #[.val (.int p1), .val (.int p2), .val (.int (p1 &&& (3 : Int32))), .val (.ref a_LESS_THAN), .val (.int (1 : Int32)), .val (.int (0 : Int32))] [(.int (1 : Int32))]))
      exact own_retN X4 hx (t := .boolean) hret (by simp) hlk (hb hby at_167) (by decide) (by decide) ⟨rfl, N4⟩
    · show own_Goes p e s below _ _ _ (T2.setTop (mkF m 44 #[.val (.int p1), .val (.int p2), .val (.int (p1 &&& (3 : Int32))), .val (.ref a_LESS_THAN), .unset, .unset] [(.int p2)]))
      refine own_via (fun _ q => XS.ifYes X2.here hx rfl (pc0 := 44) (pc' := 53) rfl (hb hby at_44) rfl (XT.i0_le_t hkp) (by decide) (by decide) q) ?_
      show own_Goes p e s below _ _ _ (T2.setTop (mkF m 53 #[.val (.int p1), .val (.int p2), .val (.int (p1 &&& (3 : Int32))), .val (.ref a_LESS_THAN), .unset, .unset] []))
      refine own_via (fun _ q => XS.iloadN X2.here hx rfl (hb hby at_53) rfl q) ?_
      show own_Goes p e s below _ _ _ (T2.setTop (mkF m 54 #[.val (.int p1), .val (.int p2), .val (.int (p1 &&& (3 : Int32))), .val (.ref a_LESS_THAN), .unset, .unset] [(.int p2)]))
      refine own_via (fun _ q => XS.ifNo X2.here hx rfl (hb hby at_54) rfl (XT.i0_ge_f hkm) q) ?_
      show own_Goes p e s below _ _ _ (T2.setTop (mkF m 57 #[.val (.int p1), .val (.int p2), .val (.int (p1 &&& (3 : Int32))), .val (.ref a_LESS_THAN), .unset, .unset] []))
      refine own_via (fun _ q => XT.iconstV X2.here hx rfl (-1 : Int32) (hb hby at_57) rfl q) ?_
      show own_Goes p e s below _ _ _ (T2.setTop (mkF m 58 #[.val (.int p1), .val (.int p2), .val (.int (p1 &&& (3 : Int32))), .val (.ref a_LESS_THAN), .unset, .unset] [(.int (-1 : Int32))]))
      refine own_via (fun _ q => XS.istore X2.here hx rfl (hb hby at_58) rfl (l' := #[.val (.int p1), .val (.int p2), .val (.int (p1 &&& (3 : Int32))), .val (.ref a_LESS_THAN), .val (.int (-1 : Int32)), .unset]) rfl q) ?_
      show own_Goes p e s below _ _ _ (T2.setTop (mkF m 60 #[.val (.int p1), .val (.int p2), .val (.int (p1 &&& (3 : Int32))), .val (.ref a_LESS_THAN), .val (.int (-1 : Int32)), .unset] []))
      refine own_via (fun _ q => XS.goto X2.here hx rfl (pc0 := 60) (pc' := 66) rfl (hb hby at_60) (by decide) (by decide) q) ?_
      show own_Goes p e s below _ _ _ (T2.setTop (mkF m 66 #[.val (.int p1), .val (.int p2), .val (.int (p1 &&& (3 : Int32))), .val (.ref a_LESS_THAN), .val (.int (-1 : Int32)), .unset] []))
      refine own_via (fun _ q => XS.iloadN X2.here hx rfl (hb hby at_66) rfl q) ?_
      show own_Goes p e s below _ _ _ (T2.setTop (mkF m 67 #[.val (.int p1), .val (.int p2), .val (.int (p1 &&& (3 : Int32))), .val (.ref a_LESS_THAN), .val (.int (-1 : Int32)), .unset] [(.int (p1 &&& (3 : Int32)))]))
      refine own_via (fun _ q => XS.ifNo X2.here hx rfl (hb hby at_67) rfl (XT.i0_ne_f hk5_1) q) ?_
      show own_Goes p e s below _ _ _ (T2.setTop (mkF m 70 #[.val (.int p1), .val (.int p2), .val (.int (p1 &&& (3 : Int32))), .val (.ref a_LESS_THAN), .val (.int (-1 : Int32)), .unset] []))
      refine own_via (fun _ q => XS.iload X2.here hx rfl (hb hby at_70) rfl q) ?_
      show own_Goes p e s below _ _ _ (T2.setTop (mkF m 72 #[.val (.int p1), .val (.int p2), .val (.int (p1 &&& (3 : Int32))), .val (.ref a_LESS_THAN), .val (.int (-1 : Int32)), .unset] [(.int (-1 : Int32))]))
      refine own_via (fun _ q => XT.iconstV X2.here hx rfl (-1 : Int32) (hb hby at_72) rfl q) ?_
      show own_Goes p e s below _ _ _ (T2.setTop (mkF m 73 #[.val (.int p1), .val (.int p2), .val (.int (p1 &&& (3 : Int32))), .val (.ref a_LESS_THAN), .val (.int (-1 : Int32)), .unset] [(.int (-1 : Int32)), (.int (-1 : Int32))]))
      refine own_via (fun _ q => XS.icmpNo X2.here hx rfl (hb hby at_73) rfl (XT.ii_ne_f (by decide)) q) ?_
      show own_Goes p e s below _ _ _ (T2.setTop (mkF m 76 #[.val (.int p1), .val (.int p2), .val (.int (p1 &&& (3 : Int32))), .val (.ref a_LESS_THAN), .val (.int (-1 : Int32)), .unset] []))
      refine own_via (fun _ q => XT.iconstV X2.here hx rfl (1 : Int32) (hb hby at_76) rfl q) ?_
      show own_Goes p e s below _ _ _ (T2.setTop (mkF m 77 #[.val (.int p1), .val (.int p2), .val (.int (p1 &&& (3 : Int32))), .val (.ref a_LESS_THAN), .val (.int (-1 : Int32)), .unset] [(.int (1 : Int32))]))
      refine own_via (fun _ q => XS.goto X2.here hx rfl (pc0 := 77) (pc' := 81) rfl (hb hby at_77) (by decide) (by decide) q) ?_
      show own_Goes p e s below _ _ _ (T2.setTop (mkF m 81 #[.val (.int p1), .val (.int p2), .val (.int (p1 &&& (3 : Int32))), .val (.ref a_LESS_THAN), .val (.int (-1 : Int32)), .unset] [(.int (1 : Int32))]))
      refine own_via (fun _ q => XS.istore X2.here hx rfl (hb hby at_81) rfl (l' := #[.val (.int p1), .val (.int p2), .val (.int (p1 &&& (3 : Int32))), .val (.ref a_LESS_THAN), .val (.int (-1 : Int32)), .val (.int (1 : Int32))]) rfl q) ?_
      show own_Goes p e s below _ _ _ (T2.setTop (mkF m 83 #[.val (.int p1), .val (.int p2), .val (.int (p1 &&& (3 : Int32))), .val (.ref a_LESS_THAN), .val (.int (-1 : Int32)), .val (.int (1 : Int32))] []))
      refine own_via (fun _ q => XS.goto X2.here hx rfl (pc0 := 83) (pc' := 141) rfl (hb hby at_83) (by decide) (by decide) q) ?_
      show own_Goes p e s below _ _ _ (T2.setTop (mkF m 141 #[.val (.int p1), .val (.int p2), .val (.int (p1 &&& (3 : Int32))), .val (.ref a_LESS_THAN), .val (.int (-1 : Int32)), .val (.int (1 : Int32))] []))
      refine own_via (fun _ q => XS.aloadN X2.here hx rfl (hb hby at_141) rfl rfl q) ?_
      show own_Goes p e s below _ _ _ (T2.setTop (mkF m 142 #[.val (.int p1), .val (.int p2), .val (.int (p1 &&& (3 : Int32))), .val (.ref a_LESS_THAN), .val (.int (-1 : Int32)), .val (.int (1 : Int32))] [(.ref a_LESS_THAN)]))
      refine own_via (fun _ q => XS.iloadN X2.here hx rfl (hb hby at_142) rfl q) ?_
      show own_Goes p e s below _ _ _ (T2.setTop (mkF m 143 #[.val (.int p1), .val (.int p2), .val (.int (p1 &&& (3 : Int32))), .val (.ref a_LESS_THAN), .val (.int (-1 : Int32)), .val (.int (1 : Int32))] [(.int p2), (.ref a_LESS_THAN)]))
      obtain ⟨cq5, kq5, q5a, q5b, q5c⟩ := isOf hZ e2 E_LESS_THAN
      obtain ⟨_, _, ⟨T5, L5, k5, n5⟩, -, X5, ⟨Lc5, hQ5, l5, y5, z5⟩, st5⟩ := X2.virtualBack hx (y := (⟨"com/example/uppslag/uppslag/query/Condition$Comparison$Operator", "holds", "(I)Z"⟩ : MethodName)) (z := (⟨"com/example/uppslag/uppslag/query/Condition$Comparison$Operator", "holds", "(I)Z"⟩ : MethodName)) hown (mvT hZ (hw _ (List.mem_of_getElem? (i := 3) rfl))) (mvT hZ (hw _ (List.mem_of_getElem? (i := 4) rfl))) (notFace_of_selects (args := #[]) (mvT hZ (hw _ (List.mem_of_getElem? (i := 6) rfl)))) (mvT hZ (hw _ (List.mem_of_getElem? (i := 6) rfl))) (mvT hZ (hw _ (List.mem_of_getElem? (i := 5) rfl))) (by decide) (backOf (W := 0) (rmh0 l Z a0 hw [] a_LESS_THAN p2 (1 : Int32) h0 n0 E_LESS_THAN F_LESS_THAN (by simp [hkp, hkm])) hZ (hw _ (List.mem_of_getElem? (i := 7) rfl)) (hw _ (List.mem_of_getElem? (i := 1) rfl)) (by decide) (by decide)) q5a q5c (g := (mkF m 143 #[.val (.int p1), .val (.int p2), .val (.int (p1 &&& (3 : Int32))), .val (.ref a_LESS_THAN), .val (.int (-1 : Int32)), .val (.int (1 : Int32))] [(.int p2), (.ref a_LESS_THAN)])) rfl (by rw [hml]; rfl) (Steps.refl _) (argsL := [(.int p2)]) (rest := []) (lenOf pd__I_Z rfl) rfl (by show 2 * 0 + _ ≤ _; exact Nat.le_of_eq rfl) (hb hby at_143) (fun _ _ => ⟨rfl, e2, (by decide : 0 + 0 ≤ _), (by decide : 0 + 0 ≤ _)⟩)
      dsimp only [Pt.U, Pt.locs, Pt.cells, Pt.slots] at X5 l5 y5 z5 st5 hQ5
      subst l5 y5 z5
      obtain ⟨rfl, N5q, e5⟩ := hQ5
      have N5 := Fr.app (Fr.nil n0) N5q
      refine own_on st5 ?_
      show own_Goes p e s below _ _ _ (T5.setTop (mkF m 146 #[.val (.int p1), .val (.int p2), .val (.int (p1 &&& (3 : Int32))), .val (.ref a_LESS_THAN), .val (.int (-1 : Int32)), .val (.int (1 : Int32))] [(.int (1 : Int32))]))
      refine own_via (fun _ q => XS.iload X5.here hx rfl (hb hby at_146) rfl q) ?_
      show own_Goes p e s below _ _ _ (T5.setTop (mkF m 148 #[.val (.int p1), .val (.int p2), .val (.int (p1 &&& (3 : Int32))), .val (.ref a_LESS_THAN), .val (.int (-1 : Int32)), .val (.int (1 : Int32))] [(.int (1 : Int32)), (.int (1 : Int32))]))
      refine own_via (fun _ q => XS.icmpNo X5.here hx rfl (hb hby at_148) rfl (XT.ii_ne_f (by decide)) q) ?_
      show own_Goes p e s below _ _ _ (T5.setTop (mkF m 151 #[.val (.int p1), .val (.int p2), .val (.int (p1 &&& (3 : Int32))), .val (.ref a_LESS_THAN), .val (.int (-1 : Int32)), .val (.int (1 : Int32))] []))
      refine own_via (fun _ q => XS.aloadN X5.here hx rfl (hb hby at_151) rfl rfl q) ?_
      show own_Goes p e s below _ _ _ (T5.setTop (mkF m 152 #[.val (.int p1), .val (.int p2), .val (.int (p1 &&& (3 : Int32))), .val (.ref a_LESS_THAN), .val (.int (-1 : Int32)), .val (.int (1 : Int32))] [(.ref a_LESS_THAN)]))
      refine own_via (fun _ q => XS.iload X5.here hx rfl (hb hby at_152) rfl q) ?_
      show own_Goes p e s below _ _ _ (T5.setTop (mkF m 154 #[.val (.int p1), .val (.int p2), .val (.int (p1 &&& (3 : Int32))), .val (.ref a_LESS_THAN), .val (.int (-1 : Int32)), .val (.int (1 : Int32))] [(.int (-1 : Int32)), (.ref a_LESS_THAN)]))
      obtain ⟨cq6, kq6, q6a, q6b, q6c⟩ := isOf hZ e5 E_LESS_THAN
      obtain ⟨_, _, ⟨T6, L6, k6, n6⟩, -, X6, ⟨Lc6, hQ6, l6, y6, z6⟩, st6⟩ := X5.virtualBack hx (y := (⟨"com/example/uppslag/uppslag/query/Condition$Comparison$Operator", "holds", "(I)Z"⟩ : MethodName)) (z := (⟨"com/example/uppslag/uppslag/query/Condition$Comparison$Operator", "holds", "(I)Z"⟩ : MethodName)) hown (mvT hZ (hw _ (List.mem_of_getElem? (i := 3) rfl))) (mvT hZ (hw _ (List.mem_of_getElem? (i := 4) rfl))) (notFace_of_selects (args := #[]) (mvT hZ (hw _ (List.mem_of_getElem? (i := 6) rfl)))) (mvT hZ (hw _ (List.mem_of_getElem? (i := 6) rfl))) (mvT hZ (hw _ (List.mem_of_getElem? (i := 5) rfl))) (by decide) (backOf (W := 0) (rmh0 l Z a0 hw [] a_LESS_THAN (-1 : Int32) (1 : Int32) h0 n0 E_LESS_THAN F_LESS_THAN (by decide)) hZ (hw _ (List.mem_of_getElem? (i := 7) rfl)) (hw _ (List.mem_of_getElem? (i := 1) rfl)) (by decide) (by decide)) q6a q6c (g := (mkF m 154 #[.val (.int p1), .val (.int p2), .val (.int (p1 &&& (3 : Int32))), .val (.ref a_LESS_THAN), .val (.int (-1 : Int32)), .val (.int (1 : Int32))] [(.int (-1 : Int32)), (.ref a_LESS_THAN)])) rfl (by rw [hml]; rfl) (Steps.refl _) (argsL := [(.int (-1 : Int32))]) (rest := []) (lenOf pd__I_Z rfl) rfl (by show 2 * 0 + _ ≤ _; exact Nat.le_of_eq rfl) (hb hby at_154) (fun _ _ => ⟨rfl, e5, (by decide : 0 + 0 ≤ _), (by decide : 0 + 0 ≤ _)⟩)
      dsimp only [Pt.U, Pt.locs, Pt.cells, Pt.slots] at X6 l6 y6 z6 st6 hQ6
      subst l6 y6 z6
      obtain ⟨rfl, N6q, e6⟩ := hQ6
      have N6 := Fr.app N5 N6q
      refine own_on st6 ?_
      show own_Goes p e s below _ _ _ (T6.setTop (mkF m 157 #[.val (.int p1), .val (.int p2), .val (.int (p1 &&& (3 : Int32))), .val (.ref a_LESS_THAN), .val (.int (-1 : Int32)), .val (.int (1 : Int32))] [(.int (1 : Int32))]))
      refine own_via (fun _ q => XS.iload X6.here hx rfl (hb hby at_157) rfl q) ?_
      show own_Goes p e s below _ _ _ (T6.setTop (mkF m 159 #[.val (.int p1), .val (.int p2), .val (.int (p1 &&& (3 : Int32))), .val (.ref a_LESS_THAN), .val (.int (-1 : Int32)), .val (.int (1 : Int32))] [(.int (1 : Int32)), (.int (1 : Int32))]))
      refine own_via (fun _ q => XS.icmpNo X6.here hx rfl (hb hby at_159) rfl (XT.ii_ne_f (by decide)) q) ?_
      show own_Goes p e s below _ _ _ (T6.setTop (mkF m 162 #[.val (.int p1), .val (.int p2), .val (.int (p1 &&& (3 : Int32))), .val (.ref a_LESS_THAN), .val (.int (-1 : Int32)), .val (.int (1 : Int32))] []))
      refine own_via (fun _ q => XT.iconstV X6.here hx rfl (1 : Int32) (hb hby at_162) rfl q) ?_
      show own_Goes p e s below _ _ _ (T6.setTop (mkF m 163 #[.val (.int p1), .val (.int p2), .val (.int (p1 &&& (3 : Int32))), .val (.ref a_LESS_THAN), .val (.int (-1 : Int32)), .val (.int (1 : Int32))] [(.int (1 : Int32))]))
      refine own_via (fun _ q => XS.goto X6.here hx rfl (pc0 := 163) (pc' := 167) rfl (hb hby at_163) (by decide) (by decide) q) ?_
      show own_Goes p e s below _ _ _ (T6.setTop (mkF m 167 #[.val (.int p1), .val (.int p2), .val (.int (p1 &&& (3 : Int32))), .val (.ref a_LESS_THAN), .val (.int (-1 : Int32)), .val (.int (1 : Int32))] [(.int (1 : Int32))]))
      exact own_retN X6 hx (t := .boolean) hret (by simp) hlk (hb hby at_167) (by decide) (by decide) ⟨rfl, N6⟩
    · show own_Goes p e s below _ _ _ (T2.setTop (mkF m 44 #[.val (.int p1), .val (.int p2), .val (.int (p1 &&& (3 : Int32))), .val (.ref a_LESS_THAN), .unset, .unset] [(.int p2)]))
      refine own_via (fun _ q => XS.ifYes X2.here hx rfl (pc0 := 44) (pc' := 53) rfl (hb hby at_44) rfl (XT.i0_le_t hkp) (by decide) (by decide) q) ?_
      show own_Goes p e s below _ _ _ (T2.setTop (mkF m 53 #[.val (.int p1), .val (.int p2), .val (.int (p1 &&& (3 : Int32))), .val (.ref a_LESS_THAN), .unset, .unset] []))
      refine own_via (fun _ q => XS.iloadN X2.here hx rfl (hb hby at_53) rfl q) ?_
      show own_Goes p e s below _ _ _ (T2.setTop (mkF m 54 #[.val (.int p1), .val (.int p2), .val (.int (p1 &&& (3 : Int32))), .val (.ref a_LESS_THAN), .unset, .unset] [(.int p2)]))
      refine own_via (fun _ q => XS.ifYes X2.here hx rfl (pc0 := 54) (pc' := 63) rfl (hb hby at_54) rfl (XT.i0_ge_t hkm) (by decide) (by decide) q) ?_
      show own_Goes p e s below _ _ _ (T2.setTop (mkF m 63 #[.val (.int p1), .val (.int p2), .val (.int (p1 &&& (3 : Int32))), .val (.ref a_LESS_THAN), .unset, .unset] []))
      refine own_via (fun _ q => XT.iconstV X2.here hx rfl (0 : Int32) (hb hby at_63) rfl q) ?_
      show own_Goes p e s below _ _ _ (T2.setTop (mkF m 64 #[.val (.int p1), .val (.int p2), .val (.int (p1 &&& (3 : Int32))), .val (.ref a_LESS_THAN), .unset, .unset] [(.int (0 : Int32))]))
      refine own_via (fun _ q => XS.istore X2.here hx rfl (hb hby at_64) rfl (l' := #[.val (.int p1), .val (.int p2), .val (.int (p1 &&& (3 : Int32))), .val (.ref a_LESS_THAN), .val (.int (0 : Int32)), .unset]) rfl q) ?_
      show own_Goes p e s below _ _ _ (T2.setTop (mkF m 66 #[.val (.int p1), .val (.int p2), .val (.int (p1 &&& (3 : Int32))), .val (.ref a_LESS_THAN), .val (.int (0 : Int32)), .unset] []))
      refine own_via (fun _ q => XS.iloadN X2.here hx rfl (hb hby at_66) rfl q) ?_
      show own_Goes p e s below _ _ _ (T2.setTop (mkF m 67 #[.val (.int p1), .val (.int p2), .val (.int (p1 &&& (3 : Int32))), .val (.ref a_LESS_THAN), .val (.int (0 : Int32)), .unset] [(.int (p1 &&& (3 : Int32)))]))
      refine own_via (fun _ q => XS.ifNo X2.here hx rfl (hb hby at_67) rfl (XT.i0_ne_f hk5_1) q) ?_
      show own_Goes p e s below _ _ _ (T2.setTop (mkF m 70 #[.val (.int p1), .val (.int p2), .val (.int (p1 &&& (3 : Int32))), .val (.ref a_LESS_THAN), .val (.int (0 : Int32)), .unset] []))
      refine own_via (fun _ q => XS.iload X2.here hx rfl (hb hby at_70) rfl q) ?_
      show own_Goes p e s below _ _ _ (T2.setTop (mkF m 72 #[.val (.int p1), .val (.int p2), .val (.int (p1 &&& (3 : Int32))), .val (.ref a_LESS_THAN), .val (.int (0 : Int32)), .unset] [(.int (0 : Int32))]))
      refine own_via (fun _ q => XT.iconstV X2.here hx rfl (-1 : Int32) (hb hby at_72) rfl q) ?_
      show own_Goes p e s below _ _ _ (T2.setTop (mkF m 73 #[.val (.int p1), .val (.int p2), .val (.int (p1 &&& (3 : Int32))), .val (.ref a_LESS_THAN), .val (.int (0 : Int32)), .unset] [(.int (-1 : Int32)), (.int (0 : Int32))]))
      refine own_via (fun _ q => XS.icmpYes X2.here hx rfl (pc0 := 73) (pc' := 80) rfl (hb hby at_73) rfl (XT.ii_ne_t (by decide)) (by decide) (by decide) q) ?_
      show own_Goes p e s below _ _ _ (T2.setTop (mkF m 80 #[.val (.int p1), .val (.int p2), .val (.int (p1 &&& (3 : Int32))), .val (.ref a_LESS_THAN), .val (.int (0 : Int32)), .unset] []))
      refine own_via (fun _ q => XT.iconstV X2.here hx rfl (0 : Int32) (hb hby at_80) rfl q) ?_
      show own_Goes p e s below _ _ _ (T2.setTop (mkF m 81 #[.val (.int p1), .val (.int p2), .val (.int (p1 &&& (3 : Int32))), .val (.ref a_LESS_THAN), .val (.int (0 : Int32)), .unset] [(.int (0 : Int32))]))
      refine own_via (fun _ q => XS.istore X2.here hx rfl (hb hby at_81) rfl (l' := #[.val (.int p1), .val (.int p2), .val (.int (p1 &&& (3 : Int32))), .val (.ref a_LESS_THAN), .val (.int (0 : Int32)), .val (.int (0 : Int32))]) rfl q) ?_
      show own_Goes p e s below _ _ _ (T2.setTop (mkF m 83 #[.val (.int p1), .val (.int p2), .val (.int (p1 &&& (3 : Int32))), .val (.ref a_LESS_THAN), .val (.int (0 : Int32)), .val (.int (0 : Int32))] []))
      refine own_via (fun _ q => XS.goto X2.here hx rfl (pc0 := 83) (pc' := 141) rfl (hb hby at_83) (by decide) (by decide) q) ?_
      show own_Goes p e s below _ _ _ (T2.setTop (mkF m 141 #[.val (.int p1), .val (.int p2), .val (.int (p1 &&& (3 : Int32))), .val (.ref a_LESS_THAN), .val (.int (0 : Int32)), .val (.int (0 : Int32))] []))
      refine own_via (fun _ q => XS.aloadN X2.here hx rfl (hb hby at_141) rfl rfl q) ?_
      show own_Goes p e s below _ _ _ (T2.setTop (mkF m 142 #[.val (.int p1), .val (.int p2), .val (.int (p1 &&& (3 : Int32))), .val (.ref a_LESS_THAN), .val (.int (0 : Int32)), .val (.int (0 : Int32))] [(.ref a_LESS_THAN)]))
      refine own_via (fun _ q => XS.iloadN X2.here hx rfl (hb hby at_142) rfl q) ?_
      show own_Goes p e s below _ _ _ (T2.setTop (mkF m 143 #[.val (.int p1), .val (.int p2), .val (.int (p1 &&& (3 : Int32))), .val (.ref a_LESS_THAN), .val (.int (0 : Int32)), .val (.int (0 : Int32))] [(.int p2), (.ref a_LESS_THAN)]))
      obtain ⟨cq7, kq7, q7a, q7b, q7c⟩ := isOf hZ e2 E_LESS_THAN
      obtain ⟨_, _, ⟨T7, L7, k7, n7⟩, -, X7, ⟨Lc7, hQ7, l7, y7, z7⟩, st7⟩ := X2.virtualBack hx (y := (⟨"com/example/uppslag/uppslag/query/Condition$Comparison$Operator", "holds", "(I)Z"⟩ : MethodName)) (z := (⟨"com/example/uppslag/uppslag/query/Condition$Comparison$Operator", "holds", "(I)Z"⟩ : MethodName)) hown (mvT hZ (hw _ (List.mem_of_getElem? (i := 3) rfl))) (mvT hZ (hw _ (List.mem_of_getElem? (i := 4) rfl))) (notFace_of_selects (args := #[]) (mvT hZ (hw _ (List.mem_of_getElem? (i := 6) rfl)))) (mvT hZ (hw _ (List.mem_of_getElem? (i := 6) rfl))) (mvT hZ (hw _ (List.mem_of_getElem? (i := 5) rfl))) (by decide) (backOf (W := 0) (rmh0 l Z a0 hw [] a_LESS_THAN p2 (0 : Int32) h0 n0 E_LESS_THAN F_LESS_THAN (by simp [hkp, hkm])) hZ (hw _ (List.mem_of_getElem? (i := 7) rfl)) (hw _ (List.mem_of_getElem? (i := 1) rfl)) (by decide) (by decide)) q7a q7c (g := (mkF m 143 #[.val (.int p1), .val (.int p2), .val (.int (p1 &&& (3 : Int32))), .val (.ref a_LESS_THAN), .val (.int (0 : Int32)), .val (.int (0 : Int32))] [(.int p2), (.ref a_LESS_THAN)])) rfl (by rw [hml]; rfl) (Steps.refl _) (argsL := [(.int p2)]) (rest := []) (lenOf pd__I_Z rfl) rfl (by show 2 * 0 + _ ≤ _; exact Nat.le_of_eq rfl) (hb hby at_143) (fun _ _ => ⟨rfl, e2, (by decide : 0 + 0 ≤ _), (by decide : 0 + 0 ≤ _)⟩)
      dsimp only [Pt.U, Pt.locs, Pt.cells, Pt.slots] at X7 l7 y7 z7 st7 hQ7
      subst l7 y7 z7
      obtain ⟨rfl, N7q, e7⟩ := hQ7
      have N7 := Fr.app (Fr.nil n0) N7q
      refine own_on st7 ?_
      show own_Goes p e s below _ _ _ (T7.setTop (mkF m 146 #[.val (.int p1), .val (.int p2), .val (.int (p1 &&& (3 : Int32))), .val (.ref a_LESS_THAN), .val (.int (0 : Int32)), .val (.int (0 : Int32))] [(.int (0 : Int32))]))
      refine own_via (fun _ q => XS.iload X7.here hx rfl (hb hby at_146) rfl q) ?_
      show own_Goes p e s below _ _ _ (T7.setTop (mkF m 148 #[.val (.int p1), .val (.int p2), .val (.int (p1 &&& (3 : Int32))), .val (.ref a_LESS_THAN), .val (.int (0 : Int32)), .val (.int (0 : Int32))] [(.int (0 : Int32)), (.int (0 : Int32))]))
      refine own_via (fun _ q => XS.icmpNo X7.here hx rfl (hb hby at_148) rfl (XT.ii_ne_f (by decide)) q) ?_
      show own_Goes p e s below _ _ _ (T7.setTop (mkF m 151 #[.val (.int p1), .val (.int p2), .val (.int (p1 &&& (3 : Int32))), .val (.ref a_LESS_THAN), .val (.int (0 : Int32)), .val (.int (0 : Int32))] []))
      refine own_via (fun _ q => XS.aloadN X7.here hx rfl (hb hby at_151) rfl rfl q) ?_
      show own_Goes p e s below _ _ _ (T7.setTop (mkF m 152 #[.val (.int p1), .val (.int p2), .val (.int (p1 &&& (3 : Int32))), .val (.ref a_LESS_THAN), .val (.int (0 : Int32)), .val (.int (0 : Int32))] [(.ref a_LESS_THAN)]))
      refine own_via (fun _ q => XS.iload X7.here hx rfl (hb hby at_152) rfl q) ?_
      show own_Goes p e s below _ _ _ (T7.setTop (mkF m 154 #[.val (.int p1), .val (.int p2), .val (.int (p1 &&& (3 : Int32))), .val (.ref a_LESS_THAN), .val (.int (0 : Int32)), .val (.int (0 : Int32))] [(.int (0 : Int32)), (.ref a_LESS_THAN)]))
      obtain ⟨cq8, kq8, q8a, q8b, q8c⟩ := isOf hZ e7 E_LESS_THAN
      obtain ⟨_, _, ⟨T8, L8, k8, n8⟩, -, X8, ⟨Lc8, hQ8, l8, y8, z8⟩, st8⟩ := X7.virtualBack hx (y := (⟨"com/example/uppslag/uppslag/query/Condition$Comparison$Operator", "holds", "(I)Z"⟩ : MethodName)) (z := (⟨"com/example/uppslag/uppslag/query/Condition$Comparison$Operator", "holds", "(I)Z"⟩ : MethodName)) hown (mvT hZ (hw _ (List.mem_of_getElem? (i := 3) rfl))) (mvT hZ (hw _ (List.mem_of_getElem? (i := 4) rfl))) (notFace_of_selects (args := #[]) (mvT hZ (hw _ (List.mem_of_getElem? (i := 6) rfl)))) (mvT hZ (hw _ (List.mem_of_getElem? (i := 6) rfl))) (mvT hZ (hw _ (List.mem_of_getElem? (i := 5) rfl))) (by decide) (backOf (W := 0) (rmh0 l Z a0 hw [] a_LESS_THAN (0 : Int32) (0 : Int32) h0 n0 E_LESS_THAN F_LESS_THAN (by decide)) hZ (hw _ (List.mem_of_getElem? (i := 7) rfl)) (hw _ (List.mem_of_getElem? (i := 1) rfl)) (by decide) (by decide)) q8a q8c (g := (mkF m 154 #[.val (.int p1), .val (.int p2), .val (.int (p1 &&& (3 : Int32))), .val (.ref a_LESS_THAN), .val (.int (0 : Int32)), .val (.int (0 : Int32))] [(.int (0 : Int32)), (.ref a_LESS_THAN)])) rfl (by rw [hml]; rfl) (Steps.refl _) (argsL := [(.int (0 : Int32))]) (rest := []) (lenOf pd__I_Z rfl) rfl (by show 2 * 0 + _ ≤ _; exact Nat.le_of_eq rfl) (hb hby at_154) (fun _ _ => ⟨rfl, e7, (by decide : 0 + 0 ≤ _), (by decide : 0 + 0 ≤ _)⟩)
      dsimp only [Pt.U, Pt.locs, Pt.cells, Pt.slots] at X8 l8 y8 z8 st8 hQ8
      subst l8 y8 z8
      obtain ⟨rfl, N8q, e8⟩ := hQ8
      have N8 := Fr.app N7 N8q
      refine own_on st8 ?_
      show own_Goes p e s below _ _ _ (T8.setTop (mkF m 157 #[.val (.int p1), .val (.int p2), .val (.int (p1 &&& (3 : Int32))), .val (.ref a_LESS_THAN), .val (.int (0 : Int32)), .val (.int (0 : Int32))] [(.int (0 : Int32))]))
      refine own_via (fun _ q => XS.iload X8.here hx rfl (hb hby at_157) rfl q) ?_
      show own_Goes p e s below _ _ _ (T8.setTop (mkF m 159 #[.val (.int p1), .val (.int p2), .val (.int (p1 &&& (3 : Int32))), .val (.ref a_LESS_THAN), .val (.int (0 : Int32)), .val (.int (0 : Int32))] [(.int (0 : Int32)), (.int (0 : Int32))]))
      refine own_via (fun _ q => XS.icmpNo X8.here hx rfl (hb hby at_159) rfl (XT.ii_ne_f (by decide)) q) ?_
      show own_Goes p e s below _ _ _ (T8.setTop (mkF m 162 #[.val (.int p1), .val (.int p2), .val (.int (p1 &&& (3 : Int32))), .val (.ref a_LESS_THAN), .val (.int (0 : Int32)), .val (.int (0 : Int32))] []))
      refine own_via (fun _ q => XT.iconstV X8.here hx rfl (1 : Int32) (hb hby at_162) rfl q) ?_
      show own_Goes p e s below _ _ _ (T8.setTop (mkF m 163 #[.val (.int p1), .val (.int p2), .val (.int (p1 &&& (3 : Int32))), .val (.ref a_LESS_THAN), .val (.int (0 : Int32)), .val (.int (0 : Int32))] [(.int (1 : Int32))]))
      refine own_via (fun _ q => XS.goto X8.here hx rfl (pc0 := 163) (pc' := 167) rfl (hb hby at_163) (by decide) (by decide) q) ?_
      show own_Goes p e s below _ _ _ (T8.setTop (mkF m 167 #[.val (.int p1), .val (.int p2), .val (.int (p1 &&& (3 : Int32))), .val (.ref a_LESS_THAN), .val (.int (0 : Int32)), .val (.int (0 : Int32))] [(.int (1 : Int32))]))
      exact own_retN X8 hx (t := .boolean) hret (by simp) hlk (hb hby at_167) (by decide) (by decide) ⟨rfl, N8⟩
  · refine own_via (fun _ q => XS.ifYes X0.here hx rfl (pc0 := 5) (pc' := 15) rfl (hb hby at_5) rfl (XT.i0_ne_t hk5_1) (by decide) (by decide) q) ?_
    show own_Goes p e s below _ _ _ (s₁.setTop (mkF m 15 #[.val (.int p1), .val (.int p2), .val (.int (p1 &&& (3 : Int32))), .unset, .unset, .unset] []))
    refine own_via (fun _ q => XS.iloadN X0.here hx rfl (hb hby at_15) rfl q) ?_
    show own_Goes p e s below _ _ _ (s₁.setTop (mkF m 16 #[.val (.int p1), .val (.int p2), .val (.int (p1 &&& (3 : Int32))), .unset, .unset, .unset] [(.int (p1 &&& (3 : Int32)))]))
    refine own_via (fun _ q => XT.iconstV X0.here hx rfl (1 : Int32) (hb hby at_16) rfl q) ?_
    show own_Goes p e s below _ _ _ (s₁.setTop (mkF m 17 #[.val (.int p1), .val (.int p2), .val (.int (p1 &&& (3 : Int32))), .unset, .unset, .unset] [(.int (1 : Int32)), (.int (p1 &&& (3 : Int32)))]))
    by_cases hk17_9 : (p1 &&& (3 : Int32)) = (1 : Int32)
    · refine own_via (fun _ q => XS.icmpNo X0.here hx rfl (hb hby at_17) rfl (XT.ii_ne_f hk17_9) q) ?_
      show own_Goes p e s below _ _ _ (s₁.setTop (mkF m 20 #[.val (.int p1), .val (.int p2), .val (.int (p1 &&& (3 : Int32))), .unset, .unset, .unset] []))
      obtain ⟨T10, X10, e10, st10⟩ := getS2 X0 hx hZ hown (host := "") (Or.inl (hw _ (List.mem_of_getElem? (i := 19) rfl))) Via.refl e0 S_LESS_THAN_OR_EQUAL (g := (mkF m 20 #[.val (.int p1), .val (.int p2), .val (.int (p1 &&& (3 : Int32))), .unset, .unset, .unset] [])) rfl (hb hby at_20)
      refine own_via st10 ?_
      show own_Goes p e s below _ _ _ (T10.setTop (mkF m 23 #[.val (.int p1), .val (.int p2), .val (.int (p1 &&& (3 : Int32))), .unset, .unset, .unset] [(.ref a_LESS_THAN_OR_EQUAL)]))
      refine own_via (fun _ q => XS.astoreN X10.here hx rfl (hb hby at_23) rfl rfl (l' := #[.val (.int p1), .val (.int p2), .val (.int (p1 &&& (3 : Int32))), .val (.ref a_LESS_THAN_OR_EQUAL), .unset, .unset]) rfl q) ?_
      show own_Goes p e s below _ _ _ (T10.setTop (mkF m 24 #[.val (.int p1), .val (.int p2), .val (.int (p1 &&& (3 : Int32))), .val (.ref a_LESS_THAN_OR_EQUAL), .unset, .unset] []))
      refine own_via (fun _ q => XS.goto X10.here hx rfl (pc0 := 24) (pc' := 43) rfl (hb hby at_24) (by decide) (by decide) q) ?_
      show own_Goes p e s below _ _ _ (T10.setTop (mkF m 43 #[.val (.int p1), .val (.int p2), .val (.int (p1 &&& (3 : Int32))), .val (.ref a_LESS_THAN_OR_EQUAL), .unset, .unset] []))
      refine own_via (fun _ q => XS.iloadN X10.here hx rfl (hb hby at_43) rfl q) ?_
      show own_Goes p e s below _ _ _ (T10.setTop (mkF m 44 #[.val (.int p1), .val (.int p2), .val (.int (p1 &&& (3 : Int32))), .val (.ref a_LESS_THAN_OR_EQUAL), .unset, .unset] [(.int p2)]))
      rcases own_tri p2 with ⟨hkp, hkm⟩ | ⟨hkp, hkm⟩ | ⟨hkp, hkm⟩
      · show own_Goes p e s below _ _ _ (T10.setTop (mkF m 44 #[.val (.int p1), .val (.int p2), .val (.int (p1 &&& (3 : Int32))), .val (.ref a_LESS_THAN_OR_EQUAL), .unset, .unset] [(.int p2)]))
        refine own_via (fun _ q => XS.ifNo X10.here hx rfl (hb hby at_44) rfl (XT.i0_le_f hkp) q) ?_
        show own_Goes p e s below _ _ _ (T10.setTop (mkF m 47 #[.val (.int p1), .val (.int p2), .val (.int (p1 &&& (3 : Int32))), .val (.ref a_LESS_THAN_OR_EQUAL), .unset, .unset] []))
        refine own_via (fun _ q => XT.iconstV X10.here hx rfl (1 : Int32) (hb hby at_47) rfl q) ?_
        show own_Goes p e s below _ _ _ (T10.setTop (mkF m 48 #[.val (.int p1), .val (.int p2), .val (.int (p1 &&& (3 : Int32))), .val (.ref a_LESS_THAN_OR_EQUAL), .unset, .unset] [(.int (1 : Int32))]))
        refine own_via (fun _ q => XS.istore X10.here hx rfl (hb hby at_48) rfl (l' := #[.val (.int p1), .val (.int p2), .val (.int (p1 &&& (3 : Int32))), .val (.ref a_LESS_THAN_OR_EQUAL), .val (.int (1 : Int32)), .unset]) rfl q) ?_
        show own_Goes p e s below _ _ _ (T10.setTop (mkF m 50 #[.val (.int p1), .val (.int p2), .val (.int (p1 &&& (3 : Int32))), .val (.ref a_LESS_THAN_OR_EQUAL), .val (.int (1 : Int32)), .unset] []))
        refine own_via (fun _ q => XS.goto X10.here hx rfl (pc0 := 50) (pc' := 66) rfl (hb hby at_50) (by decide) (by decide) q) ?_
        show own_Goes p e s below _ _ _ (T10.setTop (mkF m 66 #[.val (.int p1), .val (.int p2), .val (.int (p1 &&& (3 : Int32))), .val (.ref a_LESS_THAN_OR_EQUAL), .val (.int (1 : Int32)), .unset] []))
        refine own_via (fun _ q => XS.iloadN X10.here hx rfl (hb hby at_66) rfl q) ?_
        show own_Goes p e s below _ _ _ (T10.setTop (mkF m 67 #[.val (.int p1), .val (.int p2), .val (.int (p1 &&& (3 : Int32))), .val (.ref a_LESS_THAN_OR_EQUAL), .val (.int (1 : Int32)), .unset] [(.int (p1 &&& (3 : Int32)))]))
        refine own_via (fun _ q => XS.ifYes X10.here hx rfl (pc0 := 67) (pc' := 86) rfl (hb hby at_67) rfl (XT.i0_ne_t hk5_1) (by decide) (by decide) q) ?_
        show own_Goes p e s below _ _ _ (T10.setTop (mkF m 86 #[.val (.int p1), .val (.int p2), .val (.int (p1 &&& (3 : Int32))), .val (.ref a_LESS_THAN_OR_EQUAL), .val (.int (1 : Int32)), .unset] []))
        refine own_via (fun _ q => XS.iloadN X10.here hx rfl (hb hby at_86) rfl q) ?_
        show own_Goes p e s below _ _ _ (T10.setTop (mkF m 87 #[.val (.int p1), .val (.int p2), .val (.int (p1 &&& (3 : Int32))), .val (.ref a_LESS_THAN_OR_EQUAL), .val (.int (1 : Int32)), .unset] [(.int (p1 &&& (3 : Int32)))]))
        refine own_via (fun _ q => XT.iconstV X10.here hx rfl (1 : Int32) (hb hby at_87) rfl q) ?_
        show own_Goes p e s below _ _ _ (T10.setTop (mkF m 88 #[.val (.int p1), .val (.int p2), .val (.int (p1 &&& (3 : Int32))), .val (.ref a_LESS_THAN_OR_EQUAL), .val (.int (1 : Int32)), .unset] [(.int (1 : Int32)), (.int (p1 &&& (3 : Int32)))]))
        refine own_via (fun _ q => XS.icmpNo X10.here hx rfl (hb hby at_88) rfl (XT.ii_ne_f hk17_9) q) ?_
        show own_Goes p e s below _ _ _ (T10.setTop (mkF m 91 #[.val (.int p1), .val (.int p2), .val (.int (p1 &&& (3 : Int32))), .val (.ref a_LESS_THAN_OR_EQUAL), .val (.int (1 : Int32)), .unset] []))
        refine own_via (fun _ q => XS.iload X10.here hx rfl (hb hby at_91) rfl q) ?_
        show own_Goes p e s below _ _ _ (T10.setTop (mkF m 93 #[.val (.int p1), .val (.int p2), .val (.int (p1 &&& (3 : Int32))), .val (.ref a_LESS_THAN_OR_EQUAL), .val (.int (1 : Int32)), .unset] [(.int (1 : Int32))]))
        refine own_via (fun _ q => XT.iconstV X10.here hx rfl (1 : Int32) (hb hby at_93) rfl q) ?_
        show own_Goes p e s below _ _ _ (T10.setTop (mkF m 94 #[.val (.int p1), .val (.int p2), .val (.int (p1 &&& (3 : Int32))), .val (.ref a_LESS_THAN_OR_EQUAL), .val (.int (1 : Int32)), .unset] [(.int (1 : Int32)), (.int (1 : Int32))]))
        refine own_via (fun _ q => XS.icmpYes X10.here hx rfl (pc0 := 94) (pc' := 101) rfl (hb hby at_94) rfl (XT.ii_eq_t (by decide)) (by decide) (by decide) q) ?_
        show own_Goes p e s below _ _ _ (T10.setTop (mkF m 101 #[.val (.int p1), .val (.int p2), .val (.int (p1 &&& (3 : Int32))), .val (.ref a_LESS_THAN_OR_EQUAL), .val (.int (1 : Int32)), .unset] []))
        refine own_via (fun _ q => XT.iconstV X10.here hx rfl (0 : Int32) (hb hby at_101) rfl q) ?_
        show own_Goes p e s below _ _ _ (T10.setTop (mkF m 102 #[.val (.int p1), .val (.int p2), .val (.int (p1 &&& (3 : Int32))), .val (.ref a_LESS_THAN_OR_EQUAL), .val (.int (1 : Int32)), .unset] [(.int (0 : Int32))]))
        refine own_via (fun _ q => XS.istore X10.here hx rfl (hb hby at_102) rfl (l' := #[.val (.int p1), .val (.int p2), .val (.int (p1 &&& (3 : Int32))), .val (.ref a_LESS_THAN_OR_EQUAL), .val (.int (1 : Int32)), .val (.int (0 : Int32))]) rfl q) ?_
        show own_Goes p e s below _ _ _ (T10.setTop (mkF m 104 #[.val (.int p1), .val (.int p2), .val (.int (p1 &&& (3 : Int32))), .val (.ref a_LESS_THAN_OR_EQUAL), .val (.int (1 : Int32)), .val (.int (0 : Int32))] []))
        refine own_via (fun _ q => XS.goto X10.here hx rfl (pc0 := 104) (pc' := 141) rfl (hb hby at_104) (by decide) (by decide) q) ?_
        show own_Goes p e s below _ _ _ (T10.setTop (mkF m 141 #[.val (.int p1), .val (.int p2), .val (.int (p1 &&& (3 : Int32))), .val (.ref a_LESS_THAN_OR_EQUAL), .val (.int (1 : Int32)), .val (.int (0 : Int32))] []))
        refine own_via (fun _ q => XS.aloadN X10.here hx rfl (hb hby at_141) rfl rfl q) ?_
        show own_Goes p e s below _ _ _ (T10.setTop (mkF m 142 #[.val (.int p1), .val (.int p2), .val (.int (p1 &&& (3 : Int32))), .val (.ref a_LESS_THAN_OR_EQUAL), .val (.int (1 : Int32)), .val (.int (0 : Int32))] [(.ref a_LESS_THAN_OR_EQUAL)]))
        refine own_via (fun _ q => XS.iloadN X10.here hx rfl (hb hby at_142) rfl q) ?_
        show own_Goes p e s below _ _ _ (T10.setTop (mkF m 143 #[.val (.int p1), .val (.int p2), .val (.int (p1 &&& (3 : Int32))), .val (.ref a_LESS_THAN_OR_EQUAL), .val (.int (1 : Int32)), .val (.int (0 : Int32))] [(.int p2), (.ref a_LESS_THAN_OR_EQUAL)]))
        obtain ⟨cq11, kq11, q11a, q11b, q11c⟩ := isOf hZ e10 E_LESS_THAN_OR_EQUAL
        obtain ⟨_, _, ⟨T11, L11, k11, n11⟩, -, X11, ⟨Lc11, hQ11, l11, y11, z11⟩, st11⟩ := X10.virtualBack hx (y := (⟨"com/example/uppslag/uppslag/query/Condition$Comparison$Operator", "holds", "(I)Z"⟩ : MethodName)) (z := (⟨"com/example/uppslag/uppslag/query/Condition$Comparison$Operator", "holds", "(I)Z"⟩ : MethodName)) hown (mvT hZ (hw _ (List.mem_of_getElem? (i := 3) rfl))) (mvT hZ (hw _ (List.mem_of_getElem? (i := 4) rfl))) (notFace_of_selects (args := #[]) (mvT hZ (hw _ (List.mem_of_getElem? (i := 6) rfl)))) (mvT hZ (hw _ (List.mem_of_getElem? (i := 6) rfl))) (mvT hZ (hw _ (List.mem_of_getElem? (i := 5) rfl))) (by decide) (backOf (W := 0) (rmh1 l Z a0 hw [] a_LESS_THAN_OR_EQUAL p2 (0 : Int32) h0 n0 E_LESS_THAN_OR_EQUAL F_LESS_THAN_OR_EQUAL (by simp [hkp, hkm])) hZ (hw _ (List.mem_of_getElem? (i := 7) rfl)) (hw _ (List.mem_of_getElem? (i := 1) rfl)) (by decide) (by decide)) q11a q11c (g := (mkF m 143 #[.val (.int p1), .val (.int p2), .val (.int (p1 &&& (3 : Int32))), .val (.ref a_LESS_THAN_OR_EQUAL), .val (.int (1 : Int32)), .val (.int (0 : Int32))] [(.int p2), (.ref a_LESS_THAN_OR_EQUAL)])) rfl (by rw [hml]; rfl) (Steps.refl _) (argsL := [(.int p2)]) (rest := []) (lenOf pd__I_Z rfl) rfl (by show 2 * 0 + _ ≤ _; exact Nat.le_of_eq rfl) (hb hby at_143) (fun _ _ => ⟨rfl, e10, (by decide : 0 + 0 ≤ _), (by decide : 0 + 0 ≤ _)⟩)
        dsimp only [Pt.U, Pt.locs, Pt.cells, Pt.slots] at X11 l11 y11 z11 st11 hQ11
        subst l11 y11 z11
        obtain ⟨rfl, N11q, e11⟩ := hQ11
        have N11 := Fr.app (Fr.nil n0) N11q
        refine own_on st11 ?_
        show own_Goes p e s below _ _ _ (T11.setTop (mkF m 146 #[.val (.int p1), .val (.int p2), .val (.int (p1 &&& (3 : Int32))), .val (.ref a_LESS_THAN_OR_EQUAL), .val (.int (1 : Int32)), .val (.int (0 : Int32))] [(.int (0 : Int32))]))
        refine own_via (fun _ q => XS.iload X11.here hx rfl (hb hby at_146) rfl q) ?_
        show own_Goes p e s below _ _ _ (T11.setTop (mkF m 148 #[.val (.int p1), .val (.int p2), .val (.int (p1 &&& (3 : Int32))), .val (.ref a_LESS_THAN_OR_EQUAL), .val (.int (1 : Int32)), .val (.int (0 : Int32))] [(.int (0 : Int32)), (.int (0 : Int32))]))
        refine own_via (fun _ q => XS.icmpNo X11.here hx rfl (hb hby at_148) rfl (XT.ii_ne_f (by decide)) q) ?_
        show own_Goes p e s below _ _ _ (T11.setTop (mkF m 151 #[.val (.int p1), .val (.int p2), .val (.int (p1 &&& (3 : Int32))), .val (.ref a_LESS_THAN_OR_EQUAL), .val (.int (1 : Int32)), .val (.int (0 : Int32))] []))
        refine own_via (fun _ q => XS.aloadN X11.here hx rfl (hb hby at_151) rfl rfl q) ?_
        show own_Goes p e s below _ _ _ (T11.setTop (mkF m 152 #[.val (.int p1), .val (.int p2), .val (.int (p1 &&& (3 : Int32))), .val (.ref a_LESS_THAN_OR_EQUAL), .val (.int (1 : Int32)), .val (.int (0 : Int32))] [(.ref a_LESS_THAN_OR_EQUAL)]))
        refine own_via (fun _ q => XS.iload X11.here hx rfl (hb hby at_152) rfl q) ?_
        show own_Goes p e s below _ _ _ (T11.setTop (mkF m 154 #[.val (.int p1), .val (.int p2), .val (.int (p1 &&& (3 : Int32))), .val (.ref a_LESS_THAN_OR_EQUAL), .val (.int (1 : Int32)), .val (.int (0 : Int32))] [(.int (1 : Int32)), (.ref a_LESS_THAN_OR_EQUAL)]))
        obtain ⟨cq12, kq12, q12a, q12b, q12c⟩ := isOf hZ e11 E_LESS_THAN_OR_EQUAL
        obtain ⟨_, _, ⟨T12, L12, k12, n12⟩, -, X12, ⟨Lc12, hQ12, l12, y12, z12⟩, st12⟩ := X11.virtualBack hx (y := (⟨"com/example/uppslag/uppslag/query/Condition$Comparison$Operator", "holds", "(I)Z"⟩ : MethodName)) (z := (⟨"com/example/uppslag/uppslag/query/Condition$Comparison$Operator", "holds", "(I)Z"⟩ : MethodName)) hown (mvT hZ (hw _ (List.mem_of_getElem? (i := 3) rfl))) (mvT hZ (hw _ (List.mem_of_getElem? (i := 4) rfl))) (notFace_of_selects (args := #[]) (mvT hZ (hw _ (List.mem_of_getElem? (i := 6) rfl)))) (mvT hZ (hw _ (List.mem_of_getElem? (i := 6) rfl))) (mvT hZ (hw _ (List.mem_of_getElem? (i := 5) rfl))) (by decide) (backOf (W := 0) (rmh1 l Z a0 hw [] a_LESS_THAN_OR_EQUAL (1 : Int32) (0 : Int32) h0 n0 E_LESS_THAN_OR_EQUAL F_LESS_THAN_OR_EQUAL (by decide)) hZ (hw _ (List.mem_of_getElem? (i := 7) rfl)) (hw _ (List.mem_of_getElem? (i := 1) rfl)) (by decide) (by decide)) q12a q12c (g := (mkF m 154 #[.val (.int p1), .val (.int p2), .val (.int (p1 &&& (3 : Int32))), .val (.ref a_LESS_THAN_OR_EQUAL), .val (.int (1 : Int32)), .val (.int (0 : Int32))] [(.int (1 : Int32)), (.ref a_LESS_THAN_OR_EQUAL)])) rfl (by rw [hml]; rfl) (Steps.refl _) (argsL := [(.int (1 : Int32))]) (rest := []) (lenOf pd__I_Z rfl) rfl (by show 2 * 0 + _ ≤ _; exact Nat.le_of_eq rfl) (hb hby at_154) (fun _ _ => ⟨rfl, e11, (by decide : 0 + 0 ≤ _), (by decide : 0 + 0 ≤ _)⟩)
        dsimp only [Pt.U, Pt.locs, Pt.cells, Pt.slots] at X12 l12 y12 z12 st12 hQ12
        subst l12 y12 z12
        obtain ⟨rfl, N12q, e12⟩ := hQ12
        have N12 := Fr.app N11 N12q
        refine own_on st12 ?_
        show own_Goes p e s below _ _ _ (T12.setTop (mkF m 157 #[.val (.int p1), .val (.int p2), .val (.int (p1 &&& (3 : Int32))), .val (.ref a_LESS_THAN_OR_EQUAL), .val (.int (1 : Int32)), .val (.int (0 : Int32))] [(.int (0 : Int32))]))
        refine own_via (fun _ q => XS.iload X12.here hx rfl (hb hby at_157) rfl q) ?_
        show own_Goes p e s below _ _ _ (T12.setTop (mkF m 159 #[.val (.int p1), .val (.int p2), .val (.int (p1 &&& (3 : Int32))), .val (.ref a_LESS_THAN_OR_EQUAL), .val (.int (1 : Int32)), .val (.int (0 : Int32))] [(.int (0 : Int32)), (.int (0 : Int32))]))
        refine own_via (fun _ q => XS.icmpNo X12.here hx rfl (hb hby at_159) rfl (XT.ii_ne_f (by decide)) q) ?_
        show own_Goes p e s below _ _ _ (T12.setTop (mkF m 162 #[.val (.int p1), .val (.int p2), .val (.int (p1 &&& (3 : Int32))), .val (.ref a_LESS_THAN_OR_EQUAL), .val (.int (1 : Int32)), .val (.int (0 : Int32))] []))
        refine own_via (fun _ q => XT.iconstV X12.here hx rfl (1 : Int32) (hb hby at_162) rfl q) ?_
        show own_Goes p e s below _ _ _ (T12.setTop (mkF m 163 #[.val (.int p1), .val (.int p2), .val (.int (p1 &&& (3 : Int32))), .val (.ref a_LESS_THAN_OR_EQUAL), .val (.int (1 : Int32)), .val (.int (0 : Int32))] [(.int (1 : Int32))]))
        refine own_via (fun _ q => XS.goto X12.here hx rfl (pc0 := 163) (pc' := 167) rfl (hb hby at_163) (by decide) (by decide) q) ?_
        show own_Goes p e s below _ _ _ (T12.setTop (mkF m 167 #[.val (.int p1), .val (.int p2), .val (.int (p1 &&& (3 : Int32))), .val (.ref a_LESS_THAN_OR_EQUAL), .val (.int (1 : Int32)), .val (.int (0 : Int32))] [(.int (1 : Int32))]))
        exact own_retN X12 hx (t := .boolean) hret (by simp) hlk (hb hby at_167) (by decide) (by decide) ⟨rfl, N12⟩
      · show own_Goes p e s below _ _ _ (T10.setTop (mkF m 44 #[.val (.int p1), .val (.int p2), .val (.int (p1 &&& (3 : Int32))), .val (.ref a_LESS_THAN_OR_EQUAL), .unset, .unset] [(.int p2)]))
        refine own_via (fun _ q => XS.ifYes X10.here hx rfl (pc0 := 44) (pc' := 53) rfl (hb hby at_44) rfl (XT.i0_le_t hkp) (by decide) (by decide) q) ?_
        show own_Goes p e s below _ _ _ (T10.setTop (mkF m 53 #[.val (.int p1), .val (.int p2), .val (.int (p1 &&& (3 : Int32))), .val (.ref a_LESS_THAN_OR_EQUAL), .unset, .unset] []))
        refine own_via (fun _ q => XS.iloadN X10.here hx rfl (hb hby at_53) rfl q) ?_
        show own_Goes p e s below _ _ _ (T10.setTop (mkF m 54 #[.val (.int p1), .val (.int p2), .val (.int (p1 &&& (3 : Int32))), .val (.ref a_LESS_THAN_OR_EQUAL), .unset, .unset] [(.int p2)]))
        refine own_via (fun _ q => XS.ifNo X10.here hx rfl (hb hby at_54) rfl (XT.i0_ge_f hkm) q) ?_
        show own_Goes p e s below _ _ _ (T10.setTop (mkF m 57 #[.val (.int p1), .val (.int p2), .val (.int (p1 &&& (3 : Int32))), .val (.ref a_LESS_THAN_OR_EQUAL), .unset, .unset] []))
        refine own_via (fun _ q => XT.iconstV X10.here hx rfl (-1 : Int32) (hb hby at_57) rfl q) ?_
        show own_Goes p e s below _ _ _ (T10.setTop (mkF m 58 #[.val (.int p1), .val (.int p2), .val (.int (p1 &&& (3 : Int32))), .val (.ref a_LESS_THAN_OR_EQUAL), .unset, .unset] [(.int (-1 : Int32))]))
        refine own_via (fun _ q => XS.istore X10.here hx rfl (hb hby at_58) rfl (l' := #[.val (.int p1), .val (.int p2), .val (.int (p1 &&& (3 : Int32))), .val (.ref a_LESS_THAN_OR_EQUAL), .val (.int (-1 : Int32)), .unset]) rfl q) ?_
        show own_Goes p e s below _ _ _ (T10.setTop (mkF m 60 #[.val (.int p1), .val (.int p2), .val (.int (p1 &&& (3 : Int32))), .val (.ref a_LESS_THAN_OR_EQUAL), .val (.int (-1 : Int32)), .unset] []))
        refine own_via (fun _ q => XS.goto X10.here hx rfl (pc0 := 60) (pc' := 66) rfl (hb hby at_60) (by decide) (by decide) q) ?_
        show own_Goes p e s below _ _ _ (T10.setTop (mkF m 66 #[.val (.int p1), .val (.int p2), .val (.int (p1 &&& (3 : Int32))), .val (.ref a_LESS_THAN_OR_EQUAL), .val (.int (-1 : Int32)), .unset] []))
        refine own_via (fun _ q => XS.iloadN X10.here hx rfl (hb hby at_66) rfl q) ?_
        show own_Goes p e s below _ _ _ (T10.setTop (mkF m 67 #[.val (.int p1), .val (.int p2), .val (.int (p1 &&& (3 : Int32))), .val (.ref a_LESS_THAN_OR_EQUAL), .val (.int (-1 : Int32)), .unset] [(.int (p1 &&& (3 : Int32)))]))
        refine own_via (fun _ q => XS.ifYes X10.here hx rfl (pc0 := 67) (pc' := 86) rfl (hb hby at_67) rfl (XT.i0_ne_t hk5_1) (by decide) (by decide) q) ?_
        show own_Goes p e s below _ _ _ (T10.setTop (mkF m 86 #[.val (.int p1), .val (.int p2), .val (.int (p1 &&& (3 : Int32))), .val (.ref a_LESS_THAN_OR_EQUAL), .val (.int (-1 : Int32)), .unset] []))
        refine own_via (fun _ q => XS.iloadN X10.here hx rfl (hb hby at_86) rfl q) ?_
        show own_Goes p e s below _ _ _ (T10.setTop (mkF m 87 #[.val (.int p1), .val (.int p2), .val (.int (p1 &&& (3 : Int32))), .val (.ref a_LESS_THAN_OR_EQUAL), .val (.int (-1 : Int32)), .unset] [(.int (p1 &&& (3 : Int32)))]))
        refine own_via (fun _ q => XT.iconstV X10.here hx rfl (1 : Int32) (hb hby at_87) rfl q) ?_
        show own_Goes p e s below _ _ _ (T10.setTop (mkF m 88 #[.val (.int p1), .val (.int p2), .val (.int (p1 &&& (3 : Int32))), .val (.ref a_LESS_THAN_OR_EQUAL), .val (.int (-1 : Int32)), .unset] [(.int (1 : Int32)), (.int (p1 &&& (3 : Int32)))]))
        refine own_via (fun _ q => XS.icmpNo X10.here hx rfl (hb hby at_88) rfl (XT.ii_ne_f hk17_9) q) ?_
        show own_Goes p e s below _ _ _ (T10.setTop (mkF m 91 #[.val (.int p1), .val (.int p2), .val (.int (p1 &&& (3 : Int32))), .val (.ref a_LESS_THAN_OR_EQUAL), .val (.int (-1 : Int32)), .unset] []))
        refine own_via (fun _ q => XS.iload X10.here hx rfl (hb hby at_91) rfl q) ?_
        show own_Goes p e s below _ _ _ (T10.setTop (mkF m 93 #[.val (.int p1), .val (.int p2), .val (.int (p1 &&& (3 : Int32))), .val (.ref a_LESS_THAN_OR_EQUAL), .val (.int (-1 : Int32)), .unset] [(.int (-1 : Int32))]))
        refine own_via (fun _ q => XT.iconstV X10.here hx rfl (1 : Int32) (hb hby at_93) rfl q) ?_
        show own_Goes p e s below _ _ _ (T10.setTop (mkF m 94 #[.val (.int p1), .val (.int p2), .val (.int (p1 &&& (3 : Int32))), .val (.ref a_LESS_THAN_OR_EQUAL), .val (.int (-1 : Int32)), .unset] [(.int (1 : Int32)), (.int (-1 : Int32))]))
        refine own_via (fun _ q => XS.icmpNo X10.here hx rfl (hb hby at_94) rfl (XT.ii_eq_f (by decide)) q) ?_
        show own_Goes p e s below _ _ _ (T10.setTop (mkF m 97 #[.val (.int p1), .val (.int p2), .val (.int (p1 &&& (3 : Int32))), .val (.ref a_LESS_THAN_OR_EQUAL), .val (.int (-1 : Int32)), .unset] []))
        refine own_via (fun _ q => XT.iconstV X10.here hx rfl (1 : Int32) (hb hby at_97) rfl q) ?_
        show own_Goes p e s below _ _ _ (T10.setTop (mkF m 98 #[.val (.int p1), .val (.int p2), .val (.int (p1 &&& (3 : Int32))), .val (.ref a_LESS_THAN_OR_EQUAL), .val (.int (-1 : Int32)), .unset] [(.int (1 : Int32))]))
        refine own_via (fun _ q => XS.goto X10.here hx rfl (pc0 := 98) (pc' := 102) rfl (hb hby at_98) (by decide) (by decide) q) ?_
        show own_Goes p e s below _ _ _ (T10.setTop (mkF m 102 #[.val (.int p1), .val (.int p2), .val (.int (p1 &&& (3 : Int32))), .val (.ref a_LESS_THAN_OR_EQUAL), .val (.int (-1 : Int32)), .unset] [(.int (1 : Int32))]))
        refine own_via (fun _ q => XS.istore X10.here hx rfl (hb hby at_102) rfl (l' := #[.val (.int p1), .val (.int p2), .val (.int (p1 &&& (3 : Int32))), .val (.ref a_LESS_THAN_OR_EQUAL), .val (.int (-1 : Int32)), .val (.int (1 : Int32))]) rfl q) ?_
        show own_Goes p e s below _ _ _ (T10.setTop (mkF m 104 #[.val (.int p1), .val (.int p2), .val (.int (p1 &&& (3 : Int32))), .val (.ref a_LESS_THAN_OR_EQUAL), .val (.int (-1 : Int32)), .val (.int (1 : Int32))] []))
        refine own_via (fun _ q => XS.goto X10.here hx rfl (pc0 := 104) (pc' := 141) rfl (hb hby at_104) (by decide) (by decide) q) ?_
        show own_Goes p e s below _ _ _ (T10.setTop (mkF m 141 #[.val (.int p1), .val (.int p2), .val (.int (p1 &&& (3 : Int32))), .val (.ref a_LESS_THAN_OR_EQUAL), .val (.int (-1 : Int32)), .val (.int (1 : Int32))] []))
        refine own_via (fun _ q => XS.aloadN X10.here hx rfl (hb hby at_141) rfl rfl q) ?_
        show own_Goes p e s below _ _ _ (T10.setTop (mkF m 142 #[.val (.int p1), .val (.int p2), .val (.int (p1 &&& (3 : Int32))), .val (.ref a_LESS_THAN_OR_EQUAL), .val (.int (-1 : Int32)), .val (.int (1 : Int32))] [(.ref a_LESS_THAN_OR_EQUAL)]))
        refine own_via (fun _ q => XS.iloadN X10.here hx rfl (hb hby at_142) rfl q) ?_
        show own_Goes p e s below _ _ _ (T10.setTop (mkF m 143 #[.val (.int p1), .val (.int p2), .val (.int (p1 &&& (3 : Int32))), .val (.ref a_LESS_THAN_OR_EQUAL), .val (.int (-1 : Int32)), .val (.int (1 : Int32))] [(.int p2), (.ref a_LESS_THAN_OR_EQUAL)]))
        obtain ⟨cq13, kq13, q13a, q13b, q13c⟩ := isOf hZ e10 E_LESS_THAN_OR_EQUAL
        obtain ⟨_, _, ⟨T13, L13, k13, n13⟩, -, X13, ⟨Lc13, hQ13, l13, y13, z13⟩, st13⟩ := X10.virtualBack hx (y := (⟨"com/example/uppslag/uppslag/query/Condition$Comparison$Operator", "holds", "(I)Z"⟩ : MethodName)) (z := (⟨"com/example/uppslag/uppslag/query/Condition$Comparison$Operator", "holds", "(I)Z"⟩ : MethodName)) hown (mvT hZ (hw _ (List.mem_of_getElem? (i := 3) rfl))) (mvT hZ (hw _ (List.mem_of_getElem? (i := 4) rfl))) (notFace_of_selects (args := #[]) (mvT hZ (hw _ (List.mem_of_getElem? (i := 6) rfl)))) (mvT hZ (hw _ (List.mem_of_getElem? (i := 6) rfl))) (mvT hZ (hw _ (List.mem_of_getElem? (i := 5) rfl))) (by decide) (backOf (W := 0) (rmh1 l Z a0 hw [] a_LESS_THAN_OR_EQUAL p2 (1 : Int32) h0 n0 E_LESS_THAN_OR_EQUAL F_LESS_THAN_OR_EQUAL (by simp [hkp, hkm])) hZ (hw _ (List.mem_of_getElem? (i := 7) rfl)) (hw _ (List.mem_of_getElem? (i := 1) rfl)) (by decide) (by decide)) q13a q13c (g := (mkF m 143 #[.val (.int p1), .val (.int p2), .val (.int (p1 &&& (3 : Int32))), .val (.ref a_LESS_THAN_OR_EQUAL), .val (.int (-1 : Int32)), .val (.int (1 : Int32))] [(.int p2), (.ref a_LESS_THAN_OR_EQUAL)])) rfl (by rw [hml]; rfl) (Steps.refl _) (argsL := [(.int p2)]) (rest := []) (lenOf pd__I_Z rfl) rfl (by show 2 * 0 + _ ≤ _; exact Nat.le_of_eq rfl) (hb hby at_143) (fun _ _ => ⟨rfl, e10, (by decide : 0 + 0 ≤ _), (by decide : 0 + 0 ≤ _)⟩)
        dsimp only [Pt.U, Pt.locs, Pt.cells, Pt.slots] at X13 l13 y13 z13 st13 hQ13
        subst l13 y13 z13
        obtain ⟨rfl, N13q, e13⟩ := hQ13
        have N13 := Fr.app (Fr.nil n0) N13q
        refine own_on st13 ?_
        show own_Goes p e s below _ _ _ (T13.setTop (mkF m 146 #[.val (.int p1), .val (.int p2), .val (.int (p1 &&& (3 : Int32))), .val (.ref a_LESS_THAN_OR_EQUAL), .val (.int (-1 : Int32)), .val (.int (1 : Int32))] [(.int (1 : Int32))]))
        refine own_via (fun _ q => XS.iload X13.here hx rfl (hb hby at_146) rfl q) ?_
        show own_Goes p e s below _ _ _ (T13.setTop (mkF m 148 #[.val (.int p1), .val (.int p2), .val (.int (p1 &&& (3 : Int32))), .val (.ref a_LESS_THAN_OR_EQUAL), .val (.int (-1 : Int32)), .val (.int (1 : Int32))] [(.int (1 : Int32)), (.int (1 : Int32))]))
        refine own_via (fun _ q => XS.icmpNo X13.here hx rfl (hb hby at_148) rfl (XT.ii_ne_f (by decide)) q) ?_
        show own_Goes p e s below _ _ _ (T13.setTop (mkF m 151 #[.val (.int p1), .val (.int p2), .val (.int (p1 &&& (3 : Int32))), .val (.ref a_LESS_THAN_OR_EQUAL), .val (.int (-1 : Int32)), .val (.int (1 : Int32))] []))
        refine own_via (fun _ q => XS.aloadN X13.here hx rfl (hb hby at_151) rfl rfl q) ?_
        show own_Goes p e s below _ _ _ (T13.setTop (mkF m 152 #[.val (.int p1), .val (.int p2), .val (.int (p1 &&& (3 : Int32))), .val (.ref a_LESS_THAN_OR_EQUAL), .val (.int (-1 : Int32)), .val (.int (1 : Int32))] [(.ref a_LESS_THAN_OR_EQUAL)]))
        refine own_via (fun _ q => XS.iload X13.here hx rfl (hb hby at_152) rfl q) ?_
        show own_Goes p e s below _ _ _ (T13.setTop (mkF m 154 #[.val (.int p1), .val (.int p2), .val (.int (p1 &&& (3 : Int32))), .val (.ref a_LESS_THAN_OR_EQUAL), .val (.int (-1 : Int32)), .val (.int (1 : Int32))] [(.int (-1 : Int32)), (.ref a_LESS_THAN_OR_EQUAL)]))
        obtain ⟨cq14, kq14, q14a, q14b, q14c⟩ := isOf hZ e13 E_LESS_THAN_OR_EQUAL
        obtain ⟨_, _, ⟨T14, L14, k14, n14⟩, -, X14, ⟨Lc14, hQ14, l14, y14, z14⟩, st14⟩ := X13.virtualBack hx (y := (⟨"com/example/uppslag/uppslag/query/Condition$Comparison$Operator", "holds", "(I)Z"⟩ : MethodName)) (z := (⟨"com/example/uppslag/uppslag/query/Condition$Comparison$Operator", "holds", "(I)Z"⟩ : MethodName)) hown (mvT hZ (hw _ (List.mem_of_getElem? (i := 3) rfl))) (mvT hZ (hw _ (List.mem_of_getElem? (i := 4) rfl))) (notFace_of_selects (args := #[]) (mvT hZ (hw _ (List.mem_of_getElem? (i := 6) rfl)))) (mvT hZ (hw _ (List.mem_of_getElem? (i := 6) rfl))) (mvT hZ (hw _ (List.mem_of_getElem? (i := 5) rfl))) (by decide) (backOf (W := 0) (rmh1 l Z a0 hw [] a_LESS_THAN_OR_EQUAL (-1 : Int32) (1 : Int32) h0 n0 E_LESS_THAN_OR_EQUAL F_LESS_THAN_OR_EQUAL (by decide)) hZ (hw _ (List.mem_of_getElem? (i := 7) rfl)) (hw _ (List.mem_of_getElem? (i := 1) rfl)) (by decide) (by decide)) q14a q14c (g := (mkF m 154 #[.val (.int p1), .val (.int p2), .val (.int (p1 &&& (3 : Int32))), .val (.ref a_LESS_THAN_OR_EQUAL), .val (.int (-1 : Int32)), .val (.int (1 : Int32))] [(.int (-1 : Int32)), (.ref a_LESS_THAN_OR_EQUAL)])) rfl (by rw [hml]; rfl) (Steps.refl _) (argsL := [(.int (-1 : Int32))]) (rest := []) (lenOf pd__I_Z rfl) rfl (by show 2 * 0 + _ ≤ _; exact Nat.le_of_eq rfl) (hb hby at_154) (fun _ _ => ⟨rfl, e13, (by decide : 0 + 0 ≤ _), (by decide : 0 + 0 ≤ _)⟩)
        dsimp only [Pt.U, Pt.locs, Pt.cells, Pt.slots] at X14 l14 y14 z14 st14 hQ14
        subst l14 y14 z14
        obtain ⟨rfl, N14q, e14⟩ := hQ14
        have N14 := Fr.app N13 N14q
        refine own_on st14 ?_
        show own_Goes p e s below _ _ _ (T14.setTop (mkF m 157 #[.val (.int p1), .val (.int p2), .val (.int (p1 &&& (3 : Int32))), .val (.ref a_LESS_THAN_OR_EQUAL), .val (.int (-1 : Int32)), .val (.int (1 : Int32))] [(.int (1 : Int32))]))
        refine own_via (fun _ q => XS.iload X14.here hx rfl (hb hby at_157) rfl q) ?_
        show own_Goes p e s below _ _ _ (T14.setTop (mkF m 159 #[.val (.int p1), .val (.int p2), .val (.int (p1 &&& (3 : Int32))), .val (.ref a_LESS_THAN_OR_EQUAL), .val (.int (-1 : Int32)), .val (.int (1 : Int32))] [(.int (1 : Int32)), (.int (1 : Int32))]))
        refine own_via (fun _ q => XS.icmpNo X14.here hx rfl (hb hby at_159) rfl (XT.ii_ne_f (by decide)) q) ?_
        show own_Goes p e s below _ _ _ (T14.setTop (mkF m 162 #[.val (.int p1), .val (.int p2), .val (.int (p1 &&& (3 : Int32))), .val (.ref a_LESS_THAN_OR_EQUAL), .val (.int (-1 : Int32)), .val (.int (1 : Int32))] []))
        refine own_via (fun _ q => XT.iconstV X14.here hx rfl (1 : Int32) (hb hby at_162) rfl q) ?_
        show own_Goes p e s below _ _ _ (T14.setTop (mkF m 163 #[.val (.int p1), .val (.int p2), .val (.int (p1 &&& (3 : Int32))), .val (.ref a_LESS_THAN_OR_EQUAL), .val (.int (-1 : Int32)), .val (.int (1 : Int32))] [(.int (1 : Int32))]))
        refine own_via (fun _ q => XS.goto X14.here hx rfl (pc0 := 163) (pc' := 167) rfl (hb hby at_163) (by decide) (by decide) q) ?_
        show own_Goes p e s below _ _ _ (T14.setTop (mkF m 167 #[.val (.int p1), .val (.int p2), .val (.int (p1 &&& (3 : Int32))), .val (.ref a_LESS_THAN_OR_EQUAL), .val (.int (-1 : Int32)), .val (.int (1 : Int32))] [(.int (1 : Int32))]))
        exact own_retN X14 hx (t := .boolean) hret (by simp) hlk (hb hby at_167) (by decide) (by decide) ⟨rfl, N14⟩
      · show own_Goes p e s below _ _ _ (T10.setTop (mkF m 44 #[.val (.int p1), .val (.int p2), .val (.int (p1 &&& (3 : Int32))), .val (.ref a_LESS_THAN_OR_EQUAL), .unset, .unset] [(.int p2)]))
        refine own_via (fun _ q => XS.ifYes X10.here hx rfl (pc0 := 44) (pc' := 53) rfl (hb hby at_44) rfl (XT.i0_le_t hkp) (by decide) (by decide) q) ?_
        show own_Goes p e s below _ _ _ (T10.setTop (mkF m 53 #[.val (.int p1), .val (.int p2), .val (.int (p1 &&& (3 : Int32))), .val (.ref a_LESS_THAN_OR_EQUAL), .unset, .unset] []))
        refine own_via (fun _ q => XS.iloadN X10.here hx rfl (hb hby at_53) rfl q) ?_
        show own_Goes p e s below _ _ _ (T10.setTop (mkF m 54 #[.val (.int p1), .val (.int p2), .val (.int (p1 &&& (3 : Int32))), .val (.ref a_LESS_THAN_OR_EQUAL), .unset, .unset] [(.int p2)]))
        refine own_via (fun _ q => XS.ifYes X10.here hx rfl (pc0 := 54) (pc' := 63) rfl (hb hby at_54) rfl (XT.i0_ge_t hkm) (by decide) (by decide) q) ?_
        show own_Goes p e s below _ _ _ (T10.setTop (mkF m 63 #[.val (.int p1), .val (.int p2), .val (.int (p1 &&& (3 : Int32))), .val (.ref a_LESS_THAN_OR_EQUAL), .unset, .unset] []))
        refine own_via (fun _ q => XT.iconstV X10.here hx rfl (0 : Int32) (hb hby at_63) rfl q) ?_
        show own_Goes p e s below _ _ _ (T10.setTop (mkF m 64 #[.val (.int p1), .val (.int p2), .val (.int (p1 &&& (3 : Int32))), .val (.ref a_LESS_THAN_OR_EQUAL), .unset, .unset] [(.int (0 : Int32))]))
        refine own_via (fun _ q => XS.istore X10.here hx rfl (hb hby at_64) rfl (l' := #[.val (.int p1), .val (.int p2), .val (.int (p1 &&& (3 : Int32))), .val (.ref a_LESS_THAN_OR_EQUAL), .val (.int (0 : Int32)), .unset]) rfl q) ?_
        show own_Goes p e s below _ _ _ (T10.setTop (mkF m 66 #[.val (.int p1), .val (.int p2), .val (.int (p1 &&& (3 : Int32))), .val (.ref a_LESS_THAN_OR_EQUAL), .val (.int (0 : Int32)), .unset] []))
        refine own_via (fun _ q => XS.iloadN X10.here hx rfl (hb hby at_66) rfl q) ?_
        show own_Goes p e s below _ _ _ (T10.setTop (mkF m 67 #[.val (.int p1), .val (.int p2), .val (.int (p1 &&& (3 : Int32))), .val (.ref a_LESS_THAN_OR_EQUAL), .val (.int (0 : Int32)), .unset] [(.int (p1 &&& (3 : Int32)))]))
        refine own_via (fun _ q => XS.ifYes X10.here hx rfl (pc0 := 67) (pc' := 86) rfl (hb hby at_67) rfl (XT.i0_ne_t hk5_1) (by decide) (by decide) q) ?_
        show own_Goes p e s below _ _ _ (T10.setTop (mkF m 86 #[.val (.int p1), .val (.int p2), .val (.int (p1 &&& (3 : Int32))), .val (.ref a_LESS_THAN_OR_EQUAL), .val (.int (0 : Int32)), .unset] []))
        refine own_via (fun _ q => XS.iloadN X10.here hx rfl (hb hby at_86) rfl q) ?_
        show own_Goes p e s below _ _ _ (T10.setTop (mkF m 87 #[.val (.int p1), .val (.int p2), .val (.int (p1 &&& (3 : Int32))), .val (.ref a_LESS_THAN_OR_EQUAL), .val (.int (0 : Int32)), .unset] [(.int (p1 &&& (3 : Int32)))]))
        refine own_via (fun _ q => XT.iconstV X10.here hx rfl (1 : Int32) (hb hby at_87) rfl q) ?_
        show own_Goes p e s below _ _ _ (T10.setTop (mkF m 88 #[.val (.int p1), .val (.int p2), .val (.int (p1 &&& (3 : Int32))), .val (.ref a_LESS_THAN_OR_EQUAL), .val (.int (0 : Int32)), .unset] [(.int (1 : Int32)), (.int (p1 &&& (3 : Int32)))]))
        refine own_via (fun _ q => XS.icmpNo X10.here hx rfl (hb hby at_88) rfl (XT.ii_ne_f hk17_9) q) ?_
        show own_Goes p e s below _ _ _ (T10.setTop (mkF m 91 #[.val (.int p1), .val (.int p2), .val (.int (p1 &&& (3 : Int32))), .val (.ref a_LESS_THAN_OR_EQUAL), .val (.int (0 : Int32)), .unset] []))
        refine own_via (fun _ q => XS.iload X10.here hx rfl (hb hby at_91) rfl q) ?_
        show own_Goes p e s below _ _ _ (T10.setTop (mkF m 93 #[.val (.int p1), .val (.int p2), .val (.int (p1 &&& (3 : Int32))), .val (.ref a_LESS_THAN_OR_EQUAL), .val (.int (0 : Int32)), .unset] [(.int (0 : Int32))]))
        refine own_via (fun _ q => XT.iconstV X10.here hx rfl (1 : Int32) (hb hby at_93) rfl q) ?_
        show own_Goes p e s below _ _ _ (T10.setTop (mkF m 94 #[.val (.int p1), .val (.int p2), .val (.int (p1 &&& (3 : Int32))), .val (.ref a_LESS_THAN_OR_EQUAL), .val (.int (0 : Int32)), .unset] [(.int (1 : Int32)), (.int (0 : Int32))]))
        refine own_via (fun _ q => XS.icmpNo X10.here hx rfl (hb hby at_94) rfl (XT.ii_eq_f (by decide)) q) ?_
        show own_Goes p e s below _ _ _ (T10.setTop (mkF m 97 #[.val (.int p1), .val (.int p2), .val (.int (p1 &&& (3 : Int32))), .val (.ref a_LESS_THAN_OR_EQUAL), .val (.int (0 : Int32)), .unset] []))
        refine own_via (fun _ q => XT.iconstV X10.here hx rfl (1 : Int32) (hb hby at_97) rfl q) ?_
        show own_Goes p e s below _ _ _ (T10.setTop (mkF m 98 #[.val (.int p1), .val (.int p2), .val (.int (p1 &&& (3 : Int32))), .val (.ref a_LESS_THAN_OR_EQUAL), .val (.int (0 : Int32)), .unset] [(.int (1 : Int32))]))
        refine own_via (fun _ q => XS.goto X10.here hx rfl (pc0 := 98) (pc' := 102) rfl (hb hby at_98) (by decide) (by decide) q) ?_
        show own_Goes p e s below _ _ _ (T10.setTop (mkF m 102 #[.val (.int p1), .val (.int p2), .val (.int (p1 &&& (3 : Int32))), .val (.ref a_LESS_THAN_OR_EQUAL), .val (.int (0 : Int32)), .unset] [(.int (1 : Int32))]))
        refine own_via (fun _ q => XS.istore X10.here hx rfl (hb hby at_102) rfl (l' := #[.val (.int p1), .val (.int p2), .val (.int (p1 &&& (3 : Int32))), .val (.ref a_LESS_THAN_OR_EQUAL), .val (.int (0 : Int32)), .val (.int (1 : Int32))]) rfl q) ?_
        show own_Goes p e s below _ _ _ (T10.setTop (mkF m 104 #[.val (.int p1), .val (.int p2), .val (.int (p1 &&& (3 : Int32))), .val (.ref a_LESS_THAN_OR_EQUAL), .val (.int (0 : Int32)), .val (.int (1 : Int32))] []))
        refine own_via (fun _ q => XS.goto X10.here hx rfl (pc0 := 104) (pc' := 141) rfl (hb hby at_104) (by decide) (by decide) q) ?_
        show own_Goes p e s below _ _ _ (T10.setTop (mkF m 141 #[.val (.int p1), .val (.int p2), .val (.int (p1 &&& (3 : Int32))), .val (.ref a_LESS_THAN_OR_EQUAL), .val (.int (0 : Int32)), .val (.int (1 : Int32))] []))
        refine own_via (fun _ q => XS.aloadN X10.here hx rfl (hb hby at_141) rfl rfl q) ?_
        show own_Goes p e s below _ _ _ (T10.setTop (mkF m 142 #[.val (.int p1), .val (.int p2), .val (.int (p1 &&& (3 : Int32))), .val (.ref a_LESS_THAN_OR_EQUAL), .val (.int (0 : Int32)), .val (.int (1 : Int32))] [(.ref a_LESS_THAN_OR_EQUAL)]))
        refine own_via (fun _ q => XS.iloadN X10.here hx rfl (hb hby at_142) rfl q) ?_
        show own_Goes p e s below _ _ _ (T10.setTop (mkF m 143 #[.val (.int p1), .val (.int p2), .val (.int (p1 &&& (3 : Int32))), .val (.ref a_LESS_THAN_OR_EQUAL), .val (.int (0 : Int32)), .val (.int (1 : Int32))] [(.int p2), (.ref a_LESS_THAN_OR_EQUAL)]))
        obtain ⟨cq15, kq15, q15a, q15b, q15c⟩ := isOf hZ e10 E_LESS_THAN_OR_EQUAL
        obtain ⟨_, _, ⟨T15, L15, k15, n15⟩, -, X15, ⟨Lc15, hQ15, l15, y15, z15⟩, st15⟩ := X10.virtualBack hx (y := (⟨"com/example/uppslag/uppslag/query/Condition$Comparison$Operator", "holds", "(I)Z"⟩ : MethodName)) (z := (⟨"com/example/uppslag/uppslag/query/Condition$Comparison$Operator", "holds", "(I)Z"⟩ : MethodName)) hown (mvT hZ (hw _ (List.mem_of_getElem? (i := 3) rfl))) (mvT hZ (hw _ (List.mem_of_getElem? (i := 4) rfl))) (notFace_of_selects (args := #[]) (mvT hZ (hw _ (List.mem_of_getElem? (i := 6) rfl)))) (mvT hZ (hw _ (List.mem_of_getElem? (i := 6) rfl))) (mvT hZ (hw _ (List.mem_of_getElem? (i := 5) rfl))) (by decide) (backOf (W := 0) (rmh1 l Z a0 hw [] a_LESS_THAN_OR_EQUAL p2 (1 : Int32) h0 n0 E_LESS_THAN_OR_EQUAL F_LESS_THAN_OR_EQUAL (by simp [hkp, hkm])) hZ (hw _ (List.mem_of_getElem? (i := 7) rfl)) (hw _ (List.mem_of_getElem? (i := 1) rfl)) (by decide) (by decide)) q15a q15c (g := (mkF m 143 #[.val (.int p1), .val (.int p2), .val (.int (p1 &&& (3 : Int32))), .val (.ref a_LESS_THAN_OR_EQUAL), .val (.int (0 : Int32)), .val (.int (1 : Int32))] [(.int p2), (.ref a_LESS_THAN_OR_EQUAL)])) rfl (by rw [hml]; rfl) (Steps.refl _) (argsL := [(.int p2)]) (rest := []) (lenOf pd__I_Z rfl) rfl (by show 2 * 0 + _ ≤ _; exact Nat.le_of_eq rfl) (hb hby at_143) (fun _ _ => ⟨rfl, e10, (by decide : 0 + 0 ≤ _), (by decide : 0 + 0 ≤ _)⟩)
        dsimp only [Pt.U, Pt.locs, Pt.cells, Pt.slots] at X15 l15 y15 z15 st15 hQ15
        subst l15 y15 z15
        obtain ⟨rfl, N15q, e15⟩ := hQ15
        have N15 := Fr.app (Fr.nil n0) N15q
        refine own_on st15 ?_
        show own_Goes p e s below _ _ _ (T15.setTop (mkF m 146 #[.val (.int p1), .val (.int p2), .val (.int (p1 &&& (3 : Int32))), .val (.ref a_LESS_THAN_OR_EQUAL), .val (.int (0 : Int32)), .val (.int (1 : Int32))] [(.int (1 : Int32))]))
        refine own_via (fun _ q => XS.iload X15.here hx rfl (hb hby at_146) rfl q) ?_
        show own_Goes p e s below _ _ _ (T15.setTop (mkF m 148 #[.val (.int p1), .val (.int p2), .val (.int (p1 &&& (3 : Int32))), .val (.ref a_LESS_THAN_OR_EQUAL), .val (.int (0 : Int32)), .val (.int (1 : Int32))] [(.int (1 : Int32)), (.int (1 : Int32))]))
        refine own_via (fun _ q => XS.icmpNo X15.here hx rfl (hb hby at_148) rfl (XT.ii_ne_f (by decide)) q) ?_
        show own_Goes p e s below _ _ _ (T15.setTop (mkF m 151 #[.val (.int p1), .val (.int p2), .val (.int (p1 &&& (3 : Int32))), .val (.ref a_LESS_THAN_OR_EQUAL), .val (.int (0 : Int32)), .val (.int (1 : Int32))] []))
        refine own_via (fun _ q => XS.aloadN X15.here hx rfl (hb hby at_151) rfl rfl q) ?_
        show own_Goes p e s below _ _ _ (T15.setTop (mkF m 152 #[.val (.int p1), .val (.int p2), .val (.int (p1 &&& (3 : Int32))), .val (.ref a_LESS_THAN_OR_EQUAL), .val (.int (0 : Int32)), .val (.int (1 : Int32))] [(.ref a_LESS_THAN_OR_EQUAL)]))
        refine own_via (fun _ q => XS.iload X15.here hx rfl (hb hby at_152) rfl q) ?_
        show own_Goes p e s below _ _ _ (T15.setTop (mkF m 154 #[.val (.int p1), .val (.int p2), .val (.int (p1 &&& (3 : Int32))), .val (.ref a_LESS_THAN_OR_EQUAL), .val (.int (0 : Int32)), .val (.int (1 : Int32))] [(.int (0 : Int32)), (.ref a_LESS_THAN_OR_EQUAL)]))
        obtain ⟨cq16, kq16, q16a, q16b, q16c⟩ := isOf hZ e15 E_LESS_THAN_OR_EQUAL
        obtain ⟨_, _, ⟨T16, L16, k16, n16⟩, -, X16, ⟨Lc16, hQ16, l16, y16, z16⟩, st16⟩ := X15.virtualBack hx (y := (⟨"com/example/uppslag/uppslag/query/Condition$Comparison$Operator", "holds", "(I)Z"⟩ : MethodName)) (z := (⟨"com/example/uppslag/uppslag/query/Condition$Comparison$Operator", "holds", "(I)Z"⟩ : MethodName)) hown (mvT hZ (hw _ (List.mem_of_getElem? (i := 3) rfl))) (mvT hZ (hw _ (List.mem_of_getElem? (i := 4) rfl))) (notFace_of_selects (args := #[]) (mvT hZ (hw _ (List.mem_of_getElem? (i := 6) rfl)))) (mvT hZ (hw _ (List.mem_of_getElem? (i := 6) rfl))) (mvT hZ (hw _ (List.mem_of_getElem? (i := 5) rfl))) (by decide) (backOf (W := 0) (rmh1 l Z a0 hw [] a_LESS_THAN_OR_EQUAL (0 : Int32) (1 : Int32) h0 n0 E_LESS_THAN_OR_EQUAL F_LESS_THAN_OR_EQUAL (by decide)) hZ (hw _ (List.mem_of_getElem? (i := 7) rfl)) (hw _ (List.mem_of_getElem? (i := 1) rfl)) (by decide) (by decide)) q16a q16c (g := (mkF m 154 #[.val (.int p1), .val (.int p2), .val (.int (p1 &&& (3 : Int32))), .val (.ref a_LESS_THAN_OR_EQUAL), .val (.int (0 : Int32)), .val (.int (1 : Int32))] [(.int (0 : Int32)), (.ref a_LESS_THAN_OR_EQUAL)])) rfl (by rw [hml]; rfl) (Steps.refl _) (argsL := [(.int (0 : Int32))]) (rest := []) (lenOf pd__I_Z rfl) rfl (by show 2 * 0 + _ ≤ _; exact Nat.le_of_eq rfl) (hb hby at_154) (fun _ _ => ⟨rfl, e15, (by decide : 0 + 0 ≤ _), (by decide : 0 + 0 ≤ _)⟩)
        dsimp only [Pt.U, Pt.locs, Pt.cells, Pt.slots] at X16 l16 y16 z16 st16 hQ16
        subst l16 y16 z16
        obtain ⟨rfl, N16q, e16⟩ := hQ16
        have N16 := Fr.app N15 N16q
        refine own_on st16 ?_
        show own_Goes p e s below _ _ _ (T16.setTop (mkF m 157 #[.val (.int p1), .val (.int p2), .val (.int (p1 &&& (3 : Int32))), .val (.ref a_LESS_THAN_OR_EQUAL), .val (.int (0 : Int32)), .val (.int (1 : Int32))] [(.int (1 : Int32))]))
        refine own_via (fun _ q => XS.iload X16.here hx rfl (hb hby at_157) rfl q) ?_
        show own_Goes p e s below _ _ _ (T16.setTop (mkF m 159 #[.val (.int p1), .val (.int p2), .val (.int (p1 &&& (3 : Int32))), .val (.ref a_LESS_THAN_OR_EQUAL), .val (.int (0 : Int32)), .val (.int (1 : Int32))] [(.int (1 : Int32)), (.int (1 : Int32))]))
        refine own_via (fun _ q => XS.icmpNo X16.here hx rfl (hb hby at_159) rfl (XT.ii_ne_f (by decide)) q) ?_
        show own_Goes p e s below _ _ _ (T16.setTop (mkF m 162 #[.val (.int p1), .val (.int p2), .val (.int (p1 &&& (3 : Int32))), .val (.ref a_LESS_THAN_OR_EQUAL), .val (.int (0 : Int32)), .val (.int (1 : Int32))] []))
        refine own_via (fun _ q => XT.iconstV X16.here hx rfl (1 : Int32) (hb hby at_162) rfl q) ?_
        show own_Goes p e s below _ _ _ (T16.setTop (mkF m 163 #[.val (.int p1), .val (.int p2), .val (.int (p1 &&& (3 : Int32))), .val (.ref a_LESS_THAN_OR_EQUAL), .val (.int (0 : Int32)), .val (.int (1 : Int32))] [(.int (1 : Int32))]))
        refine own_via (fun _ q => XS.goto X16.here hx rfl (pc0 := 163) (pc' := 167) rfl (hb hby at_163) (by decide) (by decide) q) ?_
        show own_Goes p e s below _ _ _ (T16.setTop (mkF m 167 #[.val (.int p1), .val (.int p2), .val (.int (p1 &&& (3 : Int32))), .val (.ref a_LESS_THAN_OR_EQUAL), .val (.int (0 : Int32)), .val (.int (1 : Int32))] [(.int (1 : Int32))]))
        exact own_retN X16 hx (t := .boolean) hret (by simp) hlk (hb hby at_167) (by decide) (by decide) ⟨rfl, N16⟩
    · refine own_via (fun _ q => XS.icmpYes X0.here hx rfl (pc0 := 17) (pc' := 27) rfl (hb hby at_17) rfl (XT.ii_ne_t hk17_9) (by decide) (by decide) q) ?_
      show own_Goes p e s below _ _ _ (s₁.setTop (mkF m 27 #[.val (.int p1), .val (.int p2), .val (.int (p1 &&& (3 : Int32))), .unset, .unset, .unset] []))
      refine own_via (fun _ q => XS.iloadN X0.here hx rfl (hb hby at_27) rfl q) ?_
      show own_Goes p e s below _ _ _ (s₁.setTop (mkF m 28 #[.val (.int p1), .val (.int p2), .val (.int (p1 &&& (3 : Int32))), .unset, .unset, .unset] [(.int (p1 &&& (3 : Int32)))]))
      refine own_via (fun _ q => XT.iconstV X0.here hx rfl (2 : Int32) (hb hby at_28) rfl q) ?_
      show own_Goes p e s below _ _ _ (s₁.setTop (mkF m 29 #[.val (.int p1), .val (.int p2), .val (.int (p1 &&& (3 : Int32))), .unset, .unset, .unset] [(.int (2 : Int32)), (.int (p1 &&& (3 : Int32)))]))
      by_cases hk29_17 : (p1 &&& (3 : Int32)) = (2 : Int32)
      · refine own_via (fun _ q => XS.icmpNo X0.here hx rfl (hb hby at_29) rfl (XT.ii_ne_f hk29_17) q) ?_
        show own_Goes p e s below _ _ _ (s₁.setTop (mkF m 32 #[.val (.int p1), .val (.int p2), .val (.int (p1 &&& (3 : Int32))), .unset, .unset, .unset] []))
        obtain ⟨T18, X18, e18, st18⟩ := getS2 X0 hx hZ hown (host := "") (Or.inl (hw _ (List.mem_of_getElem? (i := 17) rfl))) Via.refl e0 S_GREATER_THAN (g := (mkF m 32 #[.val (.int p1), .val (.int p2), .val (.int (p1 &&& (3 : Int32))), .unset, .unset, .unset] [])) rfl (hb hby at_32)
        refine own_via st18 ?_
        show own_Goes p e s below _ _ _ (T18.setTop (mkF m 35 #[.val (.int p1), .val (.int p2), .val (.int (p1 &&& (3 : Int32))), .unset, .unset, .unset] [(.ref a_GREATER_THAN)]))
        refine own_via (fun _ q => XS.astoreN X18.here hx rfl (hb hby at_35) rfl rfl (l' := #[.val (.int p1), .val (.int p2), .val (.int (p1 &&& (3 : Int32))), .val (.ref a_GREATER_THAN), .unset, .unset]) rfl q) ?_
        show own_Goes p e s below _ _ _ (T18.setTop (mkF m 36 #[.val (.int p1), .val (.int p2), .val (.int (p1 &&& (3 : Int32))), .val (.ref a_GREATER_THAN), .unset, .unset] []))
        refine own_via (fun _ q => XS.goto X18.here hx rfl (pc0 := 36) (pc' := 43) rfl (hb hby at_36) (by decide) (by decide) q) ?_
        show own_Goes p e s below _ _ _ (T18.setTop (mkF m 43 #[.val (.int p1), .val (.int p2), .val (.int (p1 &&& (3 : Int32))), .val (.ref a_GREATER_THAN), .unset, .unset] []))
        refine own_via (fun _ q => XS.iloadN X18.here hx rfl (hb hby at_43) rfl q) ?_
        show own_Goes p e s below _ _ _ (T18.setTop (mkF m 44 #[.val (.int p1), .val (.int p2), .val (.int (p1 &&& (3 : Int32))), .val (.ref a_GREATER_THAN), .unset, .unset] [(.int p2)]))
        rcases own_tri p2 with ⟨hkp, hkm⟩ | ⟨hkp, hkm⟩ | ⟨hkp, hkm⟩
        · show own_Goes p e s below _ _ _ (T18.setTop (mkF m 44 #[.val (.int p1), .val (.int p2), .val (.int (p1 &&& (3 : Int32))), .val (.ref a_GREATER_THAN), .unset, .unset] [(.int p2)]))
          refine own_via (fun _ q => XS.ifNo X18.here hx rfl (hb hby at_44) rfl (XT.i0_le_f hkp) q) ?_
          show own_Goes p e s below _ _ _ (T18.setTop (mkF m 47 #[.val (.int p1), .val (.int p2), .val (.int (p1 &&& (3 : Int32))), .val (.ref a_GREATER_THAN), .unset, .unset] []))
          refine own_via (fun _ q => XT.iconstV X18.here hx rfl (1 : Int32) (hb hby at_47) rfl q) ?_
          show own_Goes p e s below _ _ _ (T18.setTop (mkF m 48 #[.val (.int p1), .val (.int p2), .val (.int (p1 &&& (3 : Int32))), .val (.ref a_GREATER_THAN), .unset, .unset] [(.int (1 : Int32))]))
          refine own_via (fun _ q => XS.istore X18.here hx rfl (hb hby at_48) rfl (l' := #[.val (.int p1), .val (.int p2), .val (.int (p1 &&& (3 : Int32))), .val (.ref a_GREATER_THAN), .val (.int (1 : Int32)), .unset]) rfl q) ?_
          show own_Goes p e s below _ _ _ (T18.setTop (mkF m 50 #[.val (.int p1), .val (.int p2), .val (.int (p1 &&& (3 : Int32))), .val (.ref a_GREATER_THAN), .val (.int (1 : Int32)), .unset] []))
          refine own_via (fun _ q => XS.goto X18.here hx rfl (pc0 := 50) (pc' := 66) rfl (hb hby at_50) (by decide) (by decide) q) ?_
          show own_Goes p e s below _ _ _ (T18.setTop (mkF m 66 #[.val (.int p1), .val (.int p2), .val (.int (p1 &&& (3 : Int32))), .val (.ref a_GREATER_THAN), .val (.int (1 : Int32)), .unset] []))
          refine own_via (fun _ q => XS.iloadN X18.here hx rfl (hb hby at_66) rfl q) ?_
          show own_Goes p e s below _ _ _ (T18.setTop (mkF m 67 #[.val (.int p1), .val (.int p2), .val (.int (p1 &&& (3 : Int32))), .val (.ref a_GREATER_THAN), .val (.int (1 : Int32)), .unset] [(.int (p1 &&& (3 : Int32)))]))
          refine own_via (fun _ q => XS.ifYes X18.here hx rfl (pc0 := 67) (pc' := 86) rfl (hb hby at_67) rfl (XT.i0_ne_t hk5_1) (by decide) (by decide) q) ?_
          show own_Goes p e s below _ _ _ (T18.setTop (mkF m 86 #[.val (.int p1), .val (.int p2), .val (.int (p1 &&& (3 : Int32))), .val (.ref a_GREATER_THAN), .val (.int (1 : Int32)), .unset] []))
          refine own_via (fun _ q => XS.iloadN X18.here hx rfl (hb hby at_86) rfl q) ?_
          show own_Goes p e s below _ _ _ (T18.setTop (mkF m 87 #[.val (.int p1), .val (.int p2), .val (.int (p1 &&& (3 : Int32))), .val (.ref a_GREATER_THAN), .val (.int (1 : Int32)), .unset] [(.int (p1 &&& (3 : Int32)))]))
          refine own_via (fun _ q => XT.iconstV X18.here hx rfl (1 : Int32) (hb hby at_87) rfl q) ?_
          show own_Goes p e s below _ _ _ (T18.setTop (mkF m 88 #[.val (.int p1), .val (.int p2), .val (.int (p1 &&& (3 : Int32))), .val (.ref a_GREATER_THAN), .val (.int (1 : Int32)), .unset] [(.int (1 : Int32)), (.int (p1 &&& (3 : Int32)))]))
          refine own_via (fun _ q => XS.icmpYes X18.here hx rfl (pc0 := 88) (pc' := 107) rfl (hb hby at_88) rfl (XT.ii_ne_t hk17_9) (by decide) (by decide) q) ?_
          show own_Goes p e s below _ _ _ (T18.setTop (mkF m 107 #[.val (.int p1), .val (.int p2), .val (.int (p1 &&& (3 : Int32))), .val (.ref a_GREATER_THAN), .val (.int (1 : Int32)), .unset] []))
          refine own_via (fun _ q => XS.iloadN X18.here hx rfl (hb hby at_107) rfl q) ?_
          show own_Goes p e s below _ _ _ (T18.setTop (mkF m 108 #[.val (.int p1), .val (.int p2), .val (.int (p1 &&& (3 : Int32))), .val (.ref a_GREATER_THAN), .val (.int (1 : Int32)), .unset] [(.int (p1 &&& (3 : Int32)))]))
          refine own_via (fun _ q => XT.iconstV X18.here hx rfl (2 : Int32) (hb hby at_108) rfl q) ?_
          show own_Goes p e s below _ _ _ (T18.setTop (mkF m 109 #[.val (.int p1), .val (.int p2), .val (.int (p1 &&& (3 : Int32))), .val (.ref a_GREATER_THAN), .val (.int (1 : Int32)), .unset] [(.int (2 : Int32)), (.int (p1 &&& (3 : Int32)))]))
          refine own_via (fun _ q => XS.icmpNo X18.here hx rfl (hb hby at_109) rfl (XT.ii_ne_f hk29_17) q) ?_
          show own_Goes p e s below _ _ _ (T18.setTop (mkF m 112 #[.val (.int p1), .val (.int p2), .val (.int (p1 &&& (3 : Int32))), .val (.ref a_GREATER_THAN), .val (.int (1 : Int32)), .unset] []))
          refine own_via (fun _ q => XS.iload X18.here hx rfl (hb hby at_112) rfl q) ?_
          show own_Goes p e s below _ _ _ (T18.setTop (mkF m 114 #[.val (.int p1), .val (.int p2), .val (.int (p1 &&& (3 : Int32))), .val (.ref a_GREATER_THAN), .val (.int (1 : Int32)), .unset] [(.int (1 : Int32))]))
          refine own_via (fun _ q => XT.iconstV X18.here hx rfl (1 : Int32) (hb hby at_114) rfl q) ?_
          show own_Goes p e s below _ _ _ (T18.setTop (mkF m 115 #[.val (.int p1), .val (.int p2), .val (.int (p1 &&& (3 : Int32))), .val (.ref a_GREATER_THAN), .val (.int (1 : Int32)), .unset] [(.int (1 : Int32)), (.int (1 : Int32))]))
          refine own_via (fun _ q => XS.icmpNo X18.here hx rfl (hb hby at_115) rfl (XT.ii_ne_f (by decide)) q) ?_
          show own_Goes p e s below _ _ _ (T18.setTop (mkF m 118 #[.val (.int p1), .val (.int p2), .val (.int (p1 &&& (3 : Int32))), .val (.ref a_GREATER_THAN), .val (.int (1 : Int32)), .unset] []))
          refine own_via (fun _ q => XT.iconstV X18.here hx rfl (1 : Int32) (hb hby at_118) rfl q) ?_
          show own_Goes p e s below _ _ _ (T18.setTop (mkF m 119 #[.val (.int p1), .val (.int p2), .val (.int (p1 &&& (3 : Int32))), .val (.ref a_GREATER_THAN), .val (.int (1 : Int32)), .unset] [(.int (1 : Int32))]))
          refine own_via (fun _ q => XS.goto X18.here hx rfl (pc0 := 119) (pc' := 123) rfl (hb hby at_119) (by decide) (by decide) q) ?_
          show own_Goes p e s below _ _ _ (T18.setTop (mkF m 123 #[.val (.int p1), .val (.int p2), .val (.int (p1 &&& (3 : Int32))), .val (.ref a_GREATER_THAN), .val (.int (1 : Int32)), .unset] [(.int (1 : Int32))]))
          refine own_via (fun _ q => XS.istore X18.here hx rfl (hb hby at_123) rfl (l' := #[.val (.int p1), .val (.int p2), .val (.int (p1 &&& (3 : Int32))), .val (.ref a_GREATER_THAN), .val (.int (1 : Int32)), .val (.int (1 : Int32))]) rfl q) ?_
          show own_Goes p e s below _ _ _ (T18.setTop (mkF m 125 #[.val (.int p1), .val (.int p2), .val (.int (p1 &&& (3 : Int32))), .val (.ref a_GREATER_THAN), .val (.int (1 : Int32)), .val (.int (1 : Int32))] []))
          refine own_via (fun _ q => XS.goto X18.here hx rfl (pc0 := 125) (pc' := 141) rfl (hb hby at_125) (by decide) (by decide) q) ?_
          show own_Goes p e s below _ _ _ (T18.setTop (mkF m 141 #[.val (.int p1), .val (.int p2), .val (.int (p1 &&& (3 : Int32))), .val (.ref a_GREATER_THAN), .val (.int (1 : Int32)), .val (.int (1 : Int32))] []))
          refine own_via (fun _ q => XS.aloadN X18.here hx rfl (hb hby at_141) rfl rfl q) ?_
          show own_Goes p e s below _ _ _ (T18.setTop (mkF m 142 #[.val (.int p1), .val (.int p2), .val (.int (p1 &&& (3 : Int32))), .val (.ref a_GREATER_THAN), .val (.int (1 : Int32)), .val (.int (1 : Int32))] [(.ref a_GREATER_THAN)]))
          refine own_via (fun _ q => XS.iloadN X18.here hx rfl (hb hby at_142) rfl q) ?_
          show own_Goes p e s below _ _ _ (T18.setTop (mkF m 143 #[.val (.int p1), .val (.int p2), .val (.int (p1 &&& (3 : Int32))), .val (.ref a_GREATER_THAN), .val (.int (1 : Int32)), .val (.int (1 : Int32))] [(.int p2), (.ref a_GREATER_THAN)]))
          obtain ⟨cq19, kq19, q19a, q19b, q19c⟩ := isOf hZ e18 E_GREATER_THAN
          obtain ⟨_, _, ⟨T19, L19, k19, n19⟩, -, X19, ⟨Lc19, hQ19, l19, y19, z19⟩, st19⟩ := X18.virtualBack hx (y := (⟨"com/example/uppslag/uppslag/query/Condition$Comparison$Operator", "holds", "(I)Z"⟩ : MethodName)) (z := (⟨"com/example/uppslag/uppslag/query/Condition$Comparison$Operator", "holds", "(I)Z"⟩ : MethodName)) hown (mvT hZ (hw _ (List.mem_of_getElem? (i := 3) rfl))) (mvT hZ (hw _ (List.mem_of_getElem? (i := 4) rfl))) (notFace_of_selects (args := #[]) (mvT hZ (hw _ (List.mem_of_getElem? (i := 6) rfl)))) (mvT hZ (hw _ (List.mem_of_getElem? (i := 6) rfl))) (mvT hZ (hw _ (List.mem_of_getElem? (i := 5) rfl))) (by decide) (backOf (W := 0) (rmh2 l Z a0 hw [] a_GREATER_THAN p2 (1 : Int32) h0 n0 E_GREATER_THAN F_GREATER_THAN (by simp [hkp, hkm])) hZ (hw _ (List.mem_of_getElem? (i := 7) rfl)) (hw _ (List.mem_of_getElem? (i := 1) rfl)) (by decide) (by decide)) q19a q19c (g := (mkF m 143 #[.val (.int p1), .val (.int p2), .val (.int (p1 &&& (3 : Int32))), .val (.ref a_GREATER_THAN), .val (.int (1 : Int32)), .val (.int (1 : Int32))] [(.int p2), (.ref a_GREATER_THAN)])) rfl (by rw [hml]; rfl) (Steps.refl _) (argsL := [(.int p2)]) (rest := []) (lenOf pd__I_Z rfl) rfl (by show 2 * 0 + _ ≤ _; exact Nat.le_of_eq rfl) (hb hby at_143) (fun _ _ => ⟨rfl, e18, (by decide : 0 + 0 ≤ _), (by decide : 0 + 0 ≤ _)⟩)
          dsimp only [Pt.U, Pt.locs, Pt.cells, Pt.slots] at X19 l19 y19 z19 st19 hQ19
          subst l19 y19 z19
          obtain ⟨rfl, N19q, e19⟩ := hQ19
          have N19 := Fr.app (Fr.nil n0) N19q
          refine own_on st19 ?_
          show own_Goes p e s below _ _ _ (T19.setTop (mkF m 146 #[.val (.int p1), .val (.int p2), .val (.int (p1 &&& (3 : Int32))), .val (.ref a_GREATER_THAN), .val (.int (1 : Int32)), .val (.int (1 : Int32))] [(.int (1 : Int32))]))
          refine own_via (fun _ q => XS.iload X19.here hx rfl (hb hby at_146) rfl q) ?_
          show own_Goes p e s below _ _ _ (T19.setTop (mkF m 148 #[.val (.int p1), .val (.int p2), .val (.int (p1 &&& (3 : Int32))), .val (.ref a_GREATER_THAN), .val (.int (1 : Int32)), .val (.int (1 : Int32))] [(.int (1 : Int32)), (.int (1 : Int32))]))
          refine own_via (fun _ q => XS.icmpNo X19.here hx rfl (hb hby at_148) rfl (XT.ii_ne_f (by decide)) q) ?_
          show own_Goes p e s below _ _ _ (T19.setTop (mkF m 151 #[.val (.int p1), .val (.int p2), .val (.int (p1 &&& (3 : Int32))), .val (.ref a_GREATER_THAN), .val (.int (1 : Int32)), .val (.int (1 : Int32))] []))
          refine own_via (fun _ q => XS.aloadN X19.here hx rfl (hb hby at_151) rfl rfl q) ?_
          show own_Goes p e s below _ _ _ (T19.setTop (mkF m 152 #[.val (.int p1), .val (.int p2), .val (.int (p1 &&& (3 : Int32))), .val (.ref a_GREATER_THAN), .val (.int (1 : Int32)), .val (.int (1 : Int32))] [(.ref a_GREATER_THAN)]))
          refine own_via (fun _ q => XS.iload X19.here hx rfl (hb hby at_152) rfl q) ?_
          show own_Goes p e s below _ _ _ (T19.setTop (mkF m 154 #[.val (.int p1), .val (.int p2), .val (.int (p1 &&& (3 : Int32))), .val (.ref a_GREATER_THAN), .val (.int (1 : Int32)), .val (.int (1 : Int32))] [(.int (1 : Int32)), (.ref a_GREATER_THAN)]))
          obtain ⟨cq20, kq20, q20a, q20b, q20c⟩ := isOf hZ e19 E_GREATER_THAN
          obtain ⟨_, _, ⟨T20, L20, k20, n20⟩, -, X20, ⟨Lc20, hQ20, l20, y20, z20⟩, st20⟩ := X19.virtualBack hx (y := (⟨"com/example/uppslag/uppslag/query/Condition$Comparison$Operator", "holds", "(I)Z"⟩ : MethodName)) (z := (⟨"com/example/uppslag/uppslag/query/Condition$Comparison$Operator", "holds", "(I)Z"⟩ : MethodName)) hown (mvT hZ (hw _ (List.mem_of_getElem? (i := 3) rfl))) (mvT hZ (hw _ (List.mem_of_getElem? (i := 4) rfl))) (notFace_of_selects (args := #[]) (mvT hZ (hw _ (List.mem_of_getElem? (i := 6) rfl)))) (mvT hZ (hw _ (List.mem_of_getElem? (i := 6) rfl))) (mvT hZ (hw _ (List.mem_of_getElem? (i := 5) rfl))) (by decide) (backOf (W := 0) (rmh2 l Z a0 hw [] a_GREATER_THAN (1 : Int32) (1 : Int32) h0 n0 E_GREATER_THAN F_GREATER_THAN (by decide)) hZ (hw _ (List.mem_of_getElem? (i := 7) rfl)) (hw _ (List.mem_of_getElem? (i := 1) rfl)) (by decide) (by decide)) q20a q20c (g := (mkF m 154 #[.val (.int p1), .val (.int p2), .val (.int (p1 &&& (3 : Int32))), .val (.ref a_GREATER_THAN), .val (.int (1 : Int32)), .val (.int (1 : Int32))] [(.int (1 : Int32)), (.ref a_GREATER_THAN)])) rfl (by rw [hml]; rfl) (Steps.refl _) (argsL := [(.int (1 : Int32))]) (rest := []) (lenOf pd__I_Z rfl) rfl (by show 2 * 0 + _ ≤ _; exact Nat.le_of_eq rfl) (hb hby at_154) (fun _ _ => ⟨rfl, e19, (by decide : 0 + 0 ≤ _), (by decide : 0 + 0 ≤ _)⟩)
          dsimp only [Pt.U, Pt.locs, Pt.cells, Pt.slots] at X20 l20 y20 z20 st20 hQ20
          subst l20 y20 z20
          obtain ⟨rfl, N20q, e20⟩ := hQ20
          have N20 := Fr.app N19 N20q
          refine own_on st20 ?_
          show own_Goes p e s below _ _ _ (T20.setTop (mkF m 157 #[.val (.int p1), .val (.int p2), .val (.int (p1 &&& (3 : Int32))), .val (.ref a_GREATER_THAN), .val (.int (1 : Int32)), .val (.int (1 : Int32))] [(.int (1 : Int32))]))
          refine own_via (fun _ q => XS.iload X20.here hx rfl (hb hby at_157) rfl q) ?_
          show own_Goes p e s below _ _ _ (T20.setTop (mkF m 159 #[.val (.int p1), .val (.int p2), .val (.int (p1 &&& (3 : Int32))), .val (.ref a_GREATER_THAN), .val (.int (1 : Int32)), .val (.int (1 : Int32))] [(.int (1 : Int32)), (.int (1 : Int32))]))
          refine own_via (fun _ q => XS.icmpNo X20.here hx rfl (hb hby at_159) rfl (XT.ii_ne_f (by decide)) q) ?_
          show own_Goes p e s below _ _ _ (T20.setTop (mkF m 162 #[.val (.int p1), .val (.int p2), .val (.int (p1 &&& (3 : Int32))), .val (.ref a_GREATER_THAN), .val (.int (1 : Int32)), .val (.int (1 : Int32))] []))
          refine own_via (fun _ q => XT.iconstV X20.here hx rfl (1 : Int32) (hb hby at_162) rfl q) ?_
          show own_Goes p e s below _ _ _ (T20.setTop (mkF m 163 #[.val (.int p1), .val (.int p2), .val (.int (p1 &&& (3 : Int32))), .val (.ref a_GREATER_THAN), .val (.int (1 : Int32)), .val (.int (1 : Int32))] [(.int (1 : Int32))]))
          refine own_via (fun _ q => XS.goto X20.here hx rfl (pc0 := 163) (pc' := 167) rfl (hb hby at_163) (by decide) (by decide) q) ?_
          show own_Goes p e s below _ _ _ (T20.setTop (mkF m 167 #[.val (.int p1), .val (.int p2), .val (.int (p1 &&& (3 : Int32))), .val (.ref a_GREATER_THAN), .val (.int (1 : Int32)), .val (.int (1 : Int32))] [(.int (1 : Int32))]))
          exact own_retN X20 hx (t := .boolean) hret (by simp) hlk (hb hby at_167) (by decide) (by decide) ⟨rfl, N20⟩
        · show own_Goes p e s below _ _ _ (T18.setTop (mkF m 44 #[.val (.int p1), .val (.int p2), .val (.int (p1 &&& (3 : Int32))), .val (.ref a_GREATER_THAN), .unset, .unset] [(.int p2)]))
          refine own_via (fun _ q => XS.ifYes X18.here hx rfl (pc0 := 44) (pc' := 53) rfl (hb hby at_44) rfl (XT.i0_le_t hkp) (by decide) (by decide) q) ?_
          show own_Goes p e s below _ _ _ (T18.setTop (mkF m 53 #[.val (.int p1), .val (.int p2), .val (.int (p1 &&& (3 : Int32))), .val (.ref a_GREATER_THAN), .unset, .unset] []))
          refine own_via (fun _ q => XS.iloadN X18.here hx rfl (hb hby at_53) rfl q) ?_
          show own_Goes p e s below _ _ _ (T18.setTop (mkF m 54 #[.val (.int p1), .val (.int p2), .val (.int (p1 &&& (3 : Int32))), .val (.ref a_GREATER_THAN), .unset, .unset] [(.int p2)]))
          refine own_via (fun _ q => XS.ifNo X18.here hx rfl (hb hby at_54) rfl (XT.i0_ge_f hkm) q) ?_
          show own_Goes p e s below _ _ _ (T18.setTop (mkF m 57 #[.val (.int p1), .val (.int p2), .val (.int (p1 &&& (3 : Int32))), .val (.ref a_GREATER_THAN), .unset, .unset] []))
          refine own_via (fun _ q => XT.iconstV X18.here hx rfl (-1 : Int32) (hb hby at_57) rfl q) ?_
          show own_Goes p e s below _ _ _ (T18.setTop (mkF m 58 #[.val (.int p1), .val (.int p2), .val (.int (p1 &&& (3 : Int32))), .val (.ref a_GREATER_THAN), .unset, .unset] [(.int (-1 : Int32))]))
          refine own_via (fun _ q => XS.istore X18.here hx rfl (hb hby at_58) rfl (l' := #[.val (.int p1), .val (.int p2), .val (.int (p1 &&& (3 : Int32))), .val (.ref a_GREATER_THAN), .val (.int (-1 : Int32)), .unset]) rfl q) ?_
          show own_Goes p e s below _ _ _ (T18.setTop (mkF m 60 #[.val (.int p1), .val (.int p2), .val (.int (p1 &&& (3 : Int32))), .val (.ref a_GREATER_THAN), .val (.int (-1 : Int32)), .unset] []))
          refine own_via (fun _ q => XS.goto X18.here hx rfl (pc0 := 60) (pc' := 66) rfl (hb hby at_60) (by decide) (by decide) q) ?_
          show own_Goes p e s below _ _ _ (T18.setTop (mkF m 66 #[.val (.int p1), .val (.int p2), .val (.int (p1 &&& (3 : Int32))), .val (.ref a_GREATER_THAN), .val (.int (-1 : Int32)), .unset] []))
          refine own_via (fun _ q => XS.iloadN X18.here hx rfl (hb hby at_66) rfl q) ?_
          show own_Goes p e s below _ _ _ (T18.setTop (mkF m 67 #[.val (.int p1), .val (.int p2), .val (.int (p1 &&& (3 : Int32))), .val (.ref a_GREATER_THAN), .val (.int (-1 : Int32)), .unset] [(.int (p1 &&& (3 : Int32)))]))
          refine own_via (fun _ q => XS.ifYes X18.here hx rfl (pc0 := 67) (pc' := 86) rfl (hb hby at_67) rfl (XT.i0_ne_t hk5_1) (by decide) (by decide) q) ?_
          show own_Goes p e s below _ _ _ (T18.setTop (mkF m 86 #[.val (.int p1), .val (.int p2), .val (.int (p1 &&& (3 : Int32))), .val (.ref a_GREATER_THAN), .val (.int (-1 : Int32)), .unset] []))
          refine own_via (fun _ q => XS.iloadN X18.here hx rfl (hb hby at_86) rfl q) ?_
          show own_Goes p e s below _ _ _ (T18.setTop (mkF m 87 #[.val (.int p1), .val (.int p2), .val (.int (p1 &&& (3 : Int32))), .val (.ref a_GREATER_THAN), .val (.int (-1 : Int32)), .unset] [(.int (p1 &&& (3 : Int32)))]))
          refine own_via (fun _ q => XT.iconstV X18.here hx rfl (1 : Int32) (hb hby at_87) rfl q) ?_
          show own_Goes p e s below _ _ _ (T18.setTop (mkF m 88 #[.val (.int p1), .val (.int p2), .val (.int (p1 &&& (3 : Int32))), .val (.ref a_GREATER_THAN), .val (.int (-1 : Int32)), .unset] [(.int (1 : Int32)), (.int (p1 &&& (3 : Int32)))]))
          refine own_via (fun _ q => XS.icmpYes X18.here hx rfl (pc0 := 88) (pc' := 107) rfl (hb hby at_88) rfl (XT.ii_ne_t hk17_9) (by decide) (by decide) q) ?_
          show own_Goes p e s below _ _ _ (T18.setTop (mkF m 107 #[.val (.int p1), .val (.int p2), .val (.int (p1 &&& (3 : Int32))), .val (.ref a_GREATER_THAN), .val (.int (-1 : Int32)), .unset] []))
          refine own_via (fun _ q => XS.iloadN X18.here hx rfl (hb hby at_107) rfl q) ?_
          show own_Goes p e s below _ _ _ (T18.setTop (mkF m 108 #[.val (.int p1), .val (.int p2), .val (.int (p1 &&& (3 : Int32))), .val (.ref a_GREATER_THAN), .val (.int (-1 : Int32)), .unset] [(.int (p1 &&& (3 : Int32)))]))
          refine own_via (fun _ q => XT.iconstV X18.here hx rfl (2 : Int32) (hb hby at_108) rfl q) ?_
          show own_Goes p e s below _ _ _ (T18.setTop (mkF m 109 #[.val (.int p1), .val (.int p2), .val (.int (p1 &&& (3 : Int32))), .val (.ref a_GREATER_THAN), .val (.int (-1 : Int32)), .unset] [(.int (2 : Int32)), (.int (p1 &&& (3 : Int32)))]))
          refine own_via (fun _ q => XS.icmpNo X18.here hx rfl (hb hby at_109) rfl (XT.ii_ne_f hk29_17) q) ?_
          show own_Goes p e s below _ _ _ (T18.setTop (mkF m 112 #[.val (.int p1), .val (.int p2), .val (.int (p1 &&& (3 : Int32))), .val (.ref a_GREATER_THAN), .val (.int (-1 : Int32)), .unset] []))
          refine own_via (fun _ q => XS.iload X18.here hx rfl (hb hby at_112) rfl q) ?_
          show own_Goes p e s below _ _ _ (T18.setTop (mkF m 114 #[.val (.int p1), .val (.int p2), .val (.int (p1 &&& (3 : Int32))), .val (.ref a_GREATER_THAN), .val (.int (-1 : Int32)), .unset] [(.int (-1 : Int32))]))
          refine own_via (fun _ q => XT.iconstV X18.here hx rfl (1 : Int32) (hb hby at_114) rfl q) ?_
          show own_Goes p e s below _ _ _ (T18.setTop (mkF m 115 #[.val (.int p1), .val (.int p2), .val (.int (p1 &&& (3 : Int32))), .val (.ref a_GREATER_THAN), .val (.int (-1 : Int32)), .unset] [(.int (1 : Int32)), (.int (-1 : Int32))]))
          refine own_via (fun _ q => XS.icmpYes X18.here hx rfl (pc0 := 115) (pc' := 122) rfl (hb hby at_115) rfl (XT.ii_ne_t (by decide)) (by decide) (by decide) q) ?_
          show own_Goes p e s below _ _ _ (T18.setTop (mkF m 122 #[.val (.int p1), .val (.int p2), .val (.int (p1 &&& (3 : Int32))), .val (.ref a_GREATER_THAN), .val (.int (-1 : Int32)), .unset] []))
          refine own_via (fun _ q => XT.iconstV X18.here hx rfl (0 : Int32) (hb hby at_122) rfl q) ?_
          show own_Goes p e s below _ _ _ (T18.setTop (mkF m 123 #[.val (.int p1), .val (.int p2), .val (.int (p1 &&& (3 : Int32))), .val (.ref a_GREATER_THAN), .val (.int (-1 : Int32)), .unset] [(.int (0 : Int32))]))
          refine own_via (fun _ q => XS.istore X18.here hx rfl (hb hby at_123) rfl (l' := #[.val (.int p1), .val (.int p2), .val (.int (p1 &&& (3 : Int32))), .val (.ref a_GREATER_THAN), .val (.int (-1 : Int32)), .val (.int (0 : Int32))]) rfl q) ?_
          show own_Goes p e s below _ _ _ (T18.setTop (mkF m 125 #[.val (.int p1), .val (.int p2), .val (.int (p1 &&& (3 : Int32))), .val (.ref a_GREATER_THAN), .val (.int (-1 : Int32)), .val (.int (0 : Int32))] []))
          refine own_via (fun _ q => XS.goto X18.here hx rfl (pc0 := 125) (pc' := 141) rfl (hb hby at_125) (by decide) (by decide) q) ?_
          show own_Goes p e s below _ _ _ (T18.setTop (mkF m 141 #[.val (.int p1), .val (.int p2), .val (.int (p1 &&& (3 : Int32))), .val (.ref a_GREATER_THAN), .val (.int (-1 : Int32)), .val (.int (0 : Int32))] []))
          refine own_via (fun _ q => XS.aloadN X18.here hx rfl (hb hby at_141) rfl rfl q) ?_
          show own_Goes p e s below _ _ _ (T18.setTop (mkF m 142 #[.val (.int p1), .val (.int p2), .val (.int (p1 &&& (3 : Int32))), .val (.ref a_GREATER_THAN), .val (.int (-1 : Int32)), .val (.int (0 : Int32))] [(.ref a_GREATER_THAN)]))
          refine own_via (fun _ q => XS.iloadN X18.here hx rfl (hb hby at_142) rfl q) ?_
          show own_Goes p e s below _ _ _ (T18.setTop (mkF m 143 #[.val (.int p1), .val (.int p2), .val (.int (p1 &&& (3 : Int32))), .val (.ref a_GREATER_THAN), .val (.int (-1 : Int32)), .val (.int (0 : Int32))] [(.int p2), (.ref a_GREATER_THAN)]))
          obtain ⟨cq21, kq21, q21a, q21b, q21c⟩ := isOf hZ e18 E_GREATER_THAN
          obtain ⟨_, _, ⟨T21, L21, k21, n21⟩, -, X21, ⟨Lc21, hQ21, l21, y21, z21⟩, st21⟩ := X18.virtualBack hx (y := (⟨"com/example/uppslag/uppslag/query/Condition$Comparison$Operator", "holds", "(I)Z"⟩ : MethodName)) (z := (⟨"com/example/uppslag/uppslag/query/Condition$Comparison$Operator", "holds", "(I)Z"⟩ : MethodName)) hown (mvT hZ (hw _ (List.mem_of_getElem? (i := 3) rfl))) (mvT hZ (hw _ (List.mem_of_getElem? (i := 4) rfl))) (notFace_of_selects (args := #[]) (mvT hZ (hw _ (List.mem_of_getElem? (i := 6) rfl)))) (mvT hZ (hw _ (List.mem_of_getElem? (i := 6) rfl))) (mvT hZ (hw _ (List.mem_of_getElem? (i := 5) rfl))) (by decide) (backOf (W := 0) (rmh2 l Z a0 hw [] a_GREATER_THAN p2 (0 : Int32) h0 n0 E_GREATER_THAN F_GREATER_THAN (by simp [hkp, hkm])) hZ (hw _ (List.mem_of_getElem? (i := 7) rfl)) (hw _ (List.mem_of_getElem? (i := 1) rfl)) (by decide) (by decide)) q21a q21c (g := (mkF m 143 #[.val (.int p1), .val (.int p2), .val (.int (p1 &&& (3 : Int32))), .val (.ref a_GREATER_THAN), .val (.int (-1 : Int32)), .val (.int (0 : Int32))] [(.int p2), (.ref a_GREATER_THAN)])) rfl (by rw [hml]; rfl) (Steps.refl _) (argsL := [(.int p2)]) (rest := []) (lenOf pd__I_Z rfl) rfl (by show 2 * 0 + _ ≤ _; exact Nat.le_of_eq rfl) (hb hby at_143) (fun _ _ => ⟨rfl, e18, (by decide : 0 + 0 ≤ _), (by decide : 0 + 0 ≤ _)⟩)
          dsimp only [Pt.U, Pt.locs, Pt.cells, Pt.slots] at X21 l21 y21 z21 st21 hQ21
          subst l21 y21 z21
          obtain ⟨rfl, N21q, e21⟩ := hQ21
          have N21 := Fr.app (Fr.nil n0) N21q
          refine own_on st21 ?_
          show own_Goes p e s below _ _ _ (T21.setTop (mkF m 146 #[.val (.int p1), .val (.int p2), .val (.int (p1 &&& (3 : Int32))), .val (.ref a_GREATER_THAN), .val (.int (-1 : Int32)), .val (.int (0 : Int32))] [(.int (0 : Int32))]))
          refine own_via (fun _ q => XS.iload X21.here hx rfl (hb hby at_146) rfl q) ?_
          show own_Goes p e s below _ _ _ (T21.setTop (mkF m 148 #[.val (.int p1), .val (.int p2), .val (.int (p1 &&& (3 : Int32))), .val (.ref a_GREATER_THAN), .val (.int (-1 : Int32)), .val (.int (0 : Int32))] [(.int (0 : Int32)), (.int (0 : Int32))]))
          refine own_via (fun _ q => XS.icmpNo X21.here hx rfl (hb hby at_148) rfl (XT.ii_ne_f (by decide)) q) ?_
          show own_Goes p e s below _ _ _ (T21.setTop (mkF m 151 #[.val (.int p1), .val (.int p2), .val (.int (p1 &&& (3 : Int32))), .val (.ref a_GREATER_THAN), .val (.int (-1 : Int32)), .val (.int (0 : Int32))] []))
          refine own_via (fun _ q => XS.aloadN X21.here hx rfl (hb hby at_151) rfl rfl q) ?_
          show own_Goes p e s below _ _ _ (T21.setTop (mkF m 152 #[.val (.int p1), .val (.int p2), .val (.int (p1 &&& (3 : Int32))), .val (.ref a_GREATER_THAN), .val (.int (-1 : Int32)), .val (.int (0 : Int32))] [(.ref a_GREATER_THAN)]))
          refine own_via (fun _ q => XS.iload X21.here hx rfl (hb hby at_152) rfl q) ?_
          show own_Goes p e s below _ _ _ (T21.setTop (mkF m 154 #[.val (.int p1), .val (.int p2), .val (.int (p1 &&& (3 : Int32))), .val (.ref a_GREATER_THAN), .val (.int (-1 : Int32)), .val (.int (0 : Int32))] [(.int (-1 : Int32)), (.ref a_GREATER_THAN)]))
          obtain ⟨cq22, kq22, q22a, q22b, q22c⟩ := isOf hZ e21 E_GREATER_THAN
          obtain ⟨_, _, ⟨T22, L22, k22, n22⟩, -, X22, ⟨Lc22, hQ22, l22, y22, z22⟩, st22⟩ := X21.virtualBack hx (y := (⟨"com/example/uppslag/uppslag/query/Condition$Comparison$Operator", "holds", "(I)Z"⟩ : MethodName)) (z := (⟨"com/example/uppslag/uppslag/query/Condition$Comparison$Operator", "holds", "(I)Z"⟩ : MethodName)) hown (mvT hZ (hw _ (List.mem_of_getElem? (i := 3) rfl))) (mvT hZ (hw _ (List.mem_of_getElem? (i := 4) rfl))) (notFace_of_selects (args := #[]) (mvT hZ (hw _ (List.mem_of_getElem? (i := 6) rfl)))) (mvT hZ (hw _ (List.mem_of_getElem? (i := 6) rfl))) (mvT hZ (hw _ (List.mem_of_getElem? (i := 5) rfl))) (by decide) (backOf (W := 0) (rmh2 l Z a0 hw [] a_GREATER_THAN (-1 : Int32) (0 : Int32) h0 n0 E_GREATER_THAN F_GREATER_THAN (by decide)) hZ (hw _ (List.mem_of_getElem? (i := 7) rfl)) (hw _ (List.mem_of_getElem? (i := 1) rfl)) (by decide) (by decide)) q22a q22c (g := (mkF m 154 #[.val (.int p1), .val (.int p2), .val (.int (p1 &&& (3 : Int32))), .val (.ref a_GREATER_THAN), .val (.int (-1 : Int32)), .val (.int (0 : Int32))] [(.int (-1 : Int32)), (.ref a_GREATER_THAN)])) rfl (by rw [hml]; rfl) (Steps.refl _) (argsL := [(.int (-1 : Int32))]) (rest := []) (lenOf pd__I_Z rfl) rfl (by show 2 * 0 + _ ≤ _; exact Nat.le_of_eq rfl) (hb hby at_154) (fun _ _ => ⟨rfl, e21, (by decide : 0 + 0 ≤ _), (by decide : 0 + 0 ≤ _)⟩)
          dsimp only [Pt.U, Pt.locs, Pt.cells, Pt.slots] at X22 l22 y22 z22 st22 hQ22
          subst l22 y22 z22
          obtain ⟨rfl, N22q, e22⟩ := hQ22
          have N22 := Fr.app N21 N22q
          refine own_on st22 ?_
          show own_Goes p e s below _ _ _ (T22.setTop (mkF m 157 #[.val (.int p1), .val (.int p2), .val (.int (p1 &&& (3 : Int32))), .val (.ref a_GREATER_THAN), .val (.int (-1 : Int32)), .val (.int (0 : Int32))] [(.int (0 : Int32))]))
          refine own_via (fun _ q => XS.iload X22.here hx rfl (hb hby at_157) rfl q) ?_
          show own_Goes p e s below _ _ _ (T22.setTop (mkF m 159 #[.val (.int p1), .val (.int p2), .val (.int (p1 &&& (3 : Int32))), .val (.ref a_GREATER_THAN), .val (.int (-1 : Int32)), .val (.int (0 : Int32))] [(.int (0 : Int32)), (.int (0 : Int32))]))
          refine own_via (fun _ q => XS.icmpNo X22.here hx rfl (hb hby at_159) rfl (XT.ii_ne_f (by decide)) q) ?_
          show own_Goes p e s below _ _ _ (T22.setTop (mkF m 162 #[.val (.int p1), .val (.int p2), .val (.int (p1 &&& (3 : Int32))), .val (.ref a_GREATER_THAN), .val (.int (-1 : Int32)), .val (.int (0 : Int32))] []))
          refine own_via (fun _ q => XT.iconstV X22.here hx rfl (1 : Int32) (hb hby at_162) rfl q) ?_
          show own_Goes p e s below _ _ _ (T22.setTop (mkF m 163 #[.val (.int p1), .val (.int p2), .val (.int (p1 &&& (3 : Int32))), .val (.ref a_GREATER_THAN), .val (.int (-1 : Int32)), .val (.int (0 : Int32))] [(.int (1 : Int32))]))
          refine own_via (fun _ q => XS.goto X22.here hx rfl (pc0 := 163) (pc' := 167) rfl (hb hby at_163) (by decide) (by decide) q) ?_
          show own_Goes p e s below _ _ _ (T22.setTop (mkF m 167 #[.val (.int p1), .val (.int p2), .val (.int (p1 &&& (3 : Int32))), .val (.ref a_GREATER_THAN), .val (.int (-1 : Int32)), .val (.int (0 : Int32))] [(.int (1 : Int32))]))
          exact own_retN X22 hx (t := .boolean) hret (by simp) hlk (hb hby at_167) (by decide) (by decide) ⟨rfl, N22⟩
        · show own_Goes p e s below _ _ _ (T18.setTop (mkF m 44 #[.val (.int p1), .val (.int p2), .val (.int (p1 &&& (3 : Int32))), .val (.ref a_GREATER_THAN), .unset, .unset] [(.int p2)]))
          refine own_via (fun _ q => XS.ifYes X18.here hx rfl (pc0 := 44) (pc' := 53) rfl (hb hby at_44) rfl (XT.i0_le_t hkp) (by decide) (by decide) q) ?_
          show own_Goes p e s below _ _ _ (T18.setTop (mkF m 53 #[.val (.int p1), .val (.int p2), .val (.int (p1 &&& (3 : Int32))), .val (.ref a_GREATER_THAN), .unset, .unset] []))
          refine own_via (fun _ q => XS.iloadN X18.here hx rfl (hb hby at_53) rfl q) ?_
          show own_Goes p e s below _ _ _ (T18.setTop (mkF m 54 #[.val (.int p1), .val (.int p2), .val (.int (p1 &&& (3 : Int32))), .val (.ref a_GREATER_THAN), .unset, .unset] [(.int p2)]))
          refine own_via (fun _ q => XS.ifYes X18.here hx rfl (pc0 := 54) (pc' := 63) rfl (hb hby at_54) rfl (XT.i0_ge_t hkm) (by decide) (by decide) q) ?_
          show own_Goes p e s below _ _ _ (T18.setTop (mkF m 63 #[.val (.int p1), .val (.int p2), .val (.int (p1 &&& (3 : Int32))), .val (.ref a_GREATER_THAN), .unset, .unset] []))
          refine own_via (fun _ q => XT.iconstV X18.here hx rfl (0 : Int32) (hb hby at_63) rfl q) ?_
          show own_Goes p e s below _ _ _ (T18.setTop (mkF m 64 #[.val (.int p1), .val (.int p2), .val (.int (p1 &&& (3 : Int32))), .val (.ref a_GREATER_THAN), .unset, .unset] [(.int (0 : Int32))]))
          refine own_via (fun _ q => XS.istore X18.here hx rfl (hb hby at_64) rfl (l' := #[.val (.int p1), .val (.int p2), .val (.int (p1 &&& (3 : Int32))), .val (.ref a_GREATER_THAN), .val (.int (0 : Int32)), .unset]) rfl q) ?_
          show own_Goes p e s below _ _ _ (T18.setTop (mkF m 66 #[.val (.int p1), .val (.int p2), .val (.int (p1 &&& (3 : Int32))), .val (.ref a_GREATER_THAN), .val (.int (0 : Int32)), .unset] []))
          refine own_via (fun _ q => XS.iloadN X18.here hx rfl (hb hby at_66) rfl q) ?_
          show own_Goes p e s below _ _ _ (T18.setTop (mkF m 67 #[.val (.int p1), .val (.int p2), .val (.int (p1 &&& (3 : Int32))), .val (.ref a_GREATER_THAN), .val (.int (0 : Int32)), .unset] [(.int (p1 &&& (3 : Int32)))]))
          refine own_via (fun _ q => XS.ifYes X18.here hx rfl (pc0 := 67) (pc' := 86) rfl (hb hby at_67) rfl (XT.i0_ne_t hk5_1) (by decide) (by decide) q) ?_
          show own_Goes p e s below _ _ _ (T18.setTop (mkF m 86 #[.val (.int p1), .val (.int p2), .val (.int (p1 &&& (3 : Int32))), .val (.ref a_GREATER_THAN), .val (.int (0 : Int32)), .unset] []))
          refine own_via (fun _ q => XS.iloadN X18.here hx rfl (hb hby at_86) rfl q) ?_
          show own_Goes p e s below _ _ _ (T18.setTop (mkF m 87 #[.val (.int p1), .val (.int p2), .val (.int (p1 &&& (3 : Int32))), .val (.ref a_GREATER_THAN), .val (.int (0 : Int32)), .unset] [(.int (p1 &&& (3 : Int32)))]))
          refine own_via (fun _ q => XT.iconstV X18.here hx rfl (1 : Int32) (hb hby at_87) rfl q) ?_
          show own_Goes p e s below _ _ _ (T18.setTop (mkF m 88 #[.val (.int p1), .val (.int p2), .val (.int (p1 &&& (3 : Int32))), .val (.ref a_GREATER_THAN), .val (.int (0 : Int32)), .unset] [(.int (1 : Int32)), (.int (p1 &&& (3 : Int32)))]))
          refine own_via (fun _ q => XS.icmpYes X18.here hx rfl (pc0 := 88) (pc' := 107) rfl (hb hby at_88) rfl (XT.ii_ne_t hk17_9) (by decide) (by decide) q) ?_
          show own_Goes p e s below _ _ _ (T18.setTop (mkF m 107 #[.val (.int p1), .val (.int p2), .val (.int (p1 &&& (3 : Int32))), .val (.ref a_GREATER_THAN), .val (.int (0 : Int32)), .unset] []))
          refine own_via (fun _ q => XS.iloadN X18.here hx rfl (hb hby at_107) rfl q) ?_
          show own_Goes p e s below _ _ _ (T18.setTop (mkF m 108 #[.val (.int p1), .val (.int p2), .val (.int (p1 &&& (3 : Int32))), .val (.ref a_GREATER_THAN), .val (.int (0 : Int32)), .unset] [(.int (p1 &&& (3 : Int32)))]))
          refine own_via (fun _ q => XT.iconstV X18.here hx rfl (2 : Int32) (hb hby at_108) rfl q) ?_
          show own_Goes p e s below _ _ _ (T18.setTop (mkF m 109 #[.val (.int p1), .val (.int p2), .val (.int (p1 &&& (3 : Int32))), .val (.ref a_GREATER_THAN), .val (.int (0 : Int32)), .unset] [(.int (2 : Int32)), (.int (p1 &&& (3 : Int32)))]))
          refine own_via (fun _ q => XS.icmpNo X18.here hx rfl (hb hby at_109) rfl (XT.ii_ne_f hk29_17) q) ?_
          show own_Goes p e s below _ _ _ (T18.setTop (mkF m 112 #[.val (.int p1), .val (.int p2), .val (.int (p1 &&& (3 : Int32))), .val (.ref a_GREATER_THAN), .val (.int (0 : Int32)), .unset] []))
          refine own_via (fun _ q => XS.iload X18.here hx rfl (hb hby at_112) rfl q) ?_
          show own_Goes p e s below _ _ _ (T18.setTop (mkF m 114 #[.val (.int p1), .val (.int p2), .val (.int (p1 &&& (3 : Int32))), .val (.ref a_GREATER_THAN), .val (.int (0 : Int32)), .unset] [(.int (0 : Int32))]))
          refine own_via (fun _ q => XT.iconstV X18.here hx rfl (1 : Int32) (hb hby at_114) rfl q) ?_
          show own_Goes p e s below _ _ _ (T18.setTop (mkF m 115 #[.val (.int p1), .val (.int p2), .val (.int (p1 &&& (3 : Int32))), .val (.ref a_GREATER_THAN), .val (.int (0 : Int32)), .unset] [(.int (1 : Int32)), (.int (0 : Int32))]))
          refine own_via (fun _ q => XS.icmpYes X18.here hx rfl (pc0 := 115) (pc' := 122) rfl (hb hby at_115) rfl (XT.ii_ne_t (by decide)) (by decide) (by decide) q) ?_
          show own_Goes p e s below _ _ _ (T18.setTop (mkF m 122 #[.val (.int p1), .val (.int p2), .val (.int (p1 &&& (3 : Int32))), .val (.ref a_GREATER_THAN), .val (.int (0 : Int32)), .unset] []))
          refine own_via (fun _ q => XT.iconstV X18.here hx rfl (0 : Int32) (hb hby at_122) rfl q) ?_
          show own_Goes p e s below _ _ _ (T18.setTop (mkF m 123 #[.val (.int p1), .val (.int p2), .val (.int (p1 &&& (3 : Int32))), .val (.ref a_GREATER_THAN), .val (.int (0 : Int32)), .unset] [(.int (0 : Int32))]))
          refine own_via (fun _ q => XS.istore X18.here hx rfl (hb hby at_123) rfl (l' := #[.val (.int p1), .val (.int p2), .val (.int (p1 &&& (3 : Int32))), .val (.ref a_GREATER_THAN), .val (.int (0 : Int32)), .val (.int (0 : Int32))]) rfl q) ?_
          show own_Goes p e s below _ _ _ (T18.setTop (mkF m 125 #[.val (.int p1), .val (.int p2), .val (.int (p1 &&& (3 : Int32))), .val (.ref a_GREATER_THAN), .val (.int (0 : Int32)), .val (.int (0 : Int32))] []))
          refine own_via (fun _ q => XS.goto X18.here hx rfl (pc0 := 125) (pc' := 141) rfl (hb hby at_125) (by decide) (by decide) q) ?_
          show own_Goes p e s below _ _ _ (T18.setTop (mkF m 141 #[.val (.int p1), .val (.int p2), .val (.int (p1 &&& (3 : Int32))), .val (.ref a_GREATER_THAN), .val (.int (0 : Int32)), .val (.int (0 : Int32))] []))
          refine own_via (fun _ q => XS.aloadN X18.here hx rfl (hb hby at_141) rfl rfl q) ?_
          show own_Goes p e s below _ _ _ (T18.setTop (mkF m 142 #[.val (.int p1), .val (.int p2), .val (.int (p1 &&& (3 : Int32))), .val (.ref a_GREATER_THAN), .val (.int (0 : Int32)), .val (.int (0 : Int32))] [(.ref a_GREATER_THAN)]))
          refine own_via (fun _ q => XS.iloadN X18.here hx rfl (hb hby at_142) rfl q) ?_
          show own_Goes p e s below _ _ _ (T18.setTop (mkF m 143 #[.val (.int p1), .val (.int p2), .val (.int (p1 &&& (3 : Int32))), .val (.ref a_GREATER_THAN), .val (.int (0 : Int32)), .val (.int (0 : Int32))] [(.int p2), (.ref a_GREATER_THAN)]))
          obtain ⟨cq23, kq23, q23a, q23b, q23c⟩ := isOf hZ e18 E_GREATER_THAN
          obtain ⟨_, _, ⟨T23, L23, k23, n23⟩, -, X23, ⟨Lc23, hQ23, l23, y23, z23⟩, st23⟩ := X18.virtualBack hx (y := (⟨"com/example/uppslag/uppslag/query/Condition$Comparison$Operator", "holds", "(I)Z"⟩ : MethodName)) (z := (⟨"com/example/uppslag/uppslag/query/Condition$Comparison$Operator", "holds", "(I)Z"⟩ : MethodName)) hown (mvT hZ (hw _ (List.mem_of_getElem? (i := 3) rfl))) (mvT hZ (hw _ (List.mem_of_getElem? (i := 4) rfl))) (notFace_of_selects (args := #[]) (mvT hZ (hw _ (List.mem_of_getElem? (i := 6) rfl)))) (mvT hZ (hw _ (List.mem_of_getElem? (i := 6) rfl))) (mvT hZ (hw _ (List.mem_of_getElem? (i := 5) rfl))) (by decide) (backOf (W := 0) (rmh2 l Z a0 hw [] a_GREATER_THAN p2 (0 : Int32) h0 n0 E_GREATER_THAN F_GREATER_THAN (by simp [hkp, hkm])) hZ (hw _ (List.mem_of_getElem? (i := 7) rfl)) (hw _ (List.mem_of_getElem? (i := 1) rfl)) (by decide) (by decide)) q23a q23c (g := (mkF m 143 #[.val (.int p1), .val (.int p2), .val (.int (p1 &&& (3 : Int32))), .val (.ref a_GREATER_THAN), .val (.int (0 : Int32)), .val (.int (0 : Int32))] [(.int p2), (.ref a_GREATER_THAN)])) rfl (by rw [hml]; rfl) (Steps.refl _) (argsL := [(.int p2)]) (rest := []) (lenOf pd__I_Z rfl) rfl (by show 2 * 0 + _ ≤ _; exact Nat.le_of_eq rfl) (hb hby at_143) (fun _ _ => ⟨rfl, e18, (by decide : 0 + 0 ≤ _), (by decide : 0 + 0 ≤ _)⟩)
          dsimp only [Pt.U, Pt.locs, Pt.cells, Pt.slots] at X23 l23 y23 z23 st23 hQ23
          subst l23 y23 z23
          obtain ⟨rfl, N23q, e23⟩ := hQ23
          have N23 := Fr.app (Fr.nil n0) N23q
          refine own_on st23 ?_
          show own_Goes p e s below _ _ _ (T23.setTop (mkF m 146 #[.val (.int p1), .val (.int p2), .val (.int (p1 &&& (3 : Int32))), .val (.ref a_GREATER_THAN), .val (.int (0 : Int32)), .val (.int (0 : Int32))] [(.int (0 : Int32))]))
          refine own_via (fun _ q => XS.iload X23.here hx rfl (hb hby at_146) rfl q) ?_
          show own_Goes p e s below _ _ _ (T23.setTop (mkF m 148 #[.val (.int p1), .val (.int p2), .val (.int (p1 &&& (3 : Int32))), .val (.ref a_GREATER_THAN), .val (.int (0 : Int32)), .val (.int (0 : Int32))] [(.int (0 : Int32)), (.int (0 : Int32))]))
          refine own_via (fun _ q => XS.icmpNo X23.here hx rfl (hb hby at_148) rfl (XT.ii_ne_f (by decide)) q) ?_
          show own_Goes p e s below _ _ _ (T23.setTop (mkF m 151 #[.val (.int p1), .val (.int p2), .val (.int (p1 &&& (3 : Int32))), .val (.ref a_GREATER_THAN), .val (.int (0 : Int32)), .val (.int (0 : Int32))] []))
          refine own_via (fun _ q => XS.aloadN X23.here hx rfl (hb hby at_151) rfl rfl q) ?_
          show own_Goes p e s below _ _ _ (T23.setTop (mkF m 152 #[.val (.int p1), .val (.int p2), .val (.int (p1 &&& (3 : Int32))), .val (.ref a_GREATER_THAN), .val (.int (0 : Int32)), .val (.int (0 : Int32))] [(.ref a_GREATER_THAN)]))
          refine own_via (fun _ q => XS.iload X23.here hx rfl (hb hby at_152) rfl q) ?_
          show own_Goes p e s below _ _ _ (T23.setTop (mkF m 154 #[.val (.int p1), .val (.int p2), .val (.int (p1 &&& (3 : Int32))), .val (.ref a_GREATER_THAN), .val (.int (0 : Int32)), .val (.int (0 : Int32))] [(.int (0 : Int32)), (.ref a_GREATER_THAN)]))
          obtain ⟨cq24, kq24, q24a, q24b, q24c⟩ := isOf hZ e23 E_GREATER_THAN
          obtain ⟨_, _, ⟨T24, L24, k24, n24⟩, -, X24, ⟨Lc24, hQ24, l24, y24, z24⟩, st24⟩ := X23.virtualBack hx (y := (⟨"com/example/uppslag/uppslag/query/Condition$Comparison$Operator", "holds", "(I)Z"⟩ : MethodName)) (z := (⟨"com/example/uppslag/uppslag/query/Condition$Comparison$Operator", "holds", "(I)Z"⟩ : MethodName)) hown (mvT hZ (hw _ (List.mem_of_getElem? (i := 3) rfl))) (mvT hZ (hw _ (List.mem_of_getElem? (i := 4) rfl))) (notFace_of_selects (args := #[]) (mvT hZ (hw _ (List.mem_of_getElem? (i := 6) rfl)))) (mvT hZ (hw _ (List.mem_of_getElem? (i := 6) rfl))) (mvT hZ (hw _ (List.mem_of_getElem? (i := 5) rfl))) (by decide) (backOf (W := 0) (rmh2 l Z a0 hw [] a_GREATER_THAN (0 : Int32) (0 : Int32) h0 n0 E_GREATER_THAN F_GREATER_THAN (by decide)) hZ (hw _ (List.mem_of_getElem? (i := 7) rfl)) (hw _ (List.mem_of_getElem? (i := 1) rfl)) (by decide) (by decide)) q24a q24c (g := (mkF m 154 #[.val (.int p1), .val (.int p2), .val (.int (p1 &&& (3 : Int32))), .val (.ref a_GREATER_THAN), .val (.int (0 : Int32)), .val (.int (0 : Int32))] [(.int (0 : Int32)), (.ref a_GREATER_THAN)])) rfl (by rw [hml]; rfl) (Steps.refl _) (argsL := [(.int (0 : Int32))]) (rest := []) (lenOf pd__I_Z rfl) rfl (by show 2 * 0 + _ ≤ _; exact Nat.le_of_eq rfl) (hb hby at_154) (fun _ _ => ⟨rfl, e23, (by decide : 0 + 0 ≤ _), (by decide : 0 + 0 ≤ _)⟩)
          dsimp only [Pt.U, Pt.locs, Pt.cells, Pt.slots] at X24 l24 y24 z24 st24 hQ24
          subst l24 y24 z24
          obtain ⟨rfl, N24q, e24⟩ := hQ24
          have N24 := Fr.app N23 N24q
          refine own_on st24 ?_
          show own_Goes p e s below _ _ _ (T24.setTop (mkF m 157 #[.val (.int p1), .val (.int p2), .val (.int (p1 &&& (3 : Int32))), .val (.ref a_GREATER_THAN), .val (.int (0 : Int32)), .val (.int (0 : Int32))] [(.int (0 : Int32))]))
          refine own_via (fun _ q => XS.iload X24.here hx rfl (hb hby at_157) rfl q) ?_
          show own_Goes p e s below _ _ _ (T24.setTop (mkF m 159 #[.val (.int p1), .val (.int p2), .val (.int (p1 &&& (3 : Int32))), .val (.ref a_GREATER_THAN), .val (.int (0 : Int32)), .val (.int (0 : Int32))] [(.int (0 : Int32)), (.int (0 : Int32))]))
          refine own_via (fun _ q => XS.icmpNo X24.here hx rfl (hb hby at_159) rfl (XT.ii_ne_f (by decide)) q) ?_
          show own_Goes p e s below _ _ _ (T24.setTop (mkF m 162 #[.val (.int p1), .val (.int p2), .val (.int (p1 &&& (3 : Int32))), .val (.ref a_GREATER_THAN), .val (.int (0 : Int32)), .val (.int (0 : Int32))] []))
          refine own_via (fun _ q => XT.iconstV X24.here hx rfl (1 : Int32) (hb hby at_162) rfl q) ?_
          show own_Goes p e s below _ _ _ (T24.setTop (mkF m 163 #[.val (.int p1), .val (.int p2), .val (.int (p1 &&& (3 : Int32))), .val (.ref a_GREATER_THAN), .val (.int (0 : Int32)), .val (.int (0 : Int32))] [(.int (1 : Int32))]))
          refine own_via (fun _ q => XS.goto X24.here hx rfl (pc0 := 163) (pc' := 167) rfl (hb hby at_163) (by decide) (by decide) q) ?_
          show own_Goes p e s below _ _ _ (T24.setTop (mkF m 167 #[.val (.int p1), .val (.int p2), .val (.int (p1 &&& (3 : Int32))), .val (.ref a_GREATER_THAN), .val (.int (0 : Int32)), .val (.int (0 : Int32))] [(.int (1 : Int32))]))
          exact own_retN X24 hx (t := .boolean) hret (by simp) hlk (hb hby at_167) (by decide) (by decide) ⟨rfl, N24⟩
      · refine own_via (fun _ q => XS.icmpYes X0.here hx rfl (pc0 := 29) (pc' := 39) rfl (hb hby at_29) rfl (XT.ii_ne_t hk29_17) (by decide) (by decide) q) ?_
        show own_Goes p e s below _ _ _ (s₁.setTop (mkF m 39 #[.val (.int p1), .val (.int p2), .val (.int (p1 &&& (3 : Int32))), .unset, .unset, .unset] []))
        obtain ⟨T25, X25, e25, st25⟩ := getS2 X0 hx hZ hown (host := "") (Or.inl (hw _ (List.mem_of_getElem? (i := 21) rfl))) Via.refl e0 S_GREATER_THAN_OR_EQUAL (g := (mkF m 39 #[.val (.int p1), .val (.int p2), .val (.int (p1 &&& (3 : Int32))), .unset, .unset, .unset] [])) rfl (hb hby at_39)
        refine own_via st25 ?_
        show own_Goes p e s below _ _ _ (T25.setTop (mkF m 42 #[.val (.int p1), .val (.int p2), .val (.int (p1 &&& (3 : Int32))), .unset, .unset, .unset] [(.ref a_GREATER_THAN_OR_EQUAL)]))
        refine own_via (fun _ q => XS.astoreN X25.here hx rfl (hb hby at_42) rfl rfl (l' := #[.val (.int p1), .val (.int p2), .val (.int (p1 &&& (3 : Int32))), .val (.ref a_GREATER_THAN_OR_EQUAL), .unset, .unset]) rfl q) ?_
        show own_Goes p e s below _ _ _ (T25.setTop (mkF m 43 #[.val (.int p1), .val (.int p2), .val (.int (p1 &&& (3 : Int32))), .val (.ref a_GREATER_THAN_OR_EQUAL), .unset, .unset] []))
        refine own_via (fun _ q => XS.iloadN X25.here hx rfl (hb hby at_43) rfl q) ?_
        show own_Goes p e s below _ _ _ (T25.setTop (mkF m 44 #[.val (.int p1), .val (.int p2), .val (.int (p1 &&& (3 : Int32))), .val (.ref a_GREATER_THAN_OR_EQUAL), .unset, .unset] [(.int p2)]))
        rcases own_tri p2 with ⟨hkp, hkm⟩ | ⟨hkp, hkm⟩ | ⟨hkp, hkm⟩
        · show own_Goes p e s below _ _ _ (T25.setTop (mkF m 44 #[.val (.int p1), .val (.int p2), .val (.int (p1 &&& (3 : Int32))), .val (.ref a_GREATER_THAN_OR_EQUAL), .unset, .unset] [(.int p2)]))
          refine own_via (fun _ q => XS.ifNo X25.here hx rfl (hb hby at_44) rfl (XT.i0_le_f hkp) q) ?_
          show own_Goes p e s below _ _ _ (T25.setTop (mkF m 47 #[.val (.int p1), .val (.int p2), .val (.int (p1 &&& (3 : Int32))), .val (.ref a_GREATER_THAN_OR_EQUAL), .unset, .unset] []))
          refine own_via (fun _ q => XT.iconstV X25.here hx rfl (1 : Int32) (hb hby at_47) rfl q) ?_
          show own_Goes p e s below _ _ _ (T25.setTop (mkF m 48 #[.val (.int p1), .val (.int p2), .val (.int (p1 &&& (3 : Int32))), .val (.ref a_GREATER_THAN_OR_EQUAL), .unset, .unset] [(.int (1 : Int32))]))
          refine own_via (fun _ q => XS.istore X25.here hx rfl (hb hby at_48) rfl (l' := #[.val (.int p1), .val (.int p2), .val (.int (p1 &&& (3 : Int32))), .val (.ref a_GREATER_THAN_OR_EQUAL), .val (.int (1 : Int32)), .unset]) rfl q) ?_
          show own_Goes p e s below _ _ _ (T25.setTop (mkF m 50 #[.val (.int p1), .val (.int p2), .val (.int (p1 &&& (3 : Int32))), .val (.ref a_GREATER_THAN_OR_EQUAL), .val (.int (1 : Int32)), .unset] []))
          refine own_via (fun _ q => XS.goto X25.here hx rfl (pc0 := 50) (pc' := 66) rfl (hb hby at_50) (by decide) (by decide) q) ?_
          show own_Goes p e s below _ _ _ (T25.setTop (mkF m 66 #[.val (.int p1), .val (.int p2), .val (.int (p1 &&& (3 : Int32))), .val (.ref a_GREATER_THAN_OR_EQUAL), .val (.int (1 : Int32)), .unset] []))
          refine own_via (fun _ q => XS.iloadN X25.here hx rfl (hb hby at_66) rfl q) ?_
          show own_Goes p e s below _ _ _ (T25.setTop (mkF m 67 #[.val (.int p1), .val (.int p2), .val (.int (p1 &&& (3 : Int32))), .val (.ref a_GREATER_THAN_OR_EQUAL), .val (.int (1 : Int32)), .unset] [(.int (p1 &&& (3 : Int32)))]))
          refine own_via (fun _ q => XS.ifYes X25.here hx rfl (pc0 := 67) (pc' := 86) rfl (hb hby at_67) rfl (XT.i0_ne_t hk5_1) (by decide) (by decide) q) ?_
          show own_Goes p e s below _ _ _ (T25.setTop (mkF m 86 #[.val (.int p1), .val (.int p2), .val (.int (p1 &&& (3 : Int32))), .val (.ref a_GREATER_THAN_OR_EQUAL), .val (.int (1 : Int32)), .unset] []))
          refine own_via (fun _ q => XS.iloadN X25.here hx rfl (hb hby at_86) rfl q) ?_
          show own_Goes p e s below _ _ _ (T25.setTop (mkF m 87 #[.val (.int p1), .val (.int p2), .val (.int (p1 &&& (3 : Int32))), .val (.ref a_GREATER_THAN_OR_EQUAL), .val (.int (1 : Int32)), .unset] [(.int (p1 &&& (3 : Int32)))]))
          refine own_via (fun _ q => XT.iconstV X25.here hx rfl (1 : Int32) (hb hby at_87) rfl q) ?_
          show own_Goes p e s below _ _ _ (T25.setTop (mkF m 88 #[.val (.int p1), .val (.int p2), .val (.int (p1 &&& (3 : Int32))), .val (.ref a_GREATER_THAN_OR_EQUAL), .val (.int (1 : Int32)), .unset] [(.int (1 : Int32)), (.int (p1 &&& (3 : Int32)))]))
          refine own_via (fun _ q => XS.icmpYes X25.here hx rfl (pc0 := 88) (pc' := 107) rfl (hb hby at_88) rfl (XT.ii_ne_t hk17_9) (by decide) (by decide) q) ?_
          show own_Goes p e s below _ _ _ (T25.setTop (mkF m 107 #[.val (.int p1), .val (.int p2), .val (.int (p1 &&& (3 : Int32))), .val (.ref a_GREATER_THAN_OR_EQUAL), .val (.int (1 : Int32)), .unset] []))
          refine own_via (fun _ q => XS.iloadN X25.here hx rfl (hb hby at_107) rfl q) ?_
          show own_Goes p e s below _ _ _ (T25.setTop (mkF m 108 #[.val (.int p1), .val (.int p2), .val (.int (p1 &&& (3 : Int32))), .val (.ref a_GREATER_THAN_OR_EQUAL), .val (.int (1 : Int32)), .unset] [(.int (p1 &&& (3 : Int32)))]))
          refine own_via (fun _ q => XT.iconstV X25.here hx rfl (2 : Int32) (hb hby at_108) rfl q) ?_
          show own_Goes p e s below _ _ _ (T25.setTop (mkF m 109 #[.val (.int p1), .val (.int p2), .val (.int (p1 &&& (3 : Int32))), .val (.ref a_GREATER_THAN_OR_EQUAL), .val (.int (1 : Int32)), .unset] [(.int (2 : Int32)), (.int (p1 &&& (3 : Int32)))]))
          refine own_via (fun _ q => XS.icmpYes X25.here hx rfl (pc0 := 109) (pc' := 128) rfl (hb hby at_109) rfl (XT.ii_ne_t hk29_17) (by decide) (by decide) q) ?_
          show own_Goes p e s below _ _ _ (T25.setTop (mkF m 128 #[.val (.int p1), .val (.int p2), .val (.int (p1 &&& (3 : Int32))), .val (.ref a_GREATER_THAN_OR_EQUAL), .val (.int (1 : Int32)), .unset] []))
          refine own_via (fun _ q => XS.iload X25.here hx rfl (hb hby at_128) rfl q) ?_
          show own_Goes p e s below _ _ _ (T25.setTop (mkF m 130 #[.val (.int p1), .val (.int p2), .val (.int (p1 &&& (3 : Int32))), .val (.ref a_GREATER_THAN_OR_EQUAL), .val (.int (1 : Int32)), .unset] [(.int (1 : Int32))]))
          refine own_via (fun _ q => XT.iconstV X25.here hx rfl (-1 : Int32) (hb hby at_130) rfl q) ?_
          show own_Goes p e s below _ _ _ (T25.setTop (mkF m 131 #[.val (.int p1), .val (.int p2), .val (.int (p1 &&& (3 : Int32))), .val (.ref a_GREATER_THAN_OR_EQUAL), .val (.int (1 : Int32)), .unset] [(.int (-1 : Int32)), (.int (1 : Int32))]))
          refine own_via (fun _ q => XS.icmpNo X25.here hx rfl (hb hby at_131) rfl (XT.ii_eq_f (by decide)) q) ?_
          show own_Goes p e s below _ _ _ (T25.setTop (mkF m 134 #[.val (.int p1), .val (.int p2), .val (.int (p1 &&& (3 : Int32))), .val (.ref a_GREATER_THAN_OR_EQUAL), .val (.int (1 : Int32)), .unset] []))
          refine own_via (fun _ q => XT.iconstV X25.here hx rfl (1 : Int32) (hb hby at_134) rfl q) ?_
          show own_Goes p e s below _ _ _ (T25.setTop (mkF m 135 #[.val (.int p1), .val (.int p2), .val (.int (p1 &&& (3 : Int32))), .val (.ref a_GREATER_THAN_OR_EQUAL), .val (.int (1 : Int32)), .unset] [(.int (1 : Int32))]))
          refine own_via (fun _ q => XS.goto X25.here hx rfl (pc0 := 135) (pc' := 139) rfl (hb hby at_135) (by decide) (by decide) q) ?_
          show own_Goes p e s below _ _ _ (T25.setTop (mkF m 139 #[.val (.int p1), .val (.int p2), .val (.int (p1 &&& (3 : Int32))), .val (.ref a_GREATER_THAN_OR_EQUAL), .val (.int (1 : Int32)), .unset] [(.int (1 : Int32))]))
          refine own_via (fun _ q => XS.istore X25.here hx rfl (hb hby at_139) rfl (l' := #[.val (.int p1), .val (.int p2), .val (.int (p1 &&& (3 : Int32))), .val (.ref a_GREATER_THAN_OR_EQUAL), .val (.int (1 : Int32)), .val (.int (1 : Int32))]) rfl q) ?_
          show own_Goes p e s below _ _ _ (T25.setTop (mkF m 141 #[.val (.int p1), .val (.int p2), .val (.int (p1 &&& (3 : Int32))), .val (.ref a_GREATER_THAN_OR_EQUAL), .val (.int (1 : Int32)), .val (.int (1 : Int32))] []))
          refine own_via (fun _ q => XS.aloadN X25.here hx rfl (hb hby at_141) rfl rfl q) ?_
          show own_Goes p e s below _ _ _ (T25.setTop (mkF m 142 #[.val (.int p1), .val (.int p2), .val (.int (p1 &&& (3 : Int32))), .val (.ref a_GREATER_THAN_OR_EQUAL), .val (.int (1 : Int32)), .val (.int (1 : Int32))] [(.ref a_GREATER_THAN_OR_EQUAL)]))
          refine own_via (fun _ q => XS.iloadN X25.here hx rfl (hb hby at_142) rfl q) ?_
          show own_Goes p e s below _ _ _ (T25.setTop (mkF m 143 #[.val (.int p1), .val (.int p2), .val (.int (p1 &&& (3 : Int32))), .val (.ref a_GREATER_THAN_OR_EQUAL), .val (.int (1 : Int32)), .val (.int (1 : Int32))] [(.int p2), (.ref a_GREATER_THAN_OR_EQUAL)]))
          obtain ⟨cq26, kq26, q26a, q26b, q26c⟩ := isOf hZ e25 E_GREATER_THAN_OR_EQUAL
          obtain ⟨_, _, ⟨T26, L26, k26, n26⟩, -, X26, ⟨Lc26, hQ26, l26, y26, z26⟩, st26⟩ := X25.virtualBack hx (y := (⟨"com/example/uppslag/uppslag/query/Condition$Comparison$Operator", "holds", "(I)Z"⟩ : MethodName)) (z := (⟨"com/example/uppslag/uppslag/query/Condition$Comparison$Operator", "holds", "(I)Z"⟩ : MethodName)) hown (mvT hZ (hw _ (List.mem_of_getElem? (i := 3) rfl))) (mvT hZ (hw _ (List.mem_of_getElem? (i := 4) rfl))) (notFace_of_selects (args := #[]) (mvT hZ (hw _ (List.mem_of_getElem? (i := 6) rfl)))) (mvT hZ (hw _ (List.mem_of_getElem? (i := 6) rfl))) (mvT hZ (hw _ (List.mem_of_getElem? (i := 5) rfl))) (by decide) (backOf (W := 0) (rmh3 l Z a0 hw [] a_GREATER_THAN_OR_EQUAL p2 (1 : Int32) h0 n0 E_GREATER_THAN_OR_EQUAL F_GREATER_THAN_OR_EQUAL (by simp [hkp, hkm])) hZ (hw _ (List.mem_of_getElem? (i := 7) rfl)) (hw _ (List.mem_of_getElem? (i := 1) rfl)) (by decide) (by decide)) q26a q26c (g := (mkF m 143 #[.val (.int p1), .val (.int p2), .val (.int (p1 &&& (3 : Int32))), .val (.ref a_GREATER_THAN_OR_EQUAL), .val (.int (1 : Int32)), .val (.int (1 : Int32))] [(.int p2), (.ref a_GREATER_THAN_OR_EQUAL)])) rfl (by rw [hml]; rfl) (Steps.refl _) (argsL := [(.int p2)]) (rest := []) (lenOf pd__I_Z rfl) rfl (by show 2 * 0 + _ ≤ _; exact Nat.le_of_eq rfl) (hb hby at_143) (fun _ _ => ⟨rfl, e25, (by decide : 0 + 0 ≤ _), (by decide : 0 + 0 ≤ _)⟩)
          dsimp only [Pt.U, Pt.locs, Pt.cells, Pt.slots] at X26 l26 y26 z26 st26 hQ26
          subst l26 y26 z26
          obtain ⟨rfl, N26q, e26⟩ := hQ26
          have N26 := Fr.app (Fr.nil n0) N26q
          refine own_on st26 ?_
          show own_Goes p e s below _ _ _ (T26.setTop (mkF m 146 #[.val (.int p1), .val (.int p2), .val (.int (p1 &&& (3 : Int32))), .val (.ref a_GREATER_THAN_OR_EQUAL), .val (.int (1 : Int32)), .val (.int (1 : Int32))] [(.int (1 : Int32))]))
          refine own_via (fun _ q => XS.iload X26.here hx rfl (hb hby at_146) rfl q) ?_
          show own_Goes p e s below _ _ _ (T26.setTop (mkF m 148 #[.val (.int p1), .val (.int p2), .val (.int (p1 &&& (3 : Int32))), .val (.ref a_GREATER_THAN_OR_EQUAL), .val (.int (1 : Int32)), .val (.int (1 : Int32))] [(.int (1 : Int32)), (.int (1 : Int32))]))
          refine own_via (fun _ q => XS.icmpNo X26.here hx rfl (hb hby at_148) rfl (XT.ii_ne_f (by decide)) q) ?_
          show own_Goes p e s below _ _ _ (T26.setTop (mkF m 151 #[.val (.int p1), .val (.int p2), .val (.int (p1 &&& (3 : Int32))), .val (.ref a_GREATER_THAN_OR_EQUAL), .val (.int (1 : Int32)), .val (.int (1 : Int32))] []))
          refine own_via (fun _ q => XS.aloadN X26.here hx rfl (hb hby at_151) rfl rfl q) ?_
          show own_Goes p e s below _ _ _ (T26.setTop (mkF m 152 #[.val (.int p1), .val (.int p2), .val (.int (p1 &&& (3 : Int32))), .val (.ref a_GREATER_THAN_OR_EQUAL), .val (.int (1 : Int32)), .val (.int (1 : Int32))] [(.ref a_GREATER_THAN_OR_EQUAL)]))
          refine own_via (fun _ q => XS.iload X26.here hx rfl (hb hby at_152) rfl q) ?_
          show own_Goes p e s below _ _ _ (T26.setTop (mkF m 154 #[.val (.int p1), .val (.int p2), .val (.int (p1 &&& (3 : Int32))), .val (.ref a_GREATER_THAN_OR_EQUAL), .val (.int (1 : Int32)), .val (.int (1 : Int32))] [(.int (1 : Int32)), (.ref a_GREATER_THAN_OR_EQUAL)]))
          obtain ⟨cq27, kq27, q27a, q27b, q27c⟩ := isOf hZ e26 E_GREATER_THAN_OR_EQUAL
          obtain ⟨_, _, ⟨T27, L27, k27, n27⟩, -, X27, ⟨Lc27, hQ27, l27, y27, z27⟩, st27⟩ := X26.virtualBack hx (y := (⟨"com/example/uppslag/uppslag/query/Condition$Comparison$Operator", "holds", "(I)Z"⟩ : MethodName)) (z := (⟨"com/example/uppslag/uppslag/query/Condition$Comparison$Operator", "holds", "(I)Z"⟩ : MethodName)) hown (mvT hZ (hw _ (List.mem_of_getElem? (i := 3) rfl))) (mvT hZ (hw _ (List.mem_of_getElem? (i := 4) rfl))) (notFace_of_selects (args := #[]) (mvT hZ (hw _ (List.mem_of_getElem? (i := 6) rfl)))) (mvT hZ (hw _ (List.mem_of_getElem? (i := 6) rfl))) (mvT hZ (hw _ (List.mem_of_getElem? (i := 5) rfl))) (by decide) (backOf (W := 0) (rmh3 l Z a0 hw [] a_GREATER_THAN_OR_EQUAL (1 : Int32) (1 : Int32) h0 n0 E_GREATER_THAN_OR_EQUAL F_GREATER_THAN_OR_EQUAL (by decide)) hZ (hw _ (List.mem_of_getElem? (i := 7) rfl)) (hw _ (List.mem_of_getElem? (i := 1) rfl)) (by decide) (by decide)) q27a q27c (g := (mkF m 154 #[.val (.int p1), .val (.int p2), .val (.int (p1 &&& (3 : Int32))), .val (.ref a_GREATER_THAN_OR_EQUAL), .val (.int (1 : Int32)), .val (.int (1 : Int32))] [(.int (1 : Int32)), (.ref a_GREATER_THAN_OR_EQUAL)])) rfl (by rw [hml]; rfl) (Steps.refl _) (argsL := [(.int (1 : Int32))]) (rest := []) (lenOf pd__I_Z rfl) rfl (by show 2 * 0 + _ ≤ _; exact Nat.le_of_eq rfl) (hb hby at_154) (fun _ _ => ⟨rfl, e26, (by decide : 0 + 0 ≤ _), (by decide : 0 + 0 ≤ _)⟩)
          dsimp only [Pt.U, Pt.locs, Pt.cells, Pt.slots] at X27 l27 y27 z27 st27 hQ27
          subst l27 y27 z27
          obtain ⟨rfl, N27q, e27⟩ := hQ27
          have N27 := Fr.app N26 N27q
          refine own_on st27 ?_
          show own_Goes p e s below _ _ _ (T27.setTop (mkF m 157 #[.val (.int p1), .val (.int p2), .val (.int (p1 &&& (3 : Int32))), .val (.ref a_GREATER_THAN_OR_EQUAL), .val (.int (1 : Int32)), .val (.int (1 : Int32))] [(.int (1 : Int32))]))
          refine own_via (fun _ q => XS.iload X27.here hx rfl (hb hby at_157) rfl q) ?_
          show own_Goes p e s below _ _ _ (T27.setTop (mkF m 159 #[.val (.int p1), .val (.int p2), .val (.int (p1 &&& (3 : Int32))), .val (.ref a_GREATER_THAN_OR_EQUAL), .val (.int (1 : Int32)), .val (.int (1 : Int32))] [(.int (1 : Int32)), (.int (1 : Int32))]))
          refine own_via (fun _ q => XS.icmpNo X27.here hx rfl (hb hby at_159) rfl (XT.ii_ne_f (by decide)) q) ?_
          show own_Goes p e s below _ _ _ (T27.setTop (mkF m 162 #[.val (.int p1), .val (.int p2), .val (.int (p1 &&& (3 : Int32))), .val (.ref a_GREATER_THAN_OR_EQUAL), .val (.int (1 : Int32)), .val (.int (1 : Int32))] []))
          refine own_via (fun _ q => XT.iconstV X27.here hx rfl (1 : Int32) (hb hby at_162) rfl q) ?_
          show own_Goes p e s below _ _ _ (T27.setTop (mkF m 163 #[.val (.int p1), .val (.int p2), .val (.int (p1 &&& (3 : Int32))), .val (.ref a_GREATER_THAN_OR_EQUAL), .val (.int (1 : Int32)), .val (.int (1 : Int32))] [(.int (1 : Int32))]))
          refine own_via (fun _ q => XS.goto X27.here hx rfl (pc0 := 163) (pc' := 167) rfl (hb hby at_163) (by decide) (by decide) q) ?_
          show own_Goes p e s below _ _ _ (T27.setTop (mkF m 167 #[.val (.int p1), .val (.int p2), .val (.int (p1 &&& (3 : Int32))), .val (.ref a_GREATER_THAN_OR_EQUAL), .val (.int (1 : Int32)), .val (.int (1 : Int32))] [(.int (1 : Int32))]))
          exact own_retN X27 hx (t := .boolean) hret (by simp) hlk (hb hby at_167) (by decide) (by decide) ⟨rfl, N27⟩
        · show own_Goes p e s below _ _ _ (T25.setTop (mkF m 44 #[.val (.int p1), .val (.int p2), .val (.int (p1 &&& (3 : Int32))), .val (.ref a_GREATER_THAN_OR_EQUAL), .unset, .unset] [(.int p2)]))
          refine own_via (fun _ q => XS.ifYes X25.here hx rfl (pc0 := 44) (pc' := 53) rfl (hb hby at_44) rfl (XT.i0_le_t hkp) (by decide) (by decide) q) ?_
          show own_Goes p e s below _ _ _ (T25.setTop (mkF m 53 #[.val (.int p1), .val (.int p2), .val (.int (p1 &&& (3 : Int32))), .val (.ref a_GREATER_THAN_OR_EQUAL), .unset, .unset] []))
          refine own_via (fun _ q => XS.iloadN X25.here hx rfl (hb hby at_53) rfl q) ?_
          show own_Goes p e s below _ _ _ (T25.setTop (mkF m 54 #[.val (.int p1), .val (.int p2), .val (.int (p1 &&& (3 : Int32))), .val (.ref a_GREATER_THAN_OR_EQUAL), .unset, .unset] [(.int p2)]))
          refine own_via (fun _ q => XS.ifNo X25.here hx rfl (hb hby at_54) rfl (XT.i0_ge_f hkm) q) ?_
          show own_Goes p e s below _ _ _ (T25.setTop (mkF m 57 #[.val (.int p1), .val (.int p2), .val (.int (p1 &&& (3 : Int32))), .val (.ref a_GREATER_THAN_OR_EQUAL), .unset, .unset] []))
          refine own_via (fun _ q => XT.iconstV X25.here hx rfl (-1 : Int32) (hb hby at_57) rfl q) ?_
          show own_Goes p e s below _ _ _ (T25.setTop (mkF m 58 #[.val (.int p1), .val (.int p2), .val (.int (p1 &&& (3 : Int32))), .val (.ref a_GREATER_THAN_OR_EQUAL), .unset, .unset] [(.int (-1 : Int32))]))
          refine own_via (fun _ q => XS.istore X25.here hx rfl (hb hby at_58) rfl (l' := #[.val (.int p1), .val (.int p2), .val (.int (p1 &&& (3 : Int32))), .val (.ref a_GREATER_THAN_OR_EQUAL), .val (.int (-1 : Int32)), .unset]) rfl q) ?_
          show own_Goes p e s below _ _ _ (T25.setTop (mkF m 60 #[.val (.int p1), .val (.int p2), .val (.int (p1 &&& (3 : Int32))), .val (.ref a_GREATER_THAN_OR_EQUAL), .val (.int (-1 : Int32)), .unset] []))
          refine own_via (fun _ q => XS.goto X25.here hx rfl (pc0 := 60) (pc' := 66) rfl (hb hby at_60) (by decide) (by decide) q) ?_
          show own_Goes p e s below _ _ _ (T25.setTop (mkF m 66 #[.val (.int p1), .val (.int p2), .val (.int (p1 &&& (3 : Int32))), .val (.ref a_GREATER_THAN_OR_EQUAL), .val (.int (-1 : Int32)), .unset] []))
          refine own_via (fun _ q => XS.iloadN X25.here hx rfl (hb hby at_66) rfl q) ?_
          show own_Goes p e s below _ _ _ (T25.setTop (mkF m 67 #[.val (.int p1), .val (.int p2), .val (.int (p1 &&& (3 : Int32))), .val (.ref a_GREATER_THAN_OR_EQUAL), .val (.int (-1 : Int32)), .unset] [(.int (p1 &&& (3 : Int32)))]))
          refine own_via (fun _ q => XS.ifYes X25.here hx rfl (pc0 := 67) (pc' := 86) rfl (hb hby at_67) rfl (XT.i0_ne_t hk5_1) (by decide) (by decide) q) ?_
          show own_Goes p e s below _ _ _ (T25.setTop (mkF m 86 #[.val (.int p1), .val (.int p2), .val (.int (p1 &&& (3 : Int32))), .val (.ref a_GREATER_THAN_OR_EQUAL), .val (.int (-1 : Int32)), .unset] []))
          refine own_via (fun _ q => XS.iloadN X25.here hx rfl (hb hby at_86) rfl q) ?_
          show own_Goes p e s below _ _ _ (T25.setTop (mkF m 87 #[.val (.int p1), .val (.int p2), .val (.int (p1 &&& (3 : Int32))), .val (.ref a_GREATER_THAN_OR_EQUAL), .val (.int (-1 : Int32)), .unset] [(.int (p1 &&& (3 : Int32)))]))
          refine own_via (fun _ q => XT.iconstV X25.here hx rfl (1 : Int32) (hb hby at_87) rfl q) ?_
          show own_Goes p e s below _ _ _ (T25.setTop (mkF m 88 #[.val (.int p1), .val (.int p2), .val (.int (p1 &&& (3 : Int32))), .val (.ref a_GREATER_THAN_OR_EQUAL), .val (.int (-1 : Int32)), .unset] [(.int (1 : Int32)), (.int (p1 &&& (3 : Int32)))]))
          refine own_via (fun _ q => XS.icmpYes X25.here hx rfl (pc0 := 88) (pc' := 107) rfl (hb hby at_88) rfl (XT.ii_ne_t hk17_9) (by decide) (by decide) q) ?_
          show own_Goes p e s below _ _ _ (T25.setTop (mkF m 107 #[.val (.int p1), .val (.int p2), .val (.int (p1 &&& (3 : Int32))), .val (.ref a_GREATER_THAN_OR_EQUAL), .val (.int (-1 : Int32)), .unset] []))
          refine own_via (fun _ q => XS.iloadN X25.here hx rfl (hb hby at_107) rfl q) ?_
          show own_Goes p e s below _ _ _ (T25.setTop (mkF m 108 #[.val (.int p1), .val (.int p2), .val (.int (p1 &&& (3 : Int32))), .val (.ref a_GREATER_THAN_OR_EQUAL), .val (.int (-1 : Int32)), .unset] [(.int (p1 &&& (3 : Int32)))]))
          refine own_via (fun _ q => XT.iconstV X25.here hx rfl (2 : Int32) (hb hby at_108) rfl q) ?_
          show own_Goes p e s below _ _ _ (T25.setTop (mkF m 109 #[.val (.int p1), .val (.int p2), .val (.int (p1 &&& (3 : Int32))), .val (.ref a_GREATER_THAN_OR_EQUAL), .val (.int (-1 : Int32)), .unset] [(.int (2 : Int32)), (.int (p1 &&& (3 : Int32)))]))
          refine own_via (fun _ q => XS.icmpYes X25.here hx rfl (pc0 := 109) (pc' := 128) rfl (hb hby at_109) rfl (XT.ii_ne_t hk29_17) (by decide) (by decide) q) ?_
          show own_Goes p e s below _ _ _ (T25.setTop (mkF m 128 #[.val (.int p1), .val (.int p2), .val (.int (p1 &&& (3 : Int32))), .val (.ref a_GREATER_THAN_OR_EQUAL), .val (.int (-1 : Int32)), .unset] []))
          refine own_via (fun _ q => XS.iload X25.here hx rfl (hb hby at_128) rfl q) ?_
          show own_Goes p e s below _ _ _ (T25.setTop (mkF m 130 #[.val (.int p1), .val (.int p2), .val (.int (p1 &&& (3 : Int32))), .val (.ref a_GREATER_THAN_OR_EQUAL), .val (.int (-1 : Int32)), .unset] [(.int (-1 : Int32))]))
          refine own_via (fun _ q => XT.iconstV X25.here hx rfl (-1 : Int32) (hb hby at_130) rfl q) ?_
          show own_Goes p e s below _ _ _ (T25.setTop (mkF m 131 #[.val (.int p1), .val (.int p2), .val (.int (p1 &&& (3 : Int32))), .val (.ref a_GREATER_THAN_OR_EQUAL), .val (.int (-1 : Int32)), .unset] [(.int (-1 : Int32)), (.int (-1 : Int32))]))
          refine own_via (fun _ q => XS.icmpYes X25.here hx rfl (pc0 := 131) (pc' := 138) rfl (hb hby at_131) rfl (XT.ii_eq_t (by decide)) (by decide) (by decide) q) ?_
          show own_Goes p e s below _ _ _ (T25.setTop (mkF m 138 #[.val (.int p1), .val (.int p2), .val (.int (p1 &&& (3 : Int32))), .val (.ref a_GREATER_THAN_OR_EQUAL), .val (.int (-1 : Int32)), .unset] []))
          refine own_via (fun _ q => XT.iconstV X25.here hx rfl (0 : Int32) (hb hby at_138) rfl q) ?_
          show own_Goes p e s below _ _ _ (T25.setTop (mkF m 139 #[.val (.int p1), .val (.int p2), .val (.int (p1 &&& (3 : Int32))), .val (.ref a_GREATER_THAN_OR_EQUAL), .val (.int (-1 : Int32)), .unset] [(.int (0 : Int32))]))
          refine own_via (fun _ q => XS.istore X25.here hx rfl (hb hby at_139) rfl (l' := #[.val (.int p1), .val (.int p2), .val (.int (p1 &&& (3 : Int32))), .val (.ref a_GREATER_THAN_OR_EQUAL), .val (.int (-1 : Int32)), .val (.int (0 : Int32))]) rfl q) ?_
          show own_Goes p e s below _ _ _ (T25.setTop (mkF m 141 #[.val (.int p1), .val (.int p2), .val (.int (p1 &&& (3 : Int32))), .val (.ref a_GREATER_THAN_OR_EQUAL), .val (.int (-1 : Int32)), .val (.int (0 : Int32))] []))
          refine own_via (fun _ q => XS.aloadN X25.here hx rfl (hb hby at_141) rfl rfl q) ?_
          show own_Goes p e s below _ _ _ (T25.setTop (mkF m 142 #[.val (.int p1), .val (.int p2), .val (.int (p1 &&& (3 : Int32))), .val (.ref a_GREATER_THAN_OR_EQUAL), .val (.int (-1 : Int32)), .val (.int (0 : Int32))] [(.ref a_GREATER_THAN_OR_EQUAL)]))
          refine own_via (fun _ q => XS.iloadN X25.here hx rfl (hb hby at_142) rfl q) ?_
          show own_Goes p e s below _ _ _ (T25.setTop (mkF m 143 #[.val (.int p1), .val (.int p2), .val (.int (p1 &&& (3 : Int32))), .val (.ref a_GREATER_THAN_OR_EQUAL), .val (.int (-1 : Int32)), .val (.int (0 : Int32))] [(.int p2), (.ref a_GREATER_THAN_OR_EQUAL)]))
          obtain ⟨cq28, kq28, q28a, q28b, q28c⟩ := isOf hZ e25 E_GREATER_THAN_OR_EQUAL
          obtain ⟨_, _, ⟨T28, L28, k28, n28⟩, -, X28, ⟨Lc28, hQ28, l28, y28, z28⟩, st28⟩ := X25.virtualBack hx (y := (⟨"com/example/uppslag/uppslag/query/Condition$Comparison$Operator", "holds", "(I)Z"⟩ : MethodName)) (z := (⟨"com/example/uppslag/uppslag/query/Condition$Comparison$Operator", "holds", "(I)Z"⟩ : MethodName)) hown (mvT hZ (hw _ (List.mem_of_getElem? (i := 3) rfl))) (mvT hZ (hw _ (List.mem_of_getElem? (i := 4) rfl))) (notFace_of_selects (args := #[]) (mvT hZ (hw _ (List.mem_of_getElem? (i := 6) rfl)))) (mvT hZ (hw _ (List.mem_of_getElem? (i := 6) rfl))) (mvT hZ (hw _ (List.mem_of_getElem? (i := 5) rfl))) (by decide) (backOf (W := 0) (rmh3 l Z a0 hw [] a_GREATER_THAN_OR_EQUAL p2 (0 : Int32) h0 n0 E_GREATER_THAN_OR_EQUAL F_GREATER_THAN_OR_EQUAL (by simp [hkp, hkm])) hZ (hw _ (List.mem_of_getElem? (i := 7) rfl)) (hw _ (List.mem_of_getElem? (i := 1) rfl)) (by decide) (by decide)) q28a q28c (g := (mkF m 143 #[.val (.int p1), .val (.int p2), .val (.int (p1 &&& (3 : Int32))), .val (.ref a_GREATER_THAN_OR_EQUAL), .val (.int (-1 : Int32)), .val (.int (0 : Int32))] [(.int p2), (.ref a_GREATER_THAN_OR_EQUAL)])) rfl (by rw [hml]; rfl) (Steps.refl _) (argsL := [(.int p2)]) (rest := []) (lenOf pd__I_Z rfl) rfl (by show 2 * 0 + _ ≤ _; exact Nat.le_of_eq rfl) (hb hby at_143) (fun _ _ => ⟨rfl, e25, (by decide : 0 + 0 ≤ _), (by decide : 0 + 0 ≤ _)⟩)
          dsimp only [Pt.U, Pt.locs, Pt.cells, Pt.slots] at X28 l28 y28 z28 st28 hQ28
          subst l28 y28 z28
          obtain ⟨rfl, N28q, e28⟩ := hQ28
          have N28 := Fr.app (Fr.nil n0) N28q
          refine own_on st28 ?_
          show own_Goes p e s below _ _ _ (T28.setTop (mkF m 146 #[.val (.int p1), .val (.int p2), .val (.int (p1 &&& (3 : Int32))), .val (.ref a_GREATER_THAN_OR_EQUAL), .val (.int (-1 : Int32)), .val (.int (0 : Int32))] [(.int (0 : Int32))]))
          refine own_via (fun _ q => XS.iload X28.here hx rfl (hb hby at_146) rfl q) ?_
          show own_Goes p e s below _ _ _ (T28.setTop (mkF m 148 #[.val (.int p1), .val (.int p2), .val (.int (p1 &&& (3 : Int32))), .val (.ref a_GREATER_THAN_OR_EQUAL), .val (.int (-1 : Int32)), .val (.int (0 : Int32))] [(.int (0 : Int32)), (.int (0 : Int32))]))
          refine own_via (fun _ q => XS.icmpNo X28.here hx rfl (hb hby at_148) rfl (XT.ii_ne_f (by decide)) q) ?_
          show own_Goes p e s below _ _ _ (T28.setTop (mkF m 151 #[.val (.int p1), .val (.int p2), .val (.int (p1 &&& (3 : Int32))), .val (.ref a_GREATER_THAN_OR_EQUAL), .val (.int (-1 : Int32)), .val (.int (0 : Int32))] []))
          refine own_via (fun _ q => XS.aloadN X28.here hx rfl (hb hby at_151) rfl rfl q) ?_
          show own_Goes p e s below _ _ _ (T28.setTop (mkF m 152 #[.val (.int p1), .val (.int p2), .val (.int (p1 &&& (3 : Int32))), .val (.ref a_GREATER_THAN_OR_EQUAL), .val (.int (-1 : Int32)), .val (.int (0 : Int32))] [(.ref a_GREATER_THAN_OR_EQUAL)]))
          refine own_via (fun _ q => XS.iload X28.here hx rfl (hb hby at_152) rfl q) ?_
          show own_Goes p e s below _ _ _ (T28.setTop (mkF m 154 #[.val (.int p1), .val (.int p2), .val (.int (p1 &&& (3 : Int32))), .val (.ref a_GREATER_THAN_OR_EQUAL), .val (.int (-1 : Int32)), .val (.int (0 : Int32))] [(.int (-1 : Int32)), (.ref a_GREATER_THAN_OR_EQUAL)]))
          obtain ⟨cq29, kq29, q29a, q29b, q29c⟩ := isOf hZ e28 E_GREATER_THAN_OR_EQUAL
          obtain ⟨_, _, ⟨T29, L29, k29, n29⟩, -, X29, ⟨Lc29, hQ29, l29, y29, z29⟩, st29⟩ := X28.virtualBack hx (y := (⟨"com/example/uppslag/uppslag/query/Condition$Comparison$Operator", "holds", "(I)Z"⟩ : MethodName)) (z := (⟨"com/example/uppslag/uppslag/query/Condition$Comparison$Operator", "holds", "(I)Z"⟩ : MethodName)) hown (mvT hZ (hw _ (List.mem_of_getElem? (i := 3) rfl))) (mvT hZ (hw _ (List.mem_of_getElem? (i := 4) rfl))) (notFace_of_selects (args := #[]) (mvT hZ (hw _ (List.mem_of_getElem? (i := 6) rfl)))) (mvT hZ (hw _ (List.mem_of_getElem? (i := 6) rfl))) (mvT hZ (hw _ (List.mem_of_getElem? (i := 5) rfl))) (by decide) (backOf (W := 0) (rmh3 l Z a0 hw [] a_GREATER_THAN_OR_EQUAL (-1 : Int32) (0 : Int32) h0 n0 E_GREATER_THAN_OR_EQUAL F_GREATER_THAN_OR_EQUAL (by decide)) hZ (hw _ (List.mem_of_getElem? (i := 7) rfl)) (hw _ (List.mem_of_getElem? (i := 1) rfl)) (by decide) (by decide)) q29a q29c (g := (mkF m 154 #[.val (.int p1), .val (.int p2), .val (.int (p1 &&& (3 : Int32))), .val (.ref a_GREATER_THAN_OR_EQUAL), .val (.int (-1 : Int32)), .val (.int (0 : Int32))] [(.int (-1 : Int32)), (.ref a_GREATER_THAN_OR_EQUAL)])) rfl (by rw [hml]; rfl) (Steps.refl _) (argsL := [(.int (-1 : Int32))]) (rest := []) (lenOf pd__I_Z rfl) rfl (by show 2 * 0 + _ ≤ _; exact Nat.le_of_eq rfl) (hb hby at_154) (fun _ _ => ⟨rfl, e28, (by decide : 0 + 0 ≤ _), (by decide : 0 + 0 ≤ _)⟩)
          dsimp only [Pt.U, Pt.locs, Pt.cells, Pt.slots] at X29 l29 y29 z29 st29 hQ29
          subst l29 y29 z29
          obtain ⟨rfl, N29q, e29⟩ := hQ29
          have N29 := Fr.app N28 N29q
          refine own_on st29 ?_
          show own_Goes p e s below _ _ _ (T29.setTop (mkF m 157 #[.val (.int p1), .val (.int p2), .val (.int (p1 &&& (3 : Int32))), .val (.ref a_GREATER_THAN_OR_EQUAL), .val (.int (-1 : Int32)), .val (.int (0 : Int32))] [(.int (0 : Int32))]))
          refine own_via (fun _ q => XS.iload X29.here hx rfl (hb hby at_157) rfl q) ?_
          show own_Goes p e s below _ _ _ (T29.setTop (mkF m 159 #[.val (.int p1), .val (.int p2), .val (.int (p1 &&& (3 : Int32))), .val (.ref a_GREATER_THAN_OR_EQUAL), .val (.int (-1 : Int32)), .val (.int (0 : Int32))] [(.int (0 : Int32)), (.int (0 : Int32))]))
          refine own_via (fun _ q => XS.icmpNo X29.here hx rfl (hb hby at_159) rfl (XT.ii_ne_f (by decide)) q) ?_
          show own_Goes p e s below _ _ _ (T29.setTop (mkF m 162 #[.val (.int p1), .val (.int p2), .val (.int (p1 &&& (3 : Int32))), .val (.ref a_GREATER_THAN_OR_EQUAL), .val (.int (-1 : Int32)), .val (.int (0 : Int32))] []))
          refine own_via (fun _ q => XT.iconstV X29.here hx rfl (1 : Int32) (hb hby at_162) rfl q) ?_
          show own_Goes p e s below _ _ _ (T29.setTop (mkF m 163 #[.val (.int p1), .val (.int p2), .val (.int (p1 &&& (3 : Int32))), .val (.ref a_GREATER_THAN_OR_EQUAL), .val (.int (-1 : Int32)), .val (.int (0 : Int32))] [(.int (1 : Int32))]))
          refine own_via (fun _ q => XS.goto X29.here hx rfl (pc0 := 163) (pc' := 167) rfl (hb hby at_163) (by decide) (by decide) q) ?_
          show own_Goes p e s below _ _ _ (T29.setTop (mkF m 167 #[.val (.int p1), .val (.int p2), .val (.int (p1 &&& (3 : Int32))), .val (.ref a_GREATER_THAN_OR_EQUAL), .val (.int (-1 : Int32)), .val (.int (0 : Int32))] [(.int (1 : Int32))]))
          exact own_retN X29 hx (t := .boolean) hret (by simp) hlk (hb hby at_167) (by decide) (by decide) ⟨rfl, N29⟩
        · show own_Goes p e s below _ _ _ (T25.setTop (mkF m 44 #[.val (.int p1), .val (.int p2), .val (.int (p1 &&& (3 : Int32))), .val (.ref a_GREATER_THAN_OR_EQUAL), .unset, .unset] [(.int p2)]))
          refine own_via (fun _ q => XS.ifYes X25.here hx rfl (pc0 := 44) (pc' := 53) rfl (hb hby at_44) rfl (XT.i0_le_t hkp) (by decide) (by decide) q) ?_
          show own_Goes p e s below _ _ _ (T25.setTop (mkF m 53 #[.val (.int p1), .val (.int p2), .val (.int (p1 &&& (3 : Int32))), .val (.ref a_GREATER_THAN_OR_EQUAL), .unset, .unset] []))
          refine own_via (fun _ q => XS.iloadN X25.here hx rfl (hb hby at_53) rfl q) ?_
          show own_Goes p e s below _ _ _ (T25.setTop (mkF m 54 #[.val (.int p1), .val (.int p2), .val (.int (p1 &&& (3 : Int32))), .val (.ref a_GREATER_THAN_OR_EQUAL), .unset, .unset] [(.int p2)]))
          refine own_via (fun _ q => XS.ifYes X25.here hx rfl (pc0 := 54) (pc' := 63) rfl (hb hby at_54) rfl (XT.i0_ge_t hkm) (by decide) (by decide) q) ?_
          show own_Goes p e s below _ _ _ (T25.setTop (mkF m 63 #[.val (.int p1), .val (.int p2), .val (.int (p1 &&& (3 : Int32))), .val (.ref a_GREATER_THAN_OR_EQUAL), .unset, .unset] []))
          refine own_via (fun _ q => XT.iconstV X25.here hx rfl (0 : Int32) (hb hby at_63) rfl q) ?_
          show own_Goes p e s below _ _ _ (T25.setTop (mkF m 64 #[.val (.int p1), .val (.int p2), .val (.int (p1 &&& (3 : Int32))), .val (.ref a_GREATER_THAN_OR_EQUAL), .unset, .unset] [(.int (0 : Int32))]))
          refine own_via (fun _ q => XS.istore X25.here hx rfl (hb hby at_64) rfl (l' := #[.val (.int p1), .val (.int p2), .val (.int (p1 &&& (3 : Int32))), .val (.ref a_GREATER_THAN_OR_EQUAL), .val (.int (0 : Int32)), .unset]) rfl q) ?_
          show own_Goes p e s below _ _ _ (T25.setTop (mkF m 66 #[.val (.int p1), .val (.int p2), .val (.int (p1 &&& (3 : Int32))), .val (.ref a_GREATER_THAN_OR_EQUAL), .val (.int (0 : Int32)), .unset] []))
          refine own_via (fun _ q => XS.iloadN X25.here hx rfl (hb hby at_66) rfl q) ?_
          show own_Goes p e s below _ _ _ (T25.setTop (mkF m 67 #[.val (.int p1), .val (.int p2), .val (.int (p1 &&& (3 : Int32))), .val (.ref a_GREATER_THAN_OR_EQUAL), .val (.int (0 : Int32)), .unset] [(.int (p1 &&& (3 : Int32)))]))
          refine own_via (fun _ q => XS.ifYes X25.here hx rfl (pc0 := 67) (pc' := 86) rfl (hb hby at_67) rfl (XT.i0_ne_t hk5_1) (by decide) (by decide) q) ?_
          show own_Goes p e s below _ _ _ (T25.setTop (mkF m 86 #[.val (.int p1), .val (.int p2), .val (.int (p1 &&& (3 : Int32))), .val (.ref a_GREATER_THAN_OR_EQUAL), .val (.int (0 : Int32)), .unset] []))
          refine own_via (fun _ q => XS.iloadN X25.here hx rfl (hb hby at_86) rfl q) ?_
          show own_Goes p e s below _ _ _ (T25.setTop (mkF m 87 #[.val (.int p1), .val (.int p2), .val (.int (p1 &&& (3 : Int32))), .val (.ref a_GREATER_THAN_OR_EQUAL), .val (.int (0 : Int32)), .unset] [(.int (p1 &&& (3 : Int32)))]))
          refine own_via (fun _ q => XT.iconstV X25.here hx rfl (1 : Int32) (hb hby at_87) rfl q) ?_
          show own_Goes p e s below _ _ _ (T25.setTop (mkF m 88 #[.val (.int p1), .val (.int p2), .val (.int (p1 &&& (3 : Int32))), .val (.ref a_GREATER_THAN_OR_EQUAL), .val (.int (0 : Int32)), .unset] [(.int (1 : Int32)), (.int (p1 &&& (3 : Int32)))]))
          refine own_via (fun _ q => XS.icmpYes X25.here hx rfl (pc0 := 88) (pc' := 107) rfl (hb hby at_88) rfl (XT.ii_ne_t hk17_9) (by decide) (by decide) q) ?_
          show own_Goes p e s below _ _ _ (T25.setTop (mkF m 107 #[.val (.int p1), .val (.int p2), .val (.int (p1 &&& (3 : Int32))), .val (.ref a_GREATER_THAN_OR_EQUAL), .val (.int (0 : Int32)), .unset] []))
          refine own_via (fun _ q => XS.iloadN X25.here hx rfl (hb hby at_107) rfl q) ?_
          show own_Goes p e s below _ _ _ (T25.setTop (mkF m 108 #[.val (.int p1), .val (.int p2), .val (.int (p1 &&& (3 : Int32))), .val (.ref a_GREATER_THAN_OR_EQUAL), .val (.int (0 : Int32)), .unset] [(.int (p1 &&& (3 : Int32)))]))
          refine own_via (fun _ q => XT.iconstV X25.here hx rfl (2 : Int32) (hb hby at_108) rfl q) ?_
          show own_Goes p e s below _ _ _ (T25.setTop (mkF m 109 #[.val (.int p1), .val (.int p2), .val (.int (p1 &&& (3 : Int32))), .val (.ref a_GREATER_THAN_OR_EQUAL), .val (.int (0 : Int32)), .unset] [(.int (2 : Int32)), (.int (p1 &&& (3 : Int32)))]))
          refine own_via (fun _ q => XS.icmpYes X25.here hx rfl (pc0 := 109) (pc' := 128) rfl (hb hby at_109) rfl (XT.ii_ne_t hk29_17) (by decide) (by decide) q) ?_
          show own_Goes p e s below _ _ _ (T25.setTop (mkF m 128 #[.val (.int p1), .val (.int p2), .val (.int (p1 &&& (3 : Int32))), .val (.ref a_GREATER_THAN_OR_EQUAL), .val (.int (0 : Int32)), .unset] []))
          refine own_via (fun _ q => XS.iload X25.here hx rfl (hb hby at_128) rfl q) ?_
          show own_Goes p e s below _ _ _ (T25.setTop (mkF m 130 #[.val (.int p1), .val (.int p2), .val (.int (p1 &&& (3 : Int32))), .val (.ref a_GREATER_THAN_OR_EQUAL), .val (.int (0 : Int32)), .unset] [(.int (0 : Int32))]))
          refine own_via (fun _ q => XT.iconstV X25.here hx rfl (-1 : Int32) (hb hby at_130) rfl q) ?_
          show own_Goes p e s below _ _ _ (T25.setTop (mkF m 131 #[.val (.int p1), .val (.int p2), .val (.int (p1 &&& (3 : Int32))), .val (.ref a_GREATER_THAN_OR_EQUAL), .val (.int (0 : Int32)), .unset] [(.int (-1 : Int32)), (.int (0 : Int32))]))
          refine own_via (fun _ q => XS.icmpNo X25.here hx rfl (hb hby at_131) rfl (XT.ii_eq_f (by decide)) q) ?_
          show own_Goes p e s below _ _ _ (T25.setTop (mkF m 134 #[.val (.int p1), .val (.int p2), .val (.int (p1 &&& (3 : Int32))), .val (.ref a_GREATER_THAN_OR_EQUAL), .val (.int (0 : Int32)), .unset] []))
          refine own_via (fun _ q => XT.iconstV X25.here hx rfl (1 : Int32) (hb hby at_134) rfl q) ?_
          show own_Goes p e s below _ _ _ (T25.setTop (mkF m 135 #[.val (.int p1), .val (.int p2), .val (.int (p1 &&& (3 : Int32))), .val (.ref a_GREATER_THAN_OR_EQUAL), .val (.int (0 : Int32)), .unset] [(.int (1 : Int32))]))
          refine own_via (fun _ q => XS.goto X25.here hx rfl (pc0 := 135) (pc' := 139) rfl (hb hby at_135) (by decide) (by decide) q) ?_
          show own_Goes p e s below _ _ _ (T25.setTop (mkF m 139 #[.val (.int p1), .val (.int p2), .val (.int (p1 &&& (3 : Int32))), .val (.ref a_GREATER_THAN_OR_EQUAL), .val (.int (0 : Int32)), .unset] [(.int (1 : Int32))]))
          refine own_via (fun _ q => XS.istore X25.here hx rfl (hb hby at_139) rfl (l' := #[.val (.int p1), .val (.int p2), .val (.int (p1 &&& (3 : Int32))), .val (.ref a_GREATER_THAN_OR_EQUAL), .val (.int (0 : Int32)), .val (.int (1 : Int32))]) rfl q) ?_
          show own_Goes p e s below _ _ _ (T25.setTop (mkF m 141 #[.val (.int p1), .val (.int p2), .val (.int (p1 &&& (3 : Int32))), .val (.ref a_GREATER_THAN_OR_EQUAL), .val (.int (0 : Int32)), .val (.int (1 : Int32))] []))
          refine own_via (fun _ q => XS.aloadN X25.here hx rfl (hb hby at_141) rfl rfl q) ?_
          show own_Goes p e s below _ _ _ (T25.setTop (mkF m 142 #[.val (.int p1), .val (.int p2), .val (.int (p1 &&& (3 : Int32))), .val (.ref a_GREATER_THAN_OR_EQUAL), .val (.int (0 : Int32)), .val (.int (1 : Int32))] [(.ref a_GREATER_THAN_OR_EQUAL)]))
          refine own_via (fun _ q => XS.iloadN X25.here hx rfl (hb hby at_142) rfl q) ?_
          show own_Goes p e s below _ _ _ (T25.setTop (mkF m 143 #[.val (.int p1), .val (.int p2), .val (.int (p1 &&& (3 : Int32))), .val (.ref a_GREATER_THAN_OR_EQUAL), .val (.int (0 : Int32)), .val (.int (1 : Int32))] [(.int p2), (.ref a_GREATER_THAN_OR_EQUAL)]))
          obtain ⟨cq30, kq30, q30a, q30b, q30c⟩ := isOf hZ e25 E_GREATER_THAN_OR_EQUAL
          obtain ⟨_, _, ⟨T30, L30, k30, n30⟩, -, X30, ⟨Lc30, hQ30, l30, y30, z30⟩, st30⟩ := X25.virtualBack hx (y := (⟨"com/example/uppslag/uppslag/query/Condition$Comparison$Operator", "holds", "(I)Z"⟩ : MethodName)) (z := (⟨"com/example/uppslag/uppslag/query/Condition$Comparison$Operator", "holds", "(I)Z"⟩ : MethodName)) hown (mvT hZ (hw _ (List.mem_of_getElem? (i := 3) rfl))) (mvT hZ (hw _ (List.mem_of_getElem? (i := 4) rfl))) (notFace_of_selects (args := #[]) (mvT hZ (hw _ (List.mem_of_getElem? (i := 6) rfl)))) (mvT hZ (hw _ (List.mem_of_getElem? (i := 6) rfl))) (mvT hZ (hw _ (List.mem_of_getElem? (i := 5) rfl))) (by decide) (backOf (W := 0) (rmh3 l Z a0 hw [] a_GREATER_THAN_OR_EQUAL p2 (1 : Int32) h0 n0 E_GREATER_THAN_OR_EQUAL F_GREATER_THAN_OR_EQUAL (by simp [hkp, hkm])) hZ (hw _ (List.mem_of_getElem? (i := 7) rfl)) (hw _ (List.mem_of_getElem? (i := 1) rfl)) (by decide) (by decide)) q30a q30c (g := (mkF m 143 #[.val (.int p1), .val (.int p2), .val (.int (p1 &&& (3 : Int32))), .val (.ref a_GREATER_THAN_OR_EQUAL), .val (.int (0 : Int32)), .val (.int (1 : Int32))] [(.int p2), (.ref a_GREATER_THAN_OR_EQUAL)])) rfl (by rw [hml]; rfl) (Steps.refl _) (argsL := [(.int p2)]) (rest := []) (lenOf pd__I_Z rfl) rfl (by show 2 * 0 + _ ≤ _; exact Nat.le_of_eq rfl) (hb hby at_143) (fun _ _ => ⟨rfl, e25, (by decide : 0 + 0 ≤ _), (by decide : 0 + 0 ≤ _)⟩)
          dsimp only [Pt.U, Pt.locs, Pt.cells, Pt.slots] at X30 l30 y30 z30 st30 hQ30
          subst l30 y30 z30
          obtain ⟨rfl, N30q, e30⟩ := hQ30
          have N30 := Fr.app (Fr.nil n0) N30q
          refine own_on st30 ?_
          show own_Goes p e s below _ _ _ (T30.setTop (mkF m 146 #[.val (.int p1), .val (.int p2), .val (.int (p1 &&& (3 : Int32))), .val (.ref a_GREATER_THAN_OR_EQUAL), .val (.int (0 : Int32)), .val (.int (1 : Int32))] [(.int (1 : Int32))]))
          refine own_via (fun _ q => XS.iload X30.here hx rfl (hb hby at_146) rfl q) ?_
          show own_Goes p e s below _ _ _ (T30.setTop (mkF m 148 #[.val (.int p1), .val (.int p2), .val (.int (p1 &&& (3 : Int32))), .val (.ref a_GREATER_THAN_OR_EQUAL), .val (.int (0 : Int32)), .val (.int (1 : Int32))] [(.int (1 : Int32)), (.int (1 : Int32))]))
          refine own_via (fun _ q => XS.icmpNo X30.here hx rfl (hb hby at_148) rfl (XT.ii_ne_f (by decide)) q) ?_
          show own_Goes p e s below _ _ _ (T30.setTop (mkF m 151 #[.val (.int p1), .val (.int p2), .val (.int (p1 &&& (3 : Int32))), .val (.ref a_GREATER_THAN_OR_EQUAL), .val (.int (0 : Int32)), .val (.int (1 : Int32))] []))
          refine own_via (fun _ q => XS.aloadN X30.here hx rfl (hb hby at_151) rfl rfl q) ?_
          show own_Goes p e s below _ _ _ (T30.setTop (mkF m 152 #[.val (.int p1), .val (.int p2), .val (.int (p1 &&& (3 : Int32))), .val (.ref a_GREATER_THAN_OR_EQUAL), .val (.int (0 : Int32)), .val (.int (1 : Int32))] [(.ref a_GREATER_THAN_OR_EQUAL)]))
          refine own_via (fun _ q => XS.iload X30.here hx rfl (hb hby at_152) rfl q) ?_
          show own_Goes p e s below _ _ _ (T30.setTop (mkF m 154 #[.val (.int p1), .val (.int p2), .val (.int (p1 &&& (3 : Int32))), .val (.ref a_GREATER_THAN_OR_EQUAL), .val (.int (0 : Int32)), .val (.int (1 : Int32))] [(.int (0 : Int32)), (.ref a_GREATER_THAN_OR_EQUAL)]))
          obtain ⟨cq31, kq31, q31a, q31b, q31c⟩ := isOf hZ e30 E_GREATER_THAN_OR_EQUAL
          obtain ⟨_, _, ⟨T31, L31, k31, n31⟩, -, X31, ⟨Lc31, hQ31, l31, y31, z31⟩, st31⟩ := X30.virtualBack hx (y := (⟨"com/example/uppslag/uppslag/query/Condition$Comparison$Operator", "holds", "(I)Z"⟩ : MethodName)) (z := (⟨"com/example/uppslag/uppslag/query/Condition$Comparison$Operator", "holds", "(I)Z"⟩ : MethodName)) hown (mvT hZ (hw _ (List.mem_of_getElem? (i := 3) rfl))) (mvT hZ (hw _ (List.mem_of_getElem? (i := 4) rfl))) (notFace_of_selects (args := #[]) (mvT hZ (hw _ (List.mem_of_getElem? (i := 6) rfl)))) (mvT hZ (hw _ (List.mem_of_getElem? (i := 6) rfl))) (mvT hZ (hw _ (List.mem_of_getElem? (i := 5) rfl))) (by decide) (backOf (W := 0) (rmh3 l Z a0 hw [] a_GREATER_THAN_OR_EQUAL (0 : Int32) (1 : Int32) h0 n0 E_GREATER_THAN_OR_EQUAL F_GREATER_THAN_OR_EQUAL (by decide)) hZ (hw _ (List.mem_of_getElem? (i := 7) rfl)) (hw _ (List.mem_of_getElem? (i := 1) rfl)) (by decide) (by decide)) q31a q31c (g := (mkF m 154 #[.val (.int p1), .val (.int p2), .val (.int (p1 &&& (3 : Int32))), .val (.ref a_GREATER_THAN_OR_EQUAL), .val (.int (0 : Int32)), .val (.int (1 : Int32))] [(.int (0 : Int32)), (.ref a_GREATER_THAN_OR_EQUAL)])) rfl (by rw [hml]; rfl) (Steps.refl _) (argsL := [(.int (0 : Int32))]) (rest := []) (lenOf pd__I_Z rfl) rfl (by show 2 * 0 + _ ≤ _; exact Nat.le_of_eq rfl) (hb hby at_154) (fun _ _ => ⟨rfl, e30, (by decide : 0 + 0 ≤ _), (by decide : 0 + 0 ≤ _)⟩)
          dsimp only [Pt.U, Pt.locs, Pt.cells, Pt.slots] at X31 l31 y31 z31 st31 hQ31
          subst l31 y31 z31
          obtain ⟨rfl, N31q, e31⟩ := hQ31
          have N31 := Fr.app N30 N31q
          refine own_on st31 ?_
          show own_Goes p e s below _ _ _ (T31.setTop (mkF m 157 #[.val (.int p1), .val (.int p2), .val (.int (p1 &&& (3 : Int32))), .val (.ref a_GREATER_THAN_OR_EQUAL), .val (.int (0 : Int32)), .val (.int (1 : Int32))] [(.int (1 : Int32))]))
          refine own_via (fun _ q => XS.iload X31.here hx rfl (hb hby at_157) rfl q) ?_
          show own_Goes p e s below _ _ _ (T31.setTop (mkF m 159 #[.val (.int p1), .val (.int p2), .val (.int (p1 &&& (3 : Int32))), .val (.ref a_GREATER_THAN_OR_EQUAL), .val (.int (0 : Int32)), .val (.int (1 : Int32))] [(.int (1 : Int32)), (.int (1 : Int32))]))
          refine own_via (fun _ q => XS.icmpNo X31.here hx rfl (hb hby at_159) rfl (XT.ii_ne_f (by decide)) q) ?_
          show own_Goes p e s below _ _ _ (T31.setTop (mkF m 162 #[.val (.int p1), .val (.int p2), .val (.int (p1 &&& (3 : Int32))), .val (.ref a_GREATER_THAN_OR_EQUAL), .val (.int (0 : Int32)), .val (.int (1 : Int32))] []))
          refine own_via (fun _ q => XT.iconstV X31.here hx rfl (1 : Int32) (hb hby at_162) rfl q) ?_
          show own_Goes p e s below _ _ _ (T31.setTop (mkF m 163 #[.val (.int p1), .val (.int p2), .val (.int (p1 &&& (3 : Int32))), .val (.ref a_GREATER_THAN_OR_EQUAL), .val (.int (0 : Int32)), .val (.int (1 : Int32))] [(.int (1 : Int32))]))
          refine own_via (fun _ q => XS.goto X31.here hx rfl (pc0 := 163) (pc' := 167) rfl (hb hby at_163) (by decide) (by decide) q) ?_
          show own_Goes p e s below _ _ _ (T31.setTop (mkF m 167 #[.val (.int p1), .val (.int p2), .val (.int (p1 &&& (3 : Int32))), .val (.ref a_GREATER_THAN_OR_EQUAL), .val (.int (0 : Int32)), .val (.int (1 : Int32))] [(.int (1 : Int32))]))
          exact own_retN X31 hx (t := .boolean) hret (by simp) hlk (hb hby at_167) (by decide) (by decide) ⟨rfl, N31⟩
set_option maxRecDepth 65536 in
set_option maxHeartbeats 40000000 in
theorem comes_1 {Post : Tables → Env → Array Value → State → Outcome → State → Prop} (hpost : ∀ tb e args s v u, (limb_1_1.after args s (.returned v) u = true ∧ limb_1_2.after args s (.returned v) u = true ∧ True) → FrameEnd s (.returned v) u (Jvm.fieldLocs frame_1_writes args s ++ Jvm.arrayLocs frame_1_arrays args s ++ Jvm.staticLocs frame_1_statics s) 0 0 → Post tb e args s (.returned v) u) :
    ArmFor flags0 classFile x code maxLocals ret World_1 tables_1 room_1 Calls_1 rest_1 Pre_1 Post := by
  intro l hfl _ _ p e ha hc hk s m args below hf hA hF happ hP
  obtain ⟨hcalls, hrest, hpre⟩ := hP
  obtain ⟨-, -, -, hnamed, -, -, -, hat⟩ := (Spec.applies_iff hf).mp happ
  obtain ⟨hg, hn⟩ := and_e (Cond.before_iff.mp (show (Jvm.Cond.and given_1 narrow_1).before args s = true from hpre))
  obtain ⟨h1, g0⟩ := and_e hg
  obtain ⟨w0, w1, rfl⟩ : ∃ w0 w1 : Value, args = #[w0, w1] := by
    have hs : args.size = 2 := by simpa [Cond.value, given_1] using h1
    obtain ⟨L⟩ := args
    match L, hs with
    | [w0, w1], _ => exact ⟨w0, w1, rfl⟩
  have hw := fun d (hd : d ∈ tables_1) => atoms_spec (ws := Jvm.Cond.code x code maxLocals ret :: tables_1) hat d (List.mem_cons_of_mem _ hd)
  obtain ⟨g0', g1⟩ := and_e g0
  obtain ⟨i0, e0⟩ := is_v g0'
  obtain rfl : w0 = (.int i0) := Option.some.inj e0
  obtain ⟨i1, e1⟩ := is_v g1
  obtain rfl : w1 = (.int i1) := Option.some.inj e1
  have n0 := hn
  obtain ⟨n0', n1⟩ := and_e n0
  obtain ⟨a_LESS_THAN, ev_LESS_THAN⟩ := exa_v n0'
  have E_LESS_THAN : Exa s s.heap a_LESS_THAN "com/example/uppslag/uppslag/query/Condition$Comparison$Operator" := Exa.start ev_LESS_THAN n0'
  have S_LESS_THAN : Sta s s.heap "com/example/uppslag/uppslag/query/Condition$Comparison$Operator" "LESS_THAN" "Lcom/example/uppslag/uppslag/query/Condition$Comparison$Operator;" (.ref a_LESS_THAN) := Sta.start ev_LESS_THAN (Or.inr ⟨(hw _ (List.mem_of_getElem? (i := 1) rfl)), (hw _ (List.mem_of_getElem? (i := 2) rfl))⟩)
  obtain ⟨n1', n2⟩ := and_e n1
  obtain ⟨n2', n3⟩ := and_e n2
  obtain ⟨a_GREATER_THAN, ev_GREATER_THAN⟩ := exa_v n2'
  have E_GREATER_THAN : Exa s s.heap a_GREATER_THAN "com/example/uppslag/uppslag/query/Condition$Comparison$Operator" := Exa.start ev_GREATER_THAN n2'
  have S_GREATER_THAN : Sta s s.heap "com/example/uppslag/uppslag/query/Condition$Comparison$Operator" "GREATER_THAN" "Lcom/example/uppslag/uppslag/query/Condition$Comparison$Operator;" (.ref a_GREATER_THAN) := Sta.start ev_GREATER_THAN (Or.inr ⟨(hw _ (List.mem_of_getElem? (i := 1) rfl)), (hw _ (List.mem_of_getElem? (i := 18) rfl))⟩)
  obtain ⟨n3', n4⟩ := and_e n3
  obtain ⟨n4', n5⟩ := and_e n4
  obtain ⟨a_LESS_THAN_OR_EQUAL, ev_LESS_THAN_OR_EQUAL⟩ := exa_v n4'
  have E_LESS_THAN_OR_EQUAL : Exa s s.heap a_LESS_THAN_OR_EQUAL "com/example/uppslag/uppslag/query/Condition$Comparison$Operator" := Exa.start ev_LESS_THAN_OR_EQUAL n4'
  have S_LESS_THAN_OR_EQUAL : Sta s s.heap "com/example/uppslag/uppslag/query/Condition$Comparison$Operator" "LESS_THAN_OR_EQUAL" "Lcom/example/uppslag/uppslag/query/Condition$Comparison$Operator;" (.ref a_LESS_THAN_OR_EQUAL) := Sta.start ev_LESS_THAN_OR_EQUAL (Or.inr ⟨(hw _ (List.mem_of_getElem? (i := 1) rfl)), (hw _ (List.mem_of_getElem? (i := 20) rfl))⟩)
  obtain ⟨n5', n6⟩ := and_e n5
  obtain ⟨n6', n7⟩ := and_e n6
  obtain ⟨a_GREATER_THAN_OR_EQUAL, ev_GREATER_THAN_OR_EQUAL⟩ := exa_v n6'
  have E_GREATER_THAN_OR_EQUAL : Exa s s.heap a_GREATER_THAN_OR_EQUAL "com/example/uppslag/uppslag/query/Condition$Comparison$Operator" := Exa.start ev_GREATER_THAN_OR_EQUAL n6'
  have S_GREATER_THAN_OR_EQUAL : Sta s s.heap "com/example/uppslag/uppslag/query/Condition$Comparison$Operator" "GREATER_THAN_OR_EQUAL" "Lcom/example/uppslag/uppslag/query/Condition$Comparison$Operator;" (.ref a_GREATER_THAN_OR_EQUAL) := Sta.start ev_GREATER_THAN_OR_EQUAL (Or.inr ⟨(hw _ (List.mem_of_getElem? (i := 1) rfl)), (hw _ (List.mem_of_getElem? (i := 22) rfl))⟩)
  have F_LESS_THAN_ordinal : Fld s s.heap a_LESS_THAN "java/lang/Enum" "ordinal" "I" (.int (0 : Int32)) := Fld.start ((fld_at ev_LESS_THAN).symm.trans (own_eqi n1'))
  have F_GREATER_THAN_ordinal : Fld s s.heap a_GREATER_THAN "java/lang/Enum" "ordinal" "I" (.int (2 : Int32)) := Fld.start ((fld_at ev_GREATER_THAN).symm.trans (own_eqi n3'))
  have F_LESS_THAN_OR_EQUAL_ordinal : Fld s s.heap a_LESS_THAN_OR_EQUAL "java/lang/Enum" "ordinal" "I" (.int (1 : Int32)) := Fld.start ((fld_at ev_LESS_THAN_OR_EQUAL).symm.trans (own_eqi n5'))
  have F_GREATER_THAN_OR_EQUAL_ordinal : Fld s s.heap a_GREATER_THAN_OR_EQUAL "java/lang/Enum" "ordinal" "I" (.int (3 : Int32)) := Fld.start ((fld_at ev_GREATER_THAN_OR_EQUAL).symm.trans (own_eqi n7))
  obtain ⟨n, o, h1, h2, h3, _, L, rfl, ⟨rfl, N⟩, hq⟩ := rm0 l s _ hw tables_1 i0 i1 a_LESS_THAN a_LESS_THAN_OR_EQUAL a_GREATER_THAN a_GREATER_THAN_OR_EQUAL s.heap s.heap.size S_LESS_THAN S_LESS_THAN_OR_EQUAL S_GREATER_THAN S_GREATER_THAN_OR_EQUAL E_LESS_THAN E_LESS_THAN_OR_EQUAL E_GREATER_THAN E_GREATER_THAN_OR_EQUAL F_LESS_THAN_ordinal F_LESS_THAN_OR_EQUAL_ordinal F_GREATER_THAN_ordinal F_GREATER_THAN_OR_EQUAL_ordinal p e ha hc hk s m _ below hf ((Spec.applies_iff_loose hf).mp happ).1 ⟨rfl, State.Warmed39.refl s, rfl⟩ trivial
  refine ⟨n, _, h1, h2, h3, hpost _ _ _ _ _ _ ⟨Cond.after_iff.mpr rfl, Cond.after_iff.mpr (eq_i res_at (Term.int_eval (1)) rfl), trivial⟩ ⟨hq.1, hq.2.1, (hq.2.2.sift fun y hy => Or.inr (N y hy)).mono (by decide) (by decide)⟩⟩
theorem main_1_1 : Claimed_1_1 := comes_1 fun _ _ _ _ _ _ h hF => ⟨h.1, hF⟩
theorem main_1_2 : Claimed_1_2 := comes_1 fun _ _ _ _ _ _ h hF => ⟨h.2.1, hF⟩
end Jvm.Pilot.@@N@@
namespace Jvm.Pilot.@@N@@
open Jvm Jvm.ClassFile Sem Op Lib Jvm.Free Jvm.Stand Jvm.Pilot.@@N@@.Jvm.D
/-! MADE BY PROGRAM (witnessworld.py) out of the Statement's table words and the real class files: 12 classes; the members and pool entries that the words name. The judged class is class 1, her method 1. -/
namespace start1
open Jvm.ClassFile
def u (s : String) : CpInfo := .utf8 (stringToUtf16 s)
/-- a pool by its gaps: so many unusable entries, then the entry; so many at the end -/
def gap : Nat → List CpInfo → List CpInfo
  | 0, r => r
  | n + 1, r => .unusable :: gap n r
def poolList (es : List (Nat × CpInfo)) (last : Nat) : List CpInfo := es.foldr (fun e r => gap e.1 (e.2 :: r)) (gap last [])
def pool (es : List (Nat × CpInfo)) (last : Nat) : Array CpInfo := ⟨poolList es last⟩
def fileOf (pool : Array CpInfo) (this : Nat) (attrs : Array Attribute := #[]) (ms : Array MethodInfo := #[]) (fl : Nat := 33) (sup : Nat := 0) (ifs : Array Nat := #[]) (fds : Array FieldInfo := #[]) : ClassFile where
  minorVersion := 0
  majorVersion := 65
  constantPool := pool
  accessFlags := fl
  thisClass := this
  superClass := sup
  interfaces := ifs
  fields := fds
  methods := ms
  attributes := attrs
def plain (name : String) (sup : Option ClassId) : Class where
  name := name
  kind := .ordinary
  loader := none
  accessFlags := 33
  super := sup
  interfaces := #[]
  cf := none
  fields := #[]
  methods := #[]
  instanceTypes := #[]
  staticTypes := #[]
  resolved := #[]
  callSites := []
  init := .initialized
  statics := none
  mirror := none

def pool0 : Array CpInfo := pool [(5, u "<init>"), (0, u "()V"), (1, .class_ 10), (1, u "java/lang/Object")] 113

def k0m0 : Method := { name := "<init>", desc := "()V", sig := { parameters := [], returnType := none }, accessFlags := 1, code := none }
/-- java/lang/Object -/
def k0 : Class := { plain "java/lang/Object" none with
  accessFlags := 33
  interfaces := #[]
  cf := some (fileOf pool0 8 #[] #[{ accessFlags := 1, nameIndex := 5, descriptorIndex := 6, attributes := #[] }] 33 0 #[] #[])
  fields := #[]
  methods := #[k0m0]
  instanceTypes := #[]
  staticTypes := #[]
  resolved := Array.replicate 124 none
  statics := none }

def pool1 : Array CpInfo := pool [(2, .class_ 4), (1, u "java/lang/Object"), (0, u "<init>"), (0, u "()V"), (0, .fieldref 8 9), (0, .class_ 10), (0, .nameAndType 11 12), (0, u "com/example/uppslag/uppslag/query/Condition$Comparison$Operator"), (0, u "LESS_THAN"), (0, u "Lcom/example/uppslag/uppslag/query/Condition$Comparison$Operator;"), (0, .fieldref 8 14), (0, .nameAndType 15 12), (0, u "LESS_THAN_OR_EQUAL"), (0, .fieldref 8 17), (0, .nameAndType 18 12), (0, u "GREATER_THAN"), (0, .fieldref 8 20), (0, .nameAndType 21 12), (0, u "GREATER_THAN_OR_EQUAL"), (0, .methodref 8 23), (0, .nameAndType 24 25), (0, u "holds"), (0, u "(I)Z"), (0, .class_ 27), (0, u "com/example/uppslag/uppslag/query/OperatorHoldsPinLaw"), (2, u "law"), (0, u "(II)Z")] 10

def k1m0 : Method := { name := "<init>", desc := "()V", sig := { parameters := [], returnType := none }, accessFlags := 1, code := none }
def k1c1 : Code := { maxStack := 2, maxLocals := 6, code := code, exceptionTable := #[], attributes := #[] }
def k1m1 : Method := { name := "law", desc := "(II)Z", sig := { parameters := [.int, .int], returnType := some .boolean }, accessFlags := 9, code := some k1c1 }
/-- com/example/uppslag/uppslag/query/OperatorHoldsPinLaw -/
def k1 : Class := { plain "com/example/uppslag/uppslag/query/OperatorHoldsPinLaw" (some 0) with
  accessFlags := 49
  interfaces := #[]
  cf := some (fileOf pool1 26 #[] #[{ accessFlags := 1, nameIndex := 5, descriptorIndex := 6, attributes := #[] }, { accessFlags := 9, nameIndex := 30, descriptorIndex := 31, attributes := #[] }] 49 2 #[] #[])
  fields := #[]
  methods := #[k1m0, k1m1]
  instanceTypes := #[]
  staticTypes := #[]
  resolved := Array.replicate 42 none
  statics := none }

def pool2 : Array CpInfo := pool [(1, .class_ 2), (0, u "java/lang/constant/Constable"), (0, .class_ 4), (0, u "java/lang/Object")] 6

/-- java/lang/constant/Constable -/
def k2 : Class := { plain "java/lang/constant/Constable" (some 0) with
  accessFlags := 1537
  interfaces := #[]
  cf := some (fileOf pool2 1 #[] #[] 1537 3 #[] #[])
  fields := #[]
  methods := #[]
  instanceTypes := #[]
  staticTypes := #[]
  resolved := Array.replicate 11 none
  statics := none }

def pool3 : Array CpInfo := pool [(1, .class_ 2), (0, u "java/lang/Comparable"), (0, .class_ 4), (0, u "java/lang/Object")] 7

/-- java/lang/Comparable -/
def k3 : Class := { plain "java/lang/Comparable" (some 0) with
  accessFlags := 1537
  interfaces := #[]
  cf := some (fileOf pool3 1 #[] #[] 1537 3 #[] #[])
  fields := #[]
  methods := #[]
  instanceTypes := #[]
  staticTypes := #[]
  resolved := Array.replicate 12 none
  statics := none }

def pool4 : Array CpInfo := pool [(1, .class_ 2), (0, u "java/io/Serializable"), (0, .class_ 4), (0, u "java/lang/Object")] 2

/-- java/io/Serializable -/
def k4 : Class := { plain "java/io/Serializable" (some 0) with
  accessFlags := 1537
  interfaces := #[]
  cf := some (fileOf pool4 1 #[] #[] 1537 3 #[] #[])
  fields := #[]
  methods := #[]
  instanceTypes := #[]
  staticTypes := #[]
  resolved := Array.replicate 7 none
  statics := none }

def pool5 : Array CpInfo := pool [(2, .class_ 4), (1, u "java/lang/Enum"), (0, u "name"), (0, u "Ljava/lang/String;"), (0, .fieldref 2 8), (0, .nameAndType 9 10), (0, u "ordinal"), (0, u "I"), (1, .class_ 14), (1, u "java/lang/Object"), (4, u "hash"), (86, .class_ 108), (1, u "java/lang/Enum$EnumDesc"), (2, .class_ 112), (0, u "java/lang/constant/Constable"), (0, .class_ 114), (0, u "java/lang/Comparable"), (0, .class_ 116), (0, u "java/io/Serializable"), (9, u "()I")] 77

def k5c0 : Code := { maxStack := 1, maxLocals := 1, code := jdk_37_method_2_code, exceptionTable := #[], attributes := #[] }
def k5m0 : Method := { name := "ordinal", desc := "()I", sig := { parameters := [], returnType := some .int }, accessFlags := 17, code := some k5c0 }
/-- java/lang/Enum -/
def k5 : Class := { plain "java/lang/Enum" (some 0) with
  accessFlags := 1057
  interfaces := #[2, 3, 4]
  cf := some (fileOf pool5 2 #[.nestMembers #[106]] #[{ accessFlags := 17, nameIndex := 9, descriptorIndex := 126, attributes := #[] }] 1057 12 #[111, 113, 115] #[{ accessFlags := 18, nameIndex := 5, descriptorIndex := 6, attributes := #[] }, { accessFlags := 18, nameIndex := 9, descriptorIndex := 10, attributes := #[] }, { accessFlags := 2, nameIndex := 19, descriptorIndex := 10, attributes := #[] }])
  fields := #[{ name := "name", type := (.object "java/lang/String"), accessFlags := 18, slot := 0, constantValue := 0 }, { name := "ordinal", type := .int, accessFlags := 18, slot := 1, constantValue := 0 }, { name := "hash", type := .int, accessFlags := 2, slot := 2, constantValue := 0 }]
  methods := #[k5m0]
  instanceTypes := #[(.object "java/lang/String"), .int, .int]
  staticTypes := #[]
  resolved := Array.replicate 204 none
  statics := none }

def pool6 : Array CpInfo := pool [(1, .class_ 2), (0, u "com/example/uppslag/uppslag/query/Condition$Comparison$Operator"), (2, u "LESS_THAN"), (0, u "Lcom/example/uppslag/uppslag/query/Condition$Comparison$Operator;"), (2, u "LESS_THAN_OR_EQUAL"), (2, u "GREATER_THAN"), (2, u "GREATER_THAN_OR_EQUAL"), (2, u "$VALUES"), (0, u "[Lcom/example/uppslag/uppslag/query/Condition$Comparison$Operator;"), (6, .class_ 28), (1, u "java/lang/Enum"), (6, .methodref 1 36), (0, .nameAndType 37 38), (0, u "ordinal"), (0, u "()I"), (21, u "holds"), (0, u "(I)Z"), (6, .class_ 69), (0, u "com/example/uppslag/uppslag/query/Condition")] 5

def k6c0 : Code := { maxStack := 4, maxLocals := 2, code := prog_34_method_4_code, exceptionTable := #[], attributes := #[] }
def k6m0 : Method := { name := "holds", desc := "(I)Z", sig := { parameters := [.int], returnType := some .boolean }, accessFlags := 1, code := some k6c0 }
/-- com/example/uppslag/uppslag/query/Condition$Comparison$Operator -/
def k6 : Class := { plain "com/example/uppslag/uppslag/query/Condition$Comparison$Operator" (some 5) with
  accessFlags := 16433
  interfaces := #[]
  cf := some (fileOf pool6 1 #[.nestHost 68] #[{ accessFlags := 1, nameIndex := 60, descriptorIndex := 61, attributes := #[] }] 16433 26 #[] #[{ accessFlags := 16409, nameIndex := 5, descriptorIndex := 6, attributes := #[] }, { accessFlags := 16409, nameIndex := 9, descriptorIndex := 6, attributes := #[] }, { accessFlags := 16409, nameIndex := 12, descriptorIndex := 6, attributes := #[] }, { accessFlags := 16409, nameIndex := 15, descriptorIndex := 6, attributes := #[] }, { accessFlags := 4122, nameIndex := 18, descriptorIndex := 19, attributes := #[] }])
  fields := #[{ name := "LESS_THAN", type := (.object "com/example/uppslag/uppslag/query/Condition$Comparison$Operator"), accessFlags := 16409, slot := 0, constantValue := 0 }, { name := "LESS_THAN_OR_EQUAL", type := (.object "com/example/uppslag/uppslag/query/Condition$Comparison$Operator"), accessFlags := 16409, slot := 1, constantValue := 0 }, { name := "GREATER_THAN", type := (.object "com/example/uppslag/uppslag/query/Condition$Comparison$Operator"), accessFlags := 16409, slot := 2, constantValue := 0 }, { name := "GREATER_THAN_OR_EQUAL", type := (.object "com/example/uppslag/uppslag/query/Condition$Comparison$Operator"), accessFlags := 16409, slot := 3, constantValue := 0 }, { name := "$VALUES", type := (.array (.object "com/example/uppslag/uppslag/query/Condition$Comparison$Operator")), accessFlags := 4122, slot := 4, constantValue := 0 }]
  methods := #[k6m0]
  instanceTypes := #[(.object "java/lang/String"), .int, .int]
  staticTypes := #[(.object "com/example/uppslag/uppslag/query/Condition$Comparison$Operator"), (.object "com/example/uppslag/uppslag/query/Condition$Comparison$Operator"), (.object "com/example/uppslag/uppslag/query/Condition$Comparison$Operator"), (.object "com/example/uppslag/uppslag/query/Condition$Comparison$Operator"), (.array (.object "com/example/uppslag/uppslag/query/Condition$Comparison$Operator"))]
  resolved := Array.replicate 75 none
  statics := some 0 }

def pool7 : Array CpInfo := pool [(1, u "java/lang/Cloneable"), (0, .class_ 1), (0, u "java/lang/Object"), (0, .class_ 3)] 3

/-- java/lang/Cloneable -/
def k7 : Class := { plain "java/lang/Cloneable" (some 0) with
  accessFlags := 1537
  interfaces := #[]
  cf := some (fileOf pool7 2 #[] #[] 1537 4 #[] #[])
  fields := #[]
  methods := #[]
  instanceTypes := #[]
  staticTypes := #[]
  resolved := Array.replicate 8 none
  statics := none }

/-- the primitive byte -/
def k8 : Class := { plain "byte" none with kind := .primitive 'B', accessFlags := 0x411 }
/-- [B -/
def k9 : Class := { plain "[B" (some 0) with kind := .array 8 .byte, interfaces := #[7, 4], accessFlags := 1041 }

/-- the primitive int -/
def k10 : Class := { plain "int" none with kind := .primitive 'I', accessFlags := 0x411 }
/-- [I -/
def k11 : Class := { plain "[I" (some 0) with kind := .array 10 .int, interfaces := #[7, 4], accessFlags := 1041 }

def heap : Heap := #[{ cls := 6, slots := #[.ref 1, .ref 3, .ref 2, .ref 4, .null], vm := .statics 6 },
  { cls := 6, slots := #[.null, .int 0, .int 0], vm := .none },
  { cls := 6, slots := #[.null, .int 2, .int 0], vm := .none },
  { cls := 6, slots := #[.null, .int 1, .int 0], vm := .none },
  { cls := 6, slots := #[.null, .int 3, .int 0], vm := .none }]
def classes : Array Class := #[k0, k1, k2, k3, k4, k5, k6, k7, k8, k9, k10, k11]
def interned : List (Array UInt16 × Addr) := []
def slotsUsed : Nat := 17
def theMethod : MethodId := ⟨1, 1⟩
def args0 : Array Value := #[.int 5, .int 7]
def aboutOver (below : List Frame) : State where
  vm := { classes := classes, interned := interned.toArray }
  heap := heap
  slotsUsed := slotsUsed
  threads := #[{ frames := .invoking theMethod args0 :: below }]
def below0 : List Frame := [.native { method := ⟨0, 0⟩, args := #[] }]
def about1 : State := aboutOver below0
def p0 : Program := .bare "" "" ""
def e0 : Env := launch0.env 0 0 0
theorem w_frames : about1.frames = Frame.invoking theMethod args0 :: below0 := rfl
set_option maxRecDepth 65536 in
theorem w_args : argsFit about1.vm theMethod args0 = true := by decide +kernel
set_option maxRecDepth 65536 in
theorem w_heap : heapFits about1 = true := by decide +kernel
set_option maxRecDepth 65536 in
theorem w_runnable : about1.curStatus? = some .runnable := by decide +kernel
set_option maxRecDepth 65536 in
theorem w_alone : about1.alone = true := by decide +kernel
set_option maxRecDepth 65536 in
theorem w_named : about1.methodNamed? x = some theMethod := by decide +kernel
set_option maxRecDepth 65536 in
theorem w_hears : about1.hears theMethod below0 = true := by decide +kernel
set_option maxRecDepth 65536 in
theorem w_ripe : about1.ripe theMethod args0 below0 = true := by decide +kernel
theorem w_running : about1.status = .running := rfl
set_option maxRecDepth 65536 in
theorem w_room : about1.hasRoom e0.platform room_1 = true :=
  launch0.hasRoom_least _ room_1 (by decide +kernel) (by decide +kernel) (by decide +kernel) (by decide +kernel) (by decide +kernel) (by decide +kernel)
theorem allAtoms_all (ts : List Jvm.Cond) (a : Array Jvm.Value) (st : Jvm.State) : (allAtoms ts).before a st = ts.all (fun c => c.before a st) := by
  induction ts with
  | nil => rfl
  | cons c t ih =>
    show (Jvm.Cond.and c (allAtoms t)).before a st = _
    rw [Jvm.Cond.before_and, ih, List.all_cons]
def words1 : List Jvm.Cond := Jvm.Cond.code x code maxLocals ret :: tables_1
/-- a 'code' word, met by the world's own term for the bytes: nothing is compared byte by byte -/
theorem code_word {y : MethodName} {bytes : ByteArray} {mx : Nat} {rt : Option FieldType} {a : Array Value} {s : State} {m : MethodId} {meth : Method} {c : Code} (h1 : s.methodNamed? y = some m) (h2 : s.vm.method? m = some meth) (h3 : meth.code = some c) (h4 : c.code = bytes)
    (h5 : (c.maxLocals == mx && c.exceptionTable.isEmpty && decide (c.maxStack ≤ mostOperands) && decide (meth.sig.returnType = rt) && !meth.locks && decide (parseMethodDescriptor y.desc = some meth.sig)) = true) : (Jvm.Cond.code y bytes mx rt).before a s = true := by
  simp only [Bool.and_eq_true, beq_iff_eq, Bool.not_eq_true', decide_eq_true_eq] at h5
  obtain ⟨⟨⟨⟨⟨g1, g2⟩, g3⟩, g4⟩, g5⟩, g6⟩ := h5
  simp [Cond.before, Cond.holds, Cond.value, h1, h2, h3, h4, g1, g2, g3, g4, g5, g6]
def isCode : Jvm.Cond → Bool
  | .code _ _ _ _ => true
  | _ => false
theorem all_split {L : List Jvm.Cond} {P : Jvm.Cond → Bool} (h1 : L.all (fun c => isCode c || P c) = true) (h2 : ∀ c ∈ L.filter isCode, P c = true) : L.all P = true := by
  refine List.all_eq_true.mpr fun c hc => ?_
  have h := List.all_eq_true.mp h1 c hc
  rcases Bool.eq_false_or_eq_true (isCode c) with hi | hi
  · exact h2 c (List.mem_filter.mpr ⟨hc, hi⟩)
  · simpa [hi] using h
set_option maxRecDepth 65536 in
theorem w_c0 : (Jvm.Cond.code x code maxLocals ret).before args0 about1 = true := code_word (m := ⟨1, 1⟩) (meth := k1m1) (c := k1c1) (by decide +kernel) rfl rfl rfl (by decide +kernel)
set_option maxRecDepth 65536 in
theorem w_c1 : (Jvm.Cond.code ({ cls := "com/example/uppslag/uppslag/query/Condition$Comparison$Operator", name := "holds", desc := "(I)Z" } : Jvm.MethodName) prog_34_method_4_code (2 : Nat) (Option.some Jvm.ClassFile.FieldType.boolean)).before args0 about1 = true := code_word (m := ⟨6, 0⟩) (meth := k6m0) (c := k6c0) (by decide +kernel) rfl rfl rfl (by decide +kernel)
set_option maxRecDepth 65536 in
theorem w_c2 : (Jvm.Cond.code ({ cls := "java/lang/Enum", name := "ordinal", desc := "()I" } : Jvm.MethodName) jdk_37_method_2_code (1 : Nat) (Option.some Jvm.ClassFile.FieldType.int)).before args0 about1 = true := code_word (m := ⟨5, 0⟩) (meth := k5m0) (c := k5c0) (by decide +kernel) rfl rfl rfl (by decide +kernel)
def codes1 : List Jvm.Cond := [Jvm.Cond.code x code maxLocals ret, Jvm.Cond.code ({ cls := "com/example/uppslag/uppslag/query/Condition$Comparison$Operator", name := "holds", desc := "(I)Z" } : Jvm.MethodName) prog_34_method_4_code (2 : Nat) (Option.some Jvm.ClassFile.FieldType.boolean), Jvm.Cond.code ({ cls := "java/lang/Enum", name := "ordinal", desc := "()I" } : Jvm.MethodName) jdk_37_method_2_code (1 : Nat) (Option.some Jvm.ClassFile.FieldType.int)]
set_option maxRecDepth 65536 in
theorem codes_eq : words1.filter isCode = codes1 := rfl
theorem w_codes : ∀ c ∈ words1.filter isCode, c.before args0 about1 = true := by
  rw [codes_eq]
  intro c hc
  simp only [codes1, List.mem_cons, List.not_mem_nil, or_false] at hc
  rcases hc with rfl | rfl | rfl
  · exact w_c0
  · exact w_c1
  · exact w_c2
set_option maxRecDepth 65536 in
theorem w_t1 : words1.all (fun c => isCode c || c.before args0 about1) = true := by decide +kernel
theorem w_tables : (allAtoms (Jvm.Cond.code x code maxLocals ret :: tables_1)).before args0 about1 = true := by
  rw [allAtoms_all]
  show words1.all (fun c => c.before args0 about1) = true
  refine all_split ?_ w_codes
  rw [w_t1]
set_option maxRecDepth 65536 in
theorem w_case : (Jvm.Cond.and given_1 narrow_1).before args0 about1 = true := by decide +kernel
theorem w_applies : (headSpec (Jvm.Cond.code x code maxLocals ret :: tables_1) room_1).applies x e0.platform about1 = true :=
  (Spec.applies_iff w_frames).mpr ⟨w_running, w_runnable, w_alone, w_named, w_hears, w_ripe, w_room, w_tables⟩
theorem atStart : AtStart classFile x code maxLocals ret World_1 tables_1 room_1 Calls_1 rest_1 Pre_1 launch0 p0 e0 about1 theMethod args0 below0 :=
  ⟨lists_1, trivial, launch0.admits_env _ _ _, launch0.least_env, fairChoices_fair.cas, fairChoices_fair.clock, w_frames, w_args, w_heap, w_applies, trivial, trivial, w_case⟩
end start1
theorem witness_1 : WitnessClaimed_1 := ⟨start1.p0, start1.e0, start1.about1, start1.theMethod, start1.args0, start1.below0, start1.atStart⟩
end Jvm.Pilot.@@N@@
