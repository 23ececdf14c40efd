import JvmDerived
import JvmDerived.Pilot.@@N@@Statement
import JvmDerived.Pilot.@@N@@Code
set_option linter.unusedVariables false
set_option linter.unusedSimpArgs false
namespace Jvm.Pilot.@@N@@
open Jvm Jvm.ClassFile Sem Op Lib Jvm.Free Jvm.Stand Jvm.LawKit Jvm.RoadKit Bundle Jvm.Pilot.@@N@@.Jvm.D
section OwnKit
variable {p : Program} {l : Launch} {e : Env} {R : Room} {s : State} {m : MethodId} {args : Array Value} {below : List Frame} {meth : Method} {c : Code} {T : State} {locs : List Loc} {cells slots : Nat} {rc rs : Nat} {Q : Option Value → Heap → List Loc → Prop}
/-- from A the run comes to its end by a return, and Q tells of the value, the heap and the places written -/
def own_Goes (p : Program) (e : Env) (s : State) (below : List Frame) (rc rs : Nat) (Q : Option Value → Heap → List Loc → Prop) (A : State) : Prop :=
  ∃ s₂ o, Steps p.tables e below A s₂ ∧ s₂.status = .running ∧ Ended s₂ below o ∧ ∃ v L, o = .returned v ∧ Q v s₂.heap L ∧ FrameEnd s o s₂ L rc rs
theorem own_via {A B : State} (k : ∀ t, Steps p.tables e below B t → Steps p.tables e below A t) (h : own_Goes p e s below rc rs Q B) : own_Goes p e s below rc rs Q A := by
  obtain ⟨s₂, o, h1, h2⟩ := h
  exact ⟨s₂, o, k _ h1, h2⟩
theorem own_on {A B : State} (k : Steps p.tables e below A B) (h : own_Goes p e s below rc rs Q B) : own_Goes p e s below rc rs Q A := own_via (fun _ q => k.trans q) h
theorem own_leave (X : Stand p l e R s m args below meth c T locs cells slots) {v : Option Value} {A : State} (hv : meth.sig.returnType = none → v = none) (hlk : meth.locks = false) (hc : cells ≤ rc) (hs : slots ≤ rs) (hQ : Q v T.heap locs)
    (st : ∀ fs, (∀ (f : JFrame) (acts : List Action), f.method = m → f.locked = none → f.entered = [] → (doReturn e (T.setTop f) acts v).1 = T.setFrames fs) → Steps p.tables e below A (T.setFrames fs)) : own_Goes p e s below rc rs Q A := by
  obtain ⟨fs, hr, hrun, hended, hW, hsame⟩ := X.leave (v := v) hv hlk
  exact ⟨_, _, st fs hr, hrun, hended, _, _, rfl, hQ, ⟨_, rfl⟩, hW, hsame.mono hc hs⟩
theorem own_retN (X : Stand p l e R s m args below meth c T locs cells slots) (hx : p.tables.exec = Jvm.exec) {pc : Nat} {Ls : Array Slot} {z : Int32} {t : FieldType} {rest : List Value} (hret : meth.sig.returnType = some t) (ht : t = .boolean ∨ t = .byte ∨ t = .char ∨ t = .short) (hlk : meth.locks = false)
    (hd : decode c.code pc = .ok (.ireturn, 1)) (hc : cells ≤ rc) (hs : slots ≤ rs) (hQ : Q (some (.int (nar t z))) T.heap locs) : own_Goes p e s below rc rs Q (T.setTop (mkF m pc Ls (.int z :: rest))) :=
  own_leave X (fun h => by rw [hret] at h; cases h) hlk hc hs hQ fun fs hr => retN X hx hret ht hd hr
theorem own_retI (X : Stand p l e R s m args below meth c T locs cells slots) (hx : p.tables.exec = Jvm.exec) {pc : Nat} {Ls : Array Slot} {z : Int32} {rest : List Value} (hret : meth.sig.returnType = some .int) (hlk : meth.locks = false)
    (hd : decode c.code pc = .ok (.ireturn, 1)) (hc : cells ≤ rc) (hs : slots ≤ rs) (hQ : Q (some (.int z)) T.heap locs) : own_Goes p e s below rc rs Q (T.setTop (mkF m pc Ls (.int z :: rest))) :=
  own_leave X (fun h => by rw [hret] at h; cases h) hlk hc hs hQ fun fs hr => retOut X hx hret rfl (Or.inl ⟨rfl, Or.inl rfl, z, rfl⟩) hd hr
theorem own_retJ (X : Stand p l e R s m args below meth c T locs cells slots) (hx : p.tables.exec = Jvm.exec) {pc : Nat} {Ls : Array Slot} {z : Int64} {rest : List Value} (hret : meth.sig.returnType = some .long) (hlk : meth.locks = false)
    (hd : decode c.code pc = .ok (.lreturn, 1)) (hc : cells ≤ rc) (hs : slots ≤ rs) (hQ : Q (some (.long z)) T.heap locs) : own_Goes p e s below rc rs Q (T.setTop (mkF m pc Ls (.long z :: rest))) :=
  own_leave X (fun h => by rw [hret] at h; cases h) hlk hc hs hQ fun fs hr => retOut X hx hret rfl (Or.inr (Or.inl ⟨rfl, rfl, z, rfl⟩)) hd hr
theorem own_retA (X : Stand p l e R s m args below meth c T locs cells slots) (hx : p.tables.exec = Jvm.exec) {pc : Nat} {Ls : Array Slot} {w : Value} {t : FieldType} {rest : List Value} (hret : meth.sig.returnType = some t) (ht : t.isReference = true) (hw : w.isRef = true) (hlk : meth.locks = false)
    (hd : decode c.code pc = .ok (.areturn, 1)) (hc : cells ≤ rc) (hs : slots ≤ rs) (hQ : Q (some w) T.heap locs) : own_Goes p e s below rc rs Q (T.setTop (mkF m pc Ls (w :: rest))) :=
  own_leave X (fun h => by rw [hret] at h; cases h) hlk hc hs hQ fun fs hr => retOut X hx hret (by rcases ref_cases hw with rfl | ⟨z, rfl⟩ <;> cases t <;> first | rfl | exact absurd ht (by decide)) (Or.inr (Or.inr (Or.inr (Or.inr ⟨rfl, ht, hw⟩)))) hd hr
theorem own_ret0 (X : Stand p l e R s m args below meth c T locs cells slots) (hx : p.tables.exec = Jvm.exec) {pc : Nat} {Ls : Array Slot} (hret : meth.sig.returnType = none) (hlk : meth.locks = false)
    (hd : decode c.code pc = .ok (.return_, 1)) (hc : cells ≤ rc) (hs : slots ≤ rs) (hQ : Q none T.heap locs) : own_Goes p e s below rc rs Q (T.setTop (mkF m pc Ls [])) :=
  own_leave X (fun _ => rfl) hlk hc hs hQ fun fs hr => X.returnOut hx hret hd hr
/-- what a walk through one body knows of it -/
def own_Ctx (Z : State) (p : Program) (s : State) (m : MethodId) (meth : Method) (c : Code) (bytes : ByteArray) (maxl : Nat) (own : String) (ret : Option FieldType) (nm : String) : Prop :=
  p.tables.exec = Jvm.exec ∧ Z.Warmed39 s.vm ∧ c.code = bytes ∧ c.maxLocals = maxl ∧ s.vm.findClass own = some m.cls ∧ meth.sig.returnType = ret ∧ meth.locks = false ∧ meth.name = nm
/-- the contract of one body: from the arguments as' and the heap h0 it returns, and Q tells what it leaves -/
abbrev own_Met (l : Launch) (Z : State) (y : MethodName) (bytes : ByteArray) (maxl : Nat) (ret : Option FieldType) (ws : List Jvm.Cond) (rm : Room) (as' : Array Value) (h0 : Heap) (Q : Option Value → Heap → List Loc → Prop) : Prop :=
  MetFree l y (head1 (Jvm.Cond.code y bytes maxl ret :: ws) rm) (fun a U => a = as' ∧ Z.Warmed39 U.vm ∧ U.heap = h0) (fun _ _ _ _ _ => True) (fun _ U o U' => ∃ v L, o = .returned v ∧ Q v U'.heap L ∧ FrameEnd U o U' L rm.cells rm.slots)
theorem own_met {Z : State} {y : MethodName} {bytes : ByteArray} {maxl : Nat} {ret : Option FieldType} {ws : List Jvm.Cond} {rm : Room} {as' : Array Value} {h0 : Heap} (hp : plainFor y = true)
    (body : ∀ (p : Program) (e : Env) (s : State) (m : MethodId) (below : List Frame) (meth : Method) (c : Code) (s₁ : State), own_Ctx Z p s m meth c bytes maxl y.cls ret y.name → Stand p l e rm s m as' below meth c s₁ [] 0 0 → s₁.heap = h0 → own_Goes p e s below rm.cells rm.slots Q (s₁.setTop (entryFrame m as' maxl))) :
    own_Met l Z y bytes maxl ret ws rm as' h0 Q := by
  refine MetFree.of_bodySF hp hisR ?_
  intro p e s m args below meth c s₁ Bd hml0 hP hK
  obtain ⟨rfl, hZ, hh⟩ := hP
  have X0 : Stand p l e rm s m args below meth c s₁ [] 0 0 := Stand.of_body Bd
  exact body p e s m below meth c s₁ ⟨Bd.exec, hZ, Bd.bytes, hml0, findClass_of_methodNamed Bd.named, Bd.returns, Bd.notSynchronized, (name_of_methodNamed Bd.named Bd.method).1⟩ X0 (by rw [← hh, Bd.state]; rfl)
/-- a body that writes nothing and returns w -/
def own_Pure (w : Value) (h0 : Heap) (n0 : Nat) (v : Option Value) (h : Heap) (L : List Loc) : Prop := v = some w ∧ Fr n0 L ∧ h = h0
/-- the law returns 1 and wrote nothing old -/
def own_One (n0 : Nat) (v : Option Value) (h : Heap) (L : List Loc) : Prop := v = some (.int 1) ∧ Fr n0 L
theorem own_narT : nar .boolean (1 : Int32) = 1 := rfl
theorem own_narF : nar .boolean (0 : Int32) = 0 := rfl
theorem own_eqi {t : Term} {k : Int32} {a : Array Value} {s : State} (h : (Cond.eq t (.int k)).value a s none s [] = some true) : t.eval a s none [] s = some (.int k) := by
  simp only [Cond.value, Term.eval] at h
  cases ht : t.eval a s none [] s with
  | none => simp [ht] at h
  | some x => cases x <;> simp [ht] at h ⊢; exact h
end OwnKit
theorem pd___Z : parseMethodDescriptor "()Z" = some ⟨[], some .boolean⟩ := by decide +kernel
theorem d1_0 : decode prog_60_method_4_code 0 = .ok (.aload_n 0, 1) := by decide +kernel
theorem d1_1 : decode prog_60_method_4_code 1 = .ok (.getstatic 10, 3) := by decide +kernel
theorem d1_4 : decode prog_60_method_4_code 4 = .ok (.if_acmp .eq 17, 3) := by decide +kernel
theorem d1_7 : decode prog_60_method_4_code 7 = .ok (.aload_n 0, 1) := by decide +kernel
theorem d1_8 : decode prog_60_method_4_code 8 = .ok (.getstatic 13, 3) := by decide +kernel
theorem d1_11 : decode prog_60_method_4_code 11 = .ok (.if_acmp .eq 10, 3) := by decide +kernel
theorem d1_14 : decode prog_60_method_4_code 14 = .ok (.aload_n 0, 1) := by decide +kernel
theorem d1_15 : decode prog_60_method_4_code 15 = .ok (.getstatic 16, 3) := by decide +kernel
theorem d1_18 : decode prog_60_method_4_code 18 = .ok (.if_acmp .ne 7, 3) := by decide +kernel
theorem d1_21 : decode prog_60_method_4_code 21 = .ok (.iconst 1, 1) := by decide +kernel
theorem d1_22 : decode prog_60_method_4_code 22 = .ok (.goto 4, 3) := by decide +kernel
theorem d1_25 : decode prog_60_method_4_code 25 = .ok (.iconst 0, 1) := by decide +kernel
theorem d1_26 : decode prog_60_method_4_code 26 = .ok (.ireturn, 1) := by decide +kernel
theorem pn_1 : plainName "com/example/pledgewire/pledgewire/ledger/Transaction$Status" = true := by first | (simp [plainName, overriddenIn]; done) | decide +kernel
theorem ef_1 (m : MethodId) (a1 : Addr) : entryFrame m #[(.ref a1)] 1 = mkF m 0 #[.val (.ref a1)] [] := by first | (simp [entryFrame, mkF, argsToLocals, Value.category]; done) | rfl
set_option maxRecDepth 65536 in
set_option maxHeartbeats 40000000 in
theorem rm1 (l : Launch) (Z : State) (a0 : Array Value) (hw : ∀ d ∈ tables_1, d.before a0 Z = true) (ws : List Jvm.Cond) (a1 : Addr) (a_ACCEPTED : Addr) (a_REJECTED : Addr) (a_CANCELLED : Addr) (r : Int32) (h0 : Heap) (n0 : Nat) (S_ACCEPTED : Sta Z h0 "com/example/pledgewire/pledgewire/ledger/Transaction$Status" "ACCEPTED" "Lcom/example/pledgewire/pledgewire/ledger/Transaction$Status;" (.ref a_ACCEPTED)) (S_REJECTED : Sta Z h0 "com/example/pledgewire/pledgewire/ledger/Transaction$Status" "REJECTED" "Lcom/example/pledgewire/pledgewire/ledger/Transaction$Status;" (.ref a_REJECTED)) (S_CANCELLED : Sta Z h0 "com/example/pledgewire/pledgewire/ledger/Transaction$Status" "CANCELLED" "Lcom/example/pledgewire/pledgewire/ledger/Transaction$Status;" (.ref a_CANCELLED)) (hr : (if a1 = a_ACCEPTED then (1 : Int32) else if a1 = a_REJECTED then 1 else if a1 = a_CANCELLED then 1 else 0) = r) :
    own_Met l Z (⟨"com/example/pledgewire/pledgewire/ledger/Transaction$Status", "isFinal", "()Z"⟩ : MethodName) prog_60_method_4_code 1 (some .boolean) ws ({ frames := 0, cells := 0, slots := 0, locals := 0 } : Room) #[(.ref a1)] h0 (own_Pure (.int r) h0 n0) := by
  refine own_met (plainFor_of_name pn_1) ?_
  intro p e s m below meth c s₁ C X0 e0
  obtain ⟨hx, hZ, hby, hml, hown, hret, hlk, hnm⟩ := C
  rw [ef_1]
  show own_Goes p e s below _ _ _ (s₁.setTop (mkF m 0 #[.val (.ref a1)] []))
  refine own_via (fun _ q => XS.aloadN X0.here hx rfl (hb hby d1_0) rfl rfl q) ?_
  show own_Goes p e s below _ _ _ (s₁.setTop (mkF m 1 #[.val (.ref a1)] [(.ref a1)]))
  obtain ⟨T1, X1, e1, st1⟩ := getS2 X0 hx hZ hown (host := "") (Or.inl (hw _ (List.mem_of_getElem? (i := 9) rfl))) Via.refl e0 S_ACCEPTED (g := (mkF m 1 #[.val (.ref a1)] [(.ref a1)])) rfl (hb hby d1_1)
  refine own_via st1 ?_
  show own_Goes p e s below _ _ _ (T1.setTop (mkF m 4 #[.val (.ref a1)] [(.ref a_ACCEPTED), (.ref a1)]))
  by_cases hk4_2 : a1 = a_ACCEPTED
  · refine own_via (fun _ q => XT.acmpYes X1.here hx rfl (pc0 := 4) (pc' := 21) rfl (hb hby d1_4) rfl rfl rfl (XT.aa_eq_t (congrArg Value.ref hk4_2)) (by decide) (by decide) q) ?_
    show own_Goes p e s below _ _ _ (T1.setTop (mkF m 21 #[.val (.ref a1)] []))
    refine own_via (fun _ q => XT.iconstV X1.here hx rfl (1 : Int32) (hb hby d1_21) rfl q) ?_
    show own_Goes p e s below _ _ _ (T1.setTop (mkF m 22 #[.val (.ref a1)] [(.int (1 : Int32))]))
    refine own_via (fun _ q => XS.goto X1.here hx rfl (pc0 := 22) (pc' := 26) rfl (hb hby d1_22) (by decide) (by decide) q) ?_
    show own_Goes p e s below _ _ _ (T1.setTop (mkF m 26 #[.val (.ref a1)] [(.int (1 : Int32))]))
    exact own_retN X1 hx (t := .boolean) hret (by simp) hlk (hb hby d1_26) (by decide) (by decide) ⟨by subst hr; simp [hk4_2, own_narT, own_narF], (Fr.nil n0), e1⟩
  · refine own_via (fun _ q => XT.acmpNo X1.here hx rfl (hb hby d1_4) rfl rfl rfl (XT.aa_eq_f (fun q => hk4_2 (Value.ref.inj q))) q) ?_
    show own_Goes p e s below _ _ _ (T1.setTop (mkF m 7 #[.val (.ref a1)] []))
    refine own_via (fun _ q => XS.aloadN X1.here hx rfl (hb hby d1_7) rfl rfl q) ?_
    show own_Goes p e s below _ _ _ (T1.setTop (mkF m 8 #[.val (.ref a1)] [(.ref a1)]))
    obtain ⟨T3, X3, e3, st3⟩ := getS2 X1 hx hZ hown (host := "") (Or.inl (hw _ (List.mem_of_getElem? (i := 11) rfl))) Via.refl e1 S_REJECTED (g := (mkF m 8 #[.val (.ref a1)] [(.ref a1)])) rfl (hb hby d1_8)
    refine own_via st3 ?_
    show own_Goes p e s below _ _ _ (T3.setTop (mkF m 11 #[.val (.ref a1)] [(.ref a_REJECTED), (.ref a1)]))
    by_cases hk11_4 : a1 = a_REJECTED
    · refine own_via (fun _ q => XT.acmpYes X3.here hx rfl (pc0 := 11) (pc' := 21) rfl (hb hby d1_11) rfl rfl rfl (XT.aa_eq_t (congrArg Value.ref hk11_4)) (by decide) (by decide) q) ?_
      show own_Goes p e s below _ _ _ (T3.setTop (mkF m 21 #[.val (.ref a1)] []))
      refine own_via (fun _ q => XT.iconstV X3.here hx rfl (1 : Int32) (hb hby d1_21) rfl q) ?_
      show own_Goes p e s below _ _ _ (T3.setTop (mkF m 22 #[.val (.ref a1)] [(.int (1 : Int32))]))
      refine own_via (fun _ q => XS.goto X3.here hx rfl (pc0 := 22) (pc' := 26) rfl (hb hby d1_22) (by decide) (by decide) q) ?_
      show own_Goes p e s below _ _ _ (T3.setTop (mkF m 26 #[.val (.ref a1)] [(.int (1 : Int32))]))
      exact own_retN X3 hx (t := .boolean) hret (by simp) hlk (hb hby d1_26) (by decide) (by decide) ⟨by subst hr; simp [hk4_2, hk11_4, own_narT, own_narF], (Fr.nil n0), e3⟩
    · refine own_via (fun _ q => XT.acmpNo X3.here hx rfl (hb hby d1_11) rfl rfl rfl (XT.aa_eq_f (fun q => hk11_4 (Value.ref.inj q))) q) ?_
      show own_Goes p e s below _ _ _ (T3.setTop (mkF m 14 #[.val (.ref a1)] []))
      refine own_via (fun _ q => XS.aloadN X3.here hx rfl (hb hby d1_14) rfl rfl q) ?_
      show own_Goes p e s below _ _ _ (T3.setTop (mkF m 15 #[.val (.ref a1)] [(.ref a1)]))
      obtain ⟨T5, X5, e5, st5⟩ := getS2 X3 hx hZ hown (host := "") (Or.inl (hw _ (List.mem_of_getElem? (i := 13) rfl))) Via.refl e3 S_CANCELLED (g := (mkF m 15 #[.val (.ref a1)] [(.ref a1)])) rfl (hb hby d1_15)
      refine own_via st5 ?_
      show own_Goes p e s below _ _ _ (T5.setTop (mkF m 18 #[.val (.ref a1)] [(.ref a_CANCELLED), (.ref a1)]))
      by_cases hk18_6 : a1 = a_CANCELLED
      · refine own_via (fun _ q => XT.acmpNo X5.here hx rfl (hb hby d1_18) rfl rfl rfl (XT.aa_ne_f (congrArg Value.ref hk18_6)) q) ?_
        show own_Goes p e s below _ _ _ (T5.setTop (mkF m 21 #[.val (.ref a1)] []))
        refine own_via (fun _ q => XT.iconstV X5.here hx rfl (1 : Int32) (hb hby d1_21) rfl q) ?_
        show own_Goes p e s below _ _ _ (T5.setTop (mkF m 22 #[.val (.ref a1)] [(.int (1 : Int32))]))
        refine own_via (fun _ q => XS.goto X5.here hx rfl (pc0 := 22) (pc' := 26) rfl (hb hby d1_22) (by decide) (by decide) q) ?_
        show own_Goes p e s below _ _ _ (T5.setTop (mkF m 26 #[.val (.ref a1)] [(.int (1 : Int32))]))
        exact own_retN X5 hx (t := .boolean) hret (by simp) hlk (hb hby d1_26) (by decide) (by decide) ⟨by subst hr; simp [hk4_2, hk11_4, hk18_6, own_narT, own_narF], (Fr.nil n0), e5⟩
      · refine own_via (fun _ q => XT.acmpYes X5.here hx rfl (pc0 := 18) (pc' := 25) rfl (hb hby d1_18) rfl rfl rfl (XT.aa_ne_t (fun q => hk18_6 (Value.ref.inj q))) (by decide) (by decide) q) ?_
        show own_Goes p e s below _ _ _ (T5.setTop (mkF m 25 #[.val (.ref a1)] []))
        refine own_via (fun _ q => XT.iconstV X5.here hx rfl (0 : Int32) (hb hby d1_25) rfl q) ?_
        show own_Goes p e s below _ _ _ (T5.setTop (mkF m 26 #[.val (.ref a1)] [(.int (0 : Int32))]))
        exact own_retN X5 hx (t := .boolean) hret (by simp) hlk (hb hby d1_26) (by decide) (by decide) ⟨by subst hr; simp [hk4_2, hk11_4, hk18_6, own_narT, own_narF], (Fr.nil n0), e5⟩
theorem pn_0 : plainName "com/example/pledgewire/pledgewire/ledger/StatusIsFinalPinLaw" = true := by first | (simp [plainName, overriddenIn]; done) | decide +kernel
theorem ef_0 (m : MethodId) (p1 : Int32) : entryFrame m #[(.int p1)] maxLocals = mkF m 0 #[.val (.int p1), .unset, .unset, .unset] [] := by first | (simp [entryFrame, mkF, argsToLocals, Value.category, maxLocals]; done) | rfl
set_option maxRecDepth 65536 in
set_option maxHeartbeats 40000000 in
theorem rm0 (l : Launch) (Z : State) (a0 : Array Value) (hw : ∀ d ∈ tables_1, d.before a0 Z = true) (ws : List Jvm.Cond) (p1 : Int32) (a_PENDING : Addr) (a_INSTRUCTED : Addr) (a_ACCEPTED : Addr) (a_REJECTED : Addr) (a_CANCELLED : Addr) (h0 : Heap) (n0 : Nat) (S_PENDING : Sta Z h0 "com/example/pledgewire/pledgewire/ledger/Transaction$Status" "PENDING" "Lcom/example/pledgewire/pledgewire/ledger/Transaction$Status;" (.ref a_PENDING)) (S_INSTRUCTED : Sta Z h0 "com/example/pledgewire/pledgewire/ledger/Transaction$Status" "INSTRUCTED" "Lcom/example/pledgewire/pledgewire/ledger/Transaction$Status;" (.ref a_INSTRUCTED)) (S_ACCEPTED : Sta Z h0 "com/example/pledgewire/pledgewire/ledger/Transaction$Status" "ACCEPTED" "Lcom/example/pledgewire/pledgewire/ledger/Transaction$Status;" (.ref a_ACCEPTED)) (S_REJECTED : Sta Z h0 "com/example/pledgewire/pledgewire/ledger/Transaction$Status" "REJECTED" "Lcom/example/pledgewire/pledgewire/ledger/Transaction$Status;" (.ref a_REJECTED)) (S_CANCELLED : Sta Z h0 "com/example/pledgewire/pledgewire/ledger/Transaction$Status" "CANCELLED" "Lcom/example/pledgewire/pledgewire/ledger/Transaction$Status;" (.ref a_CANCELLED)) (E_PENDING : Exa Z h0 a_PENDING "com/example/pledgewire/pledgewire/ledger/Transaction$Status") (E_INSTRUCTED : Exa Z h0 a_INSTRUCTED "com/example/pledgewire/pledgewire/ledger/Transaction$Status") (E_ACCEPTED : Exa Z h0 a_ACCEPTED "com/example/pledgewire/pledgewire/ledger/Transaction$Status") (E_REJECTED : Exa Z h0 a_REJECTED "com/example/pledgewire/pledgewire/ledger/Transaction$Status") (E_CANCELLED : Exa Z h0 a_CANCELLED "com/example/pledgewire/pledgewire/ledger/Transaction$Status") (ne_PENDING_ACCEPTED : ¬ a_PENDING = a_ACCEPTED) (ne_PENDING_REJECTED : ¬ a_PENDING = a_REJECTED) (ne_PENDING_CANCELLED : ¬ a_PENDING = a_CANCELLED) (ne_INSTRUCTED_ACCEPTED : ¬ a_INSTRUCTED = a_ACCEPTED) (ne_INSTRUCTED_REJECTED : ¬ a_INSTRUCTED = a_REJECTED) (ne_INSTRUCTED_CANCELLED : ¬ a_INSTRUCTED = a_CANCELLED) :
    own_Met l Z x code maxLocals ret ws room_1 #[(.int p1)] h0 (own_One n0) := by
  refine own_met (plainFor_of_name pn_0) ?_
  intro p e s m below meth c s₁ C X0 e0
  obtain ⟨hx, hZ, hby, hml, hown, hret, hlk, hnm⟩ := C
  rw [ef_0]
  show own_Goes p e s below _ _ _ (s₁.setTop (mkF m 0 #[.val (.int p1), .unset, .unset, .unset] []))
  refine own_via (fun _ q => XS.iloadN X0.here hx rfl (hb hby at_0) rfl q) ?_
  show own_Goes p e s below _ _ _ (s₁.setTop (mkF m 1 #[.val (.int p1), .unset, .unset, .unset] [(.int p1)]))
  refine own_via (X0.ldcInt hx hown (mvT hZ (hw _ (List.mem_of_getElem? (i := 0) rfl))) (g := (mkF m 1 #[.val (.int p1), .unset, .unset, .unset] [(.int p1)])) rfl (hb hby at_1)) ?_
  show own_Goes p e s below _ _ _ (s₁.setTop (mkF m 3 #[.val (.int p1), .unset, .unset, .unset] [(.int (2147483647 : Int32)), (.int p1)]))
  refine own_via (fun _ q => XS.iand X0.here hx rfl (hb hby at_3) rfl q) ?_
  show own_Goes p e s below _ _ _ (s₁.setTop (mkF m 4 #[.val (.int p1), .unset, .unset, .unset] [(.int (p1 &&& (2147483647 : Int32)))]))
  refine own_via (fun _ q => XT.iconstV X0.here hx rfl (5 : Int32) (hb hby at_4) rfl q) ?_
  show own_Goes p e s below _ _ _ (s₁.setTop (mkF m 5 #[.val (.int p1), .unset, .unset, .unset] [(.int (5 : Int32)), (.int (p1 &&& (2147483647 : Int32)))]))
  refine own_via (fun _ q => iremM X0 hx rfl (hb hby at_5) rfl (by decide) q) ?_
  show own_Goes p e s below _ _ _ (s₁.setTop (mkF m 6 #[.val (.int p1), .unset, .unset, .unset] [(.int ((p1 &&& (2147483647 : Int32)) % (5 : Int32)))]))
  refine own_via (fun _ q => XS.istoreN X0.here hx rfl (hb hby at_6) rfl (l' := #[.val (.int p1), .val (.int ((p1 &&& (2147483647 : Int32)) % (5 : Int32))), .unset, .unset]) rfl q) ?_
  show own_Goes p e s below _ _ _ (s₁.setTop (mkF m 7 #[.val (.int p1), .val (.int ((p1 &&& (2147483647 : Int32)) % (5 : Int32))), .unset, .unset] []))
  refine own_via (fun _ q => XS.iloadN X0.here hx rfl (hb hby at_7) rfl q) ?_
  show own_Goes p e s below _ _ _ (s₁.setTop (mkF m 8 #[.val (.int p1), .val (.int ((p1 &&& (2147483647 : Int32)) % (5 : Int32))), .unset, .unset] [(.int ((p1 &&& (2147483647 : Int32)) % (5 : Int32)))]))
  by_cases hk8_1 : ((p1 &&& (2147483647 : Int32)) % (5 : Int32)) = (0 : Int32)
  · refine own_via (fun _ q => XS.ifNo X0.here hx rfl (hb hby at_8) rfl (XT.i0_ne_f hk8_1) q) ?_
    show own_Goes p e s below _ _ _ (s₁.setTop (mkF m 11 #[.val (.int p1), .val (.int ((p1 &&& (2147483647 : Int32)) % (5 : Int32))), .unset, .unset] []))
    obtain ⟨T2, X2, e2, st2⟩ := getS2 X0 hx hZ hown (host := "") (Or.inl (hw _ (List.mem_of_getElem? (i := 1) rfl))) Via.refl e0 S_PENDING (g := (mkF m 11 #[.val (.int p1), .val (.int ((p1 &&& (2147483647 : Int32)) % (5 : Int32))), .unset, .unset] [])) rfl (hb hby at_11)
    refine own_via st2 ?_
    show own_Goes p e s below _ _ _ (T2.setTop (mkF m 14 #[.val (.int p1), .val (.int ((p1 &&& (2147483647 : Int32)) % (5 : Int32))), .unset, .unset] [(.ref a_PENDING)]))
    refine own_via (fun _ q => XS.astoreN X2.here hx rfl (hb hby at_14) rfl rfl (l' := #[.val (.int p1), .val (.int ((p1 &&& (2147483647 : Int32)) % (5 : Int32))), .val (.ref a_PENDING), .unset]) rfl q) ?_
    show own_Goes p e s below _ _ _ (T2.setTop (mkF m 15 #[.val (.int p1), .val (.int ((p1 &&& (2147483647 : Int32)) % (5 : Int32))), .val (.ref a_PENDING), .unset] []))
    refine own_via (fun _ q => XT.iconstV X2.here hx rfl (0 : Int32) (hb hby at_15) rfl q) ?_
    show own_Goes p e s below _ _ _ (T2.setTop (mkF m 16 #[.val (.int p1), .val (.int ((p1 &&& (2147483647 : Int32)) % (5 : Int32))), .val (.ref a_PENDING), .unset] [(.int (0 : Int32))]))
    refine own_via (fun _ q => XS.istoreN X2.here hx rfl (hb hby at_16) rfl (l' := #[.val (.int p1), .val (.int ((p1 &&& (2147483647 : Int32)) % (5 : Int32))), .val (.ref a_PENDING), .val (.int (0 : Int32))]) rfl q) ?_
    show own_Goes p e s below _ _ _ (T2.setTop (mkF m 17 #[.val (.int p1), .val (.int ((p1 &&& (2147483647 : Int32)) % (5 : Int32))), .val (.ref a_PENDING), .val (.int (0 : Int32))] []))
    refine own_via (fun _ q => XS.goto X2.here hx rfl (pc0 := 17) (pc' := 68) rfl (hb hby at_17) (by decide) (by decide) q) ?_
    show own_Goes p e s below _ _ _ (T2.setTop (mkF m 68 #[.val (.int p1), .val (.int ((p1 &&& (2147483647 : Int32)) % (5 : Int32))), .val (.ref a_PENDING), .val (.int (0 : Int32))] []))
    refine own_via (fun _ q => XS.aloadN X2.here hx rfl (hb hby at_68) rfl rfl q) ?_
    show own_Goes p e s below _ _ _ (T2.setTop (mkF m 69 #[.val (.int p1), .val (.int ((p1 &&& (2147483647 : Int32)) % (5 : Int32))), .val (.ref a_PENDING), .val (.int (0 : Int32))] [(.ref a_PENDING)]))
    obtain ⟨cq3, kq3, q3a, q3b, q3c⟩ := isOf hZ e2 E_PENDING
    obtain ⟨_, _, ⟨T3, L3, k3, n3⟩, -, X3, ⟨Lc3, hQ3, l3, y3, z3⟩, st3⟩ := X2.virtualBack hx (y := (⟨"com/example/pledgewire/pledgewire/ledger/Transaction$Status", "isFinal", "()Z"⟩ : MethodName)) (z := (⟨"com/example/pledgewire/pledgewire/ledger/Transaction$Status", "isFinal", "()Z"⟩ : MethodName)) hown (mvT hZ (hw _ (List.mem_of_getElem? (i := 4) rfl))) (mvT hZ (hw _ (List.mem_of_getElem? (i := 5) rfl))) (notFace_of_selects (args := #[]) (mvT hZ (hw _ (List.mem_of_getElem? (i := 7) rfl)))) (mvT hZ (hw _ (List.mem_of_getElem? (i := 7) rfl))) (mvT hZ (hw _ (List.mem_of_getElem? (i := 6) rfl))) (by decide) (backOf (W := 0) (rm1 l Z a0 hw [] a_PENDING a_ACCEPTED a_REJECTED a_CANCELLED (0 : Int32) h0 n0 S_ACCEPTED S_REJECTED S_CANCELLED (by simp [ne_PENDING_ACCEPTED, ne_PENDING_REJECTED, ne_PENDING_CANCELLED, ne_INSTRUCTED_ACCEPTED, ne_INSTRUCTED_REJECTED, ne_INSTRUCTED_CANCELLED])) hZ (hw _ (List.mem_of_getElem? (i := 8) rfl)) (hw _ (List.mem_of_getElem? (i := 2) rfl)) (by decide) (by decide)) q3a q3c (g := (mkF m 69 #[.val (.int p1), .val (.int ((p1 &&& (2147483647 : Int32)) % (5 : Int32))), .val (.ref a_PENDING), .val (.int (0 : Int32))] [(.ref a_PENDING)])) rfl (by rw [hml]; rfl) (Steps.refl _) (argsL := []) (rest := []) (lenOf pd___Z rfl) rfl (by show 2 * 0 + _ ≤ _; exact Nat.le_of_eq rfl) (hb hby at_69) (fun _ _ => ⟨rfl, e2, (by decide : 0 + 0 ≤ _), (by decide : 0 + 0 ≤ _)⟩)
    dsimp only [Pt.U, Pt.locs, Pt.cells, Pt.slots] at X3 l3 y3 z3 st3 hQ3
    subst l3 y3 z3
    obtain ⟨rfl, N3q, e3⟩ := hQ3
    have N3 := Fr.app (Fr.nil n0) N3q
    refine own_on st3 ?_
    show own_Goes p e s below _ _ _ (T3.setTop (mkF m 72 #[.val (.int p1), .val (.int ((p1 &&& (2147483647 : Int32)) % (5 : Int32))), .val (.ref a_PENDING), .val (.int (0 : Int32))] [(.int (0 : Int32))]))
    refine own_via (fun _ q => XS.iloadN X3.here hx rfl (hb hby at_72) rfl q) ?_
    show own_Goes p e s below _ _ _ (T3.setTop (mkF m 73 #[.val (.int p1), .val (.int ((p1 &&& (2147483647 : Int32)) % (5 : Int32))), .val (.ref a_PENDING), .val (.int (0 : Int32))] [(.int (0 : Int32)), (.int (0 : Int32))]))
    refine own_via (fun _ q => XS.icmpNo X3.here hx rfl (hb hby at_73) rfl (XT.ii_ne_f (by decide)) q) ?_
    show own_Goes p e s below _ _ _ (T3.setTop (mkF m 76 #[.val (.int p1), .val (.int ((p1 &&& (2147483647 : Int32)) % (5 : Int32))), .val (.ref a_PENDING), .val (.int (0 : Int32))] []))
    refine own_via (fun _ q => XT.iconstV X3.here hx rfl (1 : Int32) (hb hby at_76) rfl q) ?_
    show own_Goes p e s below _ _ _ (T3.setTop (mkF m 77 #[.val (.int p1), .val (.int ((p1 &&& (2147483647 : Int32)) % (5 : Int32))), .val (.ref a_PENDING), .val (.int (0 : Int32))] [(.int (1 : Int32))]))
    refine own_via (fun _ q => XS.goto X3.here hx rfl (pc0 := 77) (pc' := 81) rfl (hb hby at_77) (by decide) (by decide) q) ?_
    show own_Goes p e s below _ _ _ (T3.setTop (mkF m 81 #[.val (.int p1), .val (.int ((p1 &&& (2147483647 : Int32)) % (5 : Int32))), .val (.ref a_PENDING), .val (.int (0 : Int32))] [(.int (1 : Int32))]))
    exact own_retN X3 hx (t := .boolean) hret (by simp) hlk (hb hby at_81) (by decide) (by decide) ⟨rfl, N3⟩
  · refine own_via (fun _ q => XS.ifYes X0.here hx rfl (pc0 := 8) (pc' := 20) rfl (hb hby at_8) rfl (XT.i0_ne_t hk8_1) (by decide) (by decide) q) ?_
    show own_Goes p e s below _ _ _ (s₁.setTop (mkF m 20 #[.val (.int p1), .val (.int ((p1 &&& (2147483647 : Int32)) % (5 : Int32))), .unset, .unset] []))
    refine own_via (fun _ q => XS.iloadN X0.here hx rfl (hb hby at_20) rfl q) ?_
    show own_Goes p e s below _ _ _ (s₁.setTop (mkF m 21 #[.val (.int p1), .val (.int ((p1 &&& (2147483647 : Int32)) % (5 : Int32))), .unset, .unset] [(.int ((p1 &&& (2147483647 : Int32)) % (5 : Int32)))]))
    refine own_via (fun _ q => XT.iconstV X0.here hx rfl (1 : Int32) (hb hby at_21) rfl q) ?_
    show own_Goes p e s below _ _ _ (s₁.setTop (mkF m 22 #[.val (.int p1), .val (.int ((p1 &&& (2147483647 : Int32)) % (5 : Int32))), .unset, .unset] [(.int (1 : Int32)), (.int ((p1 &&& (2147483647 : Int32)) % (5 : Int32)))]))
    by_cases hk22_4 : ((p1 &&& (2147483647 : Int32)) % (5 : Int32)) = (1 : Int32)
    · refine own_via (fun _ q => XS.icmpNo X0.here hx rfl (hb hby at_22) rfl (XT.ii_ne_f hk22_4) q) ?_
      show own_Goes p e s below _ _ _ (s₁.setTop (mkF m 25 #[.val (.int p1), .val (.int ((p1 &&& (2147483647 : Int32)) % (5 : Int32))), .unset, .unset] []))
      obtain ⟨T5, X5, e5, st5⟩ := getS2 X0 hx hZ hown (host := "") (Or.inl (hw _ (List.mem_of_getElem? (i := 16) rfl))) Via.refl e0 S_INSTRUCTED (g := (mkF m 25 #[.val (.int p1), .val (.int ((p1 &&& (2147483647 : Int32)) % (5 : Int32))), .unset, .unset] [])) rfl (hb hby at_25)
      refine own_via st5 ?_
      show own_Goes p e s below _ _ _ (T5.setTop (mkF m 28 #[.val (.int p1), .val (.int ((p1 &&& (2147483647 : Int32)) % (5 : Int32))), .unset, .unset] [(.ref a_INSTRUCTED)]))
      refine own_via (fun _ q => XS.astoreN X5.here hx rfl (hb hby at_28) rfl rfl (l' := #[.val (.int p1), .val (.int ((p1 &&& (2147483647 : Int32)) % (5 : Int32))), .val (.ref a_INSTRUCTED), .unset]) rfl q) ?_
      show own_Goes p e s below _ _ _ (T5.setTop (mkF m 29 #[.val (.int p1), .val (.int ((p1 &&& (2147483647 : Int32)) % (5 : Int32))), .val (.ref a_INSTRUCTED), .unset] []))
      refine own_via (fun _ q => XT.iconstV X5.here hx rfl (0 : Int32) (hb hby at_29) rfl q) ?_
      show own_Goes p e s below _ _ _ (T5.setTop (mkF m 30 #[.val (.int p1), .val (.int ((p1 &&& (2147483647 : Int32)) % (5 : Int32))), .val (.ref a_INSTRUCTED), .unset] [(.int (0 : Int32))]))
      refine own_via (fun _ q => XS.istoreN X5.here hx rfl (hb hby at_30) rfl (l' := #[.val (.int p1), .val (.int ((p1 &&& (2147483647 : Int32)) % (5 : Int32))), .val (.ref a_INSTRUCTED), .val (.int (0 : Int32))]) rfl q) ?_
      show own_Goes p e s below _ _ _ (T5.setTop (mkF m 31 #[.val (.int p1), .val (.int ((p1 &&& (2147483647 : Int32)) % (5 : Int32))), .val (.ref a_INSTRUCTED), .val (.int (0 : Int32))] []))
      refine own_via (fun _ q => XS.goto X5.here hx rfl (pc0 := 31) (pc' := 68) rfl (hb hby at_31) (by decide) (by decide) q) ?_
      show own_Goes p e s below _ _ _ (T5.setTop (mkF m 68 #[.val (.int p1), .val (.int ((p1 &&& (2147483647 : Int32)) % (5 : Int32))), .val (.ref a_INSTRUCTED), .val (.int (0 : Int32))] []))
      refine own_via (fun _ q => XS.aloadN X5.here hx rfl (hb hby at_68) rfl rfl q) ?_
      show own_Goes p e s below _ _ _ (T5.setTop (mkF m 69 #[.val (.int p1), .val (.int ((p1 &&& (2147483647 : Int32)) % (5 : Int32))), .val (.ref a_INSTRUCTED), .val (.int (0 : Int32))] [(.ref a_INSTRUCTED)]))
      obtain ⟨cq6, kq6, q6a, q6b, q6c⟩ := isOf hZ e5 E_INSTRUCTED
      obtain ⟨_, _, ⟨T6, L6, k6, n6⟩, -, X6, ⟨Lc6, hQ6, l6, y6, z6⟩, st6⟩ := X5.virtualBack hx (y := (⟨"com/example/pledgewire/pledgewire/ledger/Transaction$Status", "isFinal", "()Z"⟩ : MethodName)) (z := (⟨"com/example/pledgewire/pledgewire/ledger/Transaction$Status", "isFinal", "()Z"⟩ : MethodName)) hown (mvT hZ (hw _ (List.mem_of_getElem? (i := 4) rfl))) (mvT hZ (hw _ (List.mem_of_getElem? (i := 5) rfl))) (notFace_of_selects (args := #[]) (mvT hZ (hw _ (List.mem_of_getElem? (i := 7) rfl)))) (mvT hZ (hw _ (List.mem_of_getElem? (i := 7) rfl))) (mvT hZ (hw _ (List.mem_of_getElem? (i := 6) rfl))) (by decide) (backOf (W := 0) (rm1 l Z a0 hw [] a_INSTRUCTED a_ACCEPTED a_REJECTED a_CANCELLED (0 : Int32) h0 n0 S_ACCEPTED S_REJECTED S_CANCELLED (by simp [ne_PENDING_ACCEPTED, ne_PENDING_REJECTED, ne_PENDING_CANCELLED, ne_INSTRUCTED_ACCEPTED, ne_INSTRUCTED_REJECTED, ne_INSTRUCTED_CANCELLED])) hZ (hw _ (List.mem_of_getElem? (i := 8) rfl)) (hw _ (List.mem_of_getElem? (i := 2) rfl)) (by decide) (by decide)) q6a q6c (g := (mkF m 69 #[.val (.int p1), .val (.int ((p1 &&& (2147483647 : Int32)) % (5 : Int32))), .val (.ref a_INSTRUCTED), .val (.int (0 : Int32))] [(.ref a_INSTRUCTED)])) rfl (by rw [hml]; rfl) (Steps.refl _) (argsL := []) (rest := []) (lenOf pd___Z rfl) rfl (by show 2 * 0 + _ ≤ _; exact Nat.le_of_eq rfl) (hb hby at_69) (fun _ _ => ⟨rfl, e5, (by decide : 0 + 0 ≤ _), (by decide : 0 + 0 ≤ _)⟩)
      dsimp only [Pt.U, Pt.locs, Pt.cells, Pt.slots] at X6 l6 y6 z6 st6 hQ6
      subst l6 y6 z6
      obtain ⟨rfl, N6q, e6⟩ := hQ6
      have N6 := Fr.app (Fr.nil n0) N6q
      refine own_on st6 ?_
      show own_Goes p e s below _ _ _ (T6.setTop (mkF m 72 #[.val (.int p1), .val (.int ((p1 &&& (2147483647 : Int32)) % (5 : Int32))), .val (.ref a_INSTRUCTED), .val (.int (0 : Int32))] [(.int (0 : Int32))]))
      refine own_via (fun _ q => XS.iloadN X6.here hx rfl (hb hby at_72) rfl q) ?_
      show own_Goes p e s below _ _ _ (T6.setTop (mkF m 73 #[.val (.int p1), .val (.int ((p1 &&& (2147483647 : Int32)) % (5 : Int32))), .val (.ref a_INSTRUCTED), .val (.int (0 : Int32))] [(.int (0 : Int32)), (.int (0 : Int32))]))
      refine own_via (fun _ q => XS.icmpNo X6.here hx rfl (hb hby at_73) rfl (XT.ii_ne_f (by decide)) q) ?_
      show own_Goes p e s below _ _ _ (T6.setTop (mkF m 76 #[.val (.int p1), .val (.int ((p1 &&& (2147483647 : Int32)) % (5 : Int32))), .val (.ref a_INSTRUCTED), .val (.int (0 : Int32))] []))
      refine own_via (fun _ q => XT.iconstV X6.here hx rfl (1 : Int32) (hb hby at_76) rfl q) ?_
      show own_Goes p e s below _ _ _ (T6.setTop (mkF m 77 #[.val (.int p1), .val (.int ((p1 &&& (2147483647 : Int32)) % (5 : Int32))), .val (.ref a_INSTRUCTED), .val (.int (0 : Int32))] [(.int (1 : Int32))]))
      refine own_via (fun _ q => XS.goto X6.here hx rfl (pc0 := 77) (pc' := 81) rfl (hb hby at_77) (by decide) (by decide) q) ?_
      show own_Goes p e s below _ _ _ (T6.setTop (mkF m 81 #[.val (.int p1), .val (.int ((p1 &&& (2147483647 : Int32)) % (5 : Int32))), .val (.ref a_INSTRUCTED), .val (.int (0 : Int32))] [(.int (1 : Int32))]))
      exact own_retN X6 hx (t := .boolean) hret (by simp) hlk (hb hby at_81) (by decide) (by decide) ⟨rfl, N6⟩
    · refine own_via (fun _ q => XS.icmpYes X0.here hx rfl (pc0 := 22) (pc' := 34) rfl (hb hby at_22) rfl (XT.ii_ne_t hk22_4) (by decide) (by decide) q) ?_
      show own_Goes p e s below _ _ _ (s₁.setTop (mkF m 34 #[.val (.int p1), .val (.int ((p1 &&& (2147483647 : Int32)) % (5 : Int32))), .unset, .unset] []))
      refine own_via (fun _ q => XS.iloadN X0.here hx rfl (hb hby at_34) rfl q) ?_
      show own_Goes p e s below _ _ _ (s₁.setTop (mkF m 35 #[.val (.int p1), .val (.int ((p1 &&& (2147483647 : Int32)) % (5 : Int32))), .unset, .unset] [(.int ((p1 &&& (2147483647 : Int32)) % (5 : Int32)))]))
      refine own_via (fun _ q => XT.iconstV X0.here hx rfl (2 : Int32) (hb hby at_35) rfl q) ?_
      show own_Goes p e s below _ _ _ (s₁.setTop (mkF m 36 #[.val (.int p1), .val (.int ((p1 &&& (2147483647 : Int32)) % (5 : Int32))), .unset, .unset] [(.int (2 : Int32)), (.int ((p1 &&& (2147483647 : Int32)) % (5 : Int32)))]))
      by_cases hk36_7 : ((p1 &&& (2147483647 : Int32)) % (5 : Int32)) = (2 : Int32)
      · refine own_via (fun _ q => XS.icmpNo X0.here hx rfl (hb hby at_36) rfl (XT.ii_ne_f hk36_7) q) ?_
        show own_Goes p e s below _ _ _ (s₁.setTop (mkF m 39 #[.val (.int p1), .val (.int ((p1 &&& (2147483647 : Int32)) % (5 : Int32))), .unset, .unset] []))
        obtain ⟨T8, X8, e8, st8⟩ := getS2 X0 hx hZ hown (host := "") (Or.inl (hw _ (List.mem_of_getElem? (i := 19) rfl))) Via.refl e0 S_ACCEPTED (g := (mkF m 39 #[.val (.int p1), .val (.int ((p1 &&& (2147483647 : Int32)) % (5 : Int32))), .unset, .unset] [])) rfl (hb hby at_39)
        refine own_via st8 ?_
        show own_Goes p e s below _ _ _ (T8.setTop (mkF m 42 #[.val (.int p1), .val (.int ((p1 &&& (2147483647 : Int32)) % (5 : Int32))), .unset, .unset] [(.ref a_ACCEPTED)]))
        refine own_via (fun _ q => XS.astoreN X8.here hx rfl (hb hby at_42) rfl rfl (l' := #[.val (.int p1), .val (.int ((p1 &&& (2147483647 : Int32)) % (5 : Int32))), .val (.ref a_ACCEPTED), .unset]) rfl q) ?_
        show own_Goes p e s below _ _ _ (T8.setTop (mkF m 43 #[.val (.int p1), .val (.int ((p1 &&& (2147483647 : Int32)) % (5 : Int32))), .val (.ref a_ACCEPTED), .unset] []))
        refine own_via (fun _ q => XT.iconstV X8.here hx rfl (1 : Int32) (hb hby at_43) rfl q) ?_
        show own_Goes p e s below _ _ _ (T8.setTop (mkF m 44 #[.val (.int p1), .val (.int ((p1 &&& (2147483647 : Int32)) % (5 : Int32))), .val (.ref a_ACCEPTED), .unset] [(.int (1 : Int32))]))
        refine own_via (fun _ q => XS.istoreN X8.here hx rfl (hb hby at_44) rfl (l' := #[.val (.int p1), .val (.int ((p1 &&& (2147483647 : Int32)) % (5 : Int32))), .val (.ref a_ACCEPTED), .val (.int (1 : Int32))]) rfl q) ?_
        show own_Goes p e s below _ _ _ (T8.setTop (mkF m 45 #[.val (.int p1), .val (.int ((p1 &&& (2147483647 : Int32)) % (5 : Int32))), .val (.ref a_ACCEPTED), .val (.int (1 : Int32))] []))
        refine own_via (fun _ q => XS.goto X8.here hx rfl (pc0 := 45) (pc' := 68) rfl (hb hby at_45) (by decide) (by decide) q) ?_
        show own_Goes p e s below _ _ _ (T8.setTop (mkF m 68 #[.val (.int p1), .val (.int ((p1 &&& (2147483647 : Int32)) % (5 : Int32))), .val (.ref a_ACCEPTED), .val (.int (1 : Int32))] []))
        refine own_via (fun _ q => XS.aloadN X8.here hx rfl (hb hby at_68) rfl rfl q) ?_
        show own_Goes p e s below _ _ _ (T8.setTop (mkF m 69 #[.val (.int p1), .val (.int ((p1 &&& (2147483647 : Int32)) % (5 : Int32))), .val (.ref a_ACCEPTED), .val (.int (1 : Int32))] [(.ref a_ACCEPTED)]))
        obtain ⟨cq9, kq9, q9a, q9b, q9c⟩ := isOf hZ e8 E_ACCEPTED
        obtain ⟨_, _, ⟨T9, L9, k9, n9⟩, -, X9, ⟨Lc9, hQ9, l9, y9, z9⟩, st9⟩ := X8.virtualBack hx (y := (⟨"com/example/pledgewire/pledgewire/ledger/Transaction$Status", "isFinal", "()Z"⟩ : MethodName)) (z := (⟨"com/example/pledgewire/pledgewire/ledger/Transaction$Status", "isFinal", "()Z"⟩ : MethodName)) hown (mvT hZ (hw _ (List.mem_of_getElem? (i := 4) rfl))) (mvT hZ (hw _ (List.mem_of_getElem? (i := 5) rfl))) (notFace_of_selects (args := #[]) (mvT hZ (hw _ (List.mem_of_getElem? (i := 7) rfl)))) (mvT hZ (hw _ (List.mem_of_getElem? (i := 7) rfl))) (mvT hZ (hw _ (List.mem_of_getElem? (i := 6) rfl))) (by decide) (backOf (W := 0) (rm1 l Z a0 hw [] a_ACCEPTED a_ACCEPTED a_REJECTED a_CANCELLED (1 : Int32) h0 n0 S_ACCEPTED S_REJECTED S_CANCELLED (by simp [ne_PENDING_ACCEPTED, ne_PENDING_REJECTED, ne_PENDING_CANCELLED, ne_INSTRUCTED_ACCEPTED, ne_INSTRUCTED_REJECTED, ne_INSTRUCTED_CANCELLED])) hZ (hw _ (List.mem_of_getElem? (i := 8) rfl)) (hw _ (List.mem_of_getElem? (i := 2) rfl)) (by decide) (by decide)) q9a q9c (g := (mkF m 69 #[.val (.int p1), .val (.int ((p1 &&& (2147483647 : Int32)) % (5 : Int32))), .val (.ref a_ACCEPTED), .val (.int (1 : Int32))] [(.ref a_ACCEPTED)])) rfl (by rw [hml]; rfl) (Steps.refl _) (argsL := []) (rest := []) (lenOf pd___Z rfl) rfl (by show 2 * 0 + _ ≤ _; exact Nat.le_of_eq rfl) (hb hby at_69) (fun _ _ => ⟨rfl, e8, (by decide : 0 + 0 ≤ _), (by decide : 0 + 0 ≤ _)⟩)
        dsimp only [Pt.U, Pt.locs, Pt.cells, Pt.slots] at X9 l9 y9 z9 st9 hQ9
        subst l9 y9 z9
        obtain ⟨rfl, N9q, e9⟩ := hQ9
        have N9 := Fr.app (Fr.nil n0) N9q
        refine own_on st9 ?_
        show own_Goes p e s below _ _ _ (T9.setTop (mkF m 72 #[.val (.int p1), .val (.int ((p1 &&& (2147483647 : Int32)) % (5 : Int32))), .val (.ref a_ACCEPTED), .val (.int (1 : Int32))] [(.int (1 : Int32))]))
        refine own_via (fun _ q => XS.iloadN X9.here hx rfl (hb hby at_72) rfl q) ?_
        show own_Goes p e s below _ _ _ (T9.setTop (mkF m 73 #[.val (.int p1), .val (.int ((p1 &&& (2147483647 : Int32)) % (5 : Int32))), .val (.ref a_ACCEPTED), .val (.int (1 : Int32))] [(.int (1 : Int32)), (.int (1 : Int32))]))
        refine own_via (fun _ q => XS.icmpNo X9.here hx rfl (hb hby at_73) rfl (XT.ii_ne_f (by decide)) q) ?_
        show own_Goes p e s below _ _ _ (T9.setTop (mkF m 76 #[.val (.int p1), .val (.int ((p1 &&& (2147483647 : Int32)) % (5 : Int32))), .val (.ref a_ACCEPTED), .val (.int (1 : Int32))] []))
        refine own_via (fun _ q => XT.iconstV X9.here hx rfl (1 : Int32) (hb hby at_76) rfl q) ?_
        show own_Goes p e s below _ _ _ (T9.setTop (mkF m 77 #[.val (.int p1), .val (.int ((p1 &&& (2147483647 : Int32)) % (5 : Int32))), .val (.ref a_ACCEPTED), .val (.int (1 : Int32))] [(.int (1 : Int32))]))
        refine own_via (fun _ q => XS.goto X9.here hx rfl (pc0 := 77) (pc' := 81) rfl (hb hby at_77) (by decide) (by decide) q) ?_
        show own_Goes p e s below _ _ _ (T9.setTop (mkF m 81 #[.val (.int p1), .val (.int ((p1 &&& (2147483647 : Int32)) % (5 : Int32))), .val (.ref a_ACCEPTED), .val (.int (1 : Int32))] [(.int (1 : Int32))]))
        exact own_retN X9 hx (t := .boolean) hret (by simp) hlk (hb hby at_81) (by decide) (by decide) ⟨rfl, N9⟩
      · refine own_via (fun _ q => XS.icmpYes X0.here hx rfl (pc0 := 36) (pc' := 48) rfl (hb hby at_36) rfl (XT.ii_ne_t hk36_7) (by decide) (by decide) q) ?_
        show own_Goes p e s below _ _ _ (s₁.setTop (mkF m 48 #[.val (.int p1), .val (.int ((p1 &&& (2147483647 : Int32)) % (5 : Int32))), .unset, .unset] []))
        refine own_via (fun _ q => XS.iloadN X0.here hx rfl (hb hby at_48) rfl q) ?_
        show own_Goes p e s below _ _ _ (s₁.setTop (mkF m 49 #[.val (.int p1), .val (.int ((p1 &&& (2147483647 : Int32)) % (5 : Int32))), .unset, .unset] [(.int ((p1 &&& (2147483647 : Int32)) % (5 : Int32)))]))
        refine own_via (fun _ q => XT.iconstV X0.here hx rfl (3 : Int32) (hb hby at_49) rfl q) ?_
        show own_Goes p e s below _ _ _ (s₁.setTop (mkF m 50 #[.val (.int p1), .val (.int ((p1 &&& (2147483647 : Int32)) % (5 : Int32))), .unset, .unset] [(.int (3 : Int32)), (.int ((p1 &&& (2147483647 : Int32)) % (5 : Int32)))]))
        by_cases hk50_10 : ((p1 &&& (2147483647 : Int32)) % (5 : Int32)) = (3 : Int32)
        · refine own_via (fun _ q => XS.icmpNo X0.here hx rfl (hb hby at_50) rfl (XT.ii_ne_f hk50_10) q) ?_
          show own_Goes p e s below _ _ _ (s₁.setTop (mkF m 53 #[.val (.int p1), .val (.int ((p1 &&& (2147483647 : Int32)) % (5 : Int32))), .unset, .unset] []))
          obtain ⟨T11, X11, e11, st11⟩ := getS2 X0 hx hZ hown (host := "") (Or.inl (hw _ (List.mem_of_getElem? (i := 15) rfl))) Via.refl e0 S_REJECTED (g := (mkF m 53 #[.val (.int p1), .val (.int ((p1 &&& (2147483647 : Int32)) % (5 : Int32))), .unset, .unset] [])) rfl (hb hby at_53)
          refine own_via st11 ?_
          show own_Goes p e s below _ _ _ (T11.setTop (mkF m 56 #[.val (.int p1), .val (.int ((p1 &&& (2147483647 : Int32)) % (5 : Int32))), .unset, .unset] [(.ref a_REJECTED)]))
          refine own_via (fun _ q => XS.astoreN X11.here hx rfl (hb hby at_56) rfl rfl (l' := #[.val (.int p1), .val (.int ((p1 &&& (2147483647 : Int32)) % (5 : Int32))), .val (.ref a_REJECTED), .unset]) rfl q) ?_
          show own_Goes p e s below _ _ _ (T11.setTop (mkF m 57 #[.val (.int p1), .val (.int ((p1 &&& (2147483647 : Int32)) % (5 : Int32))), .val (.ref a_REJECTED), .unset] []))
          refine own_via (fun _ q => XT.iconstV X11.here hx rfl (1 : Int32) (hb hby at_57) rfl q) ?_
          show own_Goes p e s below _ _ _ (T11.setTop (mkF m 58 #[.val (.int p1), .val (.int ((p1 &&& (2147483647 : Int32)) % (5 : Int32))), .val (.ref a_REJECTED), .unset] [(.int (1 : Int32))]))
          refine own_via (fun _ q => XS.istoreN X11.here hx rfl (hb hby at_58) rfl (l' := #[.val (.int p1), .val (.int ((p1 &&& (2147483647 : Int32)) % (5 : Int32))), .val (.ref a_REJECTED), .val (.int (1 : Int32))]) rfl q) ?_
          show own_Goes p e s below _ _ _ (T11.setTop (mkF m 59 #[.val (.int p1), .val (.int ((p1 &&& (2147483647 : Int32)) % (5 : Int32))), .val (.ref a_REJECTED), .val (.int (1 : Int32))] []))
          refine own_via (fun _ q => XS.goto X11.here hx rfl (pc0 := 59) (pc' := 68) rfl (hb hby at_59) (by decide) (by decide) q) ?_
          show own_Goes p e s below _ _ _ (T11.setTop (mkF m 68 #[.val (.int p1), .val (.int ((p1 &&& (2147483647 : Int32)) % (5 : Int32))), .val (.ref a_REJECTED), .val (.int (1 : Int32))] []))
          refine own_via (fun _ q => XS.aloadN X11.here hx rfl (hb hby at_68) rfl rfl q) ?_
          show own_Goes p e s below _ _ _ (T11.setTop (mkF m 69 #[.val (.int p1), .val (.int ((p1 &&& (2147483647 : Int32)) % (5 : Int32))), .val (.ref a_REJECTED), .val (.int (1 : Int32))] [(.ref a_REJECTED)]))
          obtain ⟨cq12, kq12, q12a, q12b, q12c⟩ := isOf hZ e11 E_REJECTED
          obtain ⟨_, _, ⟨T12, L12, k12, n12⟩, -, X12, ⟨Lc12, hQ12, l12, y12, z12⟩, st12⟩ := X11.virtualBack hx (y := (⟨"com/example/pledgewire/pledgewire/ledger/Transaction$Status", "isFinal", "()Z"⟩ : MethodName)) (z := (⟨"com/example/pledgewire/pledgewire/ledger/Transaction$Status", "isFinal", "()Z"⟩ : MethodName)) hown (mvT hZ (hw _ (List.mem_of_getElem? (i := 4) rfl))) (mvT hZ (hw _ (List.mem_of_getElem? (i := 5) rfl))) (notFace_of_selects (args := #[]) (mvT hZ (hw _ (List.mem_of_getElem? (i := 7) rfl)))) (mvT hZ (hw _ (List.mem_of_getElem? (i := 7) rfl))) (mvT hZ (hw _ (List.mem_of_getElem? (i := 6) rfl))) (by decide) (backOf (W := 0) (rm1 l Z a0 hw [] a_REJECTED a_ACCEPTED a_REJECTED a_CANCELLED (1 : Int32) h0 n0 S_ACCEPTED S_REJECTED S_CANCELLED (by simp [ne_PENDING_ACCEPTED, ne_PENDING_REJECTED, ne_PENDING_CANCELLED, ne_INSTRUCTED_ACCEPTED, ne_INSTRUCTED_REJECTED, ne_INSTRUCTED_CANCELLED])) hZ (hw _ (List.mem_of_getElem? (i := 8) rfl)) (hw _ (List.mem_of_getElem? (i := 2) rfl)) (by decide) (by decide)) q12a q12c (g := (mkF m 69 #[.val (.int p1), .val (.int ((p1 &&& (2147483647 : Int32)) % (5 : Int32))), .val (.ref a_REJECTED), .val (.int (1 : Int32))] [(.ref a_REJECTED)])) rfl (by rw [hml]; rfl) (Steps.refl _) (argsL := []) (rest := []) (lenOf pd___Z rfl) rfl (by show 2 * 0 + _ ≤ _; exact Nat.le_of_eq rfl) (hb hby at_69) (fun _ _ => ⟨rfl, e11, (by decide : 0 + 0 ≤ _), (by decide : 0 + 0 ≤ _)⟩)
          dsimp only [Pt.U, Pt.locs, Pt.cells, Pt.slots] at X12 l12 y12 z12 st12 hQ12
          subst l12 y12 z12
          obtain ⟨rfl, N12q, e12⟩ := hQ12
          have N12 := Fr.app (Fr.nil n0) N12q
          refine own_on st12 ?_
          show own_Goes p e s below _ _ _ (T12.setTop (mkF m 72 #[.val (.int p1), .val (.int ((p1 &&& (2147483647 : Int32)) % (5 : Int32))), .val (.ref a_REJECTED), .val (.int (1 : Int32))] [(.int (1 : Int32))]))
          refine own_via (fun _ q => XS.iloadN X12.here hx rfl (hb hby at_72) rfl q) ?_
          show own_Goes p e s below _ _ _ (T12.setTop (mkF m 73 #[.val (.int p1), .val (.int ((p1 &&& (2147483647 : Int32)) % (5 : Int32))), .val (.ref a_REJECTED), .val (.int (1 : Int32))] [(.int (1 : Int32)), (.int (1 : Int32))]))
          refine own_via (fun _ q => XS.icmpNo X12.here hx rfl (hb hby at_73) rfl (XT.ii_ne_f (by decide)) q) ?_
          show own_Goes p e s below _ _ _ (T12.setTop (mkF m 76 #[.val (.int p1), .val (.int ((p1 &&& (2147483647 : Int32)) % (5 : Int32))), .val (.ref a_REJECTED), .val (.int (1 : Int32))] []))
          refine own_via (fun _ q => XT.iconstV X12.here hx rfl (1 : Int32) (hb hby at_76) rfl q) ?_
          show own_Goes p e s below _ _ _ (T12.setTop (mkF m 77 #[.val (.int p1), .val (.int ((p1 &&& (2147483647 : Int32)) % (5 : Int32))), .val (.ref a_REJECTED), .val (.int (1 : Int32))] [(.int (1 : Int32))]))
          refine own_via (fun _ q => XS.goto X12.here hx rfl (pc0 := 77) (pc' := 81) rfl (hb hby at_77) (by decide) (by decide) q) ?_
          show own_Goes p e s below _ _ _ (T12.setTop (mkF m 81 #[.val (.int p1), .val (.int ((p1 &&& (2147483647 : Int32)) % (5 : Int32))), .val (.ref a_REJECTED), .val (.int (1 : Int32))] [(.int (1 : Int32))]))
          exact own_retN X12 hx (t := .boolean) hret (by simp) hlk (hb hby at_81) (by decide) (by decide) ⟨rfl, N12⟩
        · refine own_via (fun _ q => XS.icmpYes X0.here hx rfl (pc0 := 50) (pc' := 62) rfl (hb hby at_50) rfl (XT.ii_ne_t hk50_10) (by decide) (by decide) q) ?_
          show own_Goes p e s below _ _ _ (s₁.setTop (mkF m 62 #[.val (.int p1), .val (.int ((p1 &&& (2147483647 : Int32)) % (5 : Int32))), .unset, .unset] []))
          obtain ⟨T13, X13, e13, st13⟩ := getS2 X0 hx hZ hown (host := "") (Or.inl (hw _ (List.mem_of_getElem? (i := 18) rfl))) Via.refl e0 S_CANCELLED (g := (mkF m 62 #[.val (.int p1), .val (.int ((p1 &&& (2147483647 : Int32)) % (5 : Int32))), .unset, .unset] [])) rfl (hb hby at_62)
          refine own_via st13 ?_
          show own_Goes p e s below _ _ _ (T13.setTop (mkF m 65 #[.val (.int p1), .val (.int ((p1 &&& (2147483647 : Int32)) % (5 : Int32))), .unset, .unset] [(.ref a_CANCELLED)]))
          refine own_via (fun _ q => XS.astoreN X13.here hx rfl (hb hby at_65) rfl rfl (l' := #[.val (.int p1), .val (.int ((p1 &&& (2147483647 : Int32)) % (5 : Int32))), .val (.ref a_CANCELLED), .unset]) rfl q) ?_
          show own_Goes p e s below _ _ _ (T13.setTop (mkF m 66 #[.val (.int p1), .val (.int ((p1 &&& (2147483647 : Int32)) % (5 : Int32))), .val (.ref a_CANCELLED), .unset] []))
          refine own_via (fun _ q => XT.iconstV X13.here hx rfl (1 : Int32) (hb hby at_66) rfl q) ?_
          show own_Goes p e s below _ _ _ (T13.setTop (mkF m 67 #[.val (.int p1), .val (.int ((p1 &&& (2147483647 : Int32)) % (5 : Int32))), .val (.ref a_CANCELLED), .unset] [(.int (1 : Int32))]))
          refine own_via (fun _ q => XS.istoreN X13.here hx rfl (hb hby at_67) rfl (l' := #[.val (.int p1), .val (.int ((p1 &&& (2147483647 : Int32)) % (5 : Int32))), .val (.ref a_CANCELLED), .val (.int (1 : Int32))]) rfl q) ?_
          show own_Goes p e s below _ _ _ (T13.setTop (mkF m 68 #[.val (.int p1), .val (.int ((p1 &&& (2147483647 : Int32)) % (5 : Int32))), .val (.ref a_CANCELLED), .val (.int (1 : Int32))] []))
          refine own_via (fun _ q => XS.aloadN X13.here hx rfl (hb hby at_68) rfl rfl q) ?_
          show own_Goes p e s below _ _ _ (T13.setTop (mkF m 69 #[.val (.int p1), .val (.int ((p1 &&& (2147483647 : Int32)) % (5 : Int32))), .val (.ref a_CANCELLED), .val (.int (1 : Int32))] [(.ref a_CANCELLED)]))
          obtain ⟨cq14, kq14, q14a, q14b, q14c⟩ := isOf hZ e13 E_CANCELLED
          obtain ⟨_, _, ⟨T14, L14, k14, n14⟩, -, X14, ⟨Lc14, hQ14, l14, y14, z14⟩, st14⟩ := X13.virtualBack hx (y := (⟨"com/example/pledgewire/pledgewire/ledger/Transaction$Status", "isFinal", "()Z"⟩ : MethodName)) (z := (⟨"com/example/pledgewire/pledgewire/ledger/Transaction$Status", "isFinal", "()Z"⟩ : MethodName)) hown (mvT hZ (hw _ (List.mem_of_getElem? (i := 4) rfl))) (mvT hZ (hw _ (List.mem_of_getElem? (i := 5) rfl))) (notFace_of_selects (args := #[]) (mvT hZ (hw _ (List.mem_of_getElem? (i := 7) rfl)))) (mvT hZ (hw _ (List.mem_of_getElem? (i := 7) rfl))) (mvT hZ (hw _ (List.mem_of_getElem? (i := 6) rfl))) (by decide) (backOf (W := 0) (rm1 l Z a0 hw [] a_CANCELLED a_ACCEPTED a_REJECTED a_CANCELLED (1 : Int32) h0 n0 S_ACCEPTED S_REJECTED S_CANCELLED (by simp [ne_PENDING_ACCEPTED, ne_PENDING_REJECTED, ne_PENDING_CANCELLED, ne_INSTRUCTED_ACCEPTED, ne_INSTRUCTED_REJECTED, ne_INSTRUCTED_CANCELLED])) hZ (hw _ (List.mem_of_getElem? (i := 8) rfl)) (hw _ (List.mem_of_getElem? (i := 2) rfl)) (by decide) (by decide)) q14a q14c (g := (mkF m 69 #[.val (.int p1), .val (.int ((p1 &&& (2147483647 : Int32)) % (5 : Int32))), .val (.ref a_CANCELLED), .val (.int (1 : Int32))] [(.ref a_CANCELLED)])) rfl (by rw [hml]; rfl) (Steps.refl _) (argsL := []) (rest := []) (lenOf pd___Z rfl) rfl (by show 2 * 0 + _ ≤ _; exact Nat.le_of_eq rfl) (hb hby at_69) (fun _ _ => ⟨rfl, e13, (by decide : 0 + 0 ≤ _), (by decide : 0 + 0 ≤ _)⟩)
          dsimp only [Pt.U, Pt.locs, Pt.cells, Pt.slots] at X14 l14 y14 z14 st14 hQ14
          subst l14 y14 z14
          obtain ⟨rfl, N14q, e14⟩ := hQ14
          have N14 := Fr.app (Fr.nil n0) N14q
          refine own_on st14 ?_
          show own_Goes p e s below _ _ _ (T14.setTop (mkF m 72 #[.val (.int p1), .val (.int ((p1 &&& (2147483647 : Int32)) % (5 : Int32))), .val (.ref a_CANCELLED), .val (.int (1 : Int32))] [(.int (1 : Int32))]))
          refine own_via (fun _ q => XS.iloadN X14.here hx rfl (hb hby at_72) rfl q) ?_
          show own_Goes p e s below _ _ _ (T14.setTop (mkF m 73 #[.val (.int p1), .val (.int ((p1 &&& (2147483647 : Int32)) % (5 : Int32))), .val (.ref a_CANCELLED), .val (.int (1 : Int32))] [(.int (1 : Int32)), (.int (1 : Int32))]))
          refine own_via (fun _ q => XS.icmpNo X14.here hx rfl (hb hby at_73) rfl (XT.ii_ne_f (by decide)) q) ?_
          show own_Goes p e s below _ _ _ (T14.setTop (mkF m 76 #[.val (.int p1), .val (.int ((p1 &&& (2147483647 : Int32)) % (5 : Int32))), .val (.ref a_CANCELLED), .val (.int (1 : Int32))] []))
          refine own_via (fun _ q => XT.iconstV X14.here hx rfl (1 : Int32) (hb hby at_76) rfl q) ?_
          show own_Goes p e s below _ _ _ (T14.setTop (mkF m 77 #[.val (.int p1), .val (.int ((p1 &&& (2147483647 : Int32)) % (5 : Int32))), .val (.ref a_CANCELLED), .val (.int (1 : Int32))] [(.int (1 : Int32))]))
          refine own_via (fun _ q => XS.goto X14.here hx rfl (pc0 := 77) (pc' := 81) rfl (hb hby at_77) (by decide) (by decide) q) ?_
          show own_Goes p e s below _ _ _ (T14.setTop (mkF m 81 #[.val (.int p1), .val (.int ((p1 &&& (2147483647 : Int32)) % (5 : Int32))), .val (.ref a_CANCELLED), .val (.int (1 : Int32))] [(.int (1 : Int32))]))
          exact own_retN X14 hx (t := .boolean) hret (by simp) hlk (hb hby at_81) (by decide) (by decide) ⟨rfl, N14⟩
set_option maxRecDepth 65536 in
set_option maxHeartbeats 40000000 in
theorem comes_1 {Post : Tables → Env → Array Value → State → Outcome → State → Prop} (hpost : ∀ tb e args s v u, (limb_1_1.after args s (.returned v) u = true ∧ limb_1_2.after args s (.returned v) u = true ∧ True) → FrameEnd s (.returned v) u (Jvm.fieldLocs frame_1_writes args s ++ Jvm.arrayLocs frame_1_arrays args s ++ Jvm.staticLocs frame_1_statics s) 0 0 → Post tb e args s (.returned v) u) :
    ArmFor flags0 classFile x code maxLocals ret World_1 tables_1 room_1 Calls_1 rest_1 Pre_1 Post := by
  intro l hfl _ _ p e ha hc hk s m args below hf hA hF happ hP
  obtain ⟨hcalls, hrest, hpre⟩ := hP
  obtain ⟨-, -, -, hnamed, -, -, -, hat⟩ := (Spec.applies_iff hf).mp happ
  obtain ⟨hg, hn⟩ := and_e (Cond.before_iff.mp (show (Jvm.Cond.and given_1 narrow_1).before args s = true from hpre))
  obtain ⟨h1, g0⟩ := and_e hg
  obtain ⟨w0, rfl⟩ : ∃ w0 : Value, args = #[w0] := by
    have hs : args.size = 1 := by simpa [Cond.value, given_1] using h1
    obtain ⟨L⟩ := args
    match L, hs with
    | [w0], _ => exact ⟨w0, rfl⟩
  have hw := fun d (hd : d ∈ tables_1) => atoms_spec (ws := Jvm.Cond.code x code maxLocals ret :: tables_1) hat d (List.mem_cons_of_mem _ hd)
  obtain ⟨i0, e0⟩ := is_v g0
  obtain rfl : w0 = (.int i0) := Option.some.inj e0
  have n0 := hn
  obtain ⟨n0', n1⟩ := and_e n0
  obtain ⟨a_PENDING, ev_PENDING⟩ := exa_v n0'
  have E_PENDING : Exa s s.heap a_PENDING "com/example/pledgewire/pledgewire/ledger/Transaction$Status" := Exa.start ev_PENDING n0'
  have S_PENDING : Sta s s.heap "com/example/pledgewire/pledgewire/ledger/Transaction$Status" "PENDING" "Lcom/example/pledgewire/pledgewire/ledger/Transaction$Status;" (.ref a_PENDING) := Sta.start ev_PENDING (Or.inr ⟨(hw _ (List.mem_of_getElem? (i := 2) rfl)), (hw _ (List.mem_of_getElem? (i := 3) rfl))⟩)
  obtain ⟨n1', n2⟩ := and_e n1
  obtain ⟨a_ACCEPTED, ev_ACCEPTED⟩ := exa_v n1'
  have E_ACCEPTED : Exa s s.heap a_ACCEPTED "com/example/pledgewire/pledgewire/ledger/Transaction$Status" := Exa.start ev_ACCEPTED n1'
  have S_ACCEPTED : Sta s s.heap "com/example/pledgewire/pledgewire/ledger/Transaction$Status" "ACCEPTED" "Lcom/example/pledgewire/pledgewire/ledger/Transaction$Status;" (.ref a_ACCEPTED) := Sta.start ev_ACCEPTED (Or.inr ⟨(hw _ (List.mem_of_getElem? (i := 2) rfl)), (hw _ (List.mem_of_getElem? (i := 10) rfl))⟩)
  obtain ⟨n2', n3⟩ := and_e n2
  obtain ⟨n3', n4⟩ := and_e n3
  obtain ⟨n4', n5⟩ := and_e n4
  obtain ⟨a_REJECTED, ev_REJECTED⟩ := exa_v n4'
  have E_REJECTED : Exa s s.heap a_REJECTED "com/example/pledgewire/pledgewire/ledger/Transaction$Status" := Exa.start ev_REJECTED n4'
  have S_REJECTED : Sta s s.heap "com/example/pledgewire/pledgewire/ledger/Transaction$Status" "REJECTED" "Lcom/example/pledgewire/pledgewire/ledger/Transaction$Status;" (.ref a_REJECTED) := Sta.start ev_REJECTED (Or.inr ⟨(hw _ (List.mem_of_getElem? (i := 2) rfl)), (hw _ (List.mem_of_getElem? (i := 12) rfl))⟩)
  obtain ⟨n5', n6⟩ := and_e n5
  obtain ⟨n6', n7⟩ := and_e n6
  obtain ⟨a_CANCELLED, ev_CANCELLED⟩ := exa_v n6'
  have E_CANCELLED : Exa s s.heap a_CANCELLED "com/example/pledgewire/pledgewire/ledger/Transaction$Status" := Exa.start ev_CANCELLED n6'
  have S_CANCELLED : Sta s s.heap "com/example/pledgewire/pledgewire/ledger/Transaction$Status" "CANCELLED" "Lcom/example/pledgewire/pledgewire/ledger/Transaction$Status;" (.ref a_CANCELLED) := Sta.start ev_CANCELLED (Or.inr ⟨(hw _ (List.mem_of_getElem? (i := 2) rfl)), (hw _ (List.mem_of_getElem? (i := 14) rfl))⟩)
  obtain ⟨n7', n8⟩ := and_e n7
  obtain ⟨n8', n9⟩ := and_e n8
  obtain ⟨a_INSTRUCTED, ev_INSTRUCTED⟩ := exa_v n8'
  have E_INSTRUCTED : Exa s s.heap a_INSTRUCTED "com/example/pledgewire/pledgewire/ledger/Transaction$Status" := Exa.start ev_INSTRUCTED n8'
  have S_INSTRUCTED : Sta s s.heap "com/example/pledgewire/pledgewire/ledger/Transaction$Status" "INSTRUCTED" "Lcom/example/pledgewire/pledgewire/ledger/Transaction$Status;" (.ref a_INSTRUCTED) := Sta.start ev_INSTRUCTED (Or.inr ⟨(hw _ (List.mem_of_getElem? (i := 2) rfl)), (hw _ (List.mem_of_getElem? (i := 17) rfl))⟩)
  have F_PENDING_ordinal : Fld s s.heap a_PENDING "java/lang/Enum" "ordinal" "I" (.int (0 : Int32)) := Fld.start ((fld_at ev_PENDING).symm.trans (own_eqi n2'))
  have F_ACCEPTED_ordinal : Fld s s.heap a_ACCEPTED "java/lang/Enum" "ordinal" "I" (.int (2 : Int32)) := Fld.start ((fld_at ev_ACCEPTED).symm.trans (own_eqi n3'))
  have F_REJECTED_ordinal : Fld s s.heap a_REJECTED "java/lang/Enum" "ordinal" "I" (.int (3 : Int32)) := Fld.start ((fld_at ev_REJECTED).symm.trans (own_eqi n5'))
  have F_CANCELLED_ordinal : Fld s s.heap a_CANCELLED "java/lang/Enum" "ordinal" "I" (.int (4 : Int32)) := Fld.start ((fld_at ev_CANCELLED).symm.trans (own_eqi n7'))
  have F_INSTRUCTED_ordinal : Fld s s.heap a_INSTRUCTED "java/lang/Enum" "ordinal" "I" (.int (1 : Int32)) := Fld.start ((fld_at ev_INSTRUCTED).symm.trans (own_eqi n9))
  obtain ⟨n, o, h1, h2, h3, _, L, rfl, ⟨rfl, N⟩, hq⟩ := rm0 l s _ hw tables_1 i0 a_PENDING a_INSTRUCTED a_ACCEPTED a_REJECTED a_CANCELLED s.heap s.heap.size S_PENDING S_INSTRUCTED S_ACCEPTED S_REJECTED S_CANCELLED E_PENDING E_INSTRUCTED E_ACCEPTED E_REJECTED E_CANCELLED (F_PENDING_ordinal.ne F_ACCEPTED_ordinal (by decide)) (F_PENDING_ordinal.ne F_REJECTED_ordinal (by decide)) (F_PENDING_ordinal.ne F_CANCELLED_ordinal (by decide)) (F_INSTRUCTED_ordinal.ne F_ACCEPTED_ordinal (by decide)) (F_INSTRUCTED_ordinal.ne F_REJECTED_ordinal (by decide)) (F_INSTRUCTED_ordinal.ne F_CANCELLED_ordinal (by decide)) p e ha hc hk s m _ below hf ((Spec.applies_iff_loose hf).mp happ).1 ⟨rfl, State.Warmed39.refl s, rfl⟩ trivial
  refine ⟨n, _, h1, h2, h3, hpost _ _ _ _ _ _ ⟨Cond.after_iff.mpr rfl, Cond.after_iff.mpr (eq_i res_at (Term.int_eval (1)) rfl), trivial⟩ ⟨hq.1, hq.2.1, (hq.2.2.sift fun y hy => Or.inr (N y hy)).mono (by decide) (by decide)⟩⟩
theorem main_1_1 : Claimed_1_1 := comes_1 fun _ _ _ _ _ _ h hF => ⟨h.1, hF⟩
theorem main_1_2 : Claimed_1_2 := comes_1 fun _ _ _ _ _ _ h hF => ⟨h.2.1, hF⟩
end Jvm.Pilot.@@N@@
namespace Jvm.Pilot.@@N@@
open Jvm Jvm.ClassFile Sem Op Lib Jvm.Free Jvm.Stand Jvm.Pilot.@@N@@.Jvm.D
/-! MADE BY PROGRAM (witnessworld.py) out of the Statement's table words and the real class files: 12 classes; the members and pool entries that the words name. The judged class is class 1, her method 1. -/
namespace start1
open Jvm.ClassFile
def u (s : String) : CpInfo := .utf8 (stringToUtf16 s)
/-- a pool by its gaps: so many unusable entries, then the entry; so many at the end -/
def gap : Nat → List CpInfo → List CpInfo
  | 0, r => r
  | n + 1, r => .unusable :: gap n r
def poolList (es : List (Nat × CpInfo)) (last : Nat) : List CpInfo := es.foldr (fun e r => gap e.1 (e.2 :: r)) (gap last [])
def pool (es : List (Nat × CpInfo)) (last : Nat) : Array CpInfo := ⟨poolList es last⟩
def fileOf (pool : Array CpInfo) (this : Nat) (attrs : Array Attribute := #[]) (ms : Array MethodInfo := #[]) (fl : Nat := 33) (sup : Nat := 0) (ifs : Array Nat := #[]) (fds : Array FieldInfo := #[]) : ClassFile where
  minorVersion := 0
  majorVersion := 65
  constantPool := pool
  accessFlags := fl
  thisClass := this
  superClass := sup
  interfaces := ifs
  fields := fds
  methods := ms
  attributes := attrs
def plain (name : String) (sup : Option ClassId) : Class where
  name := name
  kind := .ordinary
  loader := none
  accessFlags := 33
  super := sup
  interfaces := #[]
  cf := none
  fields := #[]
  methods := #[]
  instanceTypes := #[]
  staticTypes := #[]
  resolved := #[]
  callSites := []
  init := .initialized
  statics := none
  mirror := none

def pool0 : Array CpInfo := pool [(5, u "<init>"), (0, u "()V"), (1, .class_ 10), (1, u "java/lang/Object")] 113

def k0m0 : Method := { name := "<init>", desc := "()V", sig := { parameters := [], returnType := none }, accessFlags := 1, code := none }
/-- java/lang/Object -/
def k0 : Class := { plain "java/lang/Object" none with
  accessFlags := 33
  interfaces := #[]
  cf := some (fileOf pool0 8 #[] #[{ accessFlags := 1, nameIndex := 5, descriptorIndex := 6, attributes := #[] }] 33 0 #[] #[])
  fields := #[]
  methods := #[k0m0]
  instanceTypes := #[]
  staticTypes := #[]
  resolved := Array.replicate 124 none
  statics := none }

def pool1 : Array CpInfo := pool [(2, .class_ 4), (1, u "java/lang/Object"), (0, u "<init>"), (0, u "()V"), (0, .integer 2147483647), (0, .fieldref 9 10), (0, .class_ 11), (0, .nameAndType 12 13), (0, u "com/example/pledgewire/pledgewire/ledger/Transaction$Status"), (0, u "PENDING"), (0, u "Lcom/example/pledgewire/pledgewire/ledger/Transaction$Status;"), (0, .fieldref 9 15), (0, .nameAndType 16 13), (0, u "INSTRUCTED"), (0, .fieldref 9 18), (0, .nameAndType 19 13), (0, u "ACCEPTED"), (0, .fieldref 9 21), (0, .nameAndType 22 13), (0, u "REJECTED"), (0, .fieldref 9 24), (0, .nameAndType 25 13), (0, u "CANCELLED"), (0, .methodref 9 27), (0, .nameAndType 28 29), (0, u "isFinal"), (0, u "()Z"), (0, .class_ 31), (0, u "com/example/pledgewire/pledgewire/ledger/StatusIsFinalPinLaw"), (2, u "law"), (0, u "(I)Z")] 7

def k1m0 : Method := { name := "<init>", desc := "()V", sig := { parameters := [], returnType := none }, accessFlags := 1, code := none }
def k1c1 : Code := { maxStack := 2, maxLocals := 4, code := code, exceptionTable := #[], attributes := #[] }
def k1m1 : Method := { name := "law", desc := "(I)Z", sig := { parameters := [.int], returnType := some .boolean }, accessFlags := 9, code := some k1c1 }
/-- com/example/pledgewire/pledgewire/ledger/StatusIsFinalPinLaw -/
def k1 : Class := { plain "com/example/pledgewire/pledgewire/ledger/StatusIsFinalPinLaw" (some 0) with
  accessFlags := 49
  interfaces := #[]
  cf := some (fileOf pool1 30 #[] #[{ accessFlags := 1, nameIndex := 5, descriptorIndex := 6, attributes := #[] }, { accessFlags := 9, nameIndex := 34, descriptorIndex := 35, attributes := #[] }] 49 2 #[] #[])
  fields := #[]
  methods := #[k1m0, k1m1]
  instanceTypes := #[]
  staticTypes := #[]
  resolved := Array.replicate 43 none
  statics := none }

def pool2 : Array CpInfo := pool [(1, .class_ 2), (0, u "java/lang/constant/Constable"), (0, .class_ 4), (0, u "java/lang/Object")] 6

/-- java/lang/constant/Constable -/
def k2 : Class := { plain "java/lang/constant/Constable" (some 0) with
  accessFlags := 1537
  interfaces := #[]
  cf := some (fileOf pool2 1 #[] #[] 1537 3 #[] #[])
  fields := #[]
  methods := #[]
  instanceTypes := #[]
  staticTypes := #[]
  resolved := Array.replicate 11 none
  statics := none }

def pool3 : Array CpInfo := pool [(1, .class_ 2), (0, u "java/lang/Comparable"), (0, .class_ 4), (0, u "java/lang/Object")] 7

/-- java/lang/Comparable -/
def k3 : Class := { plain "java/lang/Comparable" (some 0) with
  accessFlags := 1537
  interfaces := #[]
  cf := some (fileOf pool3 1 #[] #[] 1537 3 #[] #[])
  fields := #[]
  methods := #[]
  instanceTypes := #[]
  staticTypes := #[]
  resolved := Array.replicate 12 none
  statics := none }

def pool4 : Array CpInfo := pool [(1, .class_ 2), (0, u "java/io/Serializable"), (0, .class_ 4), (0, u "java/lang/Object")] 2

/-- java/io/Serializable -/
def k4 : Class := { plain "java/io/Serializable" (some 0) with
  accessFlags := 1537
  interfaces := #[]
  cf := some (fileOf pool4 1 #[] #[] 1537 3 #[] #[])
  fields := #[]
  methods := #[]
  instanceTypes := #[]
  staticTypes := #[]
  resolved := Array.replicate 7 none
  statics := none }

def pool5 : Array CpInfo := pool [(2, .class_ 4), (1, u "java/lang/Enum"), (0, u "name"), (0, u "Ljava/lang/String;"), (2, u "ordinal"), (0, u "I"), (1, .class_ 14), (1, u "java/lang/Object"), (4, u "hash"), (86, .class_ 108), (1, u "java/lang/Enum$EnumDesc"), (2, .class_ 112), (0, u "java/lang/constant/Constable"), (0, .class_ 114), (0, u "java/lang/Comparable"), (0, .class_ 116), (0, u "java/io/Serializable")] 87

/-- java/lang/Enum -/
def k5 : Class := { plain "java/lang/Enum" (some 0) with
  accessFlags := 1057
  interfaces := #[2, 3, 4]
  cf := some (fileOf pool5 2 #[.nestMembers #[106]] #[] 1057 12 #[111, 113, 115] #[{ accessFlags := 18, nameIndex := 5, descriptorIndex := 6, attributes := #[] }, { accessFlags := 18, nameIndex := 9, descriptorIndex := 10, attributes := #[] }, { accessFlags := 2, nameIndex := 19, descriptorIndex := 10, attributes := #[] }])
  fields := #[{ name := "name", type := (.object "java/lang/String"), accessFlags := 18, slot := 0, constantValue := 0 }, { name := "ordinal", type := .int, accessFlags := 18, slot := 1, constantValue := 0 }, { name := "hash", type := .int, accessFlags := 2, slot := 2, constantValue := 0 }]
  methods := #[]
  instanceTypes := #[(.object "java/lang/String"), .int, .int]
  staticTypes := #[]
  resolved := Array.replicate 204 none
  statics := none }

def pool6 : Array CpInfo := pool [(1, .class_ 2), (0, u "com/example/pledgewire/pledgewire/ledger/Transaction$Status"), (2, u "PENDING"), (0, u "Lcom/example/pledgewire/pledgewire/ledger/Transaction$Status;"), (2, u "INSTRUCTED"), (0, .fieldref 1 11), (0, .nameAndType 12 6), (0, u "ACCEPTED"), (0, .fieldref 1 14), (0, .nameAndType 15 6), (0, u "REJECTED"), (0, .fieldref 1 17), (0, .nameAndType 18 6), (0, u "CANCELLED"), (2, u "$VALUES"), (0, u "[Lcom/example/pledgewire/pledgewire/ledger/Transaction$Status;"), (6, .class_ 31), (1, u "java/lang/Enum"), (32, u "isFinal"), (0, u "()Z"), (8, .class_ 75), (0, u "com/example/pledgewire/pledgewire/ledger/Transaction")] 2

def k6c0 : Code := { maxStack := 2, maxLocals := 1, code := prog_60_method_4_code, exceptionTable := #[], attributes := #[] }
def k6m0 : Method := { name := "isFinal", desc := "()Z", sig := { parameters := [], returnType := some .boolean }, accessFlags := 1, code := some k6c0 }
/-- com/example/pledgewire/pledgewire/ledger/Transaction$Status -/
def k6 : Class := { plain "com/example/pledgewire/pledgewire/ledger/Transaction$Status" (some 5) with
  accessFlags := 16433
  interfaces := #[]
  cf := some (fileOf pool6 1 #[.nestHost 74] #[{ accessFlags := 1, nameIndex := 64, descriptorIndex := 65, attributes := #[] }] 16433 29 #[] #[{ accessFlags := 16409, nameIndex := 5, descriptorIndex := 6, attributes := #[] }, { accessFlags := 16409, nameIndex := 9, descriptorIndex := 6, attributes := #[] }, { accessFlags := 16409, nameIndex := 12, descriptorIndex := 6, attributes := #[] }, { accessFlags := 16409, nameIndex := 15, descriptorIndex := 6, attributes := #[] }, { accessFlags := 16409, nameIndex := 18, descriptorIndex := 6, attributes := #[] }, { accessFlags := 4122, nameIndex := 21, descriptorIndex := 22, attributes := #[] }])
  fields := #[{ name := "PENDING", type := (.object "com/example/pledgewire/pledgewire/ledger/Transaction$Status"), accessFlags := 16409, slot := 0, constantValue := 0 }, { name := "INSTRUCTED", type := (.object "com/example/pledgewire/pledgewire/ledger/Transaction$Status"), accessFlags := 16409, slot := 1, constantValue := 0 }, { name := "ACCEPTED", type := (.object "com/example/pledgewire/pledgewire/ledger/Transaction$Status"), accessFlags := 16409, slot := 2, constantValue := 0 }, { name := "REJECTED", type := (.object "com/example/pledgewire/pledgewire/ledger/Transaction$Status"), accessFlags := 16409, slot := 3, constantValue := 0 }, { name := "CANCELLED", type := (.object "com/example/pledgewire/pledgewire/ledger/Transaction$Status"), accessFlags := 16409, slot := 4, constantValue := 0 }, { name := "$VALUES", type := (.array (.object "com/example/pledgewire/pledgewire/ledger/Transaction$Status")), accessFlags := 4122, slot := 5, constantValue := 0 }]
  methods := #[k6m0]
  instanceTypes := #[(.object "java/lang/String"), .int, .int]
  staticTypes := #[(.object "com/example/pledgewire/pledgewire/ledger/Transaction$Status"), (.object "com/example/pledgewire/pledgewire/ledger/Transaction$Status"), (.object "com/example/pledgewire/pledgewire/ledger/Transaction$Status"), (.object "com/example/pledgewire/pledgewire/ledger/Transaction$Status"), (.object "com/example/pledgewire/pledgewire/ledger/Transaction$Status"), (.array (.object "com/example/pledgewire/pledgewire/ledger/Transaction$Status"))]
  resolved := Array.replicate 78 none
  statics := some 0 }

def pool7 : Array CpInfo := pool [(1, u "java/lang/Cloneable"), (0, .class_ 1), (0, u "java/lang/Object"), (0, .class_ 3)] 3

/-- java/lang/Cloneable -/
def k7 : Class := { plain "java/lang/Cloneable" (some 0) with
  accessFlags := 1537
  interfaces := #[]
  cf := some (fileOf pool7 2 #[] #[] 1537 4 #[] #[])
  fields := #[]
  methods := #[]
  instanceTypes := #[]
  staticTypes := #[]
  resolved := Array.replicate 8 none
  statics := none }

/-- the primitive byte -/
def k8 : Class := { plain "byte" none with kind := .primitive 'B', accessFlags := 0x411 }
/-- [B -/
def k9 : Class := { plain "[B" (some 0) with kind := .array 8 .byte, interfaces := #[7, 4], accessFlags := 1041 }

/-- the primitive int -/
def k10 : Class := { plain "int" none with kind := .primitive 'I', accessFlags := 0x411 }
/-- [I -/
def k11 : Class := { plain "[I" (some 0) with kind := .array 10 .int, interfaces := #[7, 4], accessFlags := 1041 }

def heap : Heap := #[{ cls := 6, slots := #[.ref 1, .ref 5, .ref 2, .ref 3, .ref 4, .null], vm := .statics 6 },
  { cls := 6, slots := #[.null, .int 0, .int 0], vm := .none },
  { cls := 6, slots := #[.null, .int 2, .int 0], vm := .none },
  { cls := 6, slots := #[.null, .int 3, .int 0], vm := .none },
  { cls := 6, slots := #[.null, .int 4, .int 0], vm := .none },
  { cls := 6, slots := #[.null, .int 1, .int 0], vm := .none }]
def classes : Array Class := #[k0, k1, k2, k3, k4, k5, k6, k7, k8, k9, k10, k11]
def interned : List (Array UInt16 × Addr) := []
def slotsUsed : Nat := 21
def theMethod : MethodId := ⟨1, 1⟩
def args0 : Array Value := #[.int 5]
def aboutOver (below : List Frame) : State where
  vm := { classes := classes, interned := interned.toArray }
  heap := heap
  slotsUsed := slotsUsed
  threads := #[{ frames := .invoking theMethod args0 :: below }]
def below0 : List Frame := [.native { method := ⟨0, 0⟩, args := #[] }]
def about1 : State := aboutOver below0
def p0 : Program := .bare "" "" ""
def e0 : Env := launch0.env 0 0 0
theorem w_frames : about1.frames = Frame.invoking theMethod args0 :: below0 := rfl
set_option maxRecDepth 65536 in
theorem w_args : argsFit about1.vm theMethod args0 = true := by decide +kernel
set_option maxRecDepth 65536 in
theorem w_heap : heapFits about1 = true := by decide +kernel
set_option maxRecDepth 65536 in
theorem w_runnable : about1.curStatus? = some .runnable := by decide +kernel
set_option maxRecDepth 65536 in
theorem w_alone : about1.alone = true := by decide +kernel
set_option maxRecDepth 65536 in
theorem w_named : about1.methodNamed? x = some theMethod := by decide +kernel
set_option maxRecDepth 65536 in
theorem w_hears : about1.hears theMethod below0 = true := by decide +kernel
set_option maxRecDepth 65536 in
theorem w_ripe : about1.ripe theMethod args0 below0 = true := by decide +kernel
theorem w_running : about1.status = .running := rfl
set_option maxRecDepth 65536 in
theorem w_room : about1.hasRoom e0.platform room_1 = true :=
  launch0.hasRoom_least _ room_1 (by decide +kernel) (by decide +kernel) (by decide +kernel) (by decide +kernel) (by decide +kernel) (by decide +kernel)
theorem allAtoms_all (ts : List Jvm.Cond) (a : Array Jvm.Value) (st : Jvm.State) : (allAtoms ts).before a st = ts.all (fun c => c.before a st) := by
  induction ts with
  | nil => rfl
  | cons c t ih =>
    show (Jvm.Cond.and c (allAtoms t)).before a st = _
    rw [Jvm.Cond.before_and, ih, List.all_cons]
def words1 : List Jvm.Cond := Jvm.Cond.code x code maxLocals ret :: tables_1
/-- a 'code' word, met by the world's own term for the bytes: nothing is compared byte by byte -/
theorem code_word {y : MethodName} {bytes : ByteArray} {mx : Nat} {rt : Option FieldType} {a : Array Value} {s : State} {m : MethodId} {meth : Method} {c : Code} (h1 : s.methodNamed? y = some m) (h2 : s.vm.method? m = some meth) (h3 : meth.code = some c) (h4 : c.code = bytes)
    (h5 : (c.maxLocals == mx && c.exceptionTable.isEmpty && decide (c.maxStack ≤ mostOperands) && decide (meth.sig.returnType = rt) && !meth.locks && decide (parseMethodDescriptor y.desc = some meth.sig)) = true) : (Jvm.Cond.code y bytes mx rt).before a s = true := by
  simp only [Bool.and_eq_true, beq_iff_eq, Bool.not_eq_true', decide_eq_true_eq] at h5
  obtain ⟨⟨⟨⟨⟨g1, g2⟩, g3⟩, g4⟩, g5⟩, g6⟩ := h5
  simp [Cond.before, Cond.holds, Cond.value, h1, h2, h3, h4, g1, g2, g3, g4, g5, g6]
def isCode : Jvm.Cond → Bool
  | .code _ _ _ _ => true
  | _ => false
theorem all_split {L : List Jvm.Cond} {P : Jvm.Cond → Bool} (h1 : L.all (fun c => isCode c || P c) = true) (h2 : ∀ c ∈ L.filter isCode, P c = true) : L.all P = true := by
  refine List.all_eq_true.mpr fun c hc => ?_
  have h := List.all_eq_true.mp h1 c hc
  rcases Bool.eq_false_or_eq_true (isCode c) with hi | hi
  · exact h2 c (List.mem_filter.mpr ⟨hc, hi⟩)
  · simpa [hi] using h
set_option maxRecDepth 65536 in
theorem w_c0 : (Jvm.Cond.code x code maxLocals ret).before args0 about1 = true := code_word (m := ⟨1, 1⟩) (meth := k1m1) (c := k1c1) (by decide +kernel) rfl rfl rfl (by decide +kernel)
set_option maxRecDepth 65536 in
theorem w_c1 : (Jvm.Cond.code ({ cls := "com/example/pledgewire/pledgewire/ledger/Transaction$Status", name := "isFinal", desc := "()Z" } : Jvm.MethodName) prog_60_method_4_code (1 : Nat) (Option.some Jvm.ClassFile.FieldType.boolean)).before args0 about1 = true := code_word (m := ⟨6, 0⟩) (meth := k6m0) (c := k6c0) (by decide +kernel) rfl rfl rfl (by decide +kernel)
def codes1 : List Jvm.Cond := [Jvm.Cond.code x code maxLocals ret, Jvm.Cond.code ({ cls := "com/example/pledgewire/pledgewire/ledger/Transaction$Status", name := "isFinal", desc := "()Z" } : Jvm.MethodName) prog_60_method_4_code (1 : Nat) (Option.some Jvm.ClassFile.FieldType.boolean)]
set_option maxRecDepth 65536 in
theorem codes_eq : words1.filter isCode = codes1 := rfl
theorem w_codes : ∀ c ∈ words1.filter isCode, c.before args0 about1 = true := by
  rw [codes_eq]
  intro c hc
  simp only [codes1, List.mem_cons, List.not_mem_nil, or_false] at hc
  rcases hc with rfl | rfl
  · exact w_c0
  · exact w_c1
set_option maxRecDepth 65536 in
theorem w_t1 : words1.all (fun c => isCode c || c.before args0 about1) = true := by decide +kernel
theorem w_tables : (allAtoms (Jvm.Cond.code x code maxLocals ret :: tables_1)).before args0 about1 = true := by
  rw [allAtoms_all]
  show words1.all (fun c => c.before args0 about1) = true
  refine all_split ?_ w_codes
  rw [w_t1]
set_option maxRecDepth 65536 in
theorem w_case : (Jvm.Cond.and given_1 narrow_1).before args0 about1 = true := by decide +kernel
theorem w_applies : (headSpec (Jvm.Cond.code x code maxLocals ret :: tables_1) room_1).applies x e0.platform about1 = true :=
  (Spec.applies_iff w_frames).mpr ⟨w_running, w_runnable, w_alone, w_named, w_hears, w_ripe, w_room, w_tables⟩
theorem atStart : AtStart classFile x code maxLocals ret World_1 tables_1 room_1 Calls_1 rest_1 Pre_1 launch0 p0 e0 about1 theMethod args0 below0 :=
  ⟨lists_1, trivial, launch0.admits_env _ _ _, launch0.least_env, fairChoices_fair.cas, fairChoices_fair.clock, w_frames, w_args, w_heap, w_applies, trivial, trivial, w_case⟩
end start1
theorem witness_1 : WitnessClaimed_1 := ⟨start1.p0, start1.e0, start1.about1, start1.theMethod, start1.args0, start1.below0, start1.atStart⟩
end Jvm.Pilot.@@N@@
