import JvmDerived
import JvmDerived.Pilot.@@N@@Statement
import JvmDerived.Pilot.@@N@@Code
set_option linter.unusedVariables false
set_option linter.unusedSimpArgs false
@@BLOCK:NumsL.lean.txt@@
namespace Jvm.Pilot.@@N@@
open Jvm Jvm.ClassFile Sem Op Lib Jvm.Free Jvm.Stand Jvm.LawKit Jvm.RoadKit Bundle Jvm.Pilot.@@N@@.Jvm.D
section OwnKit
variable {p : Program} {l : Launch} {e : Env} {R : Room} {s : State} {m : MethodId} {args : Array Value} {below : List Frame} {meth : Method} {c : Code} {T : State} {locs : List Loc} {cells slots : Nat} {rc rs : Nat} {Q : Option Value → Heap → List Loc → Prop}
/-- from A the run comes to its end by a return, and Q tells of the value, the heap and the places written -/
def own_Goes (p : Program) (e : Env) (s : State) (below : List Frame) (rc rs : Nat) (Q : Option Value → Heap → List Loc → Prop) (A : State) : Prop :=
  ∃ s₂ o, Steps p.tables e below A s₂ ∧ s₂.status = .running ∧ Ended s₂ below o ∧ ∃ v L, o = .returned v ∧ Q v s₂.heap L ∧ FrameEnd s o s₂ L rc rs
theorem own_via {A B : State} (k : ∀ t, Steps p.tables e below B t → Steps p.tables e below A t) (h : own_Goes p e s below rc rs Q B) : own_Goes p e s below rc rs Q A := by
  obtain ⟨s₂, o, h1, h2⟩ := h
  exact ⟨s₂, o, k _ h1, h2⟩
theorem own_on {A B : State} (k : Steps p.tables e below A B) (h : own_Goes p e s below rc rs Q B) : own_Goes p e s below rc rs Q A := own_via (fun _ q => k.trans q) h
theorem own_leave (X : Stand p l e R s m args below meth c T locs cells slots) {v : Option Value} {A : State} (hv : meth.sig.returnType = none → v = none) (hlk : meth.locks = false) (hc : cells ≤ rc) (hs : slots ≤ rs) (hQ : Q v T.heap locs)
    (st : ∀ fs, (∀ (f : JFrame) (acts : List Action), f.method = m → f.locked = none → f.entered = [] → (doReturn e (T.setTop f) acts v).1 = T.setFrames fs) → Steps p.tables e below A (T.setFrames fs)) : own_Goes p e s below rc rs Q A := by
  obtain ⟨fs, hr, hrun, hended, hW, hsame⟩ := X.leave (v := v) hv hlk
  exact ⟨_, _, st fs hr, hrun, hended, _, _, rfl, hQ, ⟨_, rfl⟩, hW, hsame.mono hc hs⟩
theorem own_retN (X : Stand p l e R s m args below meth c T locs cells slots) (hx : p.tables.exec = Jvm.exec) {pc : Nat} {Ls : Array Slot} {z : Int32} {t : FieldType} {rest : List Value} (hret : meth.sig.returnType = some t) (ht : t = .boolean ∨ t = .byte ∨ t = .char ∨ t = .short) (hlk : meth.locks = false)
    (hd : decode c.code pc = .ok (.ireturn, 1)) (hc : cells ≤ rc) (hs : slots ≤ rs) (hQ : Q (some (.int (nar t z))) T.heap locs) : own_Goes p e s below rc rs Q (T.setTop (mkF m pc Ls (.int z :: rest))) :=
  own_leave X (fun h => by rw [hret] at h; cases h) hlk hc hs hQ fun fs hr => retN X hx hret ht hd hr
theorem own_retI (X : Stand p l e R s m args below meth c T locs cells slots) (hx : p.tables.exec = Jvm.exec) {pc : Nat} {Ls : Array Slot} {z : Int32} {rest : List Value} (hret : meth.sig.returnType = some .int) (hlk : meth.locks = false)
    (hd : decode c.code pc = .ok (.ireturn, 1)) (hc : cells ≤ rc) (hs : slots ≤ rs) (hQ : Q (some (.int z)) T.heap locs) : own_Goes p e s below rc rs Q (T.setTop (mkF m pc Ls (.int z :: rest))) :=
  own_leave X (fun h => by rw [hret] at h; cases h) hlk hc hs hQ fun fs hr => retOut X hx hret rfl (Or.inl ⟨rfl, Or.inl rfl, z, rfl⟩) hd hr
theorem own_retJ (X : Stand p l e R s m args below meth c T locs cells slots) (hx : p.tables.exec = Jvm.exec) {pc : Nat} {Ls : Array Slot} {z : Int64} {rest : List Value} (hret : meth.sig.returnType = some .long) (hlk : meth.locks = false)
    (hd : decode c.code pc = .ok (.lreturn, 1)) (hc : cells ≤ rc) (hs : slots ≤ rs) (hQ : Q (some (.long z)) T.heap locs) : own_Goes p e s below rc rs Q (T.setTop (mkF m pc Ls (.long z :: rest))) :=
  own_leave X (fun h => by rw [hret] at h; cases h) hlk hc hs hQ fun fs hr => retOut X hx hret rfl (Or.inr (Or.inl ⟨rfl, rfl, z, rfl⟩)) hd hr
theorem own_retA (X : Stand p l e R s m args below meth c T locs cells slots) (hx : p.tables.exec = Jvm.exec) {pc : Nat} {Ls : Array Slot} {w : Value} {t : FieldType} {rest : List Value} (hret : meth.sig.returnType = some t) (ht : t.isReference = true) (hw : w.isRef = true) (hlk : meth.locks = false)
    (hd : decode c.code pc = .ok (.areturn, 1)) (hc : cells ≤ rc) (hs : slots ≤ rs) (hQ : Q (some w) T.heap locs) : own_Goes p e s below rc rs Q (T.setTop (mkF m pc Ls (w :: rest))) :=
  own_leave X (fun h => by rw [hret] at h; cases h) hlk hc hs hQ fun fs hr => retOut X hx hret (by rcases ref_cases hw with rfl | ⟨z, rfl⟩ <;> cases t <;> first | rfl | exact absurd ht (by decide)) (Or.inr (Or.inr (Or.inr (Or.inr ⟨rfl, ht, hw⟩)))) hd hr
theorem own_ret0 (X : Stand p l e R s m args below meth c T locs cells slots) (hx : p.tables.exec = Jvm.exec) {pc : Nat} {Ls : Array Slot} (hret : meth.sig.returnType = none) (hlk : meth.locks = false)
    (hd : decode c.code pc = .ok (.return_, 1)) (hc : cells ≤ rc) (hs : slots ≤ rs) (hQ : Q none T.heap locs) : own_Goes p e s below rc rs Q (T.setTop (mkF m pc Ls [])) :=
  own_leave X (fun _ => rfl) hlk hc hs hQ fun fs hr => X.returnOut hx hret hd hr
/-- what a walk through one body knows of it -/
def own_Ctx (Z : State) (p : Program) (s : State) (m : MethodId) (meth : Method) (c : Code) (bytes : ByteArray) (maxl : Nat) (own : String) (ret : Option FieldType) (nm : String) : Prop :=
  p.tables.exec = Jvm.exec ∧ Z.Warmed39 s.vm ∧ c.code = bytes ∧ c.maxLocals = maxl ∧ s.vm.findClass own = some m.cls ∧ meth.sig.returnType = ret ∧ meth.locks = false ∧ meth.name = nm
/-- the contract of one body: from the arguments as' and the heap h0 it returns, and Q tells what it leaves -/
abbrev own_Met (l : Launch) (Z : State) (y : MethodName) (bytes : ByteArray) (maxl : Nat) (ret : Option FieldType) (ws : List Jvm.Cond) (rm : Room) (as' : Array Value) (h0 : Heap) (Q : Option Value → Heap → List Loc → Prop) : Prop :=
  MetFree l y (head1 (Jvm.Cond.code y bytes maxl ret :: ws) rm) (fun a U => a = as' ∧ Z.Warmed39 U.vm ∧ U.heap = h0) (fun _ _ _ _ _ => True) (fun _ U o U' => ∃ v L, o = .returned v ∧ Q v U'.heap L ∧ FrameEnd U o U' L rm.cells rm.slots)
theorem own_met {Z : State} {y : MethodName} {bytes : ByteArray} {maxl : Nat} {ret : Option FieldType} {ws : List Jvm.Cond} {rm : Room} {as' : Array Value} {h0 : Heap} (hp : plainFor y = true)
    (body : ∀ (p : Program) (e : Env) (s : State) (m : MethodId) (below : List Frame) (meth : Method) (c : Code) (s₁ : State), own_Ctx Z p s m meth c bytes maxl y.cls ret y.name → Stand p l e rm s m as' below meth c s₁ [] 0 0 → s₁.heap = h0 → own_Goes p e s below rm.cells rm.slots Q (s₁.setTop (entryFrame m as' maxl))) :
    own_Met l Z y bytes maxl ret ws rm as' h0 Q := by
  refine MetFree.of_bodySF hp hisR ?_
  intro p e s m args below meth c s₁ Bd hml0 hP hK
  obtain ⟨rfl, hZ, hh⟩ := hP
  have X0 : Stand p l e rm s m args below meth c s₁ [] 0 0 := Stand.of_body Bd
  exact body p e s m below meth c s₁ ⟨Bd.exec, hZ, Bd.bytes, hml0, findClass_of_methodNamed Bd.named, Bd.returns, Bd.notSynchronized, (name_of_methodNamed Bd.named Bd.method).1⟩ X0 (by rw [← hh, Bd.state]; rfl)
/-- a body that writes nothing and returns w -/
def own_Pure (w : Value) (h0 : Heap) (n0 : Nat) (v : Option Value) (h : Heap) (L : List Loc) : Prop := v = some w ∧ Fr n0 L ∧ h = h0
/-- the law returns 1 and wrote nothing old -/
def own_One (n0 : Nat) (v : Option Value) (h : Heap) (L : List Loc) : Prop := v = some (.int 1) ∧ Fr n0 L
theorem own_narT : nar .boolean (1 : Int32) = 1 := rfl
theorem own_narF : nar .boolean (0 : Int32) = 0 := rfl
theorem own_eqi {t : Term} {k : Int32} {a : Array Value} {s : State} (h : (Cond.eq t (.int k)).value a s none s [] = some true) : t.eval a s none [] s = some (.int k) := by
  simp only [Cond.value, Term.eval] at h
  cases ht : t.eval a s none [] s with
  | none => simp [ht] at h
  | some x => cases x <;> simp [ht] at h ⊢; exact h
end OwnKit
theorem own_buy (p t : Int64) : (if (1 : Int32) = 0 then (if p < p - (t &&& (9223372036854775807 : Int64)) then (-9223372036854775808 : Int64) else p - (t &&& (9223372036854775807 : Int64))) else (if p + (t &&& (9223372036854775807 : Int64)) < p then (9223372036854775807 : Int64) else p + (t &&& (9223372036854775807 : Int64)))) = (if (9223372036854775807 : Int64) - (t &&& (9223372036854775807 : Int64)) < p then (9223372036854775807 : Int64) else p + (t &&& (9223372036854775807 : Int64))) := by
  rw [if_neg (by decide)]
  have h := Jvm.Kit.i64_mask t (9223372036854775807 : Int64) (k := 63) (by decide) (by decide)
  generalize (t &&& (9223372036854775807 : Int64)) = u at h ⊢
  have hu : 0 ≤ u.toInt ∧ u.toInt < 2 ^ 63 := by omega
  have hp1 := Int64.le_toInt p
  have hp2 := Int64.toInt_lt p
  have e1 : ((9223372036854775807 : Int64)).toInt = 2 ^ 63 - 1 := by decide
  have e2 : ((9223372036854775807 : Int64) - u).toInt = 2 ^ 63 - 1 - u.toInt := by rw [Jvm.Kit.i64_sub (by omega) (by omega), e1]
  have e3 : (p + u).toInt = if p.toInt + u.toInt < 2 ^ 63 then p.toInt + u.toInt else p.toInt + u.toInt - 2 ^ 64 := by
    rw [Int64.toInt_add]
    split
    · exact Jvm.Kit.bmod64 (by omega) (by omega)
    · rw [← Jvm.Kit.bmod64 (n := p.toInt + u.toInt - 2 ^ 64) (by omega) (by omega)]
      exact (Int.sub_bmod_right _ _).symm
  have q : p + u < p ↔ (9223372036854775807 : Int64) - u < p := by
    rw [Int64.lt_iff_toInt_lt, Int64.lt_iff_toInt_lt, e2, e3]
    split <;> omega
  simp only [q]
theorem own_sell (p t : Int64) : (if (0 : Int32) = 0 then (if p < p - (t &&& (9223372036854775807 : Int64)) then (-9223372036854775808 : Int64) else p - (t &&& (9223372036854775807 : Int64))) else (if p + (t &&& (9223372036854775807 : Int64)) < p then (9223372036854775807 : Int64) else p + (t &&& (9223372036854775807 : Int64)))) = (if p < (-9223372036854775808 : Int64) + (t &&& (9223372036854775807 : Int64)) then (-9223372036854775808 : Int64) else p - (t &&& (9223372036854775807 : Int64))) := by
  rw [if_pos rfl]
  have h := Jvm.Kit.i64_mask t (9223372036854775807 : Int64) (k := 63) (by decide) (by decide)
  generalize (t &&& (9223372036854775807 : Int64)) = u at h ⊢
  have hu : 0 ≤ u.toInt ∧ u.toInt < 2 ^ 63 := by omega
  have hp1 := Int64.le_toInt p
  have hp2 := Int64.toInt_lt p
  have e1 : ((-9223372036854775808 : Int64)).toInt = - 2 ^ 63 := by decide
  have e2 : ((-9223372036854775808 : Int64) + u).toInt = - 2 ^ 63 + u.toInt := by rw [Jvm.Kit.i64_add (by omega) (by omega), e1]
  have e3 : (p - u).toInt = if - 2 ^ 63 ≤ p.toInt - u.toInt then p.toInt - u.toInt else p.toInt - u.toInt + 2 ^ 64 := by
    rw [Int64.toInt_sub]
    split
    · exact Jvm.Kit.bmod64 (by omega) (by omega)
    · rw [← Jvm.Kit.bmod64 (n := p.toInt - u.toInt + 2 ^ 64) (by omega) (by omega)]
      exact (Int.add_bmod_right _ _).symm
  have q : p < p - u ↔ p < (-9223372036854775808 : Int64) + u := by
    rw [Int64.lt_iff_toInt_lt, Int64.lt_iff_toInt_lt, e2, e3]
    split <;> omega
  simp only [q]
theorem pd__JJ_J : parseMethodDescriptor "(JJ)J" = some ⟨[.long, .long], some .long⟩ := by decide +kernel
theorem pd__ZJJ_J : parseMethodDescriptor "(ZJJ)J" = some ⟨[.boolean, .long, .long], some .long⟩ := by decide +kernel
theorem d1_0 : decode prog_49_method_10_code 0 = .ok (.aload_n 0, 1) := by decide +kernel
theorem d1_1 : decode prog_49_method_10_code 1 = .ok (.getstatic 3, 3) := by decide +kernel
theorem d1_4 : decode prog_49_method_10_code 4 = .ok (.if_acmp .ne 23, 3) := by decide +kernel
theorem d1_7 : decode prog_49_method_10_code 7 = .ok (.lload_n 1, 1) := by decide +kernel
theorem d1_8 : decode prog_49_method_10_code 8 = .ok (.ldc2_w 50, 3) := by decide +kernel
theorem d1_11 : decode prog_49_method_10_code 11 = .ok (.lload_n 3, 1) := by decide +kernel
theorem d1_12 : decode prog_49_method_10_code 12 = .ok (.lsub, 1) := by decide +kernel
theorem d1_13 : decode prog_49_method_10_code 13 = .ok (.lcmp, 1) := by decide +kernel
theorem d1_14 : decode prog_49_method_10_code 14 = .ok (.ifCond .le 9, 3) := by decide +kernel
theorem d1_17 : decode prog_49_method_10_code 17 = .ok (.ldc2_w 50, 3) := by decide +kernel
theorem d1_20 : decode prog_49_method_10_code 20 = .ok (.goto 6, 3) := by decide +kernel
theorem d1_23 : decode prog_49_method_10_code 23 = .ok (.lload_n 1, 1) := by decide +kernel
theorem d1_24 : decode prog_49_method_10_code 24 = .ok (.lload_n 3, 1) := by decide +kernel
theorem d1_25 : decode prog_49_method_10_code 25 = .ok (.ladd, 1) := by decide +kernel
theorem d1_26 : decode prog_49_method_10_code 26 = .ok (.lreturn, 1) := by decide +kernel
theorem d1_27 : decode prog_49_method_10_code 27 = .ok (.lload_n 1, 1) := by decide +kernel
theorem d1_28 : decode prog_49_method_10_code 28 = .ok (.ldc2_w 52, 3) := by decide +kernel
theorem d1_31 : decode prog_49_method_10_code 31 = .ok (.lload_n 3, 1) := by decide +kernel
theorem d1_32 : decode prog_49_method_10_code 32 = .ok (.ladd, 1) := by decide +kernel
theorem d1_33 : decode prog_49_method_10_code 33 = .ok (.lcmp, 1) := by decide +kernel
theorem d1_34 : decode prog_49_method_10_code 34 = .ok (.ifCond .ge 9, 3) := by decide +kernel
theorem d1_37 : decode prog_49_method_10_code 37 = .ok (.ldc2_w 52, 3) := by decide +kernel
theorem d1_40 : decode prog_49_method_10_code 40 = .ok (.goto 6, 3) := by decide +kernel
theorem d1_43 : decode prog_49_method_10_code 43 = .ok (.lload_n 1, 1) := by decide +kernel
theorem d1_44 : decode prog_49_method_10_code 44 = .ok (.lload_n 3, 1) := by decide +kernel
theorem d1_45 : decode prog_49_method_10_code 45 = .ok (.lsub, 1) := by decide +kernel
theorem d1_46 : decode prog_49_method_10_code 46 = .ok (.lreturn, 1) := by decide +kernel
theorem pn_1 : plainName "org/combinant/Side" = true := by first | (simp [plainName, overriddenIn]; done) | decide +kernel
theorem ef_1 (m : MethodId) (a1 : Addr) (q2 : Int64) (q4 : Int64) : entryFrame m #[(.ref a1), (.long q2), (.long q4)] 5 = mkF m 0 #[.val (.ref a1), .val (.long q2), .second, .val (.long q4), .second] [] := by first | (simp [entryFrame, mkF, argsToLocals, Value.category]; done) | rfl
set_option maxRecDepth 65536 in
set_option maxHeartbeats 40000000 in
theorem rm1 (l : Launch) (Z : State) (a0 : Array Value) (hw : ∀ d ∈ tables_1, d.before a0 Z = true) (ws : List Jvm.Cond) (a1 : Addr) (q2 : Int64) (q4 : Int64) (a_BUY : Addr) (r : Int64) (h0 : Heap) (n0 : Nat) (S_BUY : Sta Z h0 "org/combinant/Side" "BUY" "Lorg/combinant/Side;" (.ref a_BUY)) (hr : (if a1 = a_BUY then (if (9223372036854775807 : Int64) - q4 < q2 then (9223372036854775807 : Int64) else q2 + q4) else (if q2 < (-9223372036854775808 : Int64) + q4 then (-9223372036854775808 : Int64) else q2 - q4)) = r) :
    own_Met l Z (⟨"org/combinant/Side", "worseBy", "(JJ)J"⟩ : MethodName) prog_49_method_10_code 5 (some .long) ws ({ frames := 0, cells := 0, slots := 0, locals := 0 } : Room) #[(.ref a1), (.long q2), (.long q4)] h0 (own_Pure (.long r) h0 n0) := by
  refine own_met (plainFor_of_name pn_1) ?_
  intro p e s m below meth c s₁ C X0 e0
  obtain ⟨hx, hZ, hby, hml, hown, hret, hlk, hnm⟩ := C
  rw [ef_1]
  show own_Goes p e s below _ _ _ (s₁.setTop (mkF m 0 #[.val (.ref a1), .val (.long q2), .second, .val (.long q4), .second] []))
  refine own_via (fun _ q => XS.aloadN X0.here hx rfl (hb hby d1_0) rfl rfl q) ?_
  show own_Goes p e s below _ _ _ (s₁.setTop (mkF m 1 #[.val (.ref a1), .val (.long q2), .second, .val (.long q4), .second] [(.ref a1)]))
  obtain ⟨T1, X1, e1, st1⟩ := getS2 X0 hx hZ hown (host := "") (Or.inl (hw _ (List.mem_of_getElem? (i := 9) rfl))) Via.refl e0 S_BUY (g := (mkF m 1 #[.val (.ref a1), .val (.long q2), .second, .val (.long q4), .second] [(.ref a1)])) rfl (hb hby d1_1)
  refine own_via st1 ?_
  show own_Goes p e s below _ _ _ (T1.setTop (mkF m 4 #[.val (.ref a1), .val (.long q2), .second, .val (.long q4), .second] [(.ref a_BUY), (.ref a1)]))
  by_cases hk4_2 : a1 = a_BUY
  · refine own_via (fun _ q => XT.acmpNo X1.here hx rfl (hb hby d1_4) rfl rfl rfl (XT.aa_ne_f (congrArg Value.ref hk4_2)) q) ?_
    show own_Goes p e s below _ _ _ (T1.setTop (mkF m 7 #[.val (.ref a1), .val (.long q2), .second, .val (.long q4), .second] []))
    refine own_via (fun _ q => XT.lloadN X1.here hx rfl (hb hby d1_7) rfl q) ?_
    show own_Goes p e s below _ _ _ (T1.setTop (mkF m 8 #[.val (.ref a1), .val (.long q2), .second, .val (.long q4), .second] [(.long q2)]))
    refine own_via (X1.ldc2Long hx hown (mvT hZ (hw _ (List.mem_of_getElem? (i := 17) rfl))) (g := (mkF m 8 #[.val (.ref a1), .val (.long q2), .second, .val (.long q4), .second] [(.long q2)])) rfl (hb hby d1_8)) ?_
    show own_Goes p e s below _ _ _ (T1.setTop (mkF m 11 #[.val (.ref a1), .val (.long q2), .second, .val (.long q4), .second] [(.long (9223372036854775807 : Int64)), (.long q2)]))
    refine own_via (fun _ q => XT.lloadN X1.here hx rfl (hb hby d1_11) rfl q) ?_
    show own_Goes p e s below _ _ _ (T1.setTop (mkF m 12 #[.val (.ref a1), .val (.long q2), .second, .val (.long q4), .second] [(.long q4), (.long (9223372036854775807 : Int64)), (.long q2)]))
    refine own_via (fun _ q => XT.lsub X1.here hx rfl (hb hby d1_12) rfl q) ?_
    show own_Goes p e s below _ _ _ (T1.setTop (mkF m 13 #[.val (.ref a1), .val (.long q2), .second, .val (.long q4), .second] [(.long ((9223372036854775807 : Int64) - q4)), (.long q2)]))
    refine own_via (fun _ q => XT.lcmp X1.here hx rfl (hb hby d1_13) rfl q) ?_
    show own_Goes p e s below _ _ _ (T1.setTop (mkF m 14 #[.val (.ref a1), .val (.long q2), .second, .val (.long q4), .second] [(.int (XT.cmpL q2 ((9223372036854775807 : Int64) - q4)))]))
    by_cases hk14_3 : ((9223372036854775807 : Int64) - q4) < q2
    · refine own_via (fun _ q => XS.ifNo X1.here hx rfl (hb hby d1_14) rfl (XT.ll_le_f hk14_3) q) ?_
      show own_Goes p e s below _ _ _ (T1.setTop (mkF m 17 #[.val (.ref a1), .val (.long q2), .second, .val (.long q4), .second] []))
      refine own_via (X1.ldc2Long hx hown (mvT hZ (hw _ (List.mem_of_getElem? (i := 17) rfl))) (g := (mkF m 17 #[.val (.ref a1), .val (.long q2), .second, .val (.long q4), .second] [])) rfl (hb hby d1_17)) ?_
      show own_Goes p e s below _ _ _ (T1.setTop (mkF m 20 #[.val (.ref a1), .val (.long q2), .second, .val (.long q4), .second] [(.long (9223372036854775807 : Int64))]))
      refine own_via (fun _ q => XS.goto X1.here hx rfl (pc0 := 20) (pc' := 26) rfl (hb hby d1_20) (by decide) (by decide) q) ?_
      show own_Goes p e s below _ _ _ (T1.setTop (mkF m 26 #[.val (.ref a1), .val (.long q2), .second, .val (.long q4), .second] [(.long (9223372036854775807 : Int64))]))
      exact own_retJ X1 hx hret hlk (hb hby d1_26) (by decide) (by decide) ⟨by subst hr; simp [hk4_2, hk14_3], (Fr.nil n0), e1⟩
    · refine own_via (fun _ q => XS.ifYes X1.here hx rfl (pc0 := 14) (pc' := 23) rfl (hb hby d1_14) rfl (XT.ll_le_t hk14_3) (by decide) (by decide) q) ?_
      show own_Goes p e s below _ _ _ (T1.setTop (mkF m 23 #[.val (.ref a1), .val (.long q2), .second, .val (.long q4), .second] []))
      refine own_via (fun _ q => XT.lloadN X1.here hx rfl (hb hby d1_23) rfl q) ?_
      show own_Goes p e s below _ _ _ (T1.setTop (mkF m 24 #[.val (.ref a1), .val (.long q2), .second, .val (.long q4), .second] [(.long q2)]))
      refine own_via (fun _ q => XT.lloadN X1.here hx rfl (hb hby d1_24) rfl q) ?_
      show own_Goes p e s below _ _ _ (T1.setTop (mkF m 25 #[.val (.ref a1), .val (.long q2), .second, .val (.long q4), .second] [(.long q4), (.long q2)]))
      refine own_via (fun _ q => XT.ladd X1.here hx rfl (hb hby d1_25) rfl q) ?_
      show own_Goes p e s below _ _ _ (T1.setTop (mkF m 26 #[.val (.ref a1), .val (.long q2), .second, .val (.long q4), .second] [(.long (q2 + q4))]))
      exact own_retJ X1 hx hret hlk (hb hby d1_26) (by decide) (by decide) ⟨by subst hr; simp [hk4_2, hk14_3], (Fr.nil n0), e1⟩
  · refine own_via (fun _ q => XT.acmpYes X1.here hx rfl (pc0 := 4) (pc' := 27) rfl (hb hby d1_4) rfl rfl rfl (XT.aa_ne_t (fun q => hk4_2 (Value.ref.inj q))) (by decide) (by decide) q) ?_
    show own_Goes p e s below _ _ _ (T1.setTop (mkF m 27 #[.val (.ref a1), .val (.long q2), .second, .val (.long q4), .second] []))
    refine own_via (fun _ q => XT.lloadN X1.here hx rfl (hb hby d1_27) rfl q) ?_
    show own_Goes p e s below _ _ _ (T1.setTop (mkF m 28 #[.val (.ref a1), .val (.long q2), .second, .val (.long q4), .second] [(.long q2)]))
    refine own_via (X1.ldc2Long hx hown (mvT hZ (hw _ (List.mem_of_getElem? (i := 11) rfl))) (g := (mkF m 28 #[.val (.ref a1), .val (.long q2), .second, .val (.long q4), .second] [(.long q2)])) rfl (hb hby d1_28)) ?_
    show own_Goes p e s below _ _ _ (T1.setTop (mkF m 31 #[.val (.ref a1), .val (.long q2), .second, .val (.long q4), .second] [(.long (-9223372036854775808 : Int64)), (.long q2)]))
    refine own_via (fun _ q => XT.lloadN X1.here hx rfl (hb hby d1_31) rfl q) ?_
    show own_Goes p e s below _ _ _ (T1.setTop (mkF m 32 #[.val (.ref a1), .val (.long q2), .second, .val (.long q4), .second] [(.long q4), (.long (-9223372036854775808 : Int64)), (.long q2)]))
    refine own_via (fun _ q => XT.ladd X1.here hx rfl (hb hby d1_32) rfl q) ?_
    show own_Goes p e s below _ _ _ (T1.setTop (mkF m 33 #[.val (.ref a1), .val (.long q2), .second, .val (.long q4), .second] [(.long ((-9223372036854775808 : Int64) + q4)), (.long q2)]))
    refine own_via (fun _ q => XT.lcmp X1.here hx rfl (hb hby d1_33) rfl q) ?_
    show own_Goes p e s below _ _ _ (T1.setTop (mkF m 34 #[.val (.ref a1), .val (.long q2), .second, .val (.long q4), .second] [(.int (XT.cmpL q2 ((-9223372036854775808 : Int64) + q4)))]))
    by_cases hk34_4 : q2 < ((-9223372036854775808 : Int64) + q4)
    · refine own_via (fun _ q => XS.ifNo X1.here hx rfl (hb hby d1_34) rfl (XT.ll_ge_f hk34_4) q) ?_
      show own_Goes p e s below _ _ _ (T1.setTop (mkF m 37 #[.val (.ref a1), .val (.long q2), .second, .val (.long q4), .second] []))
      refine own_via (X1.ldc2Long hx hown (mvT hZ (hw _ (List.mem_of_getElem? (i := 11) rfl))) (g := (mkF m 37 #[.val (.ref a1), .val (.long q2), .second, .val (.long q4), .second] [])) rfl (hb hby d1_37)) ?_
      show own_Goes p e s below _ _ _ (T1.setTop (mkF m 40 #[.val (.ref a1), .val (.long q2), .second, .val (.long q4), .second] [(.long (-9223372036854775808 : Int64))]))
      refine own_via (fun _ q => XS.goto X1.here hx rfl (pc0 := 40) (pc' := 46) rfl (hb hby d1_40) (by decide) (by decide) q) ?_
      show own_Goes p e s below _ _ _ (T1.setTop (mkF m 46 #[.val (.ref a1), .val (.long q2), .second, .val (.long q4), .second] [(.long (-9223372036854775808 : Int64))]))
      exact own_retJ X1 hx hret hlk (hb hby d1_46) (by decide) (by decide) ⟨by subst hr; simp [hk4_2, hk34_4], (Fr.nil n0), e1⟩
    · refine own_via (fun _ q => XS.ifYes X1.here hx rfl (pc0 := 34) (pc' := 43) rfl (hb hby d1_34) rfl (XT.ll_ge_t hk34_4) (by decide) (by decide) q) ?_
      show own_Goes p e s below _ _ _ (T1.setTop (mkF m 43 #[.val (.ref a1), .val (.long q2), .second, .val (.long q4), .second] []))
      refine own_via (fun _ q => XT.lloadN X1.here hx rfl (hb hby d1_43) rfl q) ?_
      show own_Goes p e s below _ _ _ (T1.setTop (mkF m 44 #[.val (.ref a1), .val (.long q2), .second, .val (.long q4), .second] [(.long q2)]))
      refine own_via (fun _ q => XT.lloadN X1.here hx rfl (hb hby d1_44) rfl q) ?_
      show own_Goes p e s below _ _ _ (T1.setTop (mkF m 45 #[.val (.ref a1), .val (.long q2), .second, .val (.long q4), .second] [(.long q4), (.long q2)]))
      refine own_via (fun _ q => XT.lsub X1.here hx rfl (hb hby d1_45) rfl q) ?_
      show own_Goes p e s below _ _ _ (T1.setTop (mkF m 46 #[.val (.ref a1), .val (.long q2), .second, .val (.long q4), .second] [(.long (q2 - q4))]))
      exact own_retJ X1 hx hret hlk (hb hby d1_46) (by decide) (by decide) ⟨by subst hr; simp [hk4_2, hk34_4], (Fr.nil n0), e1⟩
theorem d2_0 : decode method_3_code 0 = .ok (.iload_n 0, 1) := by decide +kernel
theorem d2_1 : decode method_3_code 1 = .ok (.ifCond .eq 22, 3) := by decide +kernel
theorem d2_4 : decode method_3_code 4 = .ok (.lload_n 1, 1) := by decide +kernel
theorem d2_5 : decode method_3_code 5 = .ok (.lload_n 3, 1) := by decide +kernel
theorem d2_6 : decode method_3_code 6 = .ok (.ladd, 1) := by decide +kernel
theorem d2_7 : decode method_3_code 7 = .ok (.lstore 5, 2) := by decide +kernel
theorem d2_9 : decode method_3_code 9 = .ok (.lload 5, 2) := by decide +kernel
theorem d2_11 : decode method_3_code 11 = .ok (.lload_n 1, 1) := by decide +kernel
theorem d2_12 : decode method_3_code 12 = .ok (.lcmp, 1) := by decide +kernel
theorem d2_13 : decode method_3_code 13 = .ok (.ifCond .ge 7, 3) := by decide +kernel
theorem d2_16 : decode method_3_code 16 = .ok (.ldc2_w 9, 3) := by decide +kernel
theorem d2_19 : decode method_3_code 19 = .ok (.lreturn, 1) := by decide +kernel
theorem d2_20 : decode method_3_code 20 = .ok (.lload 5, 2) := by decide +kernel
theorem d2_22 : decode method_3_code 22 = .ok (.lreturn, 1) := by decide +kernel
theorem d2_23 : decode method_3_code 23 = .ok (.lload_n 1, 1) := by decide +kernel
theorem d2_24 : decode method_3_code 24 = .ok (.lload_n 3, 1) := by decide +kernel
theorem d2_25 : decode method_3_code 25 = .ok (.lsub, 1) := by decide +kernel
theorem d2_26 : decode method_3_code 26 = .ok (.lstore 5, 2) := by decide +kernel
theorem d2_28 : decode method_3_code 28 = .ok (.lload 5, 2) := by decide +kernel
theorem d2_30 : decode method_3_code 30 = .ok (.lload_n 1, 1) := by decide +kernel
theorem d2_31 : decode method_3_code 31 = .ok (.lcmp, 1) := by decide +kernel
theorem d2_32 : decode method_3_code 32 = .ok (.ifCond .le 7, 3) := by decide +kernel
theorem d2_35 : decode method_3_code 35 = .ok (.ldc2_w 30, 3) := by decide +kernel
theorem d2_38 : decode method_3_code 38 = .ok (.lreturn, 1) := by decide +kernel
theorem d2_39 : decode method_3_code 39 = .ok (.lload 5, 2) := by decide +kernel
theorem d2_41 : decode method_3_code 41 = .ok (.lreturn, 1) := by decide +kernel
theorem pn_2 : plainName "org/combinant/SideWorseByPinLaw" = true := by first | (simp [plainName, overriddenIn]; done) | decide +kernel
theorem ef_2 (m : MethodId) (p0 : Int32) (q1 : Int64) (q3 : Int64) : entryFrame m #[(.int p0), (.long q1), (.long q3)] 7 = mkF m 0 #[.val (.int p0), .val (.long q1), .second, .val (.long q3), .second, .unset, .unset] [] := by first | (simp [entryFrame, mkF, argsToLocals, Value.category]; done) | rfl
set_option maxRecDepth 65536 in
set_option maxHeartbeats 40000000 in
theorem rm2 (l : Launch) (Z : State) (a0 : Array Value) (hw : ∀ d ∈ tables_1, d.before a0 Z = true) (ws : List Jvm.Cond) (p0 : Int32) (q1 : Int64) (q3 : Int64) (r : Int64) (h0 : Heap) (n0 : Nat) (hr : (if p0 = 0 then (if q1 < q1 - q3 then (-9223372036854775808 : Int64) else q1 - q3) else (if q1 + q3 < q1 then (9223372036854775807 : Int64) else q1 + q3)) = r) :
    own_Met l Z (⟨"org/combinant/SideWorseByPinLaw", "expected", "(ZJJ)J"⟩ : MethodName) method_3_code 7 (some .long) ws ({ frames := 0, cells := 0, slots := 0, locals := 0 } : Room) #[(.int p0), (.long q1), (.long q3)] h0 (own_Pure (.long r) h0 n0) := by
  refine own_met (plainFor_of_name pn_2) ?_
  intro p e s m below meth c s₁ C X0 e0
  obtain ⟨hx, hZ, hby, hml, hown, hret, hlk, hnm⟩ := C
  rw [ef_2]
  show own_Goes p e s below _ _ _ (s₁.setTop (mkF m 0 #[.val (.int p0), .val (.long q1), .second, .val (.long q3), .second, .unset, .unset] []))
  refine own_via (fun _ q => XS.iloadN X0.here hx rfl (hb hby d2_0) rfl q) ?_
  show own_Goes p e s below _ _ _ (s₁.setTop (mkF m 1 #[.val (.int p0), .val (.long q1), .second, .val (.long q3), .second, .unset, .unset] [(.int p0)]))
  by_cases hk1_1 : p0 = (0 : Int32)
  · refine own_via (fun _ q => XS.ifYes X0.here hx rfl (pc0 := 1) (pc' := 23) rfl (hb hby d2_1) rfl (XT.i0_eq_t hk1_1) (by decide) (by decide) q) ?_
    show own_Goes p e s below _ _ _ (s₁.setTop (mkF m 23 #[.val (.int p0), .val (.long q1), .second, .val (.long q3), .second, .unset, .unset] []))
    refine own_via (fun _ q => XT.lloadN X0.here hx rfl (hb hby d2_23) rfl q) ?_
    show own_Goes p e s below _ _ _ (s₁.setTop (mkF m 24 #[.val (.int p0), .val (.long q1), .second, .val (.long q3), .second, .unset, .unset] [(.long q1)]))
    refine own_via (fun _ q => XT.lloadN X0.here hx rfl (hb hby d2_24) rfl q) ?_
    show own_Goes p e s below _ _ _ (s₁.setTop (mkF m 25 #[.val (.int p0), .val (.long q1), .second, .val (.long q3), .second, .unset, .unset] [(.long q3), (.long q1)]))
    refine own_via (fun _ q => XT.lsub X0.here hx rfl (hb hby d2_25) rfl q) ?_
    show own_Goes p e s below _ _ _ (s₁.setTop (mkF m 26 #[.val (.int p0), .val (.long q1), .second, .val (.long q3), .second, .unset, .unset] [(.long (q1 - q3))]))
    refine own_via (fun _ q => XT.lstore X0.here hx rfl (hb hby d2_26) rfl (l' := #[.val (.int p0), .val (.long q1), .second, .val (.long q3), .second, .val (.long (q1 - q3)), .second]) rfl q) ?_
    show own_Goes p e s below _ _ _ (s₁.setTop (mkF m 28 #[.val (.int p0), .val (.long q1), .second, .val (.long q3), .second, .val (.long (q1 - q3)), .second] []))
    refine own_via (fun _ q => XT.lload X0.here hx rfl (hb hby d2_28) rfl q) ?_
    show own_Goes p e s below _ _ _ (s₁.setTop (mkF m 30 #[.val (.int p0), .val (.long q1), .second, .val (.long q3), .second, .val (.long (q1 - q3)), .second] [(.long (q1 - q3))]))
    refine own_via (fun _ q => XT.lloadN X0.here hx rfl (hb hby d2_30) rfl q) ?_
    show own_Goes p e s below _ _ _ (s₁.setTop (mkF m 31 #[.val (.int p0), .val (.long q1), .second, .val (.long q3), .second, .val (.long (q1 - q3)), .second] [(.long q1), (.long (q1 - q3))]))
    refine own_via (fun _ q => XT.lcmp X0.here hx rfl (hb hby d2_31) rfl q) ?_
    show own_Goes p e s below _ _ _ (s₁.setTop (mkF m 32 #[.val (.int p0), .val (.long q1), .second, .val (.long q3), .second, .val (.long (q1 - q3)), .second] [(.int (XT.cmpL (q1 - q3) q1))]))
    by_cases hk32_2 : q1 < (q1 - q3)
    · refine own_via (fun _ q => XS.ifNo X0.here hx rfl (hb hby d2_32) rfl (XT.ll_le_f hk32_2) q) ?_
      show own_Goes p e s below _ _ _ (s₁.setTop (mkF m 35 #[.val (.int p0), .val (.long q1), .second, .val (.long q3), .second, .val (.long (q1 - q3)), .second] []))
      refine own_via (X0.ldc2Long hx hown (mvT hZ (hw _ (List.mem_of_getElem? (i := 18) rfl))) (g := (mkF m 35 #[.val (.int p0), .val (.long q1), .second, .val (.long q3), .second, .val (.long (q1 - q3)), .second] [])) rfl (hb hby d2_35)) ?_
      show own_Goes p e s below _ _ _ (s₁.setTop (mkF m 38 #[.val (.int p0), .val (.long q1), .second, .val (.long q3), .second, .val (.long (q1 - q3)), .second] [(.long (-9223372036854775808 : Int64))]))
      exact own_retJ X0 hx hret hlk (hb hby d2_38) (by decide) (by decide) ⟨by subst hr; simp [hk1_1, hk32_2], (Fr.nil n0), e0⟩
    · refine own_via (fun _ q => XS.ifYes X0.here hx rfl (pc0 := 32) (pc' := 39) rfl (hb hby d2_32) rfl (XT.ll_le_t hk32_2) (by decide) (by decide) q) ?_
      show own_Goes p e s below _ _ _ (s₁.setTop (mkF m 39 #[.val (.int p0), .val (.long q1), .second, .val (.long q3), .second, .val (.long (q1 - q3)), .second] []))
      refine own_via (fun _ q => XT.lload X0.here hx rfl (hb hby d2_39) rfl q) ?_
      show own_Goes p e s below _ _ _ (s₁.setTop (mkF m 41 #[.val (.int p0), .val (.long q1), .second, .val (.long q3), .second, .val (.long (q1 - q3)), .second] [(.long (q1 - q3))]))
      exact own_retJ X0 hx hret hlk (hb hby d2_41) (by decide) (by decide) ⟨by subst hr; simp [hk1_1, hk32_2], (Fr.nil n0), e0⟩
  · refine own_via (fun _ q => XS.ifNo X0.here hx rfl (hb hby d2_1) rfl (XT.i0_eq_f hk1_1) q) ?_
    show own_Goes p e s below _ _ _ (s₁.setTop (mkF m 4 #[.val (.int p0), .val (.long q1), .second, .val (.long q3), .second, .unset, .unset] []))
    refine own_via (fun _ q => XT.lloadN X0.here hx rfl (hb hby d2_4) rfl q) ?_
    show own_Goes p e s below _ _ _ (s₁.setTop (mkF m 5 #[.val (.int p0), .val (.long q1), .second, .val (.long q3), .second, .unset, .unset] [(.long q1)]))
    refine own_via (fun _ q => XT.lloadN X0.here hx rfl (hb hby d2_5) rfl q) ?_
    show own_Goes p e s below _ _ _ (s₁.setTop (mkF m 6 #[.val (.int p0), .val (.long q1), .second, .val (.long q3), .second, .unset, .unset] [(.long q3), (.long q1)]))
    refine own_via (fun _ q => XT.ladd X0.here hx rfl (hb hby d2_6) rfl q) ?_
    show own_Goes p e s below _ _ _ (s₁.setTop (mkF m 7 #[.val (.int p0), .val (.long q1), .second, .val (.long q3), .second, .unset, .unset] [(.long (q1 + q3))]))
    refine own_via (fun _ q => XT.lstore X0.here hx rfl (hb hby d2_7) rfl (l' := #[.val (.int p0), .val (.long q1), .second, .val (.long q3), .second, .val (.long (q1 + q3)), .second]) rfl q) ?_
    show own_Goes p e s below _ _ _ (s₁.setTop (mkF m 9 #[.val (.int p0), .val (.long q1), .second, .val (.long q3), .second, .val (.long (q1 + q3)), .second] []))
    refine own_via (fun _ q => XT.lload X0.here hx rfl (hb hby d2_9) rfl q) ?_
    show own_Goes p e s below _ _ _ (s₁.setTop (mkF m 11 #[.val (.int p0), .val (.long q1), .second, .val (.long q3), .second, .val (.long (q1 + q3)), .second] [(.long (q1 + q3))]))
    refine own_via (fun _ q => XT.lloadN X0.here hx rfl (hb hby d2_11) rfl q) ?_
    show own_Goes p e s below _ _ _ (s₁.setTop (mkF m 12 #[.val (.int p0), .val (.long q1), .second, .val (.long q3), .second, .val (.long (q1 + q3)), .second] [(.long q1), (.long (q1 + q3))]))
    refine own_via (fun _ q => XT.lcmp X0.here hx rfl (hb hby d2_12) rfl q) ?_
    show own_Goes p e s below _ _ _ (s₁.setTop (mkF m 13 #[.val (.int p0), .val (.long q1), .second, .val (.long q3), .second, .val (.long (q1 + q3)), .second] [(.int (XT.cmpL (q1 + q3) q1))]))
    by_cases hk13_3 : (q1 + q3) < q1
    · refine own_via (fun _ q => XS.ifNo X0.here hx rfl (hb hby d2_13) rfl (XT.ll_ge_f hk13_3) q) ?_
      show own_Goes p e s below _ _ _ (s₁.setTop (mkF m 16 #[.val (.int p0), .val (.long q1), .second, .val (.long q3), .second, .val (.long (q1 + q3)), .second] []))
      refine own_via (X0.ldc2Long hx hown (mvT hZ (hw _ (List.mem_of_getElem? (i := 0) rfl))) (g := (mkF m 16 #[.val (.int p0), .val (.long q1), .second, .val (.long q3), .second, .val (.long (q1 + q3)), .second] [])) rfl (hb hby d2_16)) ?_
      show own_Goes p e s below _ _ _ (s₁.setTop (mkF m 19 #[.val (.int p0), .val (.long q1), .second, .val (.long q3), .second, .val (.long (q1 + q3)), .second] [(.long (9223372036854775807 : Int64))]))
      exact own_retJ X0 hx hret hlk (hb hby d2_19) (by decide) (by decide) ⟨by subst hr; simp [hk1_1, hk13_3], (Fr.nil n0), e0⟩
    · refine own_via (fun _ q => XS.ifYes X0.here hx rfl (pc0 := 13) (pc' := 20) rfl (hb hby d2_13) rfl (XT.ll_ge_t hk13_3) (by decide) (by decide) q) ?_
      show own_Goes p e s below _ _ _ (s₁.setTop (mkF m 20 #[.val (.int p0), .val (.long q1), .second, .val (.long q3), .second, .val (.long (q1 + q3)), .second] []))
      refine own_via (fun _ q => XT.lload X0.here hx rfl (hb hby d2_20) rfl q) ?_
      show own_Goes p e s below _ _ _ (s₁.setTop (mkF m 22 #[.val (.int p0), .val (.long q1), .second, .val (.long q3), .second, .val (.long (q1 + q3)), .second] [(.long (q1 + q3))]))
      exact own_retJ X0 hx hret hlk (hb hby d2_22) (by decide) (by decide) ⟨by subst hr; simp [hk1_1, hk13_3], (Fr.nil n0), e0⟩
theorem pn_0 : plainName "org/combinant/SideWorseByPinLaw" = true := by first | (simp [plainName, overriddenIn]; done) | decide +kernel
theorem ef_0 (m : MethodId) (p1 : Int32) (q2 : Int64) (q3 : Int64) : entryFrame m #[(.int p1), (.long q2), (.long q3)] maxLocals = mkF m 0 #[.val (.int p1), .val (.long q2), .second, .val (.long q3), .second, .unset, .unset, .unset, .unset, .unset, .unset] [] := by first | (simp [entryFrame, mkF, argsToLocals, Value.category, maxLocals]; done) | rfl
set_option maxRecDepth 65536 in
set_option maxHeartbeats 40000000 in
theorem rm0 (l : Launch) (Z : State) (a0 : Array Value) (hw : ∀ d ∈ tables_1, d.before a0 Z = true) (ws : List Jvm.Cond) (p1 : Int32) (q2 : Int64) (q3 : Int64) (a_BUY : Addr) (a_SELL : Addr) (h0 : Heap) (n0 : Nat) (S_BUY : Sta Z h0 "org/combinant/Side" "BUY" "Lorg/combinant/Side;" (.ref a_BUY)) (S_SELL : Sta Z h0 "org/combinant/Side" "SELL" "Lorg/combinant/Side;" (.ref a_SELL)) (E_BUY : Exa Z h0 a_BUY "org/combinant/Side") (E_SELL : Exa Z h0 a_SELL "org/combinant/Side") (ne_SELL_BUY : ¬ a_SELL = a_BUY) :
    own_Met l Z x code maxLocals ret ws room_1 #[(.int p1), (.long q2), (.long q3)] h0 (own_One n0) := by
  refine own_met (plainFor_of_name pn_0) ?_
  intro p e s m below meth c s₁ C X0 e0
  obtain ⟨hx, hZ, hby, hml, hown, hret, hlk, hnm⟩ := C
  rw [ef_0]
  show own_Goes p e s below _ _ _ (s₁.setTop (mkF m 0 #[.val (.int p1), .val (.long q2), .second, .val (.long q3), .second, .unset, .unset, .unset, .unset, .unset, .unset] []))
  refine own_via (fun _ q => XT.lloadN X0.here hx rfl (hb hby at_0) rfl q) ?_
  show own_Goes p e s below _ _ _ (s₁.setTop (mkF m 1 #[.val (.int p1), .val (.long q2), .second, .val (.long q3), .second, .unset, .unset, .unset, .unset, .unset, .unset] [(.long q3)]))
  refine own_via (X0.ldc2Long hx hown (mvT hZ (hw _ (List.mem_of_getElem? (i := 0) rfl))) (g := (mkF m 1 #[.val (.int p1), .val (.long q2), .second, .val (.long q3), .second, .unset, .unset, .unset, .unset, .unset, .unset] [(.long q3)])) rfl (hb hby at_1)) ?_
  show own_Goes p e s below _ _ _ (s₁.setTop (mkF m 4 #[.val (.int p1), .val (.long q2), .second, .val (.long q3), .second, .unset, .unset, .unset, .unset, .unset, .unset] [(.long (9223372036854775807 : Int64)), (.long q3)]))
  refine own_via (fun _ q => XT.land X0.here hx rfl (hb hby at_4) rfl q) ?_
  show own_Goes p e s below _ _ _ (s₁.setTop (mkF m 5 #[.val (.int p1), .val (.long q2), .second, .val (.long q3), .second, .unset, .unset, .unset, .unset, .unset, .unset] [(.long (q3 &&& (9223372036854775807 : Int64)))]))
  refine own_via (fun _ q => XT.lstore X0.here hx rfl (hb hby at_5) rfl (l' := #[.val (.int p1), .val (.long q2), .second, .val (.long q3), .second, .val (.long (q3 &&& (9223372036854775807 : Int64))), .second, .unset, .unset, .unset, .unset]) rfl q) ?_
  show own_Goes p e s below _ _ _ (s₁.setTop (mkF m 7 #[.val (.int p1), .val (.long q2), .second, .val (.long q3), .second, .val (.long (q3 &&& (9223372036854775807 : Int64))), .second, .unset, .unset, .unset, .unset] []))
  refine own_via (fun _ q => XS.iloadN X0.here hx rfl (hb hby at_7) rfl q) ?_
  show own_Goes p e s below _ _ _ (s₁.setTop (mkF m 8 #[.val (.int p1), .val (.long q2), .second, .val (.long q3), .second, .val (.long (q3 &&& (9223372036854775807 : Int64))), .second, .unset, .unset, .unset, .unset] [(.int p1)]))
  refine own_via (fun _ q => XT.iconstV X0.here hx rfl (1 : Int32) (hb hby at_8) rfl q) ?_
  show own_Goes p e s below _ _ _ (s₁.setTop (mkF m 9 #[.val (.int p1), .val (.long q2), .second, .val (.long q3), .second, .val (.long (q3 &&& (9223372036854775807 : Int64))), .second, .unset, .unset, .unset, .unset] [(.int (1 : Int32)), (.int p1)]))
  refine own_via (fun _ q => XS.iand X0.here hx rfl (hb hby at_9) rfl q) ?_
  show own_Goes p e s below _ _ _ (s₁.setTop (mkF m 10 #[.val (.int p1), .val (.long q2), .second, .val (.long q3), .second, .val (.long (q3 &&& (9223372036854775807 : Int64))), .second, .unset, .unset, .unset, .unset] [(.int (p1 &&& (1 : Int32)))]))
  by_cases hk10_1 : (p1 &&& (1 : Int32)) = (0 : Int32)
  · refine own_via (fun _ q => XS.ifYes X0.here hx rfl (pc0 := 10) (pc' := 17) rfl (hb hby at_10) rfl (XT.i0_eq_t hk10_1) (by decide) (by decide) q) ?_
    show own_Goes p e s below _ _ _ (s₁.setTop (mkF m 17 #[.val (.int p1), .val (.long q2), .second, .val (.long q3), .second, .val (.long (q3 &&& (9223372036854775807 : Int64))), .second, .unset, .unset, .unset, .unset] []))
    refine own_via (fun _ q => XT.iconstV X0.here hx rfl (0 : Int32) (hb hby at_17) rfl q) ?_
    show own_Goes p e s below _ _ _ (s₁.setTop (mkF m 18 #[.val (.int p1), .val (.long q2), .second, .val (.long q3), .second, .val (.long (q3 &&& (9223372036854775807 : Int64))), .second, .unset, .unset, .unset, .unset] [(.int (0 : Int32))]))
    refine own_via (fun _ q => XS.istore X0.here hx rfl (hb hby at_18) rfl (l' := #[.val (.int p1), .val (.long q2), .second, .val (.long q3), .second, .val (.long (q3 &&& (9223372036854775807 : Int64))), .second, .val (.int (0 : Int32)), .unset, .unset, .unset]) rfl q) ?_
    show own_Goes p e s below _ _ _ (s₁.setTop (mkF m 20 #[.val (.int p1), .val (.long q2), .second, .val (.long q3), .second, .val (.long (q3 &&& (9223372036854775807 : Int64))), .second, .val (.int (0 : Int32)), .unset, .unset, .unset] []))
    refine own_via (fun _ q => XS.iload X0.here hx rfl (hb hby at_20) rfl q) ?_
    show own_Goes p e s below _ _ _ (s₁.setTop (mkF m 22 #[.val (.int p1), .val (.long q2), .second, .val (.long q3), .second, .val (.long (q3 &&& (9223372036854775807 : Int64))), .second, .val (.int (0 : Int32)), .unset, .unset, .unset] [(.int (0 : Int32))]))
    refine own_via (fun _ q => XS.ifYes X0.here hx rfl (pc0 := 22) (pc' := 31) rfl (hb hby at_22) rfl (XT.i0_eq_t (by decide)) (by decide) (by decide) q) ?_
    show own_Goes p e s below _ _ _ (s₁.setTop (mkF m 31 #[.val (.int p1), .val (.long q2), .second, .val (.long q3), .second, .val (.long (q3 &&& (9223372036854775807 : Int64))), .second, .val (.int (0 : Int32)), .unset, .unset, .unset] []))
    obtain ⟨T2, X2, e2, st2⟩ := getS2 X0 hx hZ hown (host := "") (Or.inl (hw _ (List.mem_of_getElem? (i := 1) rfl))) Via.refl e0 S_SELL (g := (mkF m 31 #[.val (.int p1), .val (.long q2), .second, .val (.long q3), .second, .val (.long (q3 &&& (9223372036854775807 : Int64))), .second, .val (.int (0 : Int32)), .unset, .unset, .unset] [])) rfl (hb hby at_31)
    refine own_via st2 ?_
    show own_Goes p e s below _ _ _ (T2.setTop (mkF m 34 #[.val (.int p1), .val (.long q2), .second, .val (.long q3), .second, .val (.long (q3 &&& (9223372036854775807 : Int64))), .second, .val (.int (0 : Int32)), .unset, .unset, .unset] [(.ref a_SELL)]))
    refine own_via (fun _ q => XS.astore X2.here hx rfl (hb hby at_34) rfl rfl (l' := #[.val (.int p1), .val (.long q2), .second, .val (.long q3), .second, .val (.long (q3 &&& (9223372036854775807 : Int64))), .second, .val (.int (0 : Int32)), .val (.ref a_SELL), .unset, .unset]) rfl q) ?_
    show own_Goes p e s below _ _ _ (T2.setTop (mkF m 36 #[.val (.int p1), .val (.long q2), .second, .val (.long q3), .second, .val (.long (q3 &&& (9223372036854775807 : Int64))), .second, .val (.int (0 : Int32)), .val (.ref a_SELL), .unset, .unset] []))
    refine own_via (fun _ q => XS.aload X2.here hx rfl (hb hby at_36) rfl rfl q) ?_
    show own_Goes p e s below _ _ _ (T2.setTop (mkF m 38 #[.val (.int p1), .val (.long q2), .second, .val (.long q3), .second, .val (.long (q3 &&& (9223372036854775807 : Int64))), .second, .val (.int (0 : Int32)), .val (.ref a_SELL), .unset, .unset] [(.ref a_SELL)]))
    refine own_via (fun _ q => XT.lloadN X2.here hx rfl (hb hby at_38) rfl q) ?_
    show own_Goes p e s below _ _ _ (T2.setTop (mkF m 39 #[.val (.int p1), .val (.long q2), .second, .val (.long q3), .second, .val (.long (q3 &&& (9223372036854775807 : Int64))), .second, .val (.int (0 : Int32)), .val (.ref a_SELL), .unset, .unset] [(.long q2), (.ref a_SELL)]))
    refine own_via (fun _ q => XT.lload X2.here hx rfl (hb hby at_39) rfl q) ?_
    show own_Goes p e s below _ _ _ (T2.setTop (mkF m 41 #[.val (.int p1), .val (.long q2), .second, .val (.long q3), .second, .val (.long (q3 &&& (9223372036854775807 : Int64))), .second, .val (.int (0 : Int32)), .val (.ref a_SELL), .unset, .unset] [(.long (q3 &&& (9223372036854775807 : Int64))), (.long q2), (.ref a_SELL)]))
    obtain ⟨cq3, kq3, q3a, q3b, q3c⟩ := isOf hZ e2 E_SELL
    obtain ⟨_, _, ⟨T3, L3, k3, n3⟩, -, X3, ⟨Lc3, hQ3, l3, y3, z3⟩, st3⟩ := X2.virtualBack hx (y := (⟨"org/combinant/Side", "worseBy", "(JJ)J"⟩ : MethodName)) (z := (⟨"org/combinant/Side", "worseBy", "(JJ)J"⟩ : MethodName)) hown (mvT hZ (hw _ (List.mem_of_getElem? (i := 4) rfl))) (mvT hZ (hw _ (List.mem_of_getElem? (i := 5) rfl))) (notFace_of_selects (args := #[]) (mvT hZ (hw _ (List.mem_of_getElem? (i := 7) rfl)))) (mvT hZ (hw _ (List.mem_of_getElem? (i := 7) rfl))) (mvT hZ (hw _ (List.mem_of_getElem? (i := 6) rfl))) (by decide) (backOf (W := 0) (rm1 l Z a0 hw [] a_SELL q2 (q3 &&& (9223372036854775807 : Int64)) a_BUY (if q2 < (-9223372036854775808 : Int64) + (q3 &&& (9223372036854775807 : Int64)) then (-9223372036854775808 : Int64) else q2 - (q3 &&& (9223372036854775807 : Int64))) h0 n0 S_BUY (if_neg ne_SELL_BUY)) hZ (hw _ (List.mem_of_getElem? (i := 8) rfl)) (hw _ (List.mem_of_getElem? (i := 2) rfl)) (by decide) (by decide)) q3a q3c (g := (mkF m 41 #[.val (.int p1), .val (.long q2), .second, .val (.long q3), .second, .val (.long (q3 &&& (9223372036854775807 : Int64))), .second, .val (.int (0 : Int32)), .val (.ref a_SELL), .unset, .unset] [(.long (q3 &&& (9223372036854775807 : Int64))), (.long q2), (.ref a_SELL)])) rfl (by rw [hml]; rfl) (Steps.refl _) (argsL := [(.long q2), (.long (q3 &&& (9223372036854775807 : Int64)))]) (rest := []) (lenOf pd__JJ_J rfl) rfl (by show 2 * 0 + _ ≤ _; exact Nat.le_of_eq rfl) (hb hby at_41) (fun _ _ => ⟨rfl, e2, (by decide : 0 + 0 ≤ _), (by decide : 0 + 0 ≤ _)⟩)
    dsimp only [Pt.U, Pt.locs, Pt.cells, Pt.slots] at X3 l3 y3 z3 st3 hQ3
    subst l3 y3 z3
    obtain ⟨rfl, N3q, e3⟩ := hQ3
    have N3 := Fr.app (Fr.nil n0) N3q
    refine own_on st3 ?_
    show own_Goes p e s below _ _ _ (T3.setTop (mkF m 44 #[.val (.int p1), .val (.long q2), .second, .val (.long q3), .second, .val (.long (q3 &&& (9223372036854775807 : Int64))), .second, .val (.int (0 : Int32)), .val (.ref a_SELL), .unset, .unset] [(.long (if q2 < (-9223372036854775808 : Int64) + (q3 &&& (9223372036854775807 : Int64)) then (-9223372036854775808 : Int64) else q2 - (q3 &&& (9223372036854775807 : Int64))))]))
    refine own_via (fun _ q => XT.lstore X3.here hx rfl (hb hby at_44) rfl (l' := #[.val (.int p1), .val (.long q2), .second, .val (.long q3), .second, .val (.long (q3 &&& (9223372036854775807 : Int64))), .second, .val (.int (0 : Int32)), .val (.ref a_SELL), .val (.long (if q2 < (-9223372036854775808 : Int64) + (q3 &&& (9223372036854775807 : Int64)) then (-9223372036854775808 : Int64) else q2 - (q3 &&& (9223372036854775807 : Int64)))), .second]) rfl q) ?_
    show own_Goes p e s below _ _ _ (T3.setTop (mkF m 46 #[.val (.int p1), .val (.long q2), .second, .val (.long q3), .second, .val (.long (q3 &&& (9223372036854775807 : Int64))), .second, .val (.int (0 : Int32)), .val (.ref a_SELL), .val (.long (if q2 < (-9223372036854775808 : Int64) + (q3 &&& (9223372036854775807 : Int64)) then (-9223372036854775808 : Int64) else q2 - (q3 &&& (9223372036854775807 : Int64)))), .second] []))
    refine own_via (fun _ q => XT.lload X3.here hx rfl (hb hby at_46) rfl q) ?_
    show own_Goes p e s below _ _ _ (T3.setTop (mkF m 48 #[.val (.int p1), .val (.long q2), .second, .val (.long q3), .second, .val (.long (q3 &&& (9223372036854775807 : Int64))), .second, .val (.int (0 : Int32)), .val (.ref a_SELL), .val (.long (if q2 < (-9223372036854775808 : Int64) + (q3 &&& (9223372036854775807 : Int64)) then (-9223372036854775808 : Int64) else q2 - (q3 &&& (9223372036854775807 : Int64)))), .second] [(.long (if q2 < (-9223372036854775808 : Int64) + (q3 &&& (9223372036854775807 : Int64)) then (-9223372036854775808 : Int64) else q2 - (q3 &&& (9223372036854775807 : Int64))))]))
    refine own_via (fun _ q => XS.iload X3.here hx rfl (hb hby at_48) rfl q) ?_
    show own_Goes p e s below _ _ _ (T3.setTop (mkF m 50 #[.val (.int p1), .val (.long q2), .second, .val (.long q3), .second, .val (.long (q3 &&& (9223372036854775807 : Int64))), .second, .val (.int (0 : Int32)), .val (.ref a_SELL), .val (.long (if q2 < (-9223372036854775808 : Int64) + (q3 &&& (9223372036854775807 : Int64)) then (-9223372036854775808 : Int64) else q2 - (q3 &&& (9223372036854775807 : Int64)))), .second] [(.int (0 : Int32)), (.long (if q2 < (-9223372036854775808 : Int64) + (q3 &&& (9223372036854775807 : Int64)) then (-9223372036854775808 : Int64) else q2 - (q3 &&& (9223372036854775807 : Int64))))]))
    refine own_via (fun _ q => XT.lloadN X3.here hx rfl (hb hby at_50) rfl q) ?_
    show own_Goes p e s below _ _ _ (T3.setTop (mkF m 51 #[.val (.int p1), .val (.long q2), .second, .val (.long q3), .second, .val (.long (q3 &&& (9223372036854775807 : Int64))), .second, .val (.int (0 : Int32)), .val (.ref a_SELL), .val (.long (if q2 < (-9223372036854775808 : Int64) + (q3 &&& (9223372036854775807 : Int64)) then (-9223372036854775808 : Int64) else q2 - (q3 &&& (9223372036854775807 : Int64)))), .second] [(.long q2), (.int (0 : Int32)), (.long (if q2 < (-9223372036854775808 : Int64) + (q3 &&& (9223372036854775807 : Int64)) then (-9223372036854775808 : Int64) else q2 - (q3 &&& (9223372036854775807 : Int64))))]))
    refine own_via (fun _ q => XT.lload X3.here hx rfl (hb hby at_51) rfl q) ?_
    show own_Goes p e s below _ _ _ (T3.setTop (mkF m 53 #[.val (.int p1), .val (.long q2), .second, .val (.long q3), .second, .val (.long (q3 &&& (9223372036854775807 : Int64))), .second, .val (.int (0 : Int32)), .val (.ref a_SELL), .val (.long (if q2 < (-9223372036854775808 : Int64) + (q3 &&& (9223372036854775807 : Int64)) then (-9223372036854775808 : Int64) else q2 - (q3 &&& (9223372036854775807 : Int64)))), .second] [(.long (q3 &&& (9223372036854775807 : Int64))), (.long q2), (.int (0 : Int32)), (.long (if q2 < (-9223372036854775808 : Int64) + (q3 &&& (9223372036854775807 : Int64)) then (-9223372036854775808 : Int64) else q2 - (q3 &&& (9223372036854775807 : Int64))))]))
    obtain ⟨_, _, ⟨T4, L4, k4, n4⟩, -, X4, ⟨Lc4, hQ4, l4, y4, z4⟩, st4⟩ := Jvm.LawKit.callS X3 hx (y := (⟨"org/combinant/SideWorseByPinLaw", "expected", "(ZJJ)J"⟩ : MethodName)) hown (mvT hZ (hw _ (List.mem_of_getElem? (i := 12) rfl))) (mvT hZ (hw _ (List.mem_of_getElem? (i := 13) rfl))) (mvT hZ (hw _ (List.mem_of_getElem? (i := 14) rfl))) (mvT hZ (hw _ (List.mem_of_getElem? (i := 15) rfl))) (by decide) (backOf (W := 2) (rm2 l Z a0 hw [] (0 : Int32) q2 (q3 &&& (9223372036854775807 : Int64)) (if q2 < (-9223372036854775808 : Int64) + (q3 &&& (9223372036854775807 : Int64)) then (-9223372036854775808 : Int64) else q2 - (q3 &&& (9223372036854775807 : Int64))) h0 n0 (own_sell q2 q3)) hZ (hw _ (List.mem_of_getElem? (i := 15) rfl)) (hw _ (List.mem_of_getElem? (i := 14) rfl)) (by decide) (by decide)) (g := (mkF m 53 #[.val (.int p1), .val (.long q2), .second, .val (.long q3), .second, .val (.long (q3 &&& (9223372036854775807 : Int64))), .second, .val (.int (0 : Int32)), .val (.ref a_SELL), .val (.long (if q2 < (-9223372036854775808 : Int64) + (q3 &&& (9223372036854775807 : Int64)) then (-9223372036854775808 : Int64) else q2 - (q3 &&& (9223372036854775807 : Int64)))), .second] [(.long (q3 &&& (9223372036854775807 : Int64))), (.long q2), (.int (0 : Int32)), (.long (if q2 < (-9223372036854775808 : Int64) + (q3 &&& (9223372036854775807 : Int64)) then (-9223372036854775808 : Int64) else q2 - (q3 &&& (9223372036854775807 : Int64))))])) rfl (by rw [hml]; rfl) (argsL := [(.int (0 : Int32)), (.long q2), (.long (q3 &&& (9223372036854775807 : Int64)))]) (rest := [(.long (if q2 < (-9223372036854775808 : Int64) + (q3 &&& (9223372036854775807 : Int64)) then (-9223372036854775808 : Int64) else q2 - (q3 &&& (9223372036854775807 : Int64))))]) (lenOf pd__ZJJ_J rfl) rfl (by show 2 * 0 + _ ≤ _; exact Nat.le_of_eq rfl) (hb hby at_53) (fun _ _ => ⟨rfl, e3, (by decide : 0 + 0 ≤ _), (by decide : 0 + 0 ≤ _)⟩)
    dsimp only [Pt.U, Pt.locs, Pt.cells, Pt.slots] at X4 l4 y4 z4 st4 hQ4
    subst l4 y4 z4
    obtain ⟨rfl, N4q, e4⟩ := hQ4
    have N4 := Fr.app N3 N4q
    refine own_via st4 ?_
    show own_Goes p e s below _ _ _ (T4.setTop (mkF m 56 #[.val (.int p1), .val (.long q2), .second, .val (.long q3), .second, .val (.long (q3 &&& (9223372036854775807 : Int64))), .second, .val (.int (0 : Int32)), .val (.ref a_SELL), .val (.long (if q2 < (-9223372036854775808 : Int64) + (q3 &&& (9223372036854775807 : Int64)) then (-9223372036854775808 : Int64) else q2 - (q3 &&& (9223372036854775807 : Int64)))), .second] [(.long (if q2 < (-9223372036854775808 : Int64) + (q3 &&& (9223372036854775807 : Int64)) then (-9223372036854775808 : Int64) else q2 - (q3 &&& (9223372036854775807 : Int64)))), (.long (if q2 < (-9223372036854775808 : Int64) + (q3 &&& (9223372036854775807 : Int64)) then (-9223372036854775808 : Int64) else q2 - (q3 &&& (9223372036854775807 : Int64))))]))
    refine own_via (fun _ q => XT.lcmp X4.here hx rfl (hb hby at_56) rfl q) ?_
    show own_Goes p e s below _ _ _ (T4.setTop (mkF m 57 #[.val (.int p1), .val (.long q2), .second, .val (.long q3), .second, .val (.long (q3 &&& (9223372036854775807 : Int64))), .second, .val (.int (0 : Int32)), .val (.ref a_SELL), .val (.long (if q2 < (-9223372036854775808 : Int64) + (q3 &&& (9223372036854775807 : Int64)) then (-9223372036854775808 : Int64) else q2 - (q3 &&& (9223372036854775807 : Int64)))), .second] [(.int (XT.cmpL (if q2 < (-9223372036854775808 : Int64) + (q3 &&& (9223372036854775807 : Int64)) then (-9223372036854775808 : Int64) else q2 - (q3 &&& (9223372036854775807 : Int64))) (if q2 < (-9223372036854775808 : Int64) + (q3 &&& (9223372036854775807 : Int64)) then (-9223372036854775808 : Int64) else q2 - (q3 &&& (9223372036854775807 : Int64)))))]))
    refine own_via (fun _ q => XS.ifNo X4.here hx rfl (hb hby at_57) rfl (XT.ll_ne_f rfl) q) ?_
    show own_Goes p e s below _ _ _ (T4.setTop (mkF m 60 #[.val (.int p1), .val (.long q2), .second, .val (.long q3), .second, .val (.long (q3 &&& (9223372036854775807 : Int64))), .second, .val (.int (0 : Int32)), .val (.ref a_SELL), .val (.long (if q2 < (-9223372036854775808 : Int64) + (q3 &&& (9223372036854775807 : Int64)) then (-9223372036854775808 : Int64) else q2 - (q3 &&& (9223372036854775807 : Int64)))), .second] []))
    refine own_via (fun _ q => XT.iconstV X4.here hx rfl (1 : Int32) (hb hby at_60) rfl q) ?_
    show own_Goes p e s below _ _ _ (T4.setTop (mkF m 61 #[.val (.int p1), .val (.long q2), .second, .val (.long q3), .second, .val (.long (q3 &&& (9223372036854775807 : Int64))), .second, .val (.int (0 : Int32)), .val (.ref a_SELL), .val (.long (if q2 < (-9223372036854775808 : Int64) + (q3 &&& (9223372036854775807 : Int64)) then (-9223372036854775808 : Int64) else q2 - (q3 &&& (9223372036854775807 : Int64)))), .second] [(.int (1 : Int32))]))
    refine own_via (fun _ q => XS.goto X4.here hx rfl (pc0 := 61) (pc' := 65) rfl (hb hby at_61) (by decide) (by decide) q) ?_
    show own_Goes p e s below _ _ _ (T4.setTop (mkF m 65 #[.val (.int p1), .val (.long q2), .second, .val (.long q3), .second, .val (.long (q3 &&& (9223372036854775807 : Int64))), .second, .val (.int (0 : Int32)), .val (.ref a_SELL), .val (.long (if q2 < (-9223372036854775808 : Int64) + (q3 &&& (9223372036854775807 : Int64)) then (-9223372036854775808 : Int64) else q2 - (q3 &&& (9223372036854775807 : Int64)))), .second] [(.int (1 : Int32))]))
    exact own_retN X4 hx (t := .boolean) hret (by simp) hlk (hb hby at_65) (by decide) (by decide) ⟨rfl, N4⟩
  · refine own_via (fun _ q => XS.ifNo X0.here hx rfl (hb hby at_10) rfl (XT.i0_eq_f hk10_1) q) ?_
    show own_Goes p e s below _ _ _ (s₁.setTop (mkF m 13 #[.val (.int p1), .val (.long q2), .second, .val (.long q3), .second, .val (.long (q3 &&& (9223372036854775807 : Int64))), .second, .unset, .unset, .unset, .unset] []))
    refine own_via (fun _ q => XT.iconstV X0.here hx rfl (1 : Int32) (hb hby at_13) rfl q) ?_
    show own_Goes p e s below _ _ _ (s₁.setTop (mkF m 14 #[.val (.int p1), .val (.long q2), .second, .val (.long q3), .second, .val (.long (q3 &&& (9223372036854775807 : Int64))), .second, .unset, .unset, .unset, .unset] [(.int (1 : Int32))]))
    refine own_via (fun _ q => XS.goto X0.here hx rfl (pc0 := 14) (pc' := 18) rfl (hb hby at_14) (by decide) (by decide) q) ?_
    show own_Goes p e s below _ _ _ (s₁.setTop (mkF m 18 #[.val (.int p1), .val (.long q2), .second, .val (.long q3), .second, .val (.long (q3 &&& (9223372036854775807 : Int64))), .second, .unset, .unset, .unset, .unset] [(.int (1 : Int32))]))
    refine own_via (fun _ q => XS.istore X0.here hx rfl (hb hby at_18) rfl (l' := #[.val (.int p1), .val (.long q2), .second, .val (.long q3), .second, .val (.long (q3 &&& (9223372036854775807 : Int64))), .second, .val (.int (1 : Int32)), .unset, .unset, .unset]) rfl q) ?_
    show own_Goes p e s below _ _ _ (s₁.setTop (mkF m 20 #[.val (.int p1), .val (.long q2), .second, .val (.long q3), .second, .val (.long (q3 &&& (9223372036854775807 : Int64))), .second, .val (.int (1 : Int32)), .unset, .unset, .unset] []))
    refine own_via (fun _ q => XS.iload X0.here hx rfl (hb hby at_20) rfl q) ?_
    show own_Goes p e s below _ _ _ (s₁.setTop (mkF m 22 #[.val (.int p1), .val (.long q2), .second, .val (.long q3), .second, .val (.long (q3 &&& (9223372036854775807 : Int64))), .second, .val (.int (1 : Int32)), .unset, .unset, .unset] [(.int (1 : Int32))]))
    refine own_via (fun _ q => XS.ifNo X0.here hx rfl (hb hby at_22) rfl (XT.i0_eq_f (by decide)) q) ?_
    show own_Goes p e s below _ _ _ (s₁.setTop (mkF m 25 #[.val (.int p1), .val (.long q2), .second, .val (.long q3), .second, .val (.long (q3 &&& (9223372036854775807 : Int64))), .second, .val (.int (1 : Int32)), .unset, .unset, .unset] []))
    obtain ⟨T5, X5, e5, st5⟩ := getS2 X0 hx hZ hown (host := "") (Or.inl (hw _ (List.mem_of_getElem? (i := 16) rfl))) Via.refl e0 S_BUY (g := (mkF m 25 #[.val (.int p1), .val (.long q2), .second, .val (.long q3), .second, .val (.long (q3 &&& (9223372036854775807 : Int64))), .second, .val (.int (1 : Int32)), .unset, .unset, .unset] [])) rfl (hb hby at_25)
    refine own_via st5 ?_
    show own_Goes p e s below _ _ _ (T5.setTop (mkF m 28 #[.val (.int p1), .val (.long q2), .second, .val (.long q3), .second, .val (.long (q3 &&& (9223372036854775807 : Int64))), .second, .val (.int (1 : Int32)), .unset, .unset, .unset] [(.ref a_BUY)]))
    refine own_via (fun _ q => XS.goto X5.here hx rfl (pc0 := 28) (pc' := 34) rfl (hb hby at_28) (by decide) (by decide) q) ?_
    show own_Goes p e s below _ _ _ (T5.setTop (mkF m 34 #[.val (.int p1), .val (.long q2), .second, .val (.long q3), .second, .val (.long (q3 &&& (9223372036854775807 : Int64))), .second, .val (.int (1 : Int32)), .unset, .unset, .unset] [(.ref a_BUY)]))
    refine own_via (fun _ q => XS.astore X5.here hx rfl (hb hby at_34) rfl rfl (l' := #[.val (.int p1), .val (.long q2), .second, .val (.long q3), .second, .val (.long (q3 &&& (9223372036854775807 : Int64))), .second, .val (.int (1 : Int32)), .val (.ref a_BUY), .unset, .unset]) rfl q) ?_
    show own_Goes p e s below _ _ _ (T5.setTop (mkF m 36 #[.val (.int p1), .val (.long q2), .second, .val (.long q3), .second, .val (.long (q3 &&& (9223372036854775807 : Int64))), .second, .val (.int (1 : Int32)), .val (.ref a_BUY), .unset, .unset] []))
    refine own_via (fun _ q => XS.aload X5.here hx rfl (hb hby at_36) rfl rfl q) ?_
    show own_Goes p e s below _ _ _ (T5.setTop (mkF m 38 #[.val (.int p1), .val (.long q2), .second, .val (.long q3), .second, .val (.long (q3 &&& (9223372036854775807 : Int64))), .second, .val (.int (1 : Int32)), .val (.ref a_BUY), .unset, .unset] [(.ref a_BUY)]))
    refine own_via (fun _ q => XT.lloadN X5.here hx rfl (hb hby at_38) rfl q) ?_
    show own_Goes p e s below _ _ _ (T5.setTop (mkF m 39 #[.val (.int p1), .val (.long q2), .second, .val (.long q3), .second, .val (.long (q3 &&& (9223372036854775807 : Int64))), .second, .val (.int (1 : Int32)), .val (.ref a_BUY), .unset, .unset] [(.long q2), (.ref a_BUY)]))
    refine own_via (fun _ q => XT.lload X5.here hx rfl (hb hby at_39) rfl q) ?_
    show own_Goes p e s below _ _ _ (T5.setTop (mkF m 41 #[.val (.int p1), .val (.long q2), .second, .val (.long q3), .second, .val (.long (q3 &&& (9223372036854775807 : Int64))), .second, .val (.int (1 : Int32)), .val (.ref a_BUY), .unset, .unset] [(.long (q3 &&& (9223372036854775807 : Int64))), (.long q2), (.ref a_BUY)]))
    obtain ⟨cq6, kq6, q6a, q6b, q6c⟩ := isOf hZ e5 E_BUY
    obtain ⟨_, _, ⟨T6, L6, k6, n6⟩, -, X6, ⟨Lc6, hQ6, l6, y6, z6⟩, st6⟩ := X5.virtualBack hx (y := (⟨"org/combinant/Side", "worseBy", "(JJ)J"⟩ : MethodName)) (z := (⟨"org/combinant/Side", "worseBy", "(JJ)J"⟩ : MethodName)) hown (mvT hZ (hw _ (List.mem_of_getElem? (i := 4) rfl))) (mvT hZ (hw _ (List.mem_of_getElem? (i := 5) rfl))) (notFace_of_selects (args := #[]) (mvT hZ (hw _ (List.mem_of_getElem? (i := 7) rfl)))) (mvT hZ (hw _ (List.mem_of_getElem? (i := 7) rfl))) (mvT hZ (hw _ (List.mem_of_getElem? (i := 6) rfl))) (by decide) (backOf (W := 0) (rm1 l Z a0 hw [] a_BUY q2 (q3 &&& (9223372036854775807 : Int64)) a_BUY (if (9223372036854775807 : Int64) - (q3 &&& (9223372036854775807 : Int64)) < q2 then (9223372036854775807 : Int64) else q2 + (q3 &&& (9223372036854775807 : Int64))) h0 n0 S_BUY (if_pos rfl)) hZ (hw _ (List.mem_of_getElem? (i := 8) rfl)) (hw _ (List.mem_of_getElem? (i := 2) rfl)) (by decide) (by decide)) q6a q6c (g := (mkF m 41 #[.val (.int p1), .val (.long q2), .second, .val (.long q3), .second, .val (.long (q3 &&& (9223372036854775807 : Int64))), .second, .val (.int (1 : Int32)), .val (.ref a_BUY), .unset, .unset] [(.long (q3 &&& (9223372036854775807 : Int64))), (.long q2), (.ref a_BUY)])) rfl (by rw [hml]; rfl) (Steps.refl _) (argsL := [(.long q2), (.long (q3 &&& (9223372036854775807 : Int64)))]) (rest := []) (lenOf pd__JJ_J rfl) rfl (by show 2 * 0 + _ ≤ _; exact Nat.le_of_eq rfl) (hb hby at_41) (fun _ _ => ⟨rfl, e5, (by decide : 0 + 0 ≤ _), (by decide : 0 + 0 ≤ _)⟩)
    dsimp only [Pt.U, Pt.locs, Pt.cells, Pt.slots] at X6 l6 y6 z6 st6 hQ6
    subst l6 y6 z6
    obtain ⟨rfl, N6q, e6⟩ := hQ6
    have N6 := Fr.app (Fr.nil n0) N6q
    refine own_on st6 ?_
    show own_Goes p e s below _ _ _ (T6.setTop (mkF m 44 #[.val (.int p1), .val (.long q2), .second, .val (.long q3), .second, .val (.long (q3 &&& (9223372036854775807 : Int64))), .second, .val (.int (1 : Int32)), .val (.ref a_BUY), .unset, .unset] [(.long (if (9223372036854775807 : Int64) - (q3 &&& (9223372036854775807 : Int64)) < q2 then (9223372036854775807 : Int64) else q2 + (q3 &&& (9223372036854775807 : Int64))))]))
    refine own_via (fun _ q => XT.lstore X6.here hx rfl (hb hby at_44) rfl (l' := #[.val (.int p1), .val (.long q2), .second, .val (.long q3), .second, .val (.long (q3 &&& (9223372036854775807 : Int64))), .second, .val (.int (1 : Int32)), .val (.ref a_BUY), .val (.long (if (9223372036854775807 : Int64) - (q3 &&& (9223372036854775807 : Int64)) < q2 then (9223372036854775807 : Int64) else q2 + (q3 &&& (9223372036854775807 : Int64)))), .second]) rfl q) ?_
    show own_Goes p e s below _ _ _ (T6.setTop (mkF m 46 #[.val (.int p1), .val (.long q2), .second, .val (.long q3), .second, .val (.long (q3 &&& (9223372036854775807 : Int64))), .second, .val (.int (1 : Int32)), .val (.ref a_BUY), .val (.long (if (9223372036854775807 : Int64) - (q3 &&& (9223372036854775807 : Int64)) < q2 then (9223372036854775807 : Int64) else q2 + (q3 &&& (9223372036854775807 : Int64)))), .second] []))
    refine own_via (fun _ q => XT.lload X6.here hx rfl (hb hby at_46) rfl q) ?_
    show own_Goes p e s below _ _ _ (T6.setTop (mkF m 48 #[.val (.int p1), .val (.long q2), .second, .val (.long q3), .second, .val (.long (q3 &&& (9223372036854775807 : Int64))), .second, .val (.int (1 : Int32)), .val (.ref a_BUY), .val (.long (if (9223372036854775807 : Int64) - (q3 &&& (9223372036854775807 : Int64)) < q2 then (9223372036854775807 : Int64) else q2 + (q3 &&& (9223372036854775807 : Int64)))), .second] [(.long (if (9223372036854775807 : Int64) - (q3 &&& (9223372036854775807 : Int64)) < q2 then (9223372036854775807 : Int64) else q2 + (q3 &&& (9223372036854775807 : Int64))))]))
    refine own_via (fun _ q => XS.iload X6.here hx rfl (hb hby at_48) rfl q) ?_
    show own_Goes p e s below _ _ _ (T6.setTop (mkF m 50 #[.val (.int p1), .val (.long q2), .second, .val (.long q3), .second, .val (.long (q3 &&& (9223372036854775807 : Int64))), .second, .val (.int (1 : Int32)), .val (.ref a_BUY), .val (.long (if (9223372036854775807 : Int64) - (q3 &&& (9223372036854775807 : Int64)) < q2 then (9223372036854775807 : Int64) else q2 + (q3 &&& (9223372036854775807 : Int64)))), .second] [(.int (1 : Int32)), (.long (if (9223372036854775807 : Int64) - (q3 &&& (9223372036854775807 : Int64)) < q2 then (9223372036854775807 : Int64) else q2 + (q3 &&& (9223372036854775807 : Int64))))]))
    refine own_via (fun _ q => XT.lloadN X6.here hx rfl (hb hby at_50) rfl q) ?_
    show own_Goes p e s below _ _ _ (T6.setTop (mkF m 51 #[.val (.int p1), .val (.long q2), .second, .val (.long q3), .second, .val (.long (q3 &&& (9223372036854775807 : Int64))), .second, .val (.int (1 : Int32)), .val (.ref a_BUY), .val (.long (if (9223372036854775807 : Int64) - (q3 &&& (9223372036854775807 : Int64)) < q2 then (9223372036854775807 : Int64) else q2 + (q3 &&& (9223372036854775807 : Int64)))), .second] [(.long q2), (.int (1 : Int32)), (.long (if (9223372036854775807 : Int64) - (q3 &&& (9223372036854775807 : Int64)) < q2 then (9223372036854775807 : Int64) else q2 + (q3 &&& (9223372036854775807 : Int64))))]))
    refine own_via (fun _ q => XT.lload X6.here hx rfl (hb hby at_51) rfl q) ?_
    show own_Goes p e s below _ _ _ (T6.setTop (mkF m 53 #[.val (.int p1), .val (.long q2), .second, .val (.long q3), .second, .val (.long (q3 &&& (9223372036854775807 : Int64))), .second, .val (.int (1 : Int32)), .val (.ref a_BUY), .val (.long (if (9223372036854775807 : Int64) - (q3 &&& (9223372036854775807 : Int64)) < q2 then (9223372036854775807 : Int64) else q2 + (q3 &&& (9223372036854775807 : Int64)))), .second] [(.long (q3 &&& (9223372036854775807 : Int64))), (.long q2), (.int (1 : Int32)), (.long (if (9223372036854775807 : Int64) - (q3 &&& (9223372036854775807 : Int64)) < q2 then (9223372036854775807 : Int64) else q2 + (q3 &&& (9223372036854775807 : Int64))))]))
    obtain ⟨_, _, ⟨T7, L7, k7, n7⟩, -, X7, ⟨Lc7, hQ7, l7, y7, z7⟩, st7⟩ := Jvm.LawKit.callS X6 hx (y := (⟨"org/combinant/SideWorseByPinLaw", "expected", "(ZJJ)J"⟩ : MethodName)) hown (mvT hZ (hw _ (List.mem_of_getElem? (i := 12) rfl))) (mvT hZ (hw _ (List.mem_of_getElem? (i := 13) rfl))) (mvT hZ (hw _ (List.mem_of_getElem? (i := 14) rfl))) (mvT hZ (hw _ (List.mem_of_getElem? (i := 15) rfl))) (by decide) (backOf (W := 2) (rm2 l Z a0 hw [] (1 : Int32) q2 (q3 &&& (9223372036854775807 : Int64)) (if (9223372036854775807 : Int64) - (q3 &&& (9223372036854775807 : Int64)) < q2 then (9223372036854775807 : Int64) else q2 + (q3 &&& (9223372036854775807 : Int64))) h0 n0 (own_buy q2 q3)) hZ (hw _ (List.mem_of_getElem? (i := 15) rfl)) (hw _ (List.mem_of_getElem? (i := 14) rfl)) (by decide) (by decide)) (g := (mkF m 53 #[.val (.int p1), .val (.long q2), .second, .val (.long q3), .second, .val (.long (q3 &&& (9223372036854775807 : Int64))), .second, .val (.int (1 : Int32)), .val (.ref a_BUY), .val (.long (if (9223372036854775807 : Int64) - (q3 &&& (9223372036854775807 : Int64)) < q2 then (9223372036854775807 : Int64) else q2 + (q3 &&& (9223372036854775807 : Int64)))), .second] [(.long (q3 &&& (9223372036854775807 : Int64))), (.long q2), (.int (1 : Int32)), (.long (if (9223372036854775807 : Int64) - (q3 &&& (9223372036854775807 : Int64)) < q2 then (9223372036854775807 : Int64) else q2 + (q3 &&& (9223372036854775807 : Int64))))])) rfl (by rw [hml]; rfl) (argsL := [(.int (1 : Int32)), (.long q2), (.long (q3 &&& (9223372036854775807 : Int64)))]) (rest := [(.long (if (9223372036854775807 : Int64) - (q3 &&& (9223372036854775807 : Int64)) < q2 then (9223372036854775807 : Int64) else q2 + (q3 &&& (9223372036854775807 : Int64))))]) (lenOf pd__ZJJ_J rfl) rfl (by show 2 * 0 + _ ≤ _; exact Nat.le_of_eq rfl) (hb hby at_53) (fun _ _ => ⟨rfl, e6, (by decide : 0 + 0 ≤ _), (by decide : 0 + 0 ≤ _)⟩)
    dsimp only [Pt.U, Pt.locs, Pt.cells, Pt.slots] at X7 l7 y7 z7 st7 hQ7
    subst l7 y7 z7
    obtain ⟨rfl, N7q, e7⟩ := hQ7
    have N7 := Fr.app N6 N7q
    refine own_via st7 ?_
    show own_Goes p e s below _ _ _ (T7.setTop (mkF m 56 #[.val (.int p1), .val (.long q2), .second, .val (.long q3), .second, .val (.long (q3 &&& (9223372036854775807 : Int64))), .second, .val (.int (1 : Int32)), .val (.ref a_BUY), .val (.long (if (9223372036854775807 : Int64) - (q3 &&& (9223372036854775807 : Int64)) < q2 then (9223372036854775807 : Int64) else q2 + (q3 &&& (9223372036854775807 : Int64)))), .second] [(.long (if (9223372036854775807 : Int64) - (q3 &&& (9223372036854775807 : Int64)) < q2 then (9223372036854775807 : Int64) else q2 + (q3 &&& (9223372036854775807 : Int64)))), (.long (if (9223372036854775807 : Int64) - (q3 &&& (9223372036854775807 : Int64)) < q2 then (9223372036854775807 : Int64) else q2 + (q3 &&& (9223372036854775807 : Int64))))]))
    refine own_via (fun _ q => XT.lcmp X7.here hx rfl (hb hby at_56) rfl q) ?_
    show own_Goes p e s below _ _ _ (T7.setTop (mkF m 57 #[.val (.int p1), .val (.long q2), .second, .val (.long q3), .second, .val (.long (q3 &&& (9223372036854775807 : Int64))), .second, .val (.int (1 : Int32)), .val (.ref a_BUY), .val (.long (if (9223372036854775807 : Int64) - (q3 &&& (9223372036854775807 : Int64)) < q2 then (9223372036854775807 : Int64) else q2 + (q3 &&& (9223372036854775807 : Int64)))), .second] [(.int (XT.cmpL (if (9223372036854775807 : Int64) - (q3 &&& (9223372036854775807 : Int64)) < q2 then (9223372036854775807 : Int64) else q2 + (q3 &&& (9223372036854775807 : Int64))) (if (9223372036854775807 : Int64) - (q3 &&& (9223372036854775807 : Int64)) < q2 then (9223372036854775807 : Int64) else q2 + (q3 &&& (9223372036854775807 : Int64)))))]))
    refine own_via (fun _ q => XS.ifNo X7.here hx rfl (hb hby at_57) rfl (XT.ll_ne_f rfl) q) ?_
    show own_Goes p e s below _ _ _ (T7.setTop (mkF m 60 #[.val (.int p1), .val (.long q2), .second, .val (.long q3), .second, .val (.long (q3 &&& (9223372036854775807 : Int64))), .second, .val (.int (1 : Int32)), .val (.ref a_BUY), .val (.long (if (9223372036854775807 : Int64) - (q3 &&& (9223372036854775807 : Int64)) < q2 then (9223372036854775807 : Int64) else q2 + (q3 &&& (9223372036854775807 : Int64)))), .second] []))
    refine own_via (fun _ q => XT.iconstV X7.here hx rfl (1 : Int32) (hb hby at_60) rfl q) ?_
    show own_Goes p e s below _ _ _ (T7.setTop (mkF m 61 #[.val (.int p1), .val (.long q2), .second, .val (.long q3), .second, .val (.long (q3 &&& (9223372036854775807 : Int64))), .second, .val (.int (1 : Int32)), .val (.ref a_BUY), .val (.long (if (9223372036854775807 : Int64) - (q3 &&& (9223372036854775807 : Int64)) < q2 then (9223372036854775807 : Int64) else q2 + (q3 &&& (9223372036854775807 : Int64)))), .second] [(.int (1 : Int32))]))
    refine own_via (fun _ q => XS.goto X7.here hx rfl (pc0 := 61) (pc' := 65) rfl (hb hby at_61) (by decide) (by decide) q) ?_
    show own_Goes p e s below _ _ _ (T7.setTop (mkF m 65 #[.val (.int p1), .val (.long q2), .second, .val (.long q3), .second, .val (.long (q3 &&& (9223372036854775807 : Int64))), .second, .val (.int (1 : Int32)), .val (.ref a_BUY), .val (.long (if (9223372036854775807 : Int64) - (q3 &&& (9223372036854775807 : Int64)) < q2 then (9223372036854775807 : Int64) else q2 + (q3 &&& (9223372036854775807 : Int64)))), .second] [(.int (1 : Int32))]))
    exact own_retN X7 hx (t := .boolean) hret (by simp) hlk (hb hby at_65) (by decide) (by decide) ⟨rfl, N7⟩
set_option maxRecDepth 65536 in
set_option maxHeartbeats 40000000 in
theorem comes_1 {Post : Tables → Env → Array Value → State → Outcome → State → Prop} (hpost : ∀ tb e args s v u, (limb_1_1.after args s (.returned v) u = true ∧ limb_1_2.after args s (.returned v) u = true ∧ True) → FrameEnd s (.returned v) u (Jvm.fieldLocs frame_1_writes args s ++ Jvm.arrayLocs frame_1_arrays args s ++ Jvm.staticLocs frame_1_statics s) 0 0 → Post tb e args s (.returned v) u) :
    ArmFor flags0 classFile x code maxLocals ret World_1 tables_1 room_1 Calls_1 rest_1 Pre_1 Post := by
  intro l hfl _ _ p e ha hc hk s m args below hf hA hF happ hP
  obtain ⟨hcalls, hrest, hpre⟩ := hP
  obtain ⟨-, -, -, hnamed, -, -, -, hat⟩ := (Spec.applies_iff hf).mp happ
  obtain ⟨hg, hn⟩ := and_e (Cond.before_iff.mp (show (Jvm.Cond.and given_1 narrow_1).before args s = true from hpre))
  obtain ⟨h1, g0⟩ := and_e hg
  obtain ⟨w0, w1, w2, rfl⟩ : ∃ w0 w1 w2 : Value, args = #[w0, w1, w2] := by
    have hs : args.size = 3 := by simpa [Cond.value, given_1] using h1
    obtain ⟨L⟩ := args
    match L, hs with
    | [w0, w1, w2], _ => exact ⟨w0, w1, w2, rfl⟩
  have hw := fun d (hd : d ∈ tables_1) => atoms_spec (ws := Jvm.Cond.code x code maxLocals ret :: tables_1) hat d (List.mem_cons_of_mem _ hd)
  obtain ⟨g0', g1⟩ := and_e g0
  obtain ⟨i0, e0⟩ := is_v g0'
  obtain rfl : w0 = (.int i0) := Option.some.inj e0
  obtain ⟨g1', g2⟩ := and_e g1
  obtain ⟨i1, e1⟩ := isL_v g1'
  obtain rfl : w1 = (.long i1) := Option.some.inj e1
  obtain ⟨i2, e2⟩ := isL_v g2
  obtain rfl : w2 = (.long i2) := Option.some.inj e2
  have n0 := hn
  obtain ⟨n0', n1⟩ := and_e n0
  obtain ⟨a_SELL, ev_SELL⟩ := exa_v n0'
  have E_SELL : Exa s s.heap a_SELL "org/combinant/Side" := Exa.start ev_SELL n0'
  have S_SELL : Sta s s.heap "org/combinant/Side" "SELL" "Lorg/combinant/Side;" (.ref a_SELL) := Sta.start ev_SELL (Or.inr ⟨(hw _ (List.mem_of_getElem? (i := 2) rfl)), (hw _ (List.mem_of_getElem? (i := 3) rfl))⟩)
  obtain ⟨n1', n2⟩ := and_e n1
  obtain ⟨a_BUY, ev_BUY⟩ := exa_v n1'
  have E_BUY : Exa s s.heap a_BUY "org/combinant/Side" := Exa.start ev_BUY n1'
  have S_BUY : Sta s s.heap "org/combinant/Side" "BUY" "Lorg/combinant/Side;" (.ref a_BUY) := Sta.start ev_BUY (Or.inr ⟨(hw _ (List.mem_of_getElem? (i := 2) rfl)), (hw _ (List.mem_of_getElem? (i := 10) rfl))⟩)
  obtain ⟨n2', n3⟩ := and_e n2
  have F_SELL_ordinal : Fld s s.heap a_SELL "java/lang/Enum" "ordinal" "I" (.int (1 : Int32)) := Fld.start ((fld_at ev_SELL).symm.trans (own_eqi n2'))
  have F_BUY_ordinal : Fld s s.heap a_BUY "java/lang/Enum" "ordinal" "I" (.int (0 : Int32)) := Fld.start ((fld_at ev_BUY).symm.trans (own_eqi n3))
  obtain ⟨n, o, h1, h2, h3, _, L, rfl, ⟨rfl, N⟩, hq⟩ := rm0 l s _ hw tables_1 i0 i1 i2 a_BUY a_SELL s.heap s.heap.size S_BUY S_SELL E_BUY E_SELL (F_SELL_ordinal.ne F_BUY_ordinal (by decide)) p e ha hc hk s m _ below hf ((Spec.applies_iff_loose hf).mp happ).1 ⟨rfl, State.Warmed39.refl s, rfl⟩ trivial
  refine ⟨n, _, h1, h2, h3, hpost _ _ _ _ _ _ ⟨Cond.after_iff.mpr rfl, Cond.after_iff.mpr (eq_i res_at (Term.int_eval (1)) rfl), trivial⟩ ⟨hq.1, hq.2.1, (hq.2.2.sift fun y hy => Or.inr (N y hy)).mono (by decide) (by decide)⟩⟩
theorem main_1_1 : Claimed_1_1 := comes_1 fun _ _ _ _ _ _ h hF => ⟨h.1, hF⟩
theorem main_1_2 : Claimed_1_2 := comes_1 fun _ _ _ _ _ _ h hF => ⟨h.2.1, hF⟩
end Jvm.Pilot.@@N@@
namespace Jvm.Pilot.@@N@@
open Jvm Jvm.ClassFile Sem Op Lib Jvm.Free Jvm.Stand Jvm.Pilot.@@N@@.Jvm.D
/-! MADE BY PROGRAM (witnessworld.py) out of the Statement's table words and the real class files: 12 classes; the members and pool entries that the words name. The judged class is class 1, her method 1. -/
namespace start1
open Jvm.ClassFile
def u (s : String) : CpInfo := .utf8 (stringToUtf16 s)
/-- a pool by its gaps: so many unusable entries, then the entry; so many at the end -/
def gap : Nat → List CpInfo → List CpInfo
  | 0, r => r
  | n + 1, r => .unusable :: gap n r
def poolList (es : List (Nat × CpInfo)) (last : Nat) : List CpInfo := es.foldr (fun e r => gap e.1 (e.2 :: r)) (gap last [])
def pool (es : List (Nat × CpInfo)) (last : Nat) : Array CpInfo := ⟨poolList es last⟩
def fileOf (pool : Array CpInfo) (this : Nat) (attrs : Array Attribute := #[]) (ms : Array MethodInfo := #[]) (fl : Nat := 33) (sup : Nat := 0) (ifs : Array Nat := #[]) (fds : Array FieldInfo := #[]) : ClassFile where
  minorVersion := 0
  majorVersion := 65
  constantPool := pool
  accessFlags := fl
  thisClass := this
  superClass := sup
  interfaces := ifs
  fields := fds
  methods := ms
  attributes := attrs
def plain (name : String) (sup : Option ClassId) : Class where
  name := name
  kind := .ordinary
  loader := none
  accessFlags := 33
  super := sup
  interfaces := #[]
  cf := none
  fields := #[]
  methods := #[]
  instanceTypes := #[]
  staticTypes := #[]
  resolved := #[]
  callSites := []
  init := .initialized
  statics := none
  mirror := none

def pool0 : Array CpInfo := pool [(5, u "<init>"), (0, u "()V"), (1, .class_ 10), (1, u "java/lang/Object")] 113

def k0m0 : Method := { name := "<init>", desc := "()V", sig := { parameters := [], returnType := none }, accessFlags := 1, code := none }
/-- java/lang/Object -/
def k0 : Class := { plain "java/lang/Object" none with
  accessFlags := 33
  interfaces := #[]
  cf := some (fileOf pool0 8 #[] #[{ accessFlags := 1, nameIndex := 5, descriptorIndex := 6, attributes := #[] }] 33 0 #[] #[])
  fields := #[]
  methods := #[k0m0]
  instanceTypes := #[]
  staticTypes := #[]
  resolved := Array.replicate 124 none
  statics := none }

def pool1 : Array CpInfo := pool [(2, .class_ 4), (1, u "java/lang/Object"), (0, u "<init>"), (0, u "()V"), (2, .long 9223372036854775807), (1, .fieldref 12 13), (0, .class_ 14), (0, .nameAndType 15 16), (0, u "org/combinant/Side"), (0, u "BUY"), (0, u "Lorg/combinant/Side;"), (0, .fieldref 12 18), (0, .nameAndType 19 16), (0, u "SELL"), (0, .methodref 12 21), (0, .nameAndType 22 23), (0, u "worseBy"), (0, u "(JJ)J"), (0, .methodref 25 26), (0, .class_ 27), (0, .nameAndType 28 29), (0, u "org/combinant/SideWorseByPinLaw"), (0, u "expected"), (0, u "(ZJJ)J"), (0, .long 9223372036854775808), (3, u "law"), (0, u "(IJJ)Z")] 3

def k1m0 : Method := { name := "<init>", desc := "()V", sig := { parameters := [], returnType := none }, accessFlags := 1, code := none }
def k1c1 : Code := { maxStack := 7, maxLocals := 11, code := code, exceptionTable := #[], attributes := #[] }
def k1m1 : Method := { name := "law", desc := "(IJJ)Z", sig := { parameters := [.int, .long, .long], returnType := some .boolean }, accessFlags := 9, code := some k1c1 }
def k1c2 : Code := { maxStack := 4, maxLocals := 7, code := method_3_code, exceptionTable := #[], attributes := #[] }
def k1m2 : Method := { name := "expected", desc := "(ZJJ)J", sig := { parameters := [.boolean, .long, .long], returnType := some .long }, accessFlags := 10, code := some k1c2 }
/-- org/combinant/SideWorseByPinLaw -/
def k1 : Class := { plain "org/combinant/SideWorseByPinLaw" (some 0) with
  accessFlags := 49
  interfaces := #[]
  cf := some (fileOf pool1 25 #[] #[{ accessFlags := 1, nameIndex := 5, descriptorIndex := 6, attributes := #[] }, { accessFlags := 9, nameIndex := 34, descriptorIndex := 35, attributes := #[] }, { accessFlags := 10, nameIndex := 28, descriptorIndex := 29, attributes := #[] }] 49 2 #[] #[])
  fields := #[]
  methods := #[k1m0, k1m1, k1m2]
  instanceTypes := #[]
  staticTypes := #[]
  resolved := Array.replicate 39 none
  statics := none }

def pool2 : Array CpInfo := pool [(1, .class_ 2), (0, u "java/lang/constant/Constable"), (0, .class_ 4), (0, u "java/lang/Object")] 6

/-- java/lang/constant/Constable -/
def k2 : Class := { plain "java/lang/constant/Constable" (some 0) with
  accessFlags := 1537
  interfaces := #[]
  cf := some (fileOf pool2 1 #[] #[] 1537 3 #[] #[])
  fields := #[]
  methods := #[]
  instanceTypes := #[]
  staticTypes := #[]
  resolved := Array.replicate 11 none
  statics := none }

def pool3 : Array CpInfo := pool [(1, .class_ 2), (0, u "java/lang/Comparable"), (0, .class_ 4), (0, u "java/lang/Object")] 7

/-- java/lang/Comparable -/
def k3 : Class := { plain "java/lang/Comparable" (some 0) with
  accessFlags := 1537
  interfaces := #[]
  cf := some (fileOf pool3 1 #[] #[] 1537 3 #[] #[])
  fields := #[]
  methods := #[]
  instanceTypes := #[]
  staticTypes := #[]
  resolved := Array.replicate 12 none
  statics := none }

def pool4 : Array CpInfo := pool [(1, .class_ 2), (0, u "java/io/Serializable"), (0, .class_ 4), (0, u "java/lang/Object")] 2

/-- java/io/Serializable -/
def k4 : Class := { plain "java/io/Serializable" (some 0) with
  accessFlags := 1537
  interfaces := #[]
  cf := some (fileOf pool4 1 #[] #[] 1537 3 #[] #[])
  fields := #[]
  methods := #[]
  instanceTypes := #[]
  staticTypes := #[]
  resolved := Array.replicate 7 none
  statics := none }

def pool5 : Array CpInfo := pool [(2, .class_ 4), (1, u "java/lang/Enum"), (0, u "name"), (0, u "Ljava/lang/String;"), (2, u "ordinal"), (0, u "I"), (1, .class_ 14), (1, u "java/lang/Object"), (4, u "hash"), (86, .class_ 108), (1, u "java/lang/Enum$EnumDesc"), (2, .class_ 112), (0, u "java/lang/constant/Constable"), (0, .class_ 114), (0, u "java/lang/Comparable"), (0, .class_ 116), (0, u "java/io/Serializable")] 87

/-- java/lang/Enum -/
def k5 : Class := { plain "java/lang/Enum" (some 0) with
  accessFlags := 1057
  interfaces := #[2, 3, 4]
  cf := some (fileOf pool5 2 #[.nestMembers #[106]] #[] 1057 12 #[111, 113, 115] #[{ accessFlags := 18, nameIndex := 5, descriptorIndex := 6, attributes := #[] }, { accessFlags := 18, nameIndex := 9, descriptorIndex := 10, attributes := #[] }, { accessFlags := 2, nameIndex := 19, descriptorIndex := 10, attributes := #[] }])
  fields := #[{ name := "name", type := (.object "java/lang/String"), accessFlags := 18, slot := 0, constantValue := 0 }, { name := "ordinal", type := .int, accessFlags := 18, slot := 1, constantValue := 0 }, { name := "hash", type := .int, accessFlags := 2, slot := 2, constantValue := 0 }]
  methods := #[]
  instanceTypes := #[(.object "java/lang/String"), .int, .int]
  staticTypes := #[]
  resolved := Array.replicate 204 none
  statics := none }

def pool6 : Array CpInfo := pool [(1, .class_ 2), (0, u "org/combinant/Side"), (0, .fieldref 1 4), (0, .nameAndType 5 6), (0, u "BUY"), (0, u "Lorg/combinant/Side;"), (2, u "SELL"), (2, u "$VALUES"), (0, u "[Lorg/combinant/Side;"), (6, .class_ 22), (1, u "java/lang/Enum"), (8, u "fix"), (0, u "Ljava/lang/String;"), (2, u "letter"), (14, .long 9223372036854775807), (1, .long 9223372036854775808), (36, u "worseBy"), (0, u "(JJ)J")] 8

def k6c0 : Code := { maxStack := 6, maxLocals := 5, code := prog_49_method_10_code, exceptionTable := #[], attributes := #[] }
def k6m0 : Method := { name := "worseBy", desc := "(JJ)J", sig := { parameters := [.long, .long], returnType := some .long }, accessFlags := 0, code := some k6c0 }
/-- org/combinant/Side -/
def k6 : Class := { plain "org/combinant/Side" (some 5) with
  accessFlags := 16432
  interfaces := #[]
  cf := some (fileOf pool6 1 #[] #[{ accessFlags := 0, nameIndex := 89, descriptorIndex := 90, attributes := #[] }] 16432 20 #[] #[{ accessFlags := 16409, nameIndex := 5, descriptorIndex := 6, attributes := #[] }, { accessFlags := 16409, nameIndex := 9, descriptorIndex := 6, attributes := #[] }, { accessFlags := 18, nameIndex := 31, descriptorIndex := 32, attributes := #[] }, { accessFlags := 18, nameIndex := 35, descriptorIndex := 32, attributes := #[] }, { accessFlags := 4122, nameIndex := 12, descriptorIndex := 13, attributes := #[] }])
  fields := #[{ name := "BUY", type := (.object "org/combinant/Side"), accessFlags := 16409, slot := 0, constantValue := 0 }, { name := "SELL", type := (.object "org/combinant/Side"), accessFlags := 16409, slot := 1, constantValue := 0 }, { name := "fix", type := (.object "java/lang/String"), accessFlags := 18, slot := 3, constantValue := 0 }, { name := "letter", type := (.object "java/lang/String"), accessFlags := 18, slot := 4, constantValue := 0 }, { name := "$VALUES", type := (.array (.object "org/combinant/Side")), accessFlags := 4122, slot := 2, constantValue := 0 }]
  methods := #[k6m0]
  instanceTypes := #[(.object "java/lang/String"), .int, .int, (.object "java/lang/String"), (.object "java/lang/String")]
  staticTypes := #[(.object "org/combinant/Side"), (.object "org/combinant/Side"), (.array (.object "org/combinant/Side"))]
  resolved := Array.replicate 99 none
  statics := some 0 }

def pool7 : Array CpInfo := pool [(1, u "java/lang/Cloneable"), (0, .class_ 1), (0, u "java/lang/Object"), (0, .class_ 3)] 3

/-- java/lang/Cloneable -/
def k7 : Class := { plain "java/lang/Cloneable" (some 0) with
  accessFlags := 1537
  interfaces := #[]
  cf := some (fileOf pool7 2 #[] #[] 1537 4 #[] #[])
  fields := #[]
  methods := #[]
  instanceTypes := #[]
  staticTypes := #[]
  resolved := Array.replicate 8 none
  statics := none }

/-- the primitive byte -/
def k8 : Class := { plain "byte" none with kind := .primitive 'B', accessFlags := 0x411 }
/-- [B -/
def k9 : Class := { plain "[B" (some 0) with kind := .array 8 .byte, interfaces := #[7, 4], accessFlags := 1041 }

/-- the primitive int -/
def k10 : Class := { plain "int" none with kind := .primitive 'I', accessFlags := 0x411 }
/-- [I -/
def k11 : Class := { plain "[I" (some 0) with kind := .array 10 .int, interfaces := #[7, 4], accessFlags := 1041 }

def heap : Heap := #[{ cls := 6, slots := #[.ref 2, .ref 1, .null], vm := .statics 6 },
  { cls := 6, slots := #[.null, .int 1, .int 0, .null, .null], vm := .none },
  { cls := 6, slots := #[.null, .int 0, .int 0, .null, .null], vm := .none }]
def classes : Array Class := #[k0, k1, k2, k3, k4, k5, k6, k7, k8, k9, k10, k11]
def interned : List (Array UInt16 × Addr) := []
def slotsUsed : Nat := 13
def theMethod : MethodId := ⟨1, 1⟩
def args0 : Array Value := #[.int 5, .long 7, .long 9]
def aboutOver (below : List Frame) : State where
  vm := { classes := classes, interned := interned.toArray }
  heap := heap
  slotsUsed := slotsUsed
  threads := #[{ frames := .invoking theMethod args0 :: below }]
def below0 : List Frame := [.native { method := ⟨0, 0⟩, args := #[] }]
def about1 : State := aboutOver below0
def p0 : Program := .bare "" "" ""
def e0 : Env := launch0.env 0 0 0
theorem w_frames : about1.frames = Frame.invoking theMethod args0 :: below0 := rfl
set_option maxRecDepth 65536 in
theorem w_args : argsFit about1.vm theMethod args0 = true := by decide +kernel
set_option maxRecDepth 65536 in
theorem w_heap : heapFits about1 = true := by decide +kernel
set_option maxRecDepth 65536 in
theorem w_runnable : about1.curStatus? = some .runnable := by decide +kernel
set_option maxRecDepth 65536 in
theorem w_alone : about1.alone = true := by decide +kernel
set_option maxRecDepth 65536 in
theorem w_named : about1.methodNamed? x = some theMethod := by decide +kernel
set_option maxRecDepth 65536 in
theorem w_hears : about1.hears theMethod below0 = true := by decide +kernel
set_option maxRecDepth 65536 in
theorem w_ripe : about1.ripe theMethod args0 below0 = true := by decide +kernel
theorem w_running : about1.status = .running := rfl
set_option maxRecDepth 65536 in
theorem w_room : about1.hasRoom e0.platform room_1 = true :=
  launch0.hasRoom_least _ room_1 (by decide +kernel) (by decide +kernel) (by decide +kernel) (by decide +kernel) (by decide +kernel) (by decide +kernel)
theorem allAtoms_all (ts : List Jvm.Cond) (a : Array Jvm.Value) (st : Jvm.State) : (allAtoms ts).before a st = ts.all (fun c => c.before a st) := by
  induction ts with
  | nil => rfl
  | cons c t ih =>
    show (Jvm.Cond.and c (allAtoms t)).before a st = _
    rw [Jvm.Cond.before_and, ih, List.all_cons]
def words1 : List Jvm.Cond := Jvm.Cond.code x code maxLocals ret :: tables_1
/-- a 'code' word, met by the world's own term for the bytes: nothing is compared byte by byte -/
theorem code_word {y : MethodName} {bytes : ByteArray} {mx : Nat} {rt : Option FieldType} {a : Array Value} {s : State} {m : MethodId} {meth : Method} {c : Code} (h1 : s.methodNamed? y = some m) (h2 : s.vm.method? m = some meth) (h3 : meth.code = some c) (h4 : c.code = bytes)
    (h5 : (c.maxLocals == mx && c.exceptionTable.isEmpty && decide (c.maxStack ≤ mostOperands) && decide (meth.sig.returnType = rt) && !meth.locks && decide (parseMethodDescriptor y.desc = some meth.sig)) = true) : (Jvm.Cond.code y bytes mx rt).before a s = true := by
  simp only [Bool.and_eq_true, beq_iff_eq, Bool.not_eq_true', decide_eq_true_eq] at h5
  obtain ⟨⟨⟨⟨⟨g1, g2⟩, g3⟩, g4⟩, g5⟩, g6⟩ := h5
  simp [Cond.before, Cond.holds, Cond.value, h1, h2, h3, h4, g1, g2, g3, g4, g5, g6]
def isCode : Jvm.Cond → Bool
  | .code _ _ _ _ => true
  | _ => false
theorem all_split {L : List Jvm.Cond} {P : Jvm.Cond → Bool} (h1 : L.all (fun c => isCode c || P c) = true) (h2 : ∀ c ∈ L.filter isCode, P c = true) : L.all P = true := by
  refine List.all_eq_true.mpr fun c hc => ?_
  have h := List.all_eq_true.mp h1 c hc
  rcases Bool.eq_false_or_eq_true (isCode c) with hi | hi
  · exact h2 c (List.mem_filter.mpr ⟨hc, hi⟩)
  · simpa [hi] using h
set_option maxRecDepth 65536 in
theorem w_c0 : (Jvm.Cond.code x code maxLocals ret).before args0 about1 = true := code_word (m := ⟨1, 1⟩) (meth := k1m1) (c := k1c1) (by decide +kernel) rfl rfl rfl (by decide +kernel)
set_option maxRecDepth 65536 in
theorem w_c1 : (Jvm.Cond.code ({ cls := "org/combinant/Side", name := "worseBy", desc := "(JJ)J" } : Jvm.MethodName) prog_49_method_10_code (5 : Nat) (Option.some Jvm.ClassFile.FieldType.long)).before args0 about1 = true := code_word (m := ⟨6, 0⟩) (meth := k6m0) (c := k6c0) (by decide +kernel) rfl rfl rfl (by decide +kernel)
set_option maxRecDepth 65536 in
theorem w_c2 : (Jvm.Cond.code ({ cls := "org/combinant/SideWorseByPinLaw", name := "expected", desc := "(ZJJ)J" } : Jvm.MethodName) method_3_code (7 : Nat) (Option.some Jvm.ClassFile.FieldType.long)).before args0 about1 = true := code_word (m := ⟨1, 2⟩) (meth := k1m2) (c := k1c2) (by decide +kernel) rfl rfl rfl (by decide +kernel)
def codes1 : List Jvm.Cond := [Jvm.Cond.code x code maxLocals ret, Jvm.Cond.code ({ cls := "org/combinant/Side", name := "worseBy", desc := "(JJ)J" } : Jvm.MethodName) prog_49_method_10_code (5 : Nat) (Option.some Jvm.ClassFile.FieldType.long), Jvm.Cond.code ({ cls := "org/combinant/SideWorseByPinLaw", name := "expected", desc := "(ZJJ)J" } : Jvm.MethodName) method_3_code (7 : Nat) (Option.some Jvm.ClassFile.FieldType.long)]
set_option maxRecDepth 65536 in
theorem codes_eq : words1.filter isCode = codes1 := rfl
theorem w_codes : ∀ c ∈ words1.filter isCode, c.before args0 about1 = true := by
  rw [codes_eq]
  intro c hc
  simp only [codes1, List.mem_cons, List.not_mem_nil, or_false] at hc
  rcases hc with rfl | rfl | rfl
  · exact w_c0
  · exact w_c1
  · exact w_c2
set_option maxRecDepth 65536 in
theorem w_t1 : words1.all (fun c => isCode c || c.before args0 about1) = true := by decide +kernel
theorem w_tables : (allAtoms (Jvm.Cond.code x code maxLocals ret :: tables_1)).before args0 about1 = true := by
  rw [allAtoms_all]
  show words1.all (fun c => c.before args0 about1) = true
  refine all_split ?_ w_codes
  rw [w_t1]
set_option maxRecDepth 65536 in
theorem w_case : (Jvm.Cond.and given_1 narrow_1).before args0 about1 = true := by decide +kernel
theorem w_applies : (headSpec (Jvm.Cond.code x code maxLocals ret :: tables_1) room_1).applies x e0.platform about1 = true :=
  (Spec.applies_iff w_frames).mpr ⟨w_running, w_runnable, w_alone, w_named, w_hears, w_ripe, w_room, w_tables⟩
theorem atStart : AtStart classFile x code maxLocals ret World_1 tables_1 room_1 Calls_1 rest_1 Pre_1 launch0 p0 e0 about1 theMethod args0 below0 :=
  ⟨lists_1, trivial, launch0.admits_env _ _ _, launch0.least_env, fairChoices_fair.cas, fairChoices_fair.clock, w_frames, w_args, w_heap, w_applies, trivial, trivial, w_case⟩
end start1
theorem witness_1 : WitnessClaimed_1 := ⟨start1.p0, start1.e0, start1.about1, start1.theMethod, start1.args0, start1.below0, start1.atStart⟩
end Jvm.Pilot.@@N@@
