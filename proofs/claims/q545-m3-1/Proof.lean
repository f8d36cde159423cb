import JvmDerived
import JvmDerived.Pilot.@@N@@Statement
import JvmDerived.Pilot.@@N@@Code
set_option linter.unusedVariables false
set_option linter.unusedSimpArgs false
namespace Jvm.Pilot.@@N@@
open Jvm Jvm.ClassFile Sem Op Lib Jvm.Free Jvm.Stand Jvm.LawKit Jvm.RoadKit Bundle Jvm.Pilot.@@N@@.Jvm.D
/-- a predicate that goes backwards over the machine's steps -/
def OwnAdv (p : Program) (e : Env) (below : List Frame) (G : State → Prop) : Prop := ∀ A B : State, (∀ t, Steps p.tables e below B t → Steps p.tables e below A t) → G B → G A
/-- what a return must show -/
def OwnFin (p : Program) (l : Launch) (e : Env) (R : Room) (s : State) (m : MethodId) (args : Array Value) (below : List Frame) (meth : Method) (c : Code) (G : State → Prop) (Q : Option Value → Heap → List Loc → Prop) (kc ks : Nat) : Prop :=
  ∀ (A T : State) (locs : List Loc) (cells slots : Nat) (v : Option Value) (h : Heap), Stand p l e R s m args below meth c T locs cells slots → T.heap = h → (meth.sig.returnType = none → v = none) → cells ≤ kc → slots ≤ ks → Q v h locs →
    (∀ fs : List Frame, (∀ (f : JFrame) (acts : List Action), f.method = m → f.locked = none → f.entered = [] → (doReturn e (T.setTop f) acts v).1 = T.setFrames fs) → Steps p.tables e below A (T.setFrames fs)) → G A
theorem own_body {l : Launch} {y : MethodName} {bytes : ByteArray} {maxL : Nat} {rt : Option FieldType} {ws : List Jvm.Cond} {rm : Room} {as' : Array Value} {Z : State} {h0 : Heap} {Q : Option Value → Heap → List Loc → Prop} (hpl : plainFor y = true)
    (body : ∀ (p : Program) (e : Env) (s : State) (m : MethodId) (below : List Frame) (meth : Method) (c : Code) (s₁ : State) (G : State → Prop), Stand p l e rm s m as' below meth c s₁ [] 0 0 → p.tables.exec = Jvm.exec → Z.Warmed39 s.vm → c.code = bytes → c.maxLocals = maxL → s.vm.findClass y.cls = some m.cls → meth.name = y.name → meth.sig.returnType = rt → s₁.heap = h0 →
      OwnAdv p e below G → OwnFin p l e rm s m as' below meth c G Q rm.cells rm.slots → G (s₁.setTop (entryFrame m as' maxL))) :
    MetFree l y (head1 (Jvm.Cond.code y bytes maxL rt :: ws) rm) (fun a U => a = as' ∧ Z.Warmed39 U.vm ∧ U.heap = h0) (fun _ _ _ _ _ => True) (fun _ U o U' => ∃ v L, o = .returned v ∧ Q v U'.heap L ∧ FrameEnd U o U' L rm.cells rm.slots) := by
  refine MetFree.of_bodySF hpl hisR ?_
  intro p e s m args below meth c s₁ Bd hml0 hP hK
  obtain ⟨rfl, hZ, hh⟩ := hP
  have e0 : s₁.heap = h0 := by rw [← hh, Bd.state]; rfl
  refine body p e s m below meth c s₁ (fun A => ∃ s₂ o, Steps p.tables e below A s₂ ∧ s₂.status = .running ∧ Ended s₂ below o ∧ ∃ v L, o = .returned v ∧ Q v s₂.heap L ∧ FrameEnd s o s₂ L rm.cells rm.slots) (Stand.of_body Bd) Bd.exec hZ Bd.bytes hml0 (findClass_of_methodNamed Bd.named) (name_of_methodNamed Bd.named Bd.method).1 Bd.returns e0 ?_ ?_
  · intro A B h g
    obtain ⟨t, o, st, r⟩ := g
    exact ⟨t, o, h t st, r⟩
  · intro A T locs cells slots v h X eT hv hc hl hQ hs
    obtain ⟨fs, hr, hrun, hended, hW, hsame⟩ := X.leave (v := v) hv Bd.notSynchronized
    exact ⟨_, _, hs fs hr, hrun, hended, v, locs, rfl, (show Q v T.heap locs by rw [eT]; exact hQ), ⟨_, rfl⟩, hW, hsame.mono hc hl⟩
section OwnRet
variable {p : Program} {l : Launch} {e : Env} {R : Room} {s : State} {m : MethodId} {args : Array Value} {below : List Frame} {meth : Method} {c : Code} {T : State} {locs : List Loc} {cells slots : Nat}
theorem own_retI (X : Stand p l e R s m args below meth c T locs cells slots) (hx : p.tables.exec = Jvm.exec) {pc : Nat} {Ls : Array Slot} {z : Int32} {rest : List Value} (hret : meth.sig.returnType = some .int) (hd : decode c.code pc = .ok (.ireturn, 1)) {fs : List Frame}
    (hl : ∀ (f : JFrame) (acts : List Action), f.method = m → f.locked = none → f.entered = [] → (doReturn e (T.setTop f) acts (some (.int z))).1 = T.setFrames fs) : Steps p.tables e below (T.setTop (mkF m pc Ls (.int z :: rest))) (T.setFrames fs) :=
  retOut X hx hret rfl (Or.inl ⟨rfl, Or.inl rfl, z, rfl⟩) hd hl
theorem own_retJ (X : Stand p l e R s m args below meth c T locs cells slots) (hx : p.tables.exec = Jvm.exec) {pc : Nat} {Ls : Array Slot} {z : Int64} {rest : List Value} (hret : meth.sig.returnType = some .long) (hd : decode c.code pc = .ok (.lreturn, 1)) {fs : List Frame}
    (hl : ∀ (f : JFrame) (acts : List Action), f.method = m → f.locked = none → f.entered = [] → (doReturn e (T.setTop f) acts (some (.long z))).1 = T.setFrames fs) : Steps p.tables e below (T.setTop (mkF m pc Ls (.long z :: rest))) (T.setFrames fs) :=
  retOut X hx hret rfl (Or.inr (Or.inl ⟨rfl, rfl, z, rfl⟩)) hd hl
theorem own_retA (X : Stand p l e R s m args below meth c T locs cells slots) (hx : p.tables.exec = Jvm.exec) {pc : Nat} {Ls : Array Slot} {w : Value} {t : FieldType} {rest : List Value} (hret : meth.sig.returnType = some t) (ht : t.isReference = true) (hn : narrow t w = w) (hw : w.isRef = true) (hd : decode c.code pc = .ok (.areturn, 1)) {fs : List Frame}
    (hl : ∀ (f : JFrame) (acts : List Action), f.method = m → f.locked = none → f.entered = [] → (doReturn e (T.setTop f) acts (some w)).1 = T.setFrames fs) : Steps p.tables e below (T.setTop (mkF m pc Ls (w :: rest))) (T.setFrames fs) :=
  retOut X hx hret hn (Or.inr (Or.inr (Or.inr (Or.inr ⟨rfl, ht, hw⟩)))) hd hl
end OwnRet

abbrev oI (x : Int32) : Slot := .val (.int x)
abbrev oJ (x : Int64) : Slot := .val (.long x)
abbrev oR (x : Addr) : Slot := .val (.ref x)
abbrev oU : Slot := .unset
abbrev oS : Slot := .second

theorem pd_0 : parseMethodDescriptor "()V" = some ⟨[], none⟩ := by decide +kernel
theorem pd_1 : parseMethodDescriptor "(JJ)V" = some ⟨[.long, .long], none⟩ := by decide +kernel
theorem pd_2 : parseMethodDescriptor "(II)I" = some ⟨[.int, .int], some .int⟩ := by decide +kernel
theorem pd_3 : parseMethodDescriptor "([JI)[J" = some ⟨[(.array .long), .int], some (.array .long)⟩ := by decide +kernel
theorem pd_4 : parseMethodDescriptor "(Ljava/lang/Object;ILjava/lang/Object;II)V" = some ⟨[(.object "java/lang/Object"), .int, (.object "java/lang/Object"), .int, .int], none⟩ := by decide +kernel
theorem pd_5 : parseMethodDescriptor "(J)V" = some ⟨[.long], none⟩ := by decide +kernel
theorem pd_6 : parseMethodDescriptor "(J)J" = some ⟨[.long], some .long⟩ := by decide +kernel
theorem d5_0 : decode jdk_29_method_65_code 0 = .ok (.iload_n 0, 1) := by decide +kernel
theorem d5_1 : decode jdk_29_method_65_code 1 = .ok (.iload_n 1, 1) := by decide +kernel
theorem d5_2 : decode jdk_29_method_65_code 2 = .ok (.if_icmp .lt 7, 3) := by decide +kernel
theorem d5_5 : decode jdk_29_method_65_code 5 = .ok (.iload_n 0, 1) := by decide +kernel
theorem d5_6 : decode jdk_29_method_65_code 6 = .ok (.goto 4, 3) := by decide +kernel
theorem d5_9 : decode jdk_29_method_65_code 9 = .ok (.iload_n 1, 1) := by decide +kernel
theorem d5_10 : decode jdk_29_method_65_code 10 = .ok (.ireturn, 1) := by decide +kernel
theorem pn_5 : plainFor (⟨"java/lang/Math", "max", "(II)I"⟩ : MethodName) = true := Jvm.Free.JP.mathPlain rfl (by decide +kernel)
theorem ef_rmMax (m : MethodId) (x0 : Int32) (x1 : Int32) : entryFrame m #[(.int x0), (.int x1)] 2 = mkF m 0 #[oI x0, oI x1] [] := by first | (simp [entryFrame, mkF, argsToLocals, Value.category]; done) | rfl
def Q_rmMax (Z : State) (u1 u2 r : Int32) (h0 : Heap) (n0 : Nat) (v : Option Value) (h : Heap) (L : List Loc) : Prop := v = some (.int r) ∧ Fr n0 L ∧ h = h0
set_option maxRecDepth 65536 in
set_option maxHeartbeats 40000000 in
theorem rmMax (l : Launch) (Z : State) (a0 : Array Value) (hw : ∀ d ∈ tables_1, d.before a0 Z = true) (ws : List Jvm.Cond) (u1 u2 r : Int32) (h0 : Heap) (n0 : Nat) (Z0 : n0 ≤ h0.size) (hr : (if u1 < u2 then u2 else u1) = r) :
    MetFree l (⟨"java/lang/Math", "max", "(II)I"⟩ : MethodName) (head1 (Jvm.Cond.code (⟨"java/lang/Math", "max", "(II)I"⟩ : MethodName) jdk_29_method_65_code 2 (some .int) :: ws) ({ frames := 0, cells := 0, slots := 0, locals := 0 } : Room)) (fun a U => a = #[(.int u1), (.int u2)] ∧ Z.Warmed39 U.vm ∧ U.heap = h0) (fun _ _ _ _ _ => True) (fun _ U o U' => ∃ v L, o = .returned v ∧ Q_rmMax Z u1 u2 r h0 n0 v U'.heap L ∧ FrameEnd U o U' L ({ frames := 0, cells := 0, slots := 0, locals := 0 } : Room).cells ({ frames := 0, cells := 0, slots := 0, locals := 0 } : Room).slots) := by
  refine own_body (Q := fun v h L => Q_rmMax Z u1 u2 r h0 n0 v h L) pn_5 ?_
  intro p e s m below meth c s₁ G X0 hx hZ hby hml hown hnm hrt e0 hG hF
  have hown : s.vm.findClass "java/lang/Math" = some m.cls := hown
  have N0 := Fr.nil n0
  rw [ef_rmMax m u1 u2]
  show G (s₁.setTop (mkF m 0 #[oI u1, oI u2] []))
  refine hG _ (s₁.setTop (mkF m 2 #[oI u1, oI u2] [(.int u2), (.int u1)])) (fun t₀ k₀ => ?_) ?_
  · show Steps p.tables e below (s₁.setTop (mkF m 0 #[oI u1, oI u2] [])) t₀
    refine XS.iloadN X0.here hx rfl (hb hby d5_0) rfl ?_
    show Steps p.tables e below (s₁.setTop (mkF m 1 #[oI u1, oI u2] [(.int u1)])) t₀
    refine XS.iloadN X0.here hx rfl (hb hby d5_1) rfl ?_
    exact k₀
  by_cases hc2 : u1 < u2
  ·
    refine hG _ (s₁.setTop (mkF m 10 #[oI u1, oI u2] [(.int u2)])) (fun t₀ k₀ => ?_) ?_
    · show Steps p.tables e below (s₁.setTop (mkF m 2 #[oI u1, oI u2] [(.int u2), (.int u1)])) t₀
      refine XS.icmpYes X0.here hx rfl (pc0 := 2) (pc' := 9) rfl (hb hby d5_2) rfl (tlt hc2).1 (by decide) (by decide) ?_
      show Steps p.tables e below (s₁.setTop (mkF m 9 #[oI u1, oI u2] [])) t₀
      refine XS.iloadN X0.here hx rfl (hb hby d5_9) rfl ?_
      exact k₀
    refine hF _ s₁ _ _ _ (some (.int u2)) _ X0 e0 (fun h => by rw [hrt] at h; cases h) (by decide) (by decide) ?_ (fun fs hr => own_retI X0 hx hrt (hb hby d5_10) hr)
    exact ⟨by rw [← hr]; simp [hc2], N0, rfl⟩
  ·
    refine hG _ (s₁.setTop (mkF m 10 #[oI u1, oI u2] [(.int u1)])) (fun t₀ k₀ => ?_) ?_
    · show Steps p.tables e below (s₁.setTop (mkF m 2 #[oI u1, oI u2] [(.int u2), (.int u1)])) t₀
      refine XS.icmpNo X0.here hx rfl (hb hby d5_2) rfl (flt hc2).1 ?_
      show Steps p.tables e below (s₁.setTop (mkF m 5 #[oI u1, oI u2] [])) t₀
      refine XS.iloadN X0.here hx rfl (hb hby d5_5) rfl ?_
      show Steps p.tables e below (s₁.setTop (mkF m 6 #[oI u1, oI u2] [(.int u1)])) t₀
      refine XS.goto X0.here hx rfl (pc0 := 6) (pc' := 10) rfl (hb hby d5_6) (by decide) (by decide) ?_
      exact k₀
    refine hF _ s₁ _ _ _ (some (.int u1)) _ X0 e0 (fun h => by rw [hrt] at h; cases h) (by decide) (by decide) ?_ (fun fs hr => own_retI X0 hx hrt (hb hby d5_10) hr)
    exact ⟨by rw [← hr]; simp [hc2], N0, rfl⟩
theorem d7_0 : decode jdk_29_method_69_code 0 = .ok (.iload_n 0, 1) := by decide +kernel
theorem d7_1 : decode jdk_29_method_69_code 1 = .ok (.iload_n 1, 1) := by decide +kernel
theorem d7_2 : decode jdk_29_method_69_code 2 = .ok (.if_icmp .gt 7, 3) := by decide +kernel
theorem d7_5 : decode jdk_29_method_69_code 5 = .ok (.iload_n 0, 1) := by decide +kernel
theorem d7_6 : decode jdk_29_method_69_code 6 = .ok (.goto 4, 3) := by decide +kernel
theorem d7_9 : decode jdk_29_method_69_code 9 = .ok (.iload_n 1, 1) := by decide +kernel
theorem d7_10 : decode jdk_29_method_69_code 10 = .ok (.ireturn, 1) := by decide +kernel
theorem pn_7 : plainFor (⟨"java/lang/Math", "min", "(II)I"⟩ : MethodName) = true := Jvm.Free.JP.mathPlain rfl (by decide +kernel)
theorem ef_rmMin (m : MethodId) (x0 : Int32) (x1 : Int32) : entryFrame m #[(.int x0), (.int x1)] 2 = mkF m 0 #[oI x0, oI x1] [] := by first | (simp [entryFrame, mkF, argsToLocals, Value.category]; done) | rfl
def Q_rmMin (Z : State) (u1 u2 r : Int32) (h0 : Heap) (n0 : Nat) (v : Option Value) (h : Heap) (L : List Loc) : Prop := v = some (.int r) ∧ Fr n0 L ∧ h = h0
set_option maxRecDepth 65536 in
set_option maxHeartbeats 40000000 in
theorem rmMin (l : Launch) (Z : State) (a0 : Array Value) (hw : ∀ d ∈ tables_1, d.before a0 Z = true) (ws : List Jvm.Cond) (u1 u2 r : Int32) (h0 : Heap) (n0 : Nat) (Z0 : n0 ≤ h0.size) (hr : (if u2 < u1 then u2 else u1) = r) :
    MetFree l (⟨"java/lang/Math", "min", "(II)I"⟩ : MethodName) (head1 (Jvm.Cond.code (⟨"java/lang/Math", "min", "(II)I"⟩ : MethodName) jdk_29_method_69_code 2 (some .int) :: ws) ({ frames := 0, cells := 0, slots := 0, locals := 0 } : Room)) (fun a U => a = #[(.int u1), (.int u2)] ∧ Z.Warmed39 U.vm ∧ U.heap = h0) (fun _ _ _ _ _ => True) (fun _ U o U' => ∃ v L, o = .returned v ∧ Q_rmMin Z u1 u2 r h0 n0 v U'.heap L ∧ FrameEnd U o U' L ({ frames := 0, cells := 0, slots := 0, locals := 0 } : Room).cells ({ frames := 0, cells := 0, slots := 0, locals := 0 } : Room).slots) := by
  refine own_body (Q := fun v h L => Q_rmMin Z u1 u2 r h0 n0 v h L) pn_7 ?_
  intro p e s m below meth c s₁ G X0 hx hZ hby hml hown hnm hrt e0 hG hF
  have hown : s.vm.findClass "java/lang/Math" = some m.cls := hown
  have N0 := Fr.nil n0
  rw [ef_rmMin m u1 u2]
  show G (s₁.setTop (mkF m 0 #[oI u1, oI u2] []))
  refine hG _ (s₁.setTop (mkF m 2 #[oI u1, oI u2] [(.int u2), (.int u1)])) (fun t₀ k₀ => ?_) ?_
  · show Steps p.tables e below (s₁.setTop (mkF m 0 #[oI u1, oI u2] [])) t₀
    refine XS.iloadN X0.here hx rfl (hb hby d7_0) rfl ?_
    show Steps p.tables e below (s₁.setTop (mkF m 1 #[oI u1, oI u2] [(.int u1)])) t₀
    refine XS.iloadN X0.here hx rfl (hb hby d7_1) rfl ?_
    exact k₀
  by_cases hc2 : u2 < u1
  ·
    refine hG _ (s₁.setTop (mkF m 10 #[oI u1, oI u2] [(.int u2)])) (fun t₀ k₀ => ?_) ?_
    · show Steps p.tables e below (s₁.setTop (mkF m 2 #[oI u1, oI u2] [(.int u2), (.int u1)])) t₀
      refine XS.icmpYes X0.here hx rfl (pc0 := 2) (pc' := 9) rfl (hb hby d7_2) rfl (tlt hc2).2.2.1 (by decide) (by decide) ?_
      show Steps p.tables e below (s₁.setTop (mkF m 9 #[oI u1, oI u2] [])) t₀
      refine XS.iloadN X0.here hx rfl (hb hby d7_9) rfl ?_
      exact k₀
    refine hF _ s₁ _ _ _ (some (.int u2)) _ X0 e0 (fun h => by rw [hrt] at h; cases h) (by decide) (by decide) ?_ (fun fs hr => own_retI X0 hx hrt (hb hby d7_10) hr)
    exact ⟨by rw [← hr]; simp [hc2], N0, rfl⟩
  ·
    refine hG _ (s₁.setTop (mkF m 10 #[oI u1, oI u2] [(.int u1)])) (fun t₀ k₀ => ?_) ?_
    · show Steps p.tables e below (s₁.setTop (mkF m 2 #[oI u1, oI u2] [(.int u2), (.int u1)])) t₀
      refine XS.icmpNo X0.here hx rfl (hb hby d7_2) rfl (flt hc2).2.2.1 ?_
      show Steps p.tables e below (s₁.setTop (mkF m 5 #[oI u1, oI u2] [])) t₀
      refine XS.iloadN X0.here hx rfl (hb hby d7_5) rfl ?_
      show Steps p.tables e below (s₁.setTop (mkF m 6 #[oI u1, oI u2] [(.int u1)])) t₀
      refine XS.goto X0.here hx rfl (pc0 := 6) (pc' := 10) rfl (hb hby d7_6) (by decide) (by decide) ?_
      exact k₀
    refine hF _ s₁ _ _ _ (some (.int u1)) _ X0 e0 (fun h => by rw [hrt] at h; cases h) (by decide) (by decide) ?_ (fun fs hr => own_retI X0 hx hrt (hb hby d7_10) hr)
    exact ⟨by rw [← hr]; simp [hc2], N0, rfl⟩
theorem d6_0 : decode jdk_65_method_124_code 0 = .ok (.iload_n 1, 1) := by decide +kernel
theorem d6_1 : decode jdk_65_method_124_code 1 = .ok (.aload_n 0, 1) := by decide +kernel
theorem d6_2 : decode jdk_65_method_124_code 2 = .ok (.arraylength, 1) := by decide +kernel
theorem d6_3 : decode jdk_65_method_124_code 3 = .ok (.if_icmp .ne 11, 3) := by decide +kernel
theorem d6_6 : decode jdk_65_method_124_code 6 = .ok (.aload_n 0, 1) := by decide +kernel
theorem d6_7 : decode jdk_65_method_124_code 7 = .ok (.invokevirtual 319, 3) := by decide +kernel
theorem d6_10 : decode jdk_65_method_124_code 10 = .ok (.checkcast 320, 3) := by decide +kernel
theorem d6_13 : decode jdk_65_method_124_code 13 = .ok (.areturn, 1) := by decide +kernel
theorem d6_14 : decode jdk_65_method_124_code 14 = .ok (.iload_n 1, 1) := by decide +kernel
theorem d6_15 : decode jdk_65_method_124_code 15 = .ok (.newarray .long, 2) := by decide +kernel
theorem d6_17 : decode jdk_65_method_124_code 17 = .ok (.astore_n 2, 1) := by decide +kernel
theorem d6_18 : decode jdk_65_method_124_code 18 = .ok (.aload_n 0, 1) := by decide +kernel
theorem d6_19 : decode jdk_65_method_124_code 19 = .ok (.iconst 0, 1) := by decide +kernel
theorem d6_20 : decode jdk_65_method_124_code 20 = .ok (.aload_n 2, 1) := by decide +kernel
theorem d6_21 : decode jdk_65_method_124_code 21 = .ok (.iconst 0, 1) := by decide +kernel
theorem d6_22 : decode jdk_65_method_124_code 22 = .ok (.aload_n 0, 1) := by decide +kernel
theorem d6_23 : decode jdk_65_method_124_code 23 = .ok (.arraylength, 1) := by decide +kernel
theorem d6_24 : decode jdk_65_method_124_code 24 = .ok (.iload_n 1, 1) := by decide +kernel
theorem d6_25 : decode jdk_65_method_124_code 25 = .ok (.invokestatic 304, 3) := by decide +kernel
theorem d6_28 : decode jdk_65_method_124_code 28 = .ok (.invokestatic 150, 3) := by decide +kernel
theorem d6_31 : decode jdk_65_method_124_code 31 = .ok (.aload_n 2, 1) := by decide +kernel
theorem d6_32 : decode jdk_65_method_124_code 32 = .ok (.areturn, 1) := by decide +kernel
theorem pn_6 : plainFor (⟨"java/util/Arrays", "copyOf", "([JI)[J"⟩ : MethodName) = true := plainFor_of_name (by first | (simp [plainName, overriddenIn]; done) | decide +kernel)
theorem ef_rmCp (m : MethodId) (x0 : Addr) (x1 : Int32) : entryFrame m #[(.ref x0), (.int x1)] 3 = mkF m 0 #[oR x0, oI x1, oU] [] := by first | (simp [entryFrame, mkF, argsToLocals, Value.category]; done) | rfl
def Q_rmCp (Z : State) (a1 : Addr) (k1 : ClassId) (h0 : Heap) (n0 : Nat) (v : Option Value) (h : Heap) (L : List Loc) : Prop := ∃ b kb, v = some (.ref b) ∧ Fr n0 L ∧ Keep h0 h [] ∧ Arv Z h b kb .long (8 : Int32) [(.long (0 : Int64)), (.long (0 : Int64)), (.long (0 : Int64)), (.long (0 : Int64)), (.long (0 : Int64)), (.long (0 : Int64)), (.long (0 : Int64)), (.long (0 : Int64))] (.long (0 : Int64)) ∧ n0 ≤ b ∧ h0.size ≤ b
set_option maxRecDepth 65536 in
set_option maxHeartbeats 40000000 in
theorem rmCp (l : Launch) (Z : State) (a0 : Array Value) (hw : ∀ d ∈ tables_1, d.before a0 Z = true) (ws : List Jvm.Cond) (a1 : Addr) (k1 : ClassId) (h0 : Heap) (n0 : Nat) (Z0 : n0 ≤ h0.size) (V1 : Arv Z h0 a1 k1 .long (0 : Int32) [] (.long (0 : Int64))) :
    MetFree l (⟨"java/util/Arrays", "copyOf", "([JI)[J"⟩ : MethodName) (head1 (Jvm.Cond.code (⟨"java/util/Arrays", "copyOf", "([JI)[J"⟩ : MethodName) jdk_65_method_124_code 3 (some (.array .long)) :: ws) ({ frames := 1, cells := 1, slots := 8, locals := 18 } : Room)) (fun a U => a = #[(.ref a1), (.int (8 : Int32))] ∧ Z.Warmed39 U.vm ∧ U.heap = h0) (fun _ _ _ _ _ => True) (fun _ U o U' => ∃ v L, o = .returned v ∧ Q_rmCp Z a1 k1 h0 n0 v U'.heap L ∧ FrameEnd U o U' L ({ frames := 1, cells := 1, slots := 8, locals := 18 } : Room).cells ({ frames := 1, cells := 1, slots := 8, locals := 18 } : Room).slots) := by
  refine own_body (Q := fun v h L => Q_rmCp Z a1 k1 h0 n0 v h L) pn_6 ?_
  intro p e s m below meth c s₁ G X0 hx hZ hby hml hown hnm hrt e0 hG hF
  have hown : s.vm.findClass "java/util/Arrays" = some m.cls := hown
  have N0 := Fr.nil n0
  rw [ef_rmCp m a1 (8 : Int32)]
  show G (s₁.setTop (mkF m 0 #[oR a1, oI (8 : Int32), oU] []))
  refine hG _ (s₁.setTop (mkF m 2 #[oR a1, oI (8 : Int32), oU] [(.ref a1), (.int (8 : Int32))])) (fun t₀ k₀ => ?_) ?_
  · show Steps p.tables e below (s₁.setTop (mkF m 0 #[oR a1, oI (8 : Int32), oU] [])) t₀
    refine XS.iloadN X0.here hx rfl (hb hby d6_0) rfl ?_
    show Steps p.tables e below (s₁.setTop (mkF m 1 #[oR a1, oI (8 : Int32), oU] [(.int (8 : Int32))])) t₀
    refine XS.aloadN X0.here hx rfl (hb hby d6_1) rfl rfl ?_
    exact k₀
  have ov1 := V1
  obtain ⟨cl1, Ar1, q1, S1, N_1, H_1, G_1⟩ := ov1
  refine hG _ (s₁.setTop (mkF m 15 #[oR a1, oI (8 : Int32), oU] [(.int (8 : Int32))])) (fun t₀ k₀ => ?_) ?_
  · show Steps p.tables e below (s₁.setTop (mkF m 2 #[oR a1, oI (8 : Int32), oU] [(.ref a1), (.int (8 : Int32))])) t₀
    refine X0.arraylength hx (by rw [e0]; exact Ar1.1) (State.isArrayOf_alike hZ.alike Ar1.2.1) (g := (mkF m 2 #[oR a1, oI (8 : Int32), oU] [(.ref a1), (.int (8 : Int32))])) rfl rfl (hb hby d6_2) _ ?_
    rw [len_of S1 N_1]
    show Steps p.tables e below (s₁.setTop (mkF m 3 #[oR a1, oI (8 : Int32), oU] [(.int (0 : Int32)), (.int (8 : Int32))])) t₀
    refine XS.icmpYes X0.here hx rfl (pc0 := 3) (pc' := 14) rfl (hb hby d6_3) rfl (feq (by decide : ¬ ((8 : Int32) = (0 : Int32)))).2 (by decide) (by decide) ?_
    show Steps p.tables e below (s₁.setTop (mkF m 14 #[oR a1, oI (8 : Int32), oU] [])) t₀
    refine XS.iloadN X0.here hx rfl (hb hby d6_14) rfl ?_
    exact k₀
  obtain ⟨T2, h2, k2, X2, e2, E2, A2, st2⟩ := newP X0 hx hZ (hw _ (List.mem_of_getElem? (i := 47) rfl)) e0 (g := (mkF m 15 #[oR a1, oI (8 : Int32), oU] [(.int (8 : Int32))])) rfl (hb hby d6_15) rfl (by decide) (cap := 8) (by decide) (by decide) (by decide) (by decide)
  obtain ⟨ob2, g2⟩ : ∃ z, z = h0.size := ⟨_, rfl⟩
  rw [← g2] at A2 st2
  have g_ob2 : n0 ≤ ob2 := Nat.le_trans Z0 (Nat.le_of_eq g2.symm)
  have ne_a1_ob2 : a1 ≠ ob2 := Nat.ne_of_lt (Nat.lt_of_lt_of_le V1.lt (Nat.le_of_eq g2.symm))
  have kw_ob2 : h0.size ≤ ob2 := Nat.le_trans (Keep.refl h0 []).1 (Nat.le_of_eq g2.symm)
  have z_2 : n0 ≤ h2.size := Nat.le_trans Z0 E2.1
  have va1_x2 := V1.ext E2
  have k_x2 := (Keep.refl h0 []).ext E2
  have V_ob2 : Arv Z h2 ob2 k2 .long (8 : Int32) [(.long (0 : Int64)), (.long (0 : Int64)), (.long (0 : Int64)), (.long (0 : Int64)), (.long (0 : Int64)), (.long (0 : Int64)), (.long (0 : Int64)), (.long (0 : Int64))] (.long (0 : Int64)) := (Arv.new A2 (by decide)).pad (pad_rep [] (.long (0 : Int64)) 8)
  refine hG _ _ (fun t₀ k₀ => st2 _ k₀) ?_
  show G (T2.setTop (mkF m 17 #[oR a1, oI (8 : Int32), oU] [(.ref ob2)]))
  refine hG _ (T2.setTop (mkF m 23 #[oR a1, oI (8 : Int32), oR ob2] [(.ref a1), (.int (0 : Int32)), (.ref ob2), (.int (0 : Int32)), (.ref a1)])) (fun t₀ k₀ => ?_) ?_
  · show Steps p.tables e below (T2.setTop (mkF m 17 #[oR a1, oI (8 : Int32), oU] [(.ref ob2)])) t₀
    refine XS.astoreN X2.here hx rfl (hb hby d6_17) rfl rfl (l' := #[oR a1, oI (8 : Int32), oR ob2]) rfl ?_
    show Steps p.tables e below (T2.setTop (mkF m 18 #[oR a1, oI (8 : Int32), oR ob2] [])) t₀
    refine XS.aloadN X2.here hx rfl (hb hby d6_18) rfl rfl ?_
    show Steps p.tables e below (T2.setTop (mkF m 19 #[oR a1, oI (8 : Int32), oR ob2] [(.ref a1)])) t₀
    refine XS.iconst X2.here hx rfl (hb hby d6_19) ?_
    show Steps p.tables e below (T2.setTop (mkF m 20 #[oR a1, oI (8 : Int32), oR ob2] [(.int (0 : Int32)), (.ref a1)])) t₀
    refine XS.aloadN X2.here hx rfl (hb hby d6_20) rfl rfl ?_
    show Steps p.tables e below (T2.setTop (mkF m 21 #[oR a1, oI (8 : Int32), oR ob2] [(.ref ob2), (.int (0 : Int32)), (.ref a1)])) t₀
    refine XS.iconst X2.here hx rfl (hb hby d6_21) ?_
    show Steps p.tables e below (T2.setTop (mkF m 22 #[oR a1, oI (8 : Int32), oR ob2] [(.int (0 : Int32)), (.ref ob2), (.int (0 : Int32)), (.ref a1)])) t₀
    refine XS.aloadN X2.here hx rfl (hb hby d6_22) rfl rfl ?_
    exact k₀
  have ov3 := va1_x2
  obtain ⟨cl3, Ar3, q3, S3, N_3, H_3, G_3⟩ := ov3
  refine hG _ (T2.setTop (mkF m 25 #[oR a1, oI (8 : Int32), oR ob2] [(.int (8 : Int32)), (.int (0 : Int32)), (.int (0 : Int32)), (.ref ob2), (.int (0 : Int32)), (.ref a1)])) (fun t₀ k₀ => ?_) ?_
  · show Steps p.tables e below (T2.setTop (mkF m 23 #[oR a1, oI (8 : Int32), oR ob2] [(.ref a1), (.int (0 : Int32)), (.ref ob2), (.int (0 : Int32)), (.ref a1)])) t₀
    refine X2.arraylength hx (by rw [e2]; exact Ar3.1) (State.isArrayOf_alike hZ.alike Ar3.2.1) (g := (mkF m 23 #[oR a1, oI (8 : Int32), oR ob2] [(.ref a1), (.int (0 : Int32)), (.ref ob2), (.int (0 : Int32)), (.ref a1)])) rfl rfl (hb hby d6_23) _ ?_
    rw [len_of S3 N_3]
    show Steps p.tables e below (T2.setTop (mkF m 24 #[oR a1, oI (8 : Int32), oR ob2] [(.int (0 : Int32)), (.int (0 : Int32)), (.ref ob2), (.int (0 : Int32)), (.ref a1)])) t₀
    refine XS.iloadN X2.here hx rfl (hb hby d6_24) rfl ?_
    exact k₀
  obtain ⟨_, _, ⟨T4, L4, k4, n4⟩, -, X4, ⟨Lc4, hQ4, l4, y4, z4⟩, st4⟩ := Jvm.LawKit.callS X2 hx (y := (⟨"java/lang/Math", "min", "(II)I"⟩ : MethodName)) hown (mvT hZ (hw _ (List.mem_of_getElem? (i := 48) rfl))) (mvT hZ (hw _ (List.mem_of_getElem? (i := 49) rfl))) (mvT hZ (hw _ (List.mem_of_getElem? (i := 41) rfl))) (mvT hZ (hw _ (List.mem_of_getElem? (i := 50) rfl))) (by decide) (backOf (W := 4) (rmMin l Z a0 hw [] (0 : Int32) (8 : Int32) (0 : Int32) h2 n0 z_2 (by decide)) hZ (hw _ (List.mem_of_getElem? (i := 50) rfl)) (hw _ (List.mem_of_getElem? (i := 41) rfl)) (by decide) (by decide)) (g := (mkF m 25 #[oR a1, oI (8 : Int32), oR ob2] [(.int (8 : Int32)), (.int (0 : Int32)), (.int (0 : Int32)), (.ref ob2), (.int (0 : Int32)), (.ref a1)])) rfl (by rw [hml]; rfl) (argsL := [(.int (0 : Int32)), (.int (8 : Int32))]) (rest := [(.int (0 : Int32)), (.ref ob2), (.int (0 : Int32)), (.ref a1)]) (lenOf pd_2 rfl) rfl (by show 2 * 0 + _ ≤ _; exact Nat.le_of_eq rfl) (hb hby d6_25) (fun _ _ => ⟨rfl, e2, (by decide : 1 + 0 ≤ _), (by decide : 8 + 0 ≤ _)⟩)
  dsimp only [Pt.U, Pt.locs, Pt.cells, Pt.slots] at X4 l4 y4 z4 st4 hQ4
  subst l4 y4 z4
  obtain ⟨rfl, N4q, e4⟩ := hQ4
  have N4 := Fr.app N0 N4q
  refine hG _ _ (fun t₀ k₀ => st4 _ k₀) ?_
  show G (T4.setTop (mkF m 28 #[oR a1, oI (8 : Int32), oR ob2] [(.int (0 : Int32)), (.int (0 : Int32)), (.ref ob2), (.int (0 : Int32)), (.ref a1)]))
  obtain ⟨T5, h5, L5, X5, e5, N5, K5, V5, st5⟩ := cpA X4 hx hZ hown (hw _ (List.mem_of_getElem? (i := 51) rfl)) (hw _ (List.mem_of_getElem? (i := 54) rfl)) (hw _ (List.mem_of_getElem? (i := 52) rfl)) (hw _ (List.mem_of_getElem? (i := 53) rfl)) e4 va1_x2 V_ob2 (Or.inl ⟨rfl, rfl⟩) (by decide) (by decide) (by decide) (by decide) (by decide) (us := []) rfl (by decide) N4 g_ob2 (g := (mkF m 28 #[oR a1, oI (8 : Int32), oR ob2] [(.int (0 : Int32)), (.int (0 : Int32)), (.ref ob2), (.int (0 : Int32)), (.ref a1)])) rfl (by rw [hml]; rfl) rfl (hb hby d6_28) (by decide) (W := 0) (by show 2 * 0 + _ ≤ _; exact Nat.le_of_eq rfl) (by decide)
  have V5b : Arv Z h5 ob2 k2 .long (8 : Int32) [(.long (0 : Int64)), (.long (0 : Int64)), (.long (0 : Int64)), (.long (0 : Int64)), (.long (0 : Int64)), (.long (0 : Int64)), (.long (0 : Int64)), (.long (0 : Int64))] (.long (0 : Int64)) := V5
  have z_x5 := Nat.le_trans z_2 K5.1
  have va1_x5 := va1_x2.keep K5 (ninS ne_a1_ob2 nin0)
  have k_x5 := k_x2.trans K5 (allS (Or.inr kw_ob2) all0)
  refine hG _ _ (fun t₀ k₀ => st5 _ k₀) ?_
  show G (T5.setTop (mkF m 31 #[oR a1, oI (8 : Int32), oR ob2] []))
  refine hG _ (T5.setTop (mkF m 32 #[oR a1, oI (8 : Int32), oR ob2] [(.ref ob2)])) (fun t₀ k₀ => ?_) ?_
  · show Steps p.tables e below (T5.setTop (mkF m 31 #[oR a1, oI (8 : Int32), oR ob2] [])) t₀
    refine XS.aloadN X5.here hx rfl (hb hby d6_31) rfl rfl ?_
    exact k₀
  refine hF _ T5 _ _ _ (some (.ref ob2)) _ X5 e5 (fun h => by rw [hrt] at h; cases h) (by decide) (by decide) ?_ (fun fs hr => own_retA X5 hx hrt rfl rfl rfl (hb hby d6_32) hr)
  exact ⟨_, _, rfl, N5, k_x5, V5b, g_ob2, kw_ob2⟩
theorem d1_0 : decode prog_1_method_1_code 0 = .ok (.aload_n 0, 1) := by decide +kernel
theorem d1_1 : decode prog_1_method_1_code 1 = .ok (.invokespecial 1, 3) := by decide +kernel
theorem d1_4 : decode prog_1_method_1_code 4 = .ok (.aload_n 0, 1) := by decide +kernel
theorem d1_5 : decode prog_1_method_1_code 5 = .ok (.getstatic 7, 3) := by decide +kernel
theorem d1_8 : decode prog_1_method_1_code 8 = .ok (.putfield 13, 3) := by decide +kernel
theorem d1_11 : decode prog_1_method_1_code 11 = .ok (.aload_n 0, 1) := by decide +kernel
theorem d1_12 : decode prog_1_method_1_code 12 = .ok (.getstatic 7, 3) := by decide +kernel
theorem d1_15 : decode prog_1_method_1_code 15 = .ok (.putfield 16, 3) := by decide +kernel
theorem d1_18 : decode prog_1_method_1_code 18 = .ok (.aload_n 0, 1) := by decide +kernel
theorem d1_19 : decode prog_1_method_1_code 19 = .ok (.getstatic 7, 3) := by decide +kernel
theorem d1_22 : decode prog_1_method_1_code 22 = .ok (.putfield 19, 3) := by decide +kernel
theorem d1_25 : decode prog_1_method_1_code 25 = .ok (.aload_n 0, 1) := by decide +kernel
theorem d1_26 : decode prog_1_method_1_code 26 = .ok (.iconst (-1), 1) := by decide +kernel
theorem d1_27 : decode prog_1_method_1_code 27 = .ok (.putfield 22, 3) := by decide +kernel
theorem d1_30 : decode prog_1_method_1_code 30 = .ok (.aload_n 0, 1) := by decide +kernel
theorem d1_31 : decode prog_1_method_1_code 31 = .ok (.ldc2_w 28, 3) := by decide +kernel
theorem d1_34 : decode prog_1_method_1_code 34 = .ok (.putfield 30, 3) := by decide +kernel
theorem d1_37 : decode prog_1_method_1_code 37 = .ok (.aload_n 0, 1) := by decide +kernel
theorem d1_38 : decode prog_1_method_1_code 38 = .ok (.bipush 64, 2) := by decide +kernel
theorem d1_40 : decode prog_1_method_1_code 40 = .ok (.putfield 34, 3) := by decide +kernel
theorem d1_43 : decode prog_1_method_1_code 43 = .ok (.return_, 1) := by decide +kernel
theorem pn_1 : plainFor (⟨"com/example/opledger/opledger/AppendTimes", "<init>", "()V"⟩ : MethodName) = true := plainFor_of_name (by first | (simp [plainName, overriddenIn]; done) | decide +kernel)
theorem ef_rmI (m : MethodId) (x0 : Addr) : entryFrame m #[(.ref x0)] 1 = mkF m 0 #[oR x0] [] := by first | (simp [entryFrame, mkF, argsToLocals, Value.category]; done) | rfl
def Q_rmI (Z : State) (a1 wN : Addr) (kN : ClassId) (h0 : Heap) (n0 : Nat) (v : Option Value) (h : Heap) (L : List Loc) : Prop := v = none ∧ Fr n0 L ∧ Keep h0 h [a1] ∧ Fld Z h a1 "com/example/opledger/opledger/AppendTimes" "seqNos" "[J" (.ref wN) ∧ Fld Z h a1 "com/example/opledger/opledger/AppendTimes" "starts" "[J" (.ref wN) ∧ Fld Z h a1 "com/example/opledger/opledger/AppendTimes" "ends" "[J" (.ref wN) ∧ Fld Z h a1 "com/example/opledger/opledger/AppendTimes" "first" "I" (.int (0 : Int32)) ∧ Fld Z h a1 "com/example/opledger/opledger/AppendTimes" "last" "I" (.int (-1 : Int32)) ∧ Fld Z h a1 "com/example/opledger/opledger/AppendTimes" "maxSeqNo" "J" (.long (-1 : Int64)) ∧ Fld Z h a1 "com/example/opledger/opledger/AppendTimes" "mergeAt" "I" (.int (64 : Int32))
set_option maxRecDepth 65536 in
set_option maxHeartbeats 40000000 in
theorem rmI (l : Launch) (Z : State) (a0 : Array Value) (hw : ∀ d ∈ tables_1, d.before a0 Z = true) (ws : List Jvm.Cond) (a1 wN : Addr) (kN : ClassId) (h0 : Heap) (n0 : Nat) (Z0 : n0 ≤ h0.size) (O0 : Old Z n0 h0) (S_NO : Sta Z Z.heap "com/example/opledger/opledger/AppendTimes" "NO_ENTRIES" "[J" (.ref wN)) (VN : Arv Z Z.heap wN kN .long (0 : Int32) [] (.long (0 : Int64))) (E1 : Exa Z h0 a1 "com/example/opledger/opledger/AppendTimes") (g_a1 : n0 ≤ a1) (F_seqNos : Fld Z h0 a1 "com/example/opledger/opledger/AppendTimes" "seqNos" "[J" .null) (F_starts : Fld Z h0 a1 "com/example/opledger/opledger/AppendTimes" "starts" "[J" .null) (F_ends : Fld Z h0 a1 "com/example/opledger/opledger/AppendTimes" "ends" "[J" .null) (F_first : Fld Z h0 a1 "com/example/opledger/opledger/AppendTimes" "first" "I" (.int (0 : Int32))) (F_last : Fld Z h0 a1 "com/example/opledger/opledger/AppendTimes" "last" "I" (.int (0 : Int32))) (F_maxSeqNo : Fld Z h0 a1 "com/example/opledger/opledger/AppendTimes" "maxSeqNo" "J" (.long (0 : Int64))) (F_mergeAt : Fld Z h0 a1 "com/example/opledger/opledger/AppendTimes" "mergeAt" "I" (.int (0 : Int32))) :
    MetFree l (⟨"com/example/opledger/opledger/AppendTimes", "<init>", "()V"⟩ : MethodName) (head1 (Jvm.Cond.code (⟨"com/example/opledger/opledger/AppendTimes", "<init>", "()V"⟩ : MethodName) prog_1_method_1_code 1 none :: ws) ({ frames := 1, cells := 0, slots := 0, locals := 12 } : Room)) (fun a U => a = #[(.ref a1)] ∧ Z.Warmed39 U.vm ∧ U.heap = h0) (fun _ _ _ _ _ => True) (fun _ U o U' => ∃ v L, o = .returned v ∧ Q_rmI Z a1 wN kN h0 n0 v U'.heap L ∧ FrameEnd U o U' L ({ frames := 1, cells := 0, slots := 0, locals := 12 } : Room).cells ({ frames := 1, cells := 0, slots := 0, locals := 12 } : Room).slots) := by
  refine own_body (Q := fun v h L => Q_rmI Z a1 wN kN h0 n0 v h L) pn_1 ?_
  intro p e s m below meth c s₁ G X0 hx hZ hby hml hown hnm hrt e0 hG hF
  have hown : s.vm.findClass "com/example/opledger/opledger/AppendTimes" = some m.cls := hown
  have hnm : meth.name = "<init>" := hnm
  have N0 := Fr.nil n0
  rw [ef_rmI m a1]
  show G (s₁.setTop (mkF m 0 #[oR a1] []))
  refine hG _ (s₁.setTop (mkF m 1 #[oR a1] [(.ref a1)])) (fun t₀ k₀ => ?_) ?_
  · show Steps p.tables e below (s₁.setTop (mkF m 0 #[oR a1] [])) t₀
    refine XS.aloadN X0.here hx rfl (hb hby d1_0) rfl rfl ?_
    exact k₀
  obtain ⟨T1, X1, e1, st1⟩ := initO X0 hx hZ hown (hw _ (List.mem_of_getElem? (i := 10) rfl)) (hw _ (List.mem_of_getElem? (i := 11) rfl)) (hw _ (List.mem_of_getElem? (i := 12) rfl)) e0 (g := (mkF m 1 #[oR a1] [(.ref a1)])) rfl (by rw [hml]; rfl) rfl (hb hby d1_1) (by decide) (W := 0) (by show 2 * 0 + _ ≤ _; exact Nat.le_of_eq rfl) (by decide)
  refine hG _ _ (fun t₀ k₀ => st1 _ k₀) ?_
  show G (T1.setTop (mkF m 4 #[oR a1] []))
  refine hG _ (T1.setTop (mkF m 5 #[oR a1] [(.ref a1)])) (fun t₀ k₀ => ?_) ?_
  · show Steps p.tables e below (T1.setTop (mkF m 4 #[oR a1] [])) t₀
    refine XS.aloadN X1.here hx rfl (hb hby d1_4) rfl rfl ?_
    exact k₀
  obtain ⟨T2, X2, e2, st2⟩ := getS2 X1 hx hZ hown (host := "") (Or.inl (hw _ (List.mem_of_getElem? (i := 13) rfl))) Via.refl e1 (S_NO.ext O0.2) (g := (mkF m 5 #[oR a1] [(.ref a1)])) rfl (hb hby d1_5)
  refine hG _ _ (fun t₀ k₀ => st2 _ k₀) ?_
  show G (T2.setTop (mkF m 8 #[oR a1] [(.ref wN), (.ref a1)]))
  obtain ⟨T3, h3, X3, e3, W3, st3⟩ := putF X2 hx hZ hown (host := "") (Or.inl (hw _ (List.mem_of_getElem? (i := 15) rfl))) Via.refl e2 F_seqNos E1 (Or.inl (hw _ (List.mem_of_getElem? (i := 16) rfl))) (hw _ (List.mem_of_getElem? (i := 5) rfl)) (ty := (.array .long)) (by decide) rfl rfl (g := (mkF m 8 #[oR a1] [(.ref wN), (.ref a1)])) rfl rfl (hb hby d1_8)
  refine hG _ _ (fun t₀ k₀ => st3 _ k₀) ?_
  have N3 := Fr.snoc X3 N0 g_a1
  have o_x3 := O0.wr W3 g_a1
  have ea1_x3 := E1.wr W3
  have fa1_starts_x3 := F_starts.other W3 (Or.inr (slot_ne (Or.inl (hw _ (List.mem_of_getElem? (i := 18) rfl))) (Or.inl (hw _ (List.mem_of_getElem? (i := 16) rfl))) (by decide) (t := (.array .long)) (t' := (.array .long)) (by decide) (by decide)))
  have fa1_ends_x3 := F_ends.other W3 (Or.inr (slot_ne (Or.inl (hw _ (List.mem_of_getElem? (i := 20) rfl))) (Or.inl (hw _ (List.mem_of_getElem? (i := 16) rfl))) (by decide) (t := (.array .long)) (t' := (.array .long)) (by decide) (by decide)))
  have fa1_first_x3 := F_first.other W3 (Or.inr (slot_ne (Or.inl (hw _ (List.mem_of_getElem? (i := 34) rfl))) (Or.inl (hw _ (List.mem_of_getElem? (i := 16) rfl))) (by decide) (t := .int) (t' := (.array .long)) (by decide) (by decide)))
  have fa1_last_x3 := F_last.other W3 (Or.inr (slot_ne (Or.inl (hw _ (List.mem_of_getElem? (i := 22) rfl))) (Or.inl (hw _ (List.mem_of_getElem? (i := 16) rfl))) (by decide) (t := .int) (t' := (.array .long)) (by decide) (by decide)))
  have fa1_maxSeqNo_x3 := F_maxSeqNo.other W3 (Or.inr (slot_ne (Or.inl (hw _ (List.mem_of_getElem? (i := 25) rfl))) (Or.inl (hw _ (List.mem_of_getElem? (i := 16) rfl))) (by decide) (t := .long) (t' := (.array .long)) (by decide) (by decide)))
  have fa1_mergeAt_x3 := F_mergeAt.other W3 (Or.inr (slot_ne (Or.inl (hw _ (List.mem_of_getElem? (i := 27) rfl))) (Or.inl (hw _ (List.mem_of_getElem? (i := 16) rfl))) (by decide) (t := .int) (t' := (.array .long)) (by decide) (by decide)))
  have k_x3 := (Keep.refl h0 [a1]).wr W3 (Or.inl (List.mem_of_getElem? (i := 0) rfl))
  have z_3 : n0 ≤ h3.size := Nat.le_trans Z0 (Keep.of_wr W3).1
  have F3_seqNos := F_seqNos.same W3
  show G (T3.setTop (mkF m 11 #[oR a1] []))
  refine hG _ (T3.setTop (mkF m 12 #[oR a1] [(.ref a1)])) (fun t₀ k₀ => ?_) ?_
  · show Steps p.tables e below (T3.setTop (mkF m 11 #[oR a1] [])) t₀
    refine XS.aloadN X3.here hx rfl (hb hby d1_11) rfl rfl ?_
    exact k₀
  obtain ⟨T4, X4, e4, st4⟩ := getS2 X3 hx hZ hown (host := "") (Or.inl (hw _ (List.mem_of_getElem? (i := 13) rfl))) Via.refl e3 (S_NO.ext o_x3.2) (g := (mkF m 12 #[oR a1] [(.ref a1)])) rfl (hb hby d1_12)
  refine hG _ _ (fun t₀ k₀ => st4 _ k₀) ?_
  show G (T4.setTop (mkF m 15 #[oR a1] [(.ref wN), (.ref a1)]))
  obtain ⟨T5, h5, X5, e5, W5, st5⟩ := putF X4 hx hZ hown (host := "") (Or.inl (hw _ (List.mem_of_getElem? (i := 17) rfl))) Via.refl e4 fa1_starts_x3 ea1_x3 (Or.inl (hw _ (List.mem_of_getElem? (i := 18) rfl))) (hw _ (List.mem_of_getElem? (i := 5) rfl)) (ty := (.array .long)) (by decide) rfl rfl (g := (mkF m 15 #[oR a1] [(.ref wN), (.ref a1)])) rfl rfl (hb hby d1_15)
  refine hG _ _ (fun t₀ k₀ => st5 _ k₀) ?_
  have N5 := Fr.snoc X5 N3 g_a1
  have o_x5 := o_x3.wr W5 g_a1
  have ea1_x5 := ea1_x3.wr W5
  have fa1_seqNos_x5 := F3_seqNos.other W5 (Or.inr (slot_ne (Or.inl (hw _ (List.mem_of_getElem? (i := 16) rfl))) (Or.inl (hw _ (List.mem_of_getElem? (i := 18) rfl))) (by decide) (t := (.array .long)) (t' := (.array .long)) (by decide) (by decide)))
  have fa1_ends_x5 := fa1_ends_x3.other W5 (Or.inr (slot_ne (Or.inl (hw _ (List.mem_of_getElem? (i := 20) rfl))) (Or.inl (hw _ (List.mem_of_getElem? (i := 18) rfl))) (by decide) (t := (.array .long)) (t' := (.array .long)) (by decide) (by decide)))
  have fa1_first_x5 := fa1_first_x3.other W5 (Or.inr (slot_ne (Or.inl (hw _ (List.mem_of_getElem? (i := 34) rfl))) (Or.inl (hw _ (List.mem_of_getElem? (i := 18) rfl))) (by decide) (t := .int) (t' := (.array .long)) (by decide) (by decide)))
  have fa1_last_x5 := fa1_last_x3.other W5 (Or.inr (slot_ne (Or.inl (hw _ (List.mem_of_getElem? (i := 22) rfl))) (Or.inl (hw _ (List.mem_of_getElem? (i := 18) rfl))) (by decide) (t := .int) (t' := (.array .long)) (by decide) (by decide)))
  have fa1_maxSeqNo_x5 := fa1_maxSeqNo_x3.other W5 (Or.inr (slot_ne (Or.inl (hw _ (List.mem_of_getElem? (i := 25) rfl))) (Or.inl (hw _ (List.mem_of_getElem? (i := 18) rfl))) (by decide) (t := .long) (t' := (.array .long)) (by decide) (by decide)))
  have fa1_mergeAt_x5 := fa1_mergeAt_x3.other W5 (Or.inr (slot_ne (Or.inl (hw _ (List.mem_of_getElem? (i := 27) rfl))) (Or.inl (hw _ (List.mem_of_getElem? (i := 18) rfl))) (by decide) (t := .int) (t' := (.array .long)) (by decide) (by decide)))
  have k_x5 := k_x3.wr W5 (Or.inl (List.mem_of_getElem? (i := 0) rfl))
  have z_5 : n0 ≤ h5.size := Nat.le_trans z_3 (Keep.of_wr W5).1
  have F5_starts := fa1_starts_x3.same W5
  show G (T5.setTop (mkF m 18 #[oR a1] []))
  refine hG _ (T5.setTop (mkF m 19 #[oR a1] [(.ref a1)])) (fun t₀ k₀ => ?_) ?_
  · show Steps p.tables e below (T5.setTop (mkF m 18 #[oR a1] [])) t₀
    refine XS.aloadN X5.here hx rfl (hb hby d1_18) rfl rfl ?_
    exact k₀
  obtain ⟨T6, X6, e6, st6⟩ := getS2 X5 hx hZ hown (host := "") (Or.inl (hw _ (List.mem_of_getElem? (i := 13) rfl))) Via.refl e5 (S_NO.ext o_x5.2) (g := (mkF m 19 #[oR a1] [(.ref a1)])) rfl (hb hby d1_19)
  refine hG _ _ (fun t₀ k₀ => st6 _ k₀) ?_
  show G (T6.setTop (mkF m 22 #[oR a1] [(.ref wN), (.ref a1)]))
  obtain ⟨T7, h7, X7, e7, W7, st7⟩ := putF X6 hx hZ hown (host := "") (Or.inl (hw _ (List.mem_of_getElem? (i := 19) rfl))) Via.refl e6 fa1_ends_x5 ea1_x5 (Or.inl (hw _ (List.mem_of_getElem? (i := 20) rfl))) (hw _ (List.mem_of_getElem? (i := 5) rfl)) (ty := (.array .long)) (by decide) rfl rfl (g := (mkF m 22 #[oR a1] [(.ref wN), (.ref a1)])) rfl rfl (hb hby d1_22)
  refine hG _ _ (fun t₀ k₀ => st7 _ k₀) ?_
  have N7 := Fr.snoc X7 N5 g_a1
  have o_x7 := o_x5.wr W7 g_a1
  have ea1_x7 := ea1_x5.wr W7
  have fa1_seqNos_x7 := fa1_seqNos_x5.other W7 (Or.inr (slot_ne (Or.inl (hw _ (List.mem_of_getElem? (i := 16) rfl))) (Or.inl (hw _ (List.mem_of_getElem? (i := 20) rfl))) (by decide) (t := (.array .long)) (t' := (.array .long)) (by decide) (by decide)))
  have fa1_starts_x7 := F5_starts.other W7 (Or.inr (slot_ne (Or.inl (hw _ (List.mem_of_getElem? (i := 18) rfl))) (Or.inl (hw _ (List.mem_of_getElem? (i := 20) rfl))) (by decide) (t := (.array .long)) (t' := (.array .long)) (by decide) (by decide)))
  have fa1_first_x7 := fa1_first_x5.other W7 (Or.inr (slot_ne (Or.inl (hw _ (List.mem_of_getElem? (i := 34) rfl))) (Or.inl (hw _ (List.mem_of_getElem? (i := 20) rfl))) (by decide) (t := .int) (t' := (.array .long)) (by decide) (by decide)))
  have fa1_last_x7 := fa1_last_x5.other W7 (Or.inr (slot_ne (Or.inl (hw _ (List.mem_of_getElem? (i := 22) rfl))) (Or.inl (hw _ (List.mem_of_getElem? (i := 20) rfl))) (by decide) (t := .int) (t' := (.array .long)) (by decide) (by decide)))
  have fa1_maxSeqNo_x7 := fa1_maxSeqNo_x5.other W7 (Or.inr (slot_ne (Or.inl (hw _ (List.mem_of_getElem? (i := 25) rfl))) (Or.inl (hw _ (List.mem_of_getElem? (i := 20) rfl))) (by decide) (t := .long) (t' := (.array .long)) (by decide) (by decide)))
  have fa1_mergeAt_x7 := fa1_mergeAt_x5.other W7 (Or.inr (slot_ne (Or.inl (hw _ (List.mem_of_getElem? (i := 27) rfl))) (Or.inl (hw _ (List.mem_of_getElem? (i := 20) rfl))) (by decide) (t := .int) (t' := (.array .long)) (by decide) (by decide)))
  have k_x7 := k_x5.wr W7 (Or.inl (List.mem_of_getElem? (i := 0) rfl))
  have z_7 : n0 ≤ h7.size := Nat.le_trans z_5 (Keep.of_wr W7).1
  have F7_ends := fa1_ends_x5.same W7
  show G (T7.setTop (mkF m 25 #[oR a1] []))
  refine hG _ (T7.setTop (mkF m 27 #[oR a1] [(.int (-1 : Int32)), (.ref a1)])) (fun t₀ k₀ => ?_) ?_
  · show Steps p.tables e below (T7.setTop (mkF m 25 #[oR a1] [])) t₀
    refine XS.aloadN X7.here hx rfl (hb hby d1_25) rfl rfl ?_
    show Steps p.tables e below (T7.setTop (mkF m 26 #[oR a1] [(.ref a1)])) t₀
    refine XS.iconst X7.here hx rfl (hb hby d1_26) ?_
    exact k₀
  obtain ⟨T8, h8, X8, e8, W8, st8⟩ := putF X7 hx hZ hown (host := "") (Or.inl (hw _ (List.mem_of_getElem? (i := 21) rfl))) Via.refl e7 fa1_last_x7 ea1_x7 (Or.inl (hw _ (List.mem_of_getElem? (i := 22) rfl))) (hw _ (List.mem_of_getElem? (i := 5) rfl)) (ty := .int) (by decide) rfl rfl (g := (mkF m 27 #[oR a1] [(.int (-1 : Int32)), (.ref a1)])) rfl rfl (hb hby d1_27)
  refine hG _ _ (fun t₀ k₀ => st8 _ k₀) ?_
  have N8 := Fr.snoc X8 N7 g_a1
  have o_x8 := o_x7.wr W8 g_a1
  have ea1_x8 := ea1_x7.wr W8
  have fa1_seqNos_x8 := fa1_seqNos_x7.other W8 (Or.inr (slot_ne (Or.inl (hw _ (List.mem_of_getElem? (i := 16) rfl))) (Or.inl (hw _ (List.mem_of_getElem? (i := 22) rfl))) (by decide) (t := (.array .long)) (t' := .int) (by decide) (by decide)))
  have fa1_starts_x8 := fa1_starts_x7.other W8 (Or.inr (slot_ne (Or.inl (hw _ (List.mem_of_getElem? (i := 18) rfl))) (Or.inl (hw _ (List.mem_of_getElem? (i := 22) rfl))) (by decide) (t := (.array .long)) (t' := .int) (by decide) (by decide)))
  have fa1_ends_x8 := F7_ends.other W8 (Or.inr (slot_ne (Or.inl (hw _ (List.mem_of_getElem? (i := 20) rfl))) (Or.inl (hw _ (List.mem_of_getElem? (i := 22) rfl))) (by decide) (t := (.array .long)) (t' := .int) (by decide) (by decide)))
  have fa1_first_x8 := fa1_first_x7.other W8 (Or.inr (slot_ne (Or.inl (hw _ (List.mem_of_getElem? (i := 34) rfl))) (Or.inl (hw _ (List.mem_of_getElem? (i := 22) rfl))) (by decide) (t := .int) (t' := .int) (by decide) (by decide)))
  have fa1_maxSeqNo_x8 := fa1_maxSeqNo_x7.other W8 (Or.inr (slot_ne (Or.inl (hw _ (List.mem_of_getElem? (i := 25) rfl))) (Or.inl (hw _ (List.mem_of_getElem? (i := 22) rfl))) (by decide) (t := .long) (t' := .int) (by decide) (by decide)))
  have fa1_mergeAt_x8 := fa1_mergeAt_x7.other W8 (Or.inr (slot_ne (Or.inl (hw _ (List.mem_of_getElem? (i := 27) rfl))) (Or.inl (hw _ (List.mem_of_getElem? (i := 22) rfl))) (by decide) (t := .int) (t' := .int) (by decide) (by decide)))
  have k_x8 := k_x7.wr W8 (Or.inl (List.mem_of_getElem? (i := 0) rfl))
  have z_8 : n0 ≤ h8.size := Nat.le_trans z_7 (Keep.of_wr W8).1
  have F8_last := fa1_last_x7.same W8
  show G (T8.setTop (mkF m 30 #[oR a1] []))
  refine hG _ (T8.setTop (mkF m 34 #[oR a1] [(.long (-1 : Int64)), (.ref a1)])) (fun t₀ k₀ => ?_) ?_
  · show Steps p.tables e below (T8.setTop (mkF m 30 #[oR a1] [])) t₀
    refine XS.aloadN X8.here hx rfl (hb hby d1_30) rfl rfl ?_
    show Steps p.tables e below (T8.setTop (mkF m 31 #[oR a1] [(.ref a1)])) t₀
    refine X8.ldc2Long hx hown (mvT hZ (hw _ (List.mem_of_getElem? (i := 23) rfl))) (g := (mkF m 31 #[oR a1] [(.ref a1)])) rfl (hb hby d1_31) _ ?_
    exact k₀
  obtain ⟨T9, h9, X9, e9, W9, st9⟩ := putF X8 hx hZ hown (host := "") (Or.inl (hw _ (List.mem_of_getElem? (i := 24) rfl))) Via.refl e8 fa1_maxSeqNo_x8 ea1_x8 (Or.inl (hw _ (List.mem_of_getElem? (i := 25) rfl))) (hw _ (List.mem_of_getElem? (i := 5) rfl)) (ty := .long) (by decide) rfl rfl (g := (mkF m 34 #[oR a1] [(.long (-1 : Int64)), (.ref a1)])) rfl rfl (hb hby d1_34)
  refine hG _ _ (fun t₀ k₀ => st9 _ k₀) ?_
  have N9 := Fr.snoc X9 N8 g_a1
  have o_x9 := o_x8.wr W9 g_a1
  have ea1_x9 := ea1_x8.wr W9
  have fa1_seqNos_x9 := fa1_seqNos_x8.other W9 (Or.inr (slot_ne (Or.inl (hw _ (List.mem_of_getElem? (i := 16) rfl))) (Or.inl (hw _ (List.mem_of_getElem? (i := 25) rfl))) (by decide) (t := (.array .long)) (t' := .long) (by decide) (by decide)))
  have fa1_starts_x9 := fa1_starts_x8.other W9 (Or.inr (slot_ne (Or.inl (hw _ (List.mem_of_getElem? (i := 18) rfl))) (Or.inl (hw _ (List.mem_of_getElem? (i := 25) rfl))) (by decide) (t := (.array .long)) (t' := .long) (by decide) (by decide)))
  have fa1_ends_x9 := fa1_ends_x8.other W9 (Or.inr (slot_ne (Or.inl (hw _ (List.mem_of_getElem? (i := 20) rfl))) (Or.inl (hw _ (List.mem_of_getElem? (i := 25) rfl))) (by decide) (t := (.array .long)) (t' := .long) (by decide) (by decide)))
  have fa1_first_x9 := fa1_first_x8.other W9 (Or.inr (slot_ne (Or.inl (hw _ (List.mem_of_getElem? (i := 34) rfl))) (Or.inl (hw _ (List.mem_of_getElem? (i := 25) rfl))) (by decide) (t := .int) (t' := .long) (by decide) (by decide)))
  have fa1_last_x9 := F8_last.other W9 (Or.inr (slot_ne (Or.inl (hw _ (List.mem_of_getElem? (i := 22) rfl))) (Or.inl (hw _ (List.mem_of_getElem? (i := 25) rfl))) (by decide) (t := .int) (t' := .long) (by decide) (by decide)))
  have fa1_mergeAt_x9 := fa1_mergeAt_x8.other W9 (Or.inr (slot_ne (Or.inl (hw _ (List.mem_of_getElem? (i := 27) rfl))) (Or.inl (hw _ (List.mem_of_getElem? (i := 25) rfl))) (by decide) (t := .int) (t' := .long) (by decide) (by decide)))
  have k_x9 := k_x8.wr W9 (Or.inl (List.mem_of_getElem? (i := 0) rfl))
  have z_9 : n0 ≤ h9.size := Nat.le_trans z_8 (Keep.of_wr W9).1
  have F9_maxSeqNo := fa1_maxSeqNo_x8.same W9
  show G (T9.setTop (mkF m 37 #[oR a1] []))
  refine hG _ (T9.setTop (mkF m 40 #[oR a1] [(.int (64 : Int32)), (.ref a1)])) (fun t₀ k₀ => ?_) ?_
  · show Steps p.tables e below (T9.setTop (mkF m 37 #[oR a1] [])) t₀
    refine XS.aloadN X9.here hx rfl (hb hby d1_37) rfl rfl ?_
    show Steps p.tables e below (T9.setTop (mkF m 38 #[oR a1] [(.ref a1)])) t₀
    refine XS.bipush X9.here hx rfl (hb hby d1_38) ?_
    exact k₀
  obtain ⟨T10, h10, X10, e10, W10, st10⟩ := putF X9 hx hZ hown (host := "") (Or.inl (hw _ (List.mem_of_getElem? (i := 26) rfl))) Via.refl e9 fa1_mergeAt_x9 ea1_x9 (Or.inl (hw _ (List.mem_of_getElem? (i := 27) rfl))) (hw _ (List.mem_of_getElem? (i := 5) rfl)) (ty := .int) (by decide) rfl rfl (g := (mkF m 40 #[oR a1] [(.int (64 : Int32)), (.ref a1)])) rfl rfl (hb hby d1_40)
  refine hG _ _ (fun t₀ k₀ => st10 _ k₀) ?_
  have N10 := Fr.snoc X10 N9 g_a1
  have o_x10 := o_x9.wr W10 g_a1
  have ea1_x10 := ea1_x9.wr W10
  have fa1_seqNos_x10 := fa1_seqNos_x9.other W10 (Or.inr (slot_ne (Or.inl (hw _ (List.mem_of_getElem? (i := 16) rfl))) (Or.inl (hw _ (List.mem_of_getElem? (i := 27) rfl))) (by decide) (t := (.array .long)) (t' := .int) (by decide) (by decide)))
  have fa1_starts_x10 := fa1_starts_x9.other W10 (Or.inr (slot_ne (Or.inl (hw _ (List.mem_of_getElem? (i := 18) rfl))) (Or.inl (hw _ (List.mem_of_getElem? (i := 27) rfl))) (by decide) (t := (.array .long)) (t' := .int) (by decide) (by decide)))
  have fa1_ends_x10 := fa1_ends_x9.other W10 (Or.inr (slot_ne (Or.inl (hw _ (List.mem_of_getElem? (i := 20) rfl))) (Or.inl (hw _ (List.mem_of_getElem? (i := 27) rfl))) (by decide) (t := (.array .long)) (t' := .int) (by decide) (by decide)))
  have fa1_first_x10 := fa1_first_x9.other W10 (Or.inr (slot_ne (Or.inl (hw _ (List.mem_of_getElem? (i := 34) rfl))) (Or.inl (hw _ (List.mem_of_getElem? (i := 27) rfl))) (by decide) (t := .int) (t' := .int) (by decide) (by decide)))
  have fa1_last_x10 := fa1_last_x9.other W10 (Or.inr (slot_ne (Or.inl (hw _ (List.mem_of_getElem? (i := 22) rfl))) (Or.inl (hw _ (List.mem_of_getElem? (i := 27) rfl))) (by decide) (t := .int) (t' := .int) (by decide) (by decide)))
  have fa1_maxSeqNo_x10 := F9_maxSeqNo.other W10 (Or.inr (slot_ne (Or.inl (hw _ (List.mem_of_getElem? (i := 25) rfl))) (Or.inl (hw _ (List.mem_of_getElem? (i := 27) rfl))) (by decide) (t := .long) (t' := .int) (by decide) (by decide)))
  have k_x10 := k_x9.wr W10 (Or.inl (List.mem_of_getElem? (i := 0) rfl))
  have z_10 : n0 ≤ h10.size := Nat.le_trans z_9 (Keep.of_wr W10).1
  have F10_mergeAt := fa1_mergeAt_x9.same W10
  show G (T10.setTop (mkF m 43 #[oR a1] []))
  refine hF _ T10 _ _ _ none _ X10 e10 (fun _ => rfl) (by decide) (by decide) ?_ (fun fs hr => X10.returnOut hx hrt (hb hby d1_43) hr)
  exact ⟨rfl, N10, k_x10, fa1_seqNos_x10, fa1_starts_x10, fa1_ends_x10, fa1_first_x10, fa1_last_x10, fa1_maxSeqNo_x10, F10_mergeAt⟩
theorem d4_0 : decode prog_1_method_3_code 0 = .ok (.aload_n 0, 1) := by decide +kernel
theorem d4_1 : decode prog_1_method_3_code 1 = .ok (.getfield 37, 3) := by decide +kernel
theorem d4_4 : decode prog_1_method_3_code 4 = .ok (.ifCond .le 21, 3) := by decide +kernel
theorem d4_7 : decode prog_1_method_3_code 7 = .ok (.aload_n 0, 1) := by decide +kernel
theorem d4_8 : decode prog_1_method_3_code 8 = .ok (.getfield 22, 3) := by decide +kernel
theorem d4_11 : decode prog_1_method_3_code 11 = .ok (.iconst 1, 1) := by decide +kernel
theorem d4_12 : decode prog_1_method_3_code 12 = .ok (.iadd, 1) := by decide +kernel
theorem d4_13 : decode prog_1_method_3_code 13 = .ok (.aload_n 0, 1) := by decide +kernel
theorem d4_14 : decode prog_1_method_3_code 14 = .ok (.getfield 13, 3) := by decide +kernel
theorem d4_17 : decode prog_1_method_3_code 17 = .ok (.arraylength, 1) := by decide +kernel
theorem d4_18 : decode prog_1_method_3_code 18 = .ok (.if_icmp .ne 7, 3) := by decide +kernel
theorem d4_21 : decode prog_1_method_3_code 21 = .ok (.aload_n 0, 1) := by decide +kernel
theorem d4_22 : decode prog_1_method_3_code 22 = .ok (.invokevirtual 50, 3) := by decide +kernel
theorem d4_25 : decode prog_1_method_3_code 25 = .ok (.aload_n 0, 1) := by decide +kernel
theorem d4_26 : decode prog_1_method_3_code 26 = .ok (.getfield 22, 3) := by decide +kernel
theorem d4_29 : decode prog_1_method_3_code 29 = .ok (.iconst 1, 1) := by decide +kernel
theorem d4_30 : decode prog_1_method_3_code 30 = .ok (.iadd, 1) := by decide +kernel
theorem d4_31 : decode prog_1_method_3_code 31 = .ok (.aload_n 0, 1) := by decide +kernel
theorem d4_32 : decode prog_1_method_3_code 32 = .ok (.getfield 13, 3) := by decide +kernel
theorem d4_35 : decode prog_1_method_3_code 35 = .ok (.arraylength, 1) := by decide +kernel
theorem d4_36 : decode prog_1_method_3_code 36 = .ok (.if_icmp .ne 56, 3) := by decide +kernel
theorem d4_39 : decode prog_1_method_3_code 39 = .ok (.bipush 8, 2) := by decide +kernel
theorem d4_41 : decode prog_1_method_3_code 41 = .ok (.aload_n 0, 1) := by decide +kernel
theorem d4_42 : decode prog_1_method_3_code 42 = .ok (.getfield 13, 3) := by decide +kernel
theorem d4_45 : decode prog_1_method_3_code 45 = .ok (.arraylength, 1) := by decide +kernel
theorem d4_46 : decode prog_1_method_3_code 46 = .ok (.iconst 2, 1) := by decide +kernel
theorem d4_47 : decode prog_1_method_3_code 47 = .ok (.imul, 1) := by decide +kernel
theorem d4_48 : decode prog_1_method_3_code 48 = .ok (.invokestatic 53, 3) := by decide +kernel
theorem d4_51 : decode prog_1_method_3_code 51 = .ok (.istore 5, 2) := by decide +kernel
theorem d4_53 : decode prog_1_method_3_code 53 = .ok (.aload_n 0, 1) := by decide +kernel
theorem d4_54 : decode prog_1_method_3_code 54 = .ok (.aload_n 0, 1) := by decide +kernel
theorem d4_55 : decode prog_1_method_3_code 55 = .ok (.getfield 13, 3) := by decide +kernel
theorem d4_58 : decode prog_1_method_3_code 58 = .ok (.iload 5, 2) := by decide +kernel
theorem d4_60 : decode prog_1_method_3_code 60 = .ok (.invokestatic 59, 3) := by decide +kernel
theorem d4_63 : decode prog_1_method_3_code 63 = .ok (.putfield 13, 3) := by decide +kernel
theorem d4_66 : decode prog_1_method_3_code 66 = .ok (.aload_n 0, 1) := by decide +kernel
theorem d4_67 : decode prog_1_method_3_code 67 = .ok (.aload_n 0, 1) := by decide +kernel
theorem d4_68 : decode prog_1_method_3_code 68 = .ok (.getfield 16, 3) := by decide +kernel
theorem d4_71 : decode prog_1_method_3_code 71 = .ok (.iload 5, 2) := by decide +kernel
theorem d4_73 : decode prog_1_method_3_code 73 = .ok (.invokestatic 59, 3) := by decide +kernel
theorem d4_76 : decode prog_1_method_3_code 76 = .ok (.putfield 16, 3) := by decide +kernel
theorem d4_79 : decode prog_1_method_3_code 79 = .ok (.aload_n 0, 1) := by decide +kernel
theorem d4_80 : decode prog_1_method_3_code 80 = .ok (.aload_n 0, 1) := by decide +kernel
theorem d4_81 : decode prog_1_method_3_code 81 = .ok (.getfield 19, 3) := by decide +kernel
theorem d4_84 : decode prog_1_method_3_code 84 = .ok (.iload 5, 2) := by decide +kernel
theorem d4_86 : decode prog_1_method_3_code 86 = .ok (.invokestatic 59, 3) := by decide +kernel
theorem d4_89 : decode prog_1_method_3_code 89 = .ok (.putfield 19, 3) := by decide +kernel
theorem d4_92 : decode prog_1_method_3_code 92 = .ok (.aload_n 0, 1) := by decide +kernel
theorem d4_93 : decode prog_1_method_3_code 93 = .ok (.dup, 1) := by decide +kernel
theorem d4_94 : decode prog_1_method_3_code 94 = .ok (.getfield 22, 3) := by decide +kernel
theorem d4_97 : decode prog_1_method_3_code 97 = .ok (.iconst 1, 1) := by decide +kernel
theorem d4_98 : decode prog_1_method_3_code 98 = .ok (.iadd, 1) := by decide +kernel
theorem d4_99 : decode prog_1_method_3_code 99 = .ok (.putfield 22, 3) := by decide +kernel
theorem d4_102 : decode prog_1_method_3_code 102 = .ok (.aload_n 0, 1) := by decide +kernel
theorem d4_103 : decode prog_1_method_3_code 103 = .ok (.getfield 13, 3) := by decide +kernel
theorem d4_106 : decode prog_1_method_3_code 106 = .ok (.aload_n 0, 1) := by decide +kernel
theorem d4_107 : decode prog_1_method_3_code 107 = .ok (.getfield 22, 3) := by decide +kernel
theorem d4_110 : decode prog_1_method_3_code 110 = .ok (.lload_n 1, 1) := by decide +kernel
theorem d4_111 : decode prog_1_method_3_code 111 = .ok (.lastore, 1) := by decide +kernel
theorem d4_112 : decode prog_1_method_3_code 112 = .ok (.aload_n 0, 1) := by decide +kernel
theorem d4_113 : decode prog_1_method_3_code 113 = .ok (.getfield 16, 3) := by decide +kernel
theorem d4_116 : decode prog_1_method_3_code 116 = .ok (.aload_n 0, 1) := by decide +kernel
theorem d4_117 : decode prog_1_method_3_code 117 = .ok (.getfield 22, 3) := by decide +kernel
theorem d4_120 : decode prog_1_method_3_code 120 = .ok (.lload_n 3, 1) := by decide +kernel
theorem d4_121 : decode prog_1_method_3_code 121 = .ok (.lastore, 1) := by decide +kernel
theorem d4_122 : decode prog_1_method_3_code 122 = .ok (.aload_n 0, 1) := by decide +kernel
theorem d4_123 : decode prog_1_method_3_code 123 = .ok (.getfield 19, 3) := by decide +kernel
theorem d4_126 : decode prog_1_method_3_code 126 = .ok (.aload_n 0, 1) := by decide +kernel
theorem d4_127 : decode prog_1_method_3_code 127 = .ok (.getfield 22, 3) := by decide +kernel
theorem d4_130 : decode prog_1_method_3_code 130 = .ok (.lload_n 3, 1) := by decide +kernel
theorem d4_131 : decode prog_1_method_3_code 131 = .ok (.lastore, 1) := by decide +kernel
theorem d4_132 : decode prog_1_method_3_code 132 = .ok (.return_, 1) := by decide +kernel
theorem pn_4 : plainFor (⟨"com/example/opledger/opledger/AppendTimes", "add", "(JJ)V"⟩ : MethodName) = true := plainFor_of_name (by first | (simp [plainName, overriddenIn]; done) | decide +kernel)
theorem ef_rmAA (m : MethodId) (x0 : Addr) (x1 : Int64) (x2 : Int64) : entryFrame m #[(.ref x0), (.long x1), (.long x2)] 6 = mkF m 0 #[oR x0, oJ x1, oS, oJ x2, oS, oU] [] := by first | (simp [entryFrame, mkF, argsToLocals, Value.category]; done) | rfl
def Q_rmAA (Z : State) (a1 : Addr) (u w mx : Int64) (wN : Addr) (kN : ClassId) (h0 : Heap) (n0 : Nat) (v : Option Value) (h : Heap) (L : List Loc) : Prop := ∃ wS kS wT kT wE kE, v = none ∧ Fr n0 L ∧ Keep h0 h [a1] ∧ n0 ≤ wS ∧ n0 ≤ wT ∧ n0 ≤ wE ∧ a1 ≠ wS ∧ a1 ≠ wT ∧ a1 ≠ wE ∧ wS ≠ wT ∧ wS ≠ wE ∧ wT ≠ wE ∧ Fld Z h a1 "com/example/opledger/opledger/AppendTimes" "seqNos" "[J" (.ref wS) ∧ Fld Z h a1 "com/example/opledger/opledger/AppendTimes" "starts" "[J" (.ref wT) ∧ Fld Z h a1 "com/example/opledger/opledger/AppendTimes" "ends" "[J" (.ref wE) ∧ Fld Z h a1 "com/example/opledger/opledger/AppendTimes" "first" "I" (.int (0 : Int32)) ∧ Fld Z h a1 "com/example/opledger/opledger/AppendTimes" "last" "I" (.int (0 : Int32)) ∧ Fld Z h a1 "com/example/opledger/opledger/AppendTimes" "maxSeqNo" "J" (.long mx) ∧ Fld Z h a1 "com/example/opledger/opledger/AppendTimes" "mergeAt" "I" (.int (64 : Int32)) ∧ Arv Z h wS kS .long (8 : Int32) [(.long u), (.long (0 : Int64)), (.long (0 : Int64)), (.long (0 : Int64)), (.long (0 : Int64)), (.long (0 : Int64)), (.long (0 : Int64)), (.long (0 : Int64))] (.long (0 : Int64)) ∧ Arv Z h wT kT .long (8 : Int32) [(.long w), (.long (0 : Int64)), (.long (0 : Int64)), (.long (0 : Int64)), (.long (0 : Int64)), (.long (0 : Int64)), (.long (0 : Int64)), (.long (0 : Int64))] (.long (0 : Int64)) ∧ Arv Z h wE kE .long (8 : Int32) [(.long w), (.long (0 : Int64)), (.long (0 : Int64)), (.long (0 : Int64)), (.long (0 : Int64)), (.long (0 : Int64)), (.long (0 : Int64)), (.long (0 : Int64))] (.long (0 : Int64))
set_option maxRecDepth 65536 in
set_option maxHeartbeats 40000000 in
theorem rmAA (l : Launch) (Z : State) (a0 : Array Value) (hw : ∀ d ∈ tables_1, d.before a0 Z = true) (ws : List Jvm.Cond) (a1 : Addr) (u w mx : Int64) (wN : Addr) (kN : ClassId) (h0 : Heap) (n0 : Nat) (Z0 : n0 ≤ h0.size) (O0 : Old Z n0 h0) (S_NO : Sta Z Z.heap "com/example/opledger/opledger/AppendTimes" "NO_ENTRIES" "[J" (.ref wN)) (VN : Arv Z Z.heap wN kN .long (0 : Int32) [] (.long (0 : Int64))) (E1 : Exa Z h0 a1 "com/example/opledger/opledger/AppendTimes") (F_seqNos : Fld Z h0 a1 "com/example/opledger/opledger/AppendTimes" "seqNos" "[J" (.ref wN)) (F_starts : Fld Z h0 a1 "com/example/opledger/opledger/AppendTimes" "starts" "[J" (.ref wN)) (F_ends : Fld Z h0 a1 "com/example/opledger/opledger/AppendTimes" "ends" "[J" (.ref wN)) (F_first : Fld Z h0 a1 "com/example/opledger/opledger/AppendTimes" "first" "I" (.int (0 : Int32))) (F_last : Fld Z h0 a1 "com/example/opledger/opledger/AppendTimes" "last" "I" (.int (-1 : Int32))) (F_maxSeqNo : Fld Z h0 a1 "com/example/opledger/opledger/AppendTimes" "maxSeqNo" "J" (.long mx)) (F_mergeAt : Fld Z h0 a1 "com/example/opledger/opledger/AppendTimes" "mergeAt" "I" (.int (64 : Int32))) (g_a1 : n0 ≤ a1) :
    MetFree l (⟨"com/example/opledger/opledger/AppendTimes", "add", "(JJ)V"⟩ : MethodName) (head1 (Jvm.Cond.code (⟨"com/example/opledger/opledger/AppendTimes", "add", "(JJ)V"⟩ : MethodName) prog_1_method_3_code 6 none :: ws) ({ frames := 2, cells := 3, slots := 24, locals := 33 } : Room)) (fun a U => a = #[(.ref a1), (.long u), (.long w)] ∧ Z.Warmed39 U.vm ∧ U.heap = h0) (fun _ _ _ _ _ => True) (fun _ U o U' => ∃ v L, o = .returned v ∧ Q_rmAA Z a1 u w mx wN kN h0 n0 v U'.heap L ∧ FrameEnd U o U' L ({ frames := 2, cells := 3, slots := 24, locals := 33 } : Room).cells ({ frames := 2, cells := 3, slots := 24, locals := 33 } : Room).slots) := by
  refine own_body (Q := fun v h L => Q_rmAA Z a1 u w mx wN kN h0 n0 v h L) pn_4 ?_
  intro p e s m below meth c s₁ G X0 hx hZ hby hml hown hnm hrt e0 hG hF
  have hown : s.vm.findClass "com/example/opledger/opledger/AppendTimes" = some m.cls := hown
  have N0 := Fr.nil n0
  rw [ef_rmAA m a1 u w]
  show G (s₁.setTop (mkF m 0 #[oR a1, oJ u, oS, oJ w, oS, oU] []))
  refine hG _ (s₁.setTop (mkF m 1 #[oR a1, oJ u, oS, oJ w, oS, oU] [(.ref a1)])) (fun t₀ k₀ => ?_) ?_
  · show Steps p.tables e below (s₁.setTop (mkF m 0 #[oR a1, oJ u, oS, oJ w, oS, oU] [])) t₀
    refine XS.aloadN X0.here hx rfl (hb hby d4_0) rfl rfl ?_
    exact k₀
  obtain ⟨T1, X1, e1, st1⟩ := getF X0 hx hZ hown (host := "") (Or.inl (hw _ (List.mem_of_getElem? (i := 33) rfl))) Via.refl e0 F_first (g := (mkF m 1 #[oR a1, oJ u, oS, oJ w, oS, oU] [(.ref a1)])) rfl rfl (hb hby d4_1)
  refine hG _ _ (fun t₀ k₀ => st1 _ k₀) ?_
  show G (T1.setTop (mkF m 4 #[oR a1, oJ u, oS, oJ w, oS, oU] [(.int (0 : Int32))]))
  refine hG _ (T1.setTop (mkF m 26 #[oR a1, oJ u, oS, oJ w, oS, oU] [(.ref a1)])) (fun t₀ k₀ => ?_) ?_
  · show Steps p.tables e below (T1.setTop (mkF m 4 #[oR a1, oJ u, oS, oJ w, oS, oU] [(.int (0 : Int32))])) t₀
    refine XS.ifYes X1.here hx rfl (pc0 := 4) (pc' := 25) rfl (hb hby d4_4) rfl ((if0 _ _).trans (flt (by decide : ¬ ((0 : Int32) < (0 : Int32)))).2.2.2) (by decide) (by decide) ?_
    show Steps p.tables e below (T1.setTop (mkF m 25 #[oR a1, oJ u, oS, oJ w, oS, oU] [])) t₀
    refine XS.aloadN X1.here hx rfl (hb hby d4_25) rfl rfl ?_
    exact k₀
  obtain ⟨T2, X2, e2, st2⟩ := getF X1 hx hZ hown (host := "") (Or.inl (hw _ (List.mem_of_getElem? (i := 21) rfl))) Via.refl e1 F_last (g := (mkF m 26 #[oR a1, oJ u, oS, oJ w, oS, oU] [(.ref a1)])) rfl rfl (hb hby d4_26)
  refine hG _ _ (fun t₀ k₀ => st2 _ k₀) ?_
  show G (T2.setTop (mkF m 29 #[oR a1, oJ u, oS, oJ w, oS, oU] [(.int (-1 : Int32))]))
  refine hG _ (T2.setTop (mkF m 32 #[oR a1, oJ u, oS, oJ w, oS, oU] [(.ref a1), (.int (0 : Int32))])) (fun t₀ k₀ => ?_) ?_
  · show Steps p.tables e below (T2.setTop (mkF m 29 #[oR a1, oJ u, oS, oJ w, oS, oU] [(.int (-1 : Int32))])) t₀
    refine XS.iconst X2.here hx rfl (hb hby d4_29) ?_
    show Steps p.tables e below (T2.setTop (mkF m 30 #[oR a1, oJ u, oS, oJ w, oS, oU] [(.int (1 : Int32)), (.int (-1 : Int32))])) t₀
    refine XS.iadd X2.here hx rfl (hb hby d4_30) rfl ?_
    show Steps p.tables e below (T2.setTop (mkF m 31 #[oR a1, oJ u, oS, oJ w, oS, oU] [(.int (0 : Int32))])) t₀
    refine XS.aloadN X2.here hx rfl (hb hby d4_31) rfl rfl ?_
    exact k₀
  obtain ⟨T3, X3, e3, st3⟩ := getF X2 hx hZ hown (host := "") (Or.inl (hw _ (List.mem_of_getElem? (i := 15) rfl))) Via.refl e2 F_seqNos (g := (mkF m 32 #[oR a1, oJ u, oS, oJ w, oS, oU] [(.ref a1), (.int (0 : Int32))])) rfl rfl (hb hby d4_32)
  refine hG _ _ (fun t₀ k₀ => st3 _ k₀) ?_
  show G (T3.setTop (mkF m 35 #[oR a1, oJ u, oS, oJ w, oS, oU] [(.ref wN), (.int (0 : Int32))]))
  have ov4 := (VN.ext O0.2)
  obtain ⟨cl4, Ar4, q4, S4, N_4, H_4, G_4⟩ := ov4
  refine hG _ (T3.setTop (mkF m 42 #[oR a1, oJ u, oS, oJ w, oS, oU] [(.ref a1), (.int (8 : Int32))])) (fun t₀ k₀ => ?_) ?_
  · show Steps p.tables e below (T3.setTop (mkF m 35 #[oR a1, oJ u, oS, oJ w, oS, oU] [(.ref wN), (.int (0 : Int32))])) t₀
    refine X3.arraylength hx (by rw [e3]; exact Ar4.1) (State.isArrayOf_alike hZ.alike Ar4.2.1) (g := (mkF m 35 #[oR a1, oJ u, oS, oJ w, oS, oU] [(.ref wN), (.int (0 : Int32))])) rfl rfl (hb hby d4_35) _ ?_
    rw [len_of S4 N_4]
    show Steps p.tables e below (T3.setTop (mkF m 36 #[oR a1, oJ u, oS, oJ w, oS, oU] [(.int (0 : Int32)), (.int (0 : Int32))])) t₀
    refine XS.icmpNo X3.here hx rfl (hb hby d4_36) rfl (teq (by decide : ((0 : Int32) = (0 : Int32)))).2 ?_
    show Steps p.tables e below (T3.setTop (mkF m 39 #[oR a1, oJ u, oS, oJ w, oS, oU] [])) t₀
    refine XS.bipush X3.here hx rfl (hb hby d4_39) ?_
    show Steps p.tables e below (T3.setTop (mkF m 41 #[oR a1, oJ u, oS, oJ w, oS, oU] [(.int (8 : Int32))])) t₀
    refine XS.aloadN X3.here hx rfl (hb hby d4_41) rfl rfl ?_
    exact k₀
  obtain ⟨T5, X5, e5, st5⟩ := getF X3 hx hZ hown (host := "") (Or.inl (hw _ (List.mem_of_getElem? (i := 15) rfl))) Via.refl e3 F_seqNos (g := (mkF m 42 #[oR a1, oJ u, oS, oJ w, oS, oU] [(.ref a1), (.int (8 : Int32))])) rfl rfl (hb hby d4_42)
  refine hG _ _ (fun t₀ k₀ => st5 _ k₀) ?_
  show G (T5.setTop (mkF m 45 #[oR a1, oJ u, oS, oJ w, oS, oU] [(.ref wN), (.int (8 : Int32))]))
  have ov6 := (VN.ext O0.2)
  obtain ⟨cl6, Ar6, q6, S6, N_6, H_6, G_6⟩ := ov6
  refine hG _ (T5.setTop (mkF m 48 #[oR a1, oJ u, oS, oJ w, oS, oU] [(.int (0 : Int32)), (.int (8 : Int32))])) (fun t₀ k₀ => ?_) ?_
  · show Steps p.tables e below (T5.setTop (mkF m 45 #[oR a1, oJ u, oS, oJ w, oS, oU] [(.ref wN), (.int (8 : Int32))])) t₀
    refine X5.arraylength hx (by rw [e5]; exact Ar6.1) (State.isArrayOf_alike hZ.alike Ar6.2.1) (g := (mkF m 45 #[oR a1, oJ u, oS, oJ w, oS, oU] [(.ref wN), (.int (8 : Int32))])) rfl rfl (hb hby d4_45) _ ?_
    rw [len_of S6 N_6]
    show Steps p.tables e below (T5.setTop (mkF m 46 #[oR a1, oJ u, oS, oJ w, oS, oU] [(.int (0 : Int32)), (.int (8 : Int32))])) t₀
    refine XS.iconst X5.here hx rfl (hb hby d4_46) ?_
    show Steps p.tables e below (T5.setTop (mkF m 47 #[oR a1, oJ u, oS, oJ w, oS, oU] [(.int (2 : Int32)), (.int (0 : Int32)), (.int (8 : Int32))])) t₀
    refine XS.imul X5.here hx rfl (hb hby d4_47) rfl ?_
    exact k₀
  obtain ⟨_, _, ⟨T7, L7, k7, n7⟩, -, X7, ⟨Lc7, hQ7, l7, y7, z7⟩, st7⟩ := Jvm.LawKit.callS X5 hx (y := (⟨"java/lang/Math", "max", "(II)I"⟩ : MethodName)) hown (mvT hZ (hw _ (List.mem_of_getElem? (i := 39) rfl))) (mvT hZ (hw _ (List.mem_of_getElem? (i := 40) rfl))) (mvT hZ (hw _ (List.mem_of_getElem? (i := 41) rfl))) (mvT hZ (hw _ (List.mem_of_getElem? (i := 42) rfl))) (by decide) (backOf (W := 0) (rmMax l Z a0 hw [] (8 : Int32) (0 : Int32) (8 : Int32) h0 n0 Z0 (by decide)) hZ (hw _ (List.mem_of_getElem? (i := 42) rfl)) (hw _ (List.mem_of_getElem? (i := 41) rfl)) (by decide) (by decide)) (g := (mkF m 48 #[oR a1, oJ u, oS, oJ w, oS, oU] [(.int (0 : Int32)), (.int (8 : Int32))])) rfl (by rw [hml]; rfl) (argsL := [(.int (8 : Int32)), (.int (0 : Int32))]) (rest := []) (lenOf pd_2 rfl) rfl (by show 2 * 0 + _ ≤ _; exact Nat.le_of_eq rfl) (hb hby d4_48) (fun _ _ => ⟨rfl, e5, (by decide : 0 + 0 ≤ _), (by decide : 0 + 0 ≤ _)⟩)
  dsimp only [Pt.U, Pt.locs, Pt.cells, Pt.slots] at X7 l7 y7 z7 st7 hQ7
  subst l7 y7 z7
  obtain ⟨rfl, N7q, e7⟩ := hQ7
  have N7 := Fr.app N0 N7q
  refine hG _ _ (fun t₀ k₀ => st7 _ k₀) ?_
  show G (T7.setTop (mkF m 51 #[oR a1, oJ u, oS, oJ w, oS, oU] [(.int (8 : Int32))]))
  refine hG _ (T7.setTop (mkF m 55 #[oR a1, oJ u, oS, oJ w, oS, oI (8 : Int32)] [(.ref a1), (.ref a1)])) (fun t₀ k₀ => ?_) ?_
  · show Steps p.tables e below (T7.setTop (mkF m 51 #[oR a1, oJ u, oS, oJ w, oS, oU] [(.int (8 : Int32))])) t₀
    refine XS.istore X7.here hx rfl (hb hby d4_51) rfl (l' := #[oR a1, oJ u, oS, oJ w, oS, oI (8 : Int32)]) rfl ?_
    show Steps p.tables e below (T7.setTop (mkF m 53 #[oR a1, oJ u, oS, oJ w, oS, oI (8 : Int32)] [])) t₀
    refine XS.aloadN X7.here hx rfl (hb hby d4_53) rfl rfl ?_
    show Steps p.tables e below (T7.setTop (mkF m 54 #[oR a1, oJ u, oS, oJ w, oS, oI (8 : Int32)] [(.ref a1)])) t₀
    refine XS.aloadN X7.here hx rfl (hb hby d4_54) rfl rfl ?_
    exact k₀
  obtain ⟨T8, X8, e8, st8⟩ := getF X7 hx hZ hown (host := "") (Or.inl (hw _ (List.mem_of_getElem? (i := 15) rfl))) Via.refl e7 F_seqNos (g := (mkF m 55 #[oR a1, oJ u, oS, oJ w, oS, oI (8 : Int32)] [(.ref a1), (.ref a1)])) rfl rfl (hb hby d4_55)
  refine hG _ _ (fun t₀ k₀ => st8 _ k₀) ?_
  show G (T8.setTop (mkF m 58 #[oR a1, oJ u, oS, oJ w, oS, oI (8 : Int32)] [(.ref wN), (.ref a1)]))
  refine hG _ (T8.setTop (mkF m 60 #[oR a1, oJ u, oS, oJ w, oS, oI (8 : Int32)] [(.int (8 : Int32)), (.ref wN), (.ref a1)])) (fun t₀ k₀ => ?_) ?_
  · show Steps p.tables e below (T8.setTop (mkF m 58 #[oR a1, oJ u, oS, oJ w, oS, oI (8 : Int32)] [(.ref wN), (.ref a1)])) t₀
    refine XS.iload X8.here hx rfl (hb hby d4_58) rfl ?_
    exact k₀
  obtain ⟨_, _, ⟨T9, L9, k9, n9⟩, -, X9, ⟨Lc9, hQ9, l9, y9, z9⟩, st9⟩ := Jvm.LawKit.callS X8 hx (y := (⟨"java/util/Arrays", "copyOf", "([JI)[J"⟩ : MethodName)) hown (mvT hZ (hw _ (List.mem_of_getElem? (i := 43) rfl))) (mvT hZ (hw _ (List.mem_of_getElem? (i := 44) rfl))) (mvT hZ (hw _ (List.mem_of_getElem? (i := 45) rfl))) (mvT hZ (hw _ (List.mem_of_getElem? (i := 46) rfl))) (by decide) (backOf (W := 1) (rmCp l Z a0 hw [] wN kN h0 n0 Z0 (VN.ext O0.2)) hZ (hw _ (List.mem_of_getElem? (i := 46) rfl)) (hw _ (List.mem_of_getElem? (i := 45) rfl)) (by decide) (by decide)) (g := (mkF m 60 #[oR a1, oJ u, oS, oJ w, oS, oI (8 : Int32)] [(.int (8 : Int32)), (.ref wN), (.ref a1)])) rfl (by rw [hml]; rfl) (argsL := [(.ref wN), (.int (8 : Int32))]) (rest := [(.ref a1)]) (lenOf pd_3 rfl) rfl (by show 2 * 0 + _ ≤ _; exact Nat.le_of_eq rfl) (hb hby d4_60) (fun _ _ => ⟨rfl, e8, (by decide : 0 + 1 ≤ _), (by decide : 0 + 8 ≤ _)⟩)
  dsimp only [Pt.U, Pt.locs, Pt.cells, Pt.slots] at X9 l9 y9 z9 st9 hQ9
  subst l9 y9 z9
  obtain ⟨b9, kb9, rfl, N9q, K9, V9, gb9, hb9⟩ := hQ9
  have N9 := Fr.app N7 N9q
  refine hG _ _ (fun t₀ k₀ => st9 _ k₀) ?_
  have ne_wN_b9 : wN ≠ b9 := Nat.ne_of_lt (Nat.lt_of_lt_of_le (VN.ext O0.2).lt hb9)
  have ne_a1_b9 : a1 ≠ b9 := Nat.ne_of_lt (Nat.lt_of_lt_of_le E1.lt hb9)
  have kw_b9 : h0.size ≤ b9 := Nat.le_trans (Keep.refl h0 [a1]).1 hb9
  have z_x9 := Nat.le_trans Z0 K9.1
  have o_x9 := O0.keep K9 all0
  have ea1_x9 := E1.keep K9
  have fa1_seqNos_x9 := F_seqNos.keep K9 nin0
  have fa1_starts_x9 := F_starts.keep K9 nin0
  have fa1_ends_x9 := F_ends.keep K9 nin0
  have fa1_first_x9 := F_first.keep K9 nin0
  have fa1_last_x9 := F_last.keep K9 nin0
  have fa1_maxSeqNo_x9 := F_maxSeqNo.keep K9 nin0
  have fa1_mergeAt_x9 := F_mergeAt.keep K9 nin0
  have k_x9 := (Keep.refl h0 [a1]).trans K9 all0
  show G (T9.setTop (mkF m 63 #[oR a1, oJ u, oS, oJ w, oS, oI (8 : Int32)] [(.ref b9), (.ref a1)]))
  obtain ⟨T10, h10, X10, e10, W10, st10⟩ := putF X9 hx hZ hown (host := "") (Or.inl (hw _ (List.mem_of_getElem? (i := 15) rfl))) Via.refl rfl fa1_seqNos_x9 ea1_x9 (Or.inl (hw _ (List.mem_of_getElem? (i := 16) rfl))) (hw _ (List.mem_of_getElem? (i := 5) rfl)) (ty := (.array .long)) (by decide) rfl rfl (g := (mkF m 63 #[oR a1, oJ u, oS, oJ w, oS, oI (8 : Int32)] [(.ref b9), (.ref a1)])) rfl rfl (hb hby d4_63)
  refine hG _ _ (fun t₀ k₀ => st10 _ k₀) ?_
  have N10 := Fr.snoc X10 N9 g_a1
  have o_x10 := o_x9.wr W10 g_a1
  have ea1_x10 := ea1_x9.wr W10
  have fa1_starts_x10 := fa1_starts_x9.other W10 (Or.inr (slot_ne (Or.inl (hw _ (List.mem_of_getElem? (i := 18) rfl))) (Or.inl (hw _ (List.mem_of_getElem? (i := 16) rfl))) (by decide) (t := (.array .long)) (t' := (.array .long)) (by decide) (by decide)))
  have fa1_ends_x10 := fa1_ends_x9.other W10 (Or.inr (slot_ne (Or.inl (hw _ (List.mem_of_getElem? (i := 20) rfl))) (Or.inl (hw _ (List.mem_of_getElem? (i := 16) rfl))) (by decide) (t := (.array .long)) (t' := (.array .long)) (by decide) (by decide)))
  have fa1_first_x10 := fa1_first_x9.other W10 (Or.inr (slot_ne (Or.inl (hw _ (List.mem_of_getElem? (i := 34) rfl))) (Or.inl (hw _ (List.mem_of_getElem? (i := 16) rfl))) (by decide) (t := .int) (t' := (.array .long)) (by decide) (by decide)))
  have fa1_last_x10 := fa1_last_x9.other W10 (Or.inr (slot_ne (Or.inl (hw _ (List.mem_of_getElem? (i := 22) rfl))) (Or.inl (hw _ (List.mem_of_getElem? (i := 16) rfl))) (by decide) (t := .int) (t' := (.array .long)) (by decide) (by decide)))
  have fa1_maxSeqNo_x10 := fa1_maxSeqNo_x9.other W10 (Or.inr (slot_ne (Or.inl (hw _ (List.mem_of_getElem? (i := 25) rfl))) (Or.inl (hw _ (List.mem_of_getElem? (i := 16) rfl))) (by decide) (t := .long) (t' := (.array .long)) (by decide) (by decide)))
  have fa1_mergeAt_x10 := fa1_mergeAt_x9.other W10 (Or.inr (slot_ne (Or.inl (hw _ (List.mem_of_getElem? (i := 27) rfl))) (Or.inl (hw _ (List.mem_of_getElem? (i := 16) rfl))) (by decide) (t := .int) (t' := (.array .long)) (by decide) (by decide)))
  have k_x10 := k_x9.wr W10 (Or.inl (List.mem_of_getElem? (i := 0) rfl))
  have vb9_x10 := V9.other W10 (Ne.symm ne_a1_b9)
  have z_10 : n0 ≤ h10.size := Nat.le_trans z_x9 (Keep.of_wr W10).1
  have F10_seqNos := fa1_seqNos_x9.same W10
  show G (T10.setTop (mkF m 66 #[oR a1, oJ u, oS, oJ w, oS, oI (8 : Int32)] []))
  refine hG _ (T10.setTop (mkF m 68 #[oR a1, oJ u, oS, oJ w, oS, oI (8 : Int32)] [(.ref a1), (.ref a1)])) (fun t₀ k₀ => ?_) ?_
  · show Steps p.tables e below (T10.setTop (mkF m 66 #[oR a1, oJ u, oS, oJ w, oS, oI (8 : Int32)] [])) t₀
    refine XS.aloadN X10.here hx rfl (hb hby d4_66) rfl rfl ?_
    show Steps p.tables e below (T10.setTop (mkF m 67 #[oR a1, oJ u, oS, oJ w, oS, oI (8 : Int32)] [(.ref a1)])) t₀
    refine XS.aloadN X10.here hx rfl (hb hby d4_67) rfl rfl ?_
    exact k₀
  obtain ⟨T11, X11, e11, st11⟩ := getF X10 hx hZ hown (host := "") (Or.inl (hw _ (List.mem_of_getElem? (i := 17) rfl))) Via.refl e10 fa1_starts_x10 (g := (mkF m 68 #[oR a1, oJ u, oS, oJ w, oS, oI (8 : Int32)] [(.ref a1), (.ref a1)])) rfl rfl (hb hby d4_68)
  refine hG _ _ (fun t₀ k₀ => st11 _ k₀) ?_
  show G (T11.setTop (mkF m 71 #[oR a1, oJ u, oS, oJ w, oS, oI (8 : Int32)] [(.ref wN), (.ref a1)]))
  refine hG _ (T11.setTop (mkF m 73 #[oR a1, oJ u, oS, oJ w, oS, oI (8 : Int32)] [(.int (8 : Int32)), (.ref wN), (.ref a1)])) (fun t₀ k₀ => ?_) ?_
  · show Steps p.tables e below (T11.setTop (mkF m 71 #[oR a1, oJ u, oS, oJ w, oS, oI (8 : Int32)] [(.ref wN), (.ref a1)])) t₀
    refine XS.iload X11.here hx rfl (hb hby d4_71) rfl ?_
    exact k₀
  obtain ⟨_, _, ⟨T12, L12, k12, n12⟩, -, X12, ⟨Lc12, hQ12, l12, y12, z12⟩, st12⟩ := Jvm.LawKit.callS X11 hx (y := (⟨"java/util/Arrays", "copyOf", "([JI)[J"⟩ : MethodName)) hown (mvT hZ (hw _ (List.mem_of_getElem? (i := 43) rfl))) (mvT hZ (hw _ (List.mem_of_getElem? (i := 44) rfl))) (mvT hZ (hw _ (List.mem_of_getElem? (i := 45) rfl))) (mvT hZ (hw _ (List.mem_of_getElem? (i := 46) rfl))) (by decide) (backOf (W := 1) (rmCp l Z a0 hw [] wN kN h10 n0 z_10 (VN.ext o_x10.2)) hZ (hw _ (List.mem_of_getElem? (i := 46) rfl)) (hw _ (List.mem_of_getElem? (i := 45) rfl)) (by decide) (by decide)) (g := (mkF m 73 #[oR a1, oJ u, oS, oJ w, oS, oI (8 : Int32)] [(.int (8 : Int32)), (.ref wN), (.ref a1)])) rfl (by rw [hml]; rfl) (argsL := [(.ref wN), (.int (8 : Int32))]) (rest := [(.ref a1)]) (lenOf pd_3 rfl) rfl (by show 2 * 0 + _ ≤ _; exact Nat.le_of_eq rfl) (hb hby d4_73) (fun _ _ => ⟨rfl, e11, (by decide : 1 + 1 ≤ _), (by decide : 8 + 8 ≤ _)⟩)
  dsimp only [Pt.U, Pt.locs, Pt.cells, Pt.slots] at X12 l12 y12 z12 st12 hQ12
  subst l12 y12 z12
  obtain ⟨b12, kb12, rfl, N12q, K12, V12, gb12, hb12⟩ := hQ12
  have N12 := Fr.app N10 N12q
  refine hG _ _ (fun t₀ k₀ => st12 _ k₀) ?_
  have ne_wN_b12 : wN ≠ b12 := Nat.ne_of_lt (Nat.lt_of_lt_of_le (VN.ext o_x10.2).lt hb12)
  have ne_a1_b12 : a1 ≠ b12 := Nat.ne_of_lt (Nat.lt_of_lt_of_le ea1_x10.lt hb12)
  have ne_b9_b12 : b9 ≠ b12 := Nat.ne_of_lt (Nat.lt_of_lt_of_le vb9_x10.lt hb12)
  have kw_b12 : h0.size ≤ b12 := Nat.le_trans k_x10.1 hb12
  have z_x12 := Nat.le_trans z_10 K12.1
  have o_x12 := o_x10.keep K12 all0
  have ea1_x12 := ea1_x10.keep K12
  have fa1_seqNos_x12 := F10_seqNos.keep K12 nin0
  have fa1_starts_x12 := fa1_starts_x10.keep K12 nin0
  have fa1_ends_x12 := fa1_ends_x10.keep K12 nin0
  have fa1_first_x12 := fa1_first_x10.keep K12 nin0
  have fa1_last_x12 := fa1_last_x10.keep K12 nin0
  have fa1_maxSeqNo_x12 := fa1_maxSeqNo_x10.keep K12 nin0
  have fa1_mergeAt_x12 := fa1_mergeAt_x10.keep K12 nin0
  have k_x12 := k_x10.trans K12 all0
  have vb9_x12 := vb9_x10.keep K12 nin0
  show G (T12.setTop (mkF m 76 #[oR a1, oJ u, oS, oJ w, oS, oI (8 : Int32)] [(.ref b12), (.ref a1)]))
  obtain ⟨T13, h13, X13, e13, W13, st13⟩ := putF X12 hx hZ hown (host := "") (Or.inl (hw _ (List.mem_of_getElem? (i := 17) rfl))) Via.refl rfl fa1_starts_x12 ea1_x12 (Or.inl (hw _ (List.mem_of_getElem? (i := 18) rfl))) (hw _ (List.mem_of_getElem? (i := 5) rfl)) (ty := (.array .long)) (by decide) rfl rfl (g := (mkF m 76 #[oR a1, oJ u, oS, oJ w, oS, oI (8 : Int32)] [(.ref b12), (.ref a1)])) rfl rfl (hb hby d4_76)
  refine hG _ _ (fun t₀ k₀ => st13 _ k₀) ?_
  have N13 := Fr.snoc X13 N12 g_a1
  have o_x13 := o_x12.wr W13 g_a1
  have ea1_x13 := ea1_x12.wr W13
  have fa1_seqNos_x13 := fa1_seqNos_x12.other W13 (Or.inr (slot_ne (Or.inl (hw _ (List.mem_of_getElem? (i := 16) rfl))) (Or.inl (hw _ (List.mem_of_getElem? (i := 18) rfl))) (by decide) (t := (.array .long)) (t' := (.array .long)) (by decide) (by decide)))
  have fa1_ends_x13 := fa1_ends_x12.other W13 (Or.inr (slot_ne (Or.inl (hw _ (List.mem_of_getElem? (i := 20) rfl))) (Or.inl (hw _ (List.mem_of_getElem? (i := 18) rfl))) (by decide) (t := (.array .long)) (t' := (.array .long)) (by decide) (by decide)))
  have fa1_first_x13 := fa1_first_x12.other W13 (Or.inr (slot_ne (Or.inl (hw _ (List.mem_of_getElem? (i := 34) rfl))) (Or.inl (hw _ (List.mem_of_getElem? (i := 18) rfl))) (by decide) (t := .int) (t' := (.array .long)) (by decide) (by decide)))
  have fa1_last_x13 := fa1_last_x12.other W13 (Or.inr (slot_ne (Or.inl (hw _ (List.mem_of_getElem? (i := 22) rfl))) (Or.inl (hw _ (List.mem_of_getElem? (i := 18) rfl))) (by decide) (t := .int) (t' := (.array .long)) (by decide) (by decide)))
  have fa1_maxSeqNo_x13 := fa1_maxSeqNo_x12.other W13 (Or.inr (slot_ne (Or.inl (hw _ (List.mem_of_getElem? (i := 25) rfl))) (Or.inl (hw _ (List.mem_of_getElem? (i := 18) rfl))) (by decide) (t := .long) (t' := (.array .long)) (by decide) (by decide)))
  have fa1_mergeAt_x13 := fa1_mergeAt_x12.other W13 (Or.inr (slot_ne (Or.inl (hw _ (List.mem_of_getElem? (i := 27) rfl))) (Or.inl (hw _ (List.mem_of_getElem? (i := 18) rfl))) (by decide) (t := .int) (t' := (.array .long)) (by decide) (by decide)))
  have k_x13 := k_x12.wr W13 (Or.inl (List.mem_of_getElem? (i := 0) rfl))
  have vb9_x13 := vb9_x12.other W13 (Ne.symm ne_a1_b9)
  have vb12_x13 := V12.other W13 (Ne.symm ne_a1_b12)
  have z_13 : n0 ≤ h13.size := Nat.le_trans z_x12 (Keep.of_wr W13).1
  have F13_starts := fa1_starts_x12.same W13
  show G (T13.setTop (mkF m 79 #[oR a1, oJ u, oS, oJ w, oS, oI (8 : Int32)] []))
  refine hG _ (T13.setTop (mkF m 81 #[oR a1, oJ u, oS, oJ w, oS, oI (8 : Int32)] [(.ref a1), (.ref a1)])) (fun t₀ k₀ => ?_) ?_
  · show Steps p.tables e below (T13.setTop (mkF m 79 #[oR a1, oJ u, oS, oJ w, oS, oI (8 : Int32)] [])) t₀
    refine XS.aloadN X13.here hx rfl (hb hby d4_79) rfl rfl ?_
    show Steps p.tables e below (T13.setTop (mkF m 80 #[oR a1, oJ u, oS, oJ w, oS, oI (8 : Int32)] [(.ref a1)])) t₀
    refine XS.aloadN X13.here hx rfl (hb hby d4_80) rfl rfl ?_
    exact k₀
  obtain ⟨T14, X14, e14, st14⟩ := getF X13 hx hZ hown (host := "") (Or.inl (hw _ (List.mem_of_getElem? (i := 19) rfl))) Via.refl e13 fa1_ends_x13 (g := (mkF m 81 #[oR a1, oJ u, oS, oJ w, oS, oI (8 : Int32)] [(.ref a1), (.ref a1)])) rfl rfl (hb hby d4_81)
  refine hG _ _ (fun t₀ k₀ => st14 _ k₀) ?_
  show G (T14.setTop (mkF m 84 #[oR a1, oJ u, oS, oJ w, oS, oI (8 : Int32)] [(.ref wN), (.ref a1)]))
  refine hG _ (T14.setTop (mkF m 86 #[oR a1, oJ u, oS, oJ w, oS, oI (8 : Int32)] [(.int (8 : Int32)), (.ref wN), (.ref a1)])) (fun t₀ k₀ => ?_) ?_
  · show Steps p.tables e below (T14.setTop (mkF m 84 #[oR a1, oJ u, oS, oJ w, oS, oI (8 : Int32)] [(.ref wN), (.ref a1)])) t₀
    refine XS.iload X14.here hx rfl (hb hby d4_84) rfl ?_
    exact k₀
  obtain ⟨_, _, ⟨T15, L15, k15, n15⟩, -, X15, ⟨Lc15, hQ15, l15, y15, z15⟩, st15⟩ := Jvm.LawKit.callS X14 hx (y := (⟨"java/util/Arrays", "copyOf", "([JI)[J"⟩ : MethodName)) hown (mvT hZ (hw _ (List.mem_of_getElem? (i := 43) rfl))) (mvT hZ (hw _ (List.mem_of_getElem? (i := 44) rfl))) (mvT hZ (hw _ (List.mem_of_getElem? (i := 45) rfl))) (mvT hZ (hw _ (List.mem_of_getElem? (i := 46) rfl))) (by decide) (backOf (W := 1) (rmCp l Z a0 hw [] wN kN h13 n0 z_13 (VN.ext o_x13.2)) hZ (hw _ (List.mem_of_getElem? (i := 46) rfl)) (hw _ (List.mem_of_getElem? (i := 45) rfl)) (by decide) (by decide)) (g := (mkF m 86 #[oR a1, oJ u, oS, oJ w, oS, oI (8 : Int32)] [(.int (8 : Int32)), (.ref wN), (.ref a1)])) rfl (by rw [hml]; rfl) (argsL := [(.ref wN), (.int (8 : Int32))]) (rest := [(.ref a1)]) (lenOf pd_3 rfl) rfl (by show 2 * 0 + _ ≤ _; exact Nat.le_of_eq rfl) (hb hby d4_86) (fun _ _ => ⟨rfl, e14, (by decide : 2 + 1 ≤ _), (by decide : 16 + 8 ≤ _)⟩)
  dsimp only [Pt.U, Pt.locs, Pt.cells, Pt.slots] at X15 l15 y15 z15 st15 hQ15
  subst l15 y15 z15
  obtain ⟨b15, kb15, rfl, N15q, K15, V15, gb15, hb15⟩ := hQ15
  have N15 := Fr.app N13 N15q
  refine hG _ _ (fun t₀ k₀ => st15 _ k₀) ?_
  have ne_wN_b15 : wN ≠ b15 := Nat.ne_of_lt (Nat.lt_of_lt_of_le (VN.ext o_x13.2).lt hb15)
  have ne_a1_b15 : a1 ≠ b15 := Nat.ne_of_lt (Nat.lt_of_lt_of_le ea1_x13.lt hb15)
  have ne_b9_b15 : b9 ≠ b15 := Nat.ne_of_lt (Nat.lt_of_lt_of_le vb9_x13.lt hb15)
  have ne_b12_b15 : b12 ≠ b15 := Nat.ne_of_lt (Nat.lt_of_lt_of_le vb12_x13.lt hb15)
  have kw_b15 : h0.size ≤ b15 := Nat.le_trans k_x13.1 hb15
  have z_x15 := Nat.le_trans z_13 K15.1
  have o_x15 := o_x13.keep K15 all0
  have ea1_x15 := ea1_x13.keep K15
  have fa1_seqNos_x15 := fa1_seqNos_x13.keep K15 nin0
  have fa1_starts_x15 := F13_starts.keep K15 nin0
  have fa1_ends_x15 := fa1_ends_x13.keep K15 nin0
  have fa1_first_x15 := fa1_first_x13.keep K15 nin0
  have fa1_last_x15 := fa1_last_x13.keep K15 nin0
  have fa1_maxSeqNo_x15 := fa1_maxSeqNo_x13.keep K15 nin0
  have fa1_mergeAt_x15 := fa1_mergeAt_x13.keep K15 nin0
  have k_x15 := k_x13.trans K15 all0
  have vb9_x15 := vb9_x13.keep K15 nin0
  have vb12_x15 := vb12_x13.keep K15 nin0
  show G (T15.setTop (mkF m 89 #[oR a1, oJ u, oS, oJ w, oS, oI (8 : Int32)] [(.ref b15), (.ref a1)]))
  obtain ⟨T16, h16, X16, e16, W16, st16⟩ := putF X15 hx hZ hown (host := "") (Or.inl (hw _ (List.mem_of_getElem? (i := 19) rfl))) Via.refl rfl fa1_ends_x15 ea1_x15 (Or.inl (hw _ (List.mem_of_getElem? (i := 20) rfl))) (hw _ (List.mem_of_getElem? (i := 5) rfl)) (ty := (.array .long)) (by decide) rfl rfl (g := (mkF m 89 #[oR a1, oJ u, oS, oJ w, oS, oI (8 : Int32)] [(.ref b15), (.ref a1)])) rfl rfl (hb hby d4_89)
  refine hG _ _ (fun t₀ k₀ => st16 _ k₀) ?_
  have N16 := Fr.snoc X16 N15 g_a1
  have o_x16 := o_x15.wr W16 g_a1
  have ea1_x16 := ea1_x15.wr W16
  have fa1_seqNos_x16 := fa1_seqNos_x15.other W16 (Or.inr (slot_ne (Or.inl (hw _ (List.mem_of_getElem? (i := 16) rfl))) (Or.inl (hw _ (List.mem_of_getElem? (i := 20) rfl))) (by decide) (t := (.array .long)) (t' := (.array .long)) (by decide) (by decide)))
  have fa1_starts_x16 := fa1_starts_x15.other W16 (Or.inr (slot_ne (Or.inl (hw _ (List.mem_of_getElem? (i := 18) rfl))) (Or.inl (hw _ (List.mem_of_getElem? (i := 20) rfl))) (by decide) (t := (.array .long)) (t' := (.array .long)) (by decide) (by decide)))
  have fa1_first_x16 := fa1_first_x15.other W16 (Or.inr (slot_ne (Or.inl (hw _ (List.mem_of_getElem? (i := 34) rfl))) (Or.inl (hw _ (List.mem_of_getElem? (i := 20) rfl))) (by decide) (t := .int) (t' := (.array .long)) (by decide) (by decide)))
  have fa1_last_x16 := fa1_last_x15.other W16 (Or.inr (slot_ne (Or.inl (hw _ (List.mem_of_getElem? (i := 22) rfl))) (Or.inl (hw _ (List.mem_of_getElem? (i := 20) rfl))) (by decide) (t := .int) (t' := (.array .long)) (by decide) (by decide)))
  have fa1_maxSeqNo_x16 := fa1_maxSeqNo_x15.other W16 (Or.inr (slot_ne (Or.inl (hw _ (List.mem_of_getElem? (i := 25) rfl))) (Or.inl (hw _ (List.mem_of_getElem? (i := 20) rfl))) (by decide) (t := .long) (t' := (.array .long)) (by decide) (by decide)))
  have fa1_mergeAt_x16 := fa1_mergeAt_x15.other W16 (Or.inr (slot_ne (Or.inl (hw _ (List.mem_of_getElem? (i := 27) rfl))) (Or.inl (hw _ (List.mem_of_getElem? (i := 20) rfl))) (by decide) (t := .int) (t' := (.array .long)) (by decide) (by decide)))
  have k_x16 := k_x15.wr W16 (Or.inl (List.mem_of_getElem? (i := 0) rfl))
  have vb9_x16 := vb9_x15.other W16 (Ne.symm ne_a1_b9)
  have vb12_x16 := vb12_x15.other W16 (Ne.symm ne_a1_b12)
  have vb15_x16 := V15.other W16 (Ne.symm ne_a1_b15)
  have z_16 : n0 ≤ h16.size := Nat.le_trans z_x15 (Keep.of_wr W16).1
  have F16_ends := fa1_ends_x15.same W16
  show G (T16.setTop (mkF m 92 #[oR a1, oJ u, oS, oJ w, oS, oI (8 : Int32)] []))
  refine hG _ (T16.setTop (mkF m 94 #[oR a1, oJ u, oS, oJ w, oS, oI (8 : Int32)] [(.ref a1), (.ref a1)])) (fun t₀ k₀ => ?_) ?_
  · show Steps p.tables e below (T16.setTop (mkF m 92 #[oR a1, oJ u, oS, oJ w, oS, oI (8 : Int32)] [])) t₀
    refine XS.aloadN X16.here hx rfl (hb hby d4_92) rfl rfl ?_
    show Steps p.tables e below (T16.setTop (mkF m 93 #[oR a1, oJ u, oS, oJ w, oS, oI (8 : Int32)] [(.ref a1)])) t₀
    refine XS.dup X16.here hx rfl (hb hby d4_93) rfl rfl ?_
    exact k₀
  obtain ⟨T17, X17, e17, st17⟩ := getF X16 hx hZ hown (host := "") (Or.inl (hw _ (List.mem_of_getElem? (i := 21) rfl))) Via.refl e16 fa1_last_x16 (g := (mkF m 94 #[oR a1, oJ u, oS, oJ w, oS, oI (8 : Int32)] [(.ref a1), (.ref a1)])) rfl rfl (hb hby d4_94)
  refine hG _ _ (fun t₀ k₀ => st17 _ k₀) ?_
  show G (T17.setTop (mkF m 97 #[oR a1, oJ u, oS, oJ w, oS, oI (8 : Int32)] [(.int (-1 : Int32)), (.ref a1)]))
  refine hG _ (T17.setTop (mkF m 99 #[oR a1, oJ u, oS, oJ w, oS, oI (8 : Int32)] [(.int (0 : Int32)), (.ref a1)])) (fun t₀ k₀ => ?_) ?_
  · show Steps p.tables e below (T17.setTop (mkF m 97 #[oR a1, oJ u, oS, oJ w, oS, oI (8 : Int32)] [(.int (-1 : Int32)), (.ref a1)])) t₀
    refine XS.iconst X17.here hx rfl (hb hby d4_97) ?_
    show Steps p.tables e below (T17.setTop (mkF m 98 #[oR a1, oJ u, oS, oJ w, oS, oI (8 : Int32)] [(.int (1 : Int32)), (.int (-1 : Int32)), (.ref a1)])) t₀
    refine XS.iadd X17.here hx rfl (hb hby d4_98) rfl ?_
    exact k₀
  obtain ⟨T18, h18, X18, e18, W18, st18⟩ := putF X17 hx hZ hown (host := "") (Or.inl (hw _ (List.mem_of_getElem? (i := 21) rfl))) Via.refl e17 fa1_last_x16 ea1_x16 (Or.inl (hw _ (List.mem_of_getElem? (i := 22) rfl))) (hw _ (List.mem_of_getElem? (i := 5) rfl)) (ty := .int) (by decide) rfl rfl (g := (mkF m 99 #[oR a1, oJ u, oS, oJ w, oS, oI (8 : Int32)] [(.int (0 : Int32)), (.ref a1)])) rfl rfl (hb hby d4_99)
  refine hG _ _ (fun t₀ k₀ => st18 _ k₀) ?_
  have N18 := Fr.snoc X18 N16 g_a1
  have o_x18 := o_x16.wr W18 g_a1
  have ea1_x18 := ea1_x16.wr W18
  have fa1_seqNos_x18 := fa1_seqNos_x16.other W18 (Or.inr (slot_ne (Or.inl (hw _ (List.mem_of_getElem? (i := 16) rfl))) (Or.inl (hw _ (List.mem_of_getElem? (i := 22) rfl))) (by decide) (t := (.array .long)) (t' := .int) (by decide) (by decide)))
  have fa1_starts_x18 := fa1_starts_x16.other W18 (Or.inr (slot_ne (Or.inl (hw _ (List.mem_of_getElem? (i := 18) rfl))) (Or.inl (hw _ (List.mem_of_getElem? (i := 22) rfl))) (by decide) (t := (.array .long)) (t' := .int) (by decide) (by decide)))
  have fa1_ends_x18 := F16_ends.other W18 (Or.inr (slot_ne (Or.inl (hw _ (List.mem_of_getElem? (i := 20) rfl))) (Or.inl (hw _ (List.mem_of_getElem? (i := 22) rfl))) (by decide) (t := (.array .long)) (t' := .int) (by decide) (by decide)))
  have fa1_first_x18 := fa1_first_x16.other W18 (Or.inr (slot_ne (Or.inl (hw _ (List.mem_of_getElem? (i := 34) rfl))) (Or.inl (hw _ (List.mem_of_getElem? (i := 22) rfl))) (by decide) (t := .int) (t' := .int) (by decide) (by decide)))
  have fa1_maxSeqNo_x18 := fa1_maxSeqNo_x16.other W18 (Or.inr (slot_ne (Or.inl (hw _ (List.mem_of_getElem? (i := 25) rfl))) (Or.inl (hw _ (List.mem_of_getElem? (i := 22) rfl))) (by decide) (t := .long) (t' := .int) (by decide) (by decide)))
  have fa1_mergeAt_x18 := fa1_mergeAt_x16.other W18 (Or.inr (slot_ne (Or.inl (hw _ (List.mem_of_getElem? (i := 27) rfl))) (Or.inl (hw _ (List.mem_of_getElem? (i := 22) rfl))) (by decide) (t := .int) (t' := .int) (by decide) (by decide)))
  have k_x18 := k_x16.wr W18 (Or.inl (List.mem_of_getElem? (i := 0) rfl))
  have vb9_x18 := vb9_x16.other W18 (Ne.symm ne_a1_b9)
  have vb12_x18 := vb12_x16.other W18 (Ne.symm ne_a1_b12)
  have vb15_x18 := vb15_x16.other W18 (Ne.symm ne_a1_b15)
  have z_18 : n0 ≤ h18.size := Nat.le_trans z_16 (Keep.of_wr W18).1
  have F18_last := fa1_last_x16.same W18
  show G (T18.setTop (mkF m 102 #[oR a1, oJ u, oS, oJ w, oS, oI (8 : Int32)] []))
  refine hG _ (T18.setTop (mkF m 103 #[oR a1, oJ u, oS, oJ w, oS, oI (8 : Int32)] [(.ref a1)])) (fun t₀ k₀ => ?_) ?_
  · show Steps p.tables e below (T18.setTop (mkF m 102 #[oR a1, oJ u, oS, oJ w, oS, oI (8 : Int32)] [])) t₀
    refine XS.aloadN X18.here hx rfl (hb hby d4_102) rfl rfl ?_
    exact k₀
  obtain ⟨T19, X19, e19, st19⟩ := getF X18 hx hZ hown (host := "") (Or.inl (hw _ (List.mem_of_getElem? (i := 15) rfl))) Via.refl e18 fa1_seqNos_x18 (g := (mkF m 103 #[oR a1, oJ u, oS, oJ w, oS, oI (8 : Int32)] [(.ref a1)])) rfl rfl (hb hby d4_103)
  refine hG _ _ (fun t₀ k₀ => st19 _ k₀) ?_
  show G (T19.setTop (mkF m 106 #[oR a1, oJ u, oS, oJ w, oS, oI (8 : Int32)] [(.ref b9)]))
  refine hG _ (T19.setTop (mkF m 107 #[oR a1, oJ u, oS, oJ w, oS, oI (8 : Int32)] [(.ref a1), (.ref b9)])) (fun t₀ k₀ => ?_) ?_
  · show Steps p.tables e below (T19.setTop (mkF m 106 #[oR a1, oJ u, oS, oJ w, oS, oI (8 : Int32)] [(.ref b9)])) t₀
    refine XS.aloadN X19.here hx rfl (hb hby d4_106) rfl rfl ?_
    exact k₀
  obtain ⟨T20, X20, e20, st20⟩ := getF X19 hx hZ hown (host := "") (Or.inl (hw _ (List.mem_of_getElem? (i := 21) rfl))) Via.refl e19 F18_last (g := (mkF m 107 #[oR a1, oJ u, oS, oJ w, oS, oI (8 : Int32)] [(.ref a1), (.ref b9)])) rfl rfl (hb hby d4_107)
  refine hG _ _ (fun t₀ k₀ => st20 _ k₀) ?_
  show G (T20.setTop (mkF m 110 #[oR a1, oJ u, oS, oJ w, oS, oI (8 : Int32)] [(.int (0 : Int32)), (.ref b9)]))
  refine hG _ (T20.setTop (mkF m 111 #[oR a1, oJ u, oS, oJ w, oS, oI (8 : Int32)] [(.long u), (.int (0 : Int32)), (.ref b9)])) (fun t₀ k₀ => ?_) ?_
  · show Steps p.tables e below (T20.setTop (mkF m 110 #[oR a1, oJ u, oS, oJ w, oS, oI (8 : Int32)] [(.int (0 : Int32)), (.ref b9)])) t₀
    refine XS.lloadN X20.here hx rfl (hb hby d4_110) rfl ?_
    exact k₀
  have ov21 := vb9_x18
  obtain ⟨cl21, Ar21, q21, S21, N_21, H_21, G_21⟩ := ov21
  have hin21 : ¬ ((0 : Int32) < 0 ∨ cl21.slots.size ≤ ((0 : Int32)).toNatClampNeg) := inb_of S21 ⟨by decide, by decide⟩
  obtain ⟨T22, h22, X22, e22, W22, st22⟩ := stJ X20 hx hZ e20 Ar21 (j := (0 : Int32)) hin21 (g := (mkF m 111 #[oR a1, oJ u, oS, oJ w, oS, oI (8 : Int32)] [(.long u), (.int (0 : Int32)), (.ref b9)])) rfl rfl (hb hby d4_111)
  refine hG _ _ (fun t₀ k₀ => st22 _ k₀) ?_
  have N22 := Fr.snoc X22 N18 gb9
  have o_x22 := o_x18.wr W22 gb9
  have ea1_x22 := ea1_x18.wr W22
  have fa1_seqNos_x22 := fa1_seqNos_x18.other W22 (Or.inl ne_a1_b9)
  have fa1_starts_x22 := fa1_starts_x18.other W22 (Or.inl ne_a1_b9)
  have fa1_ends_x22 := fa1_ends_x18.other W22 (Or.inl ne_a1_b9)
  have fa1_first_x22 := fa1_first_x18.other W22 (Or.inl ne_a1_b9)
  have fa1_last_x22 := F18_last.other W22 (Or.inl ne_a1_b9)
  have fa1_maxSeqNo_x22 := fa1_maxSeqNo_x18.other W22 (Or.inl ne_a1_b9)
  have fa1_mergeAt_x22 := fa1_mergeAt_x18.other W22 (Or.inl ne_a1_b9)
  have k_x22 := k_x18.wr W22 (Or.inr kw_b9)
  have vb12_x22 := vb12_x18.other W22 (Ne.symm ne_b9_b12)
  have vb15_x22 := vb15_x18.other W22 (Ne.symm ne_b9_b15)
  have z_22 : n0 ≤ h22.size := Nat.le_trans z_18 (Keep.of_wr W22).1
  have V22 : Arv Z h22 b9 kb9 .long (8 : Int32) [(.long u), (.long (0 : Int64)), (.long (0 : Int64)), (.long (0 : Int64)), (.long (0 : Int64)), (.long (0 : Int64)), (.long (0 : Int64)), (.long (0 : Int64))] (.long (0 : Int64)) := Arv.set Ar21 q21 S21 N_21 H_21 G_21 rfl W22 0 rfl (Nat.le_of_ble_eq_true rfl)
  show G (T22.setTop (mkF m 112 #[oR a1, oJ u, oS, oJ w, oS, oI (8 : Int32)] []))
  refine hG _ (T22.setTop (mkF m 113 #[oR a1, oJ u, oS, oJ w, oS, oI (8 : Int32)] [(.ref a1)])) (fun t₀ k₀ => ?_) ?_
  · show Steps p.tables e below (T22.setTop (mkF m 112 #[oR a1, oJ u, oS, oJ w, oS, oI (8 : Int32)] [])) t₀
    refine XS.aloadN X22.here hx rfl (hb hby d4_112) rfl rfl ?_
    exact k₀
  obtain ⟨T23, X23, e23, st23⟩ := getF X22 hx hZ hown (host := "") (Or.inl (hw _ (List.mem_of_getElem? (i := 17) rfl))) Via.refl e22 fa1_starts_x22 (g := (mkF m 113 #[oR a1, oJ u, oS, oJ w, oS, oI (8 : Int32)] [(.ref a1)])) rfl rfl (hb hby d4_113)
  refine hG _ _ (fun t₀ k₀ => st23 _ k₀) ?_
  show G (T23.setTop (mkF m 116 #[oR a1, oJ u, oS, oJ w, oS, oI (8 : Int32)] [(.ref b12)]))
  refine hG _ (T23.setTop (mkF m 117 #[oR a1, oJ u, oS, oJ w, oS, oI (8 : Int32)] [(.ref a1), (.ref b12)])) (fun t₀ k₀ => ?_) ?_
  · show Steps p.tables e below (T23.setTop (mkF m 116 #[oR a1, oJ u, oS, oJ w, oS, oI (8 : Int32)] [(.ref b12)])) t₀
    refine XS.aloadN X23.here hx rfl (hb hby d4_116) rfl rfl ?_
    exact k₀
  obtain ⟨T24, X24, e24, st24⟩ := getF X23 hx hZ hown (host := "") (Or.inl (hw _ (List.mem_of_getElem? (i := 21) rfl))) Via.refl e23 fa1_last_x22 (g := (mkF m 117 #[oR a1, oJ u, oS, oJ w, oS, oI (8 : Int32)] [(.ref a1), (.ref b12)])) rfl rfl (hb hby d4_117)
  refine hG _ _ (fun t₀ k₀ => st24 _ k₀) ?_
  show G (T24.setTop (mkF m 120 #[oR a1, oJ u, oS, oJ w, oS, oI (8 : Int32)] [(.int (0 : Int32)), (.ref b12)]))
  refine hG _ (T24.setTop (mkF m 121 #[oR a1, oJ u, oS, oJ w, oS, oI (8 : Int32)] [(.long w), (.int (0 : Int32)), (.ref b12)])) (fun t₀ k₀ => ?_) ?_
  · show Steps p.tables e below (T24.setTop (mkF m 120 #[oR a1, oJ u, oS, oJ w, oS, oI (8 : Int32)] [(.int (0 : Int32)), (.ref b12)])) t₀
    refine XS.lloadN X24.here hx rfl (hb hby d4_120) rfl ?_
    exact k₀
  have ov25 := vb12_x22
  obtain ⟨cl25, Ar25, q25, S25, N_25, H_25, G_25⟩ := ov25
  have hin25 : ¬ ((0 : Int32) < 0 ∨ cl25.slots.size ≤ ((0 : Int32)).toNatClampNeg) := inb_of S25 ⟨by decide, by decide⟩
  obtain ⟨T26, h26, X26, e26, W26, st26⟩ := stJ X24 hx hZ e24 Ar25 (j := (0 : Int32)) hin25 (g := (mkF m 121 #[oR a1, oJ u, oS, oJ w, oS, oI (8 : Int32)] [(.long w), (.int (0 : Int32)), (.ref b12)])) rfl rfl (hb hby d4_121)
  refine hG _ _ (fun t₀ k₀ => st26 _ k₀) ?_
  have N26 := Fr.snoc X26 N22 gb12
  have o_x26 := o_x22.wr W26 gb12
  have ea1_x26 := ea1_x22.wr W26
  have fa1_seqNos_x26 := fa1_seqNos_x22.other W26 (Or.inl ne_a1_b12)
  have fa1_starts_x26 := fa1_starts_x22.other W26 (Or.inl ne_a1_b12)
  have fa1_ends_x26 := fa1_ends_x22.other W26 (Or.inl ne_a1_b12)
  have fa1_first_x26 := fa1_first_x22.other W26 (Or.inl ne_a1_b12)
  have fa1_last_x26 := fa1_last_x22.other W26 (Or.inl ne_a1_b12)
  have fa1_maxSeqNo_x26 := fa1_maxSeqNo_x22.other W26 (Or.inl ne_a1_b12)
  have fa1_mergeAt_x26 := fa1_mergeAt_x22.other W26 (Or.inl ne_a1_b12)
  have k_x26 := k_x22.wr W26 (Or.inr kw_b12)
  have vb9_x26 := V22.other W26 ne_b9_b12
  have vb15_x26 := vb15_x22.other W26 (Ne.symm ne_b12_b15)
  have z_26 : n0 ≤ h26.size := Nat.le_trans z_22 (Keep.of_wr W26).1
  have V26 : Arv Z h26 b12 kb12 .long (8 : Int32) [(.long w), (.long (0 : Int64)), (.long (0 : Int64)), (.long (0 : Int64)), (.long (0 : Int64)), (.long (0 : Int64)), (.long (0 : Int64)), (.long (0 : Int64))] (.long (0 : Int64)) := Arv.set Ar25 q25 S25 N_25 H_25 G_25 rfl W26 0 rfl (Nat.le_of_ble_eq_true rfl)
  show G (T26.setTop (mkF m 122 #[oR a1, oJ u, oS, oJ w, oS, oI (8 : Int32)] []))
  refine hG _ (T26.setTop (mkF m 123 #[oR a1, oJ u, oS, oJ w, oS, oI (8 : Int32)] [(.ref a1)])) (fun t₀ k₀ => ?_) ?_
  · show Steps p.tables e below (T26.setTop (mkF m 122 #[oR a1, oJ u, oS, oJ w, oS, oI (8 : Int32)] [])) t₀
    refine XS.aloadN X26.here hx rfl (hb hby d4_122) rfl rfl ?_
    exact k₀
  obtain ⟨T27, X27, e27, st27⟩ := getF X26 hx hZ hown (host := "") (Or.inl (hw _ (List.mem_of_getElem? (i := 19) rfl))) Via.refl e26 fa1_ends_x26 (g := (mkF m 123 #[oR a1, oJ u, oS, oJ w, oS, oI (8 : Int32)] [(.ref a1)])) rfl rfl (hb hby d4_123)
  refine hG _ _ (fun t₀ k₀ => st27 _ k₀) ?_
  show G (T27.setTop (mkF m 126 #[oR a1, oJ u, oS, oJ w, oS, oI (8 : Int32)] [(.ref b15)]))
  refine hG _ (T27.setTop (mkF m 127 #[oR a1, oJ u, oS, oJ w, oS, oI (8 : Int32)] [(.ref a1), (.ref b15)])) (fun t₀ k₀ => ?_) ?_
  · show Steps p.tables e below (T27.setTop (mkF m 126 #[oR a1, oJ u, oS, oJ w, oS, oI (8 : Int32)] [(.ref b15)])) t₀
    refine XS.aloadN X27.here hx rfl (hb hby d4_126) rfl rfl ?_
    exact k₀
  obtain ⟨T28, X28, e28, st28⟩ := getF X27 hx hZ hown (host := "") (Or.inl (hw _ (List.mem_of_getElem? (i := 21) rfl))) Via.refl e27 fa1_last_x26 (g := (mkF m 127 #[oR a1, oJ u, oS, oJ w, oS, oI (8 : Int32)] [(.ref a1), (.ref b15)])) rfl rfl (hb hby d4_127)
  refine hG _ _ (fun t₀ k₀ => st28 _ k₀) ?_
  show G (T28.setTop (mkF m 130 #[oR a1, oJ u, oS, oJ w, oS, oI (8 : Int32)] [(.int (0 : Int32)), (.ref b15)]))
  refine hG _ (T28.setTop (mkF m 131 #[oR a1, oJ u, oS, oJ w, oS, oI (8 : Int32)] [(.long w), (.int (0 : Int32)), (.ref b15)])) (fun t₀ k₀ => ?_) ?_
  · show Steps p.tables e below (T28.setTop (mkF m 130 #[oR a1, oJ u, oS, oJ w, oS, oI (8 : Int32)] [(.int (0 : Int32)), (.ref b15)])) t₀
    refine XS.lloadN X28.here hx rfl (hb hby d4_130) rfl ?_
    exact k₀
  have ov29 := vb15_x26
  obtain ⟨cl29, Ar29, q29, S29, N_29, H_29, G_29⟩ := ov29
  have hin29 : ¬ ((0 : Int32) < 0 ∨ cl29.slots.size ≤ ((0 : Int32)).toNatClampNeg) := inb_of S29 ⟨by decide, by decide⟩
  obtain ⟨T30, h30, X30, e30, W30, st30⟩ := stJ X28 hx hZ e28 Ar29 (j := (0 : Int32)) hin29 (g := (mkF m 131 #[oR a1, oJ u, oS, oJ w, oS, oI (8 : Int32)] [(.long w), (.int (0 : Int32)), (.ref b15)])) rfl rfl (hb hby d4_131)
  refine hG _ _ (fun t₀ k₀ => st30 _ k₀) ?_
  have N30 := Fr.snoc X30 N26 gb15
  have o_x30 := o_x26.wr W30 gb15
  have ea1_x30 := ea1_x26.wr W30
  have fa1_seqNos_x30 := fa1_seqNos_x26.other W30 (Or.inl ne_a1_b15)
  have fa1_starts_x30 := fa1_starts_x26.other W30 (Or.inl ne_a1_b15)
  have fa1_ends_x30 := fa1_ends_x26.other W30 (Or.inl ne_a1_b15)
  have fa1_first_x30 := fa1_first_x26.other W30 (Or.inl ne_a1_b15)
  have fa1_last_x30 := fa1_last_x26.other W30 (Or.inl ne_a1_b15)
  have fa1_maxSeqNo_x30 := fa1_maxSeqNo_x26.other W30 (Or.inl ne_a1_b15)
  have fa1_mergeAt_x30 := fa1_mergeAt_x26.other W30 (Or.inl ne_a1_b15)
  have k_x30 := k_x26.wr W30 (Or.inr kw_b15)
  have vb9_x30 := vb9_x26.other W30 ne_b9_b15
  have vb12_x30 := V26.other W30 ne_b12_b15
  have z_30 : n0 ≤ h30.size := Nat.le_trans z_26 (Keep.of_wr W30).1
  have V30 : Arv Z h30 b15 kb15 .long (8 : Int32) [(.long w), (.long (0 : Int64)), (.long (0 : Int64)), (.long (0 : Int64)), (.long (0 : Int64)), (.long (0 : Int64)), (.long (0 : Int64)), (.long (0 : Int64))] (.long (0 : Int64)) := Arv.set Ar29 q29 S29 N_29 H_29 G_29 rfl W30 0 rfl (Nat.le_of_ble_eq_true rfl)
  show G (T30.setTop (mkF m 132 #[oR a1, oJ u, oS, oJ w, oS, oI (8 : Int32)] []))
  refine hF _ T30 _ _ _ none _ X30 e30 (fun _ => rfl) (by decide) (by decide) ?_ (fun fs hr => X30.returnOut hx hrt (hb hby d4_132) hr)
  exact ⟨_, _, _, _, _, _, rfl, N30, k_x30, gb9, gb12, gb15, ne_a1_b9, ne_a1_b12, ne_a1_b15, ne_b9_b12, ne_b9_b15, ne_b12_b15, fa1_seqNos_x30, fa1_starts_x30, fa1_ends_x30, fa1_first_x30, fa1_last_x30, fa1_maxSeqNo_x30, fa1_mergeAt_x30, vb9_x30, vb12_x30, V30⟩
theorem ef_rmAB0 (m : MethodId) (x0 : Addr) (x1 : Int64) (x2 : Int64) : entryFrame m #[(.ref x0), (.long x1), (.long x2)] 6 = mkF m 0 #[oR x0, oJ x1, oS, oJ x2, oS, oU] [] := by first | (simp [entryFrame, mkF, argsToLocals, Value.category]; done) | rfl
def Q_rmAB0 (Z : State) (a1 : Addr) (u w : Int64) (wS wT wE : Addr) (kS kT kE : ClassId) (f : Int32) (mx : Int64) (x0 y0 z0 x1 y1 z1 x2 y2 z2 x3 y3 z3 x4 y4 z4 x5 y5 z5 x6 y6 z6 x7 y7 z7 : Int64) (h0 : Heap) (n0 : Nat) (v : Option Value) (h : Heap) (L : List Loc) : Prop := v = none ∧ Fr n0 L ∧ Keep h0 h [a1, wS, wT, wE] ∧ Fld Z h a1 "com/example/opledger/opledger/AppendTimes" "seqNos" "[J" (.ref wS) ∧ Fld Z h a1 "com/example/opledger/opledger/AppendTimes" "starts" "[J" (.ref wT) ∧ Fld Z h a1 "com/example/opledger/opledger/AppendTimes" "ends" "[J" (.ref wE) ∧ Fld Z h a1 "com/example/opledger/opledger/AppendTimes" "first" "I" (.int f) ∧ Fld Z h a1 "com/example/opledger/opledger/AppendTimes" "last" "I" (.int (1 : Int32)) ∧ Fld Z h a1 "com/example/opledger/opledger/AppendTimes" "maxSeqNo" "J" (.long mx) ∧ Fld Z h a1 "com/example/opledger/opledger/AppendTimes" "mergeAt" "I" (.int (64 : Int32)) ∧ Arv Z h wS kS .long (8 : Int32) [(.long x0), (.long u), (.long x2), (.long x3), (.long x4), (.long x5), (.long x6), (.long x7)] (.long (0 : Int64)) ∧ Arv Z h wT kT .long (8 : Int32) [(.long y0), (.long w), (.long y2), (.long y3), (.long y4), (.long y5), (.long y6), (.long y7)] (.long (0 : Int64)) ∧ Arv Z h wE kE .long (8 : Int32) [(.long z0), (.long w), (.long z2), (.long z3), (.long z4), (.long z5), (.long z6), (.long z7)] (.long (0 : Int64))
set_option maxRecDepth 65536 in
set_option maxHeartbeats 40000000 in
theorem rmAB0 (l : Launch) (Z : State) (a0 : Array Value) (hw : ∀ d ∈ tables_1, d.before a0 Z = true) (ws : List Jvm.Cond) (a1 : Addr) (u w : Int64) (wS wT wE : Addr) (kS kT kE : ClassId) (f : Int32) (mx : Int64) (x0 y0 z0 x1 y1 z1 x2 y2 z2 x3 y3 z3 x4 y4 z4 x5 y5 z5 x6 y6 z6 x7 y7 z7 : Int64) (h0 : Heap) (n0 : Nat) (Z0 : n0 ≤ h0.size) (E1 : Exa Z h0 a1 "com/example/opledger/opledger/AppendTimes") (F_seqNos : Fld Z h0 a1 "com/example/opledger/opledger/AppendTimes" "seqNos" "[J" (.ref wS)) (F_starts : Fld Z h0 a1 "com/example/opledger/opledger/AppendTimes" "starts" "[J" (.ref wT)) (F_ends : Fld Z h0 a1 "com/example/opledger/opledger/AppendTimes" "ends" "[J" (.ref wE)) (F_first : Fld Z h0 a1 "com/example/opledger/opledger/AppendTimes" "first" "I" (.int f)) (F_last : Fld Z h0 a1 "com/example/opledger/opledger/AppendTimes" "last" "I" (.int (0 : Int32))) (F_maxSeqNo : Fld Z h0 a1 "com/example/opledger/opledger/AppendTimes" "maxSeqNo" "J" (.long mx)) (F_mergeAt : Fld Z h0 a1 "com/example/opledger/opledger/AppendTimes" "mergeAt" "I" (.int (64 : Int32))) (V_wS : Arv Z h0 wS kS .long (8 : Int32) [(.long x0), (.long x1), (.long x2), (.long x3), (.long x4), (.long x5), (.long x6), (.long x7)] (.long (0 : Int64))) (V_wT : Arv Z h0 wT kT .long (8 : Int32) [(.long y0), (.long y1), (.long y2), (.long y3), (.long y4), (.long y5), (.long y6), (.long y7)] (.long (0 : Int64))) (V_wE : Arv Z h0 wE kE .long (8 : Int32) [(.long z0), (.long z1), (.long z2), (.long z3), (.long z4), (.long z5), (.long z6), (.long z7)] (.long (0 : Int64))) (g_a1 : n0 ≤ a1) (g_wS : n0 ≤ wS) (g_wT : n0 ≤ wT) (g_wE : n0 ≤ wE) (ne_a1_wS : a1 ≠ wS) (ne_a1_wT : a1 ≠ wT) (ne_a1_wE : a1 ≠ wE) (ne_wS_wT : wS ≠ wT) (ne_wS_wE : wS ≠ wE) (ne_wT_wE : wT ≠ wE) :
    MetFree l (⟨"com/example/opledger/opledger/AppendTimes", "add", "(JJ)V"⟩ : MethodName) (head1 (Jvm.Cond.code (⟨"com/example/opledger/opledger/AppendTimes", "add", "(JJ)V"⟩ : MethodName) prog_1_method_3_code 6 none :: ws) ({ frames := 0, cells := 0, slots := 0, locals := 0 } : Room)) (fun a U => a = #[(.ref a1), (.long u), (.long w)] ∧ Z.Warmed39 U.vm ∧ U.heap = h0) (fun _ _ _ _ _ => True) (fun _ U o U' => ∃ v L, o = .returned v ∧ Q_rmAB0 Z a1 u w wS wT wE kS kT kE f mx x0 y0 z0 x1 y1 z1 x2 y2 z2 x3 y3 z3 x4 y4 z4 x5 y5 z5 x6 y6 z6 x7 y7 z7 h0 n0 v U'.heap L ∧ FrameEnd U o U' L ({ frames := 0, cells := 0, slots := 0, locals := 0 } : Room).cells ({ frames := 0, cells := 0, slots := 0, locals := 0 } : Room).slots) := by
  refine own_body (Q := fun v h L => Q_rmAB0 Z a1 u w wS wT wE kS kT kE f mx x0 y0 z0 x1 y1 z1 x2 y2 z2 x3 y3 z3 x4 y4 z4 x5 y5 z5 x6 y6 z6 x7 y7 z7 h0 n0 v h L) pn_4 ?_
  intro p e s m below meth c s₁ G X0 hx hZ hby hml hown hnm hrt e0 hG hF
  have hown : s.vm.findClass "com/example/opledger/opledger/AppendTimes" = some m.cls := hown
  have N0 := Fr.nil n0
  rw [ef_rmAB0 m a1 u w]
  show G (s₁.setTop (mkF m 0 #[oR a1, oJ u, oS, oJ w, oS, oU] []))
  refine hG _ (s₁.setTop (mkF m 1 #[oR a1, oJ u, oS, oJ w, oS, oU] [(.ref a1)])) (fun t₀ k₀ => ?_) ?_
  · show Steps p.tables e below (s₁.setTop (mkF m 0 #[oR a1, oJ u, oS, oJ w, oS, oU] [])) t₀
    refine XS.aloadN X0.here hx rfl (hb hby d4_0) rfl rfl ?_
    exact k₀
  obtain ⟨T1, X1, e1, st1⟩ := getF X0 hx hZ hown (host := "") (Or.inl (hw _ (List.mem_of_getElem? (i := 33) rfl))) Via.refl e0 F_first (g := (mkF m 1 #[oR a1, oJ u, oS, oJ w, oS, oU] [(.ref a1)])) rfl rfl (hb hby d4_1)
  refine hG _ _ (fun t₀ k₀ => st1 _ k₀) ?_
  show G (T1.setTop (mkF m 4 #[oR a1, oJ u, oS, oJ w, oS, oU] [(.int f)]))
  by_cases hc4 : (0 : Int32) < f
  ·
    refine hG _ (T1.setTop (mkF m 8 #[oR a1, oJ u, oS, oJ w, oS, oU] [(.ref a1)])) (fun t₀ k₀ => ?_) ?_
    · show Steps p.tables e below (T1.setTop (mkF m 4 #[oR a1, oJ u, oS, oJ w, oS, oU] [(.int f)])) t₀
      refine XS.ifNo X1.here hx rfl (hb hby d4_4) rfl ((if0 _ _).trans (tlt hc4).2.2.2) ?_
      show Steps p.tables e below (T1.setTop (mkF m 7 #[oR a1, oJ u, oS, oJ w, oS, oU] [])) t₀
      refine XS.aloadN X1.here hx rfl (hb hby d4_7) rfl rfl ?_
      exact k₀
    obtain ⟨T2, X2, e2, st2⟩ := getF X1 hx hZ hown (host := "") (Or.inl (hw _ (List.mem_of_getElem? (i := 21) rfl))) Via.refl e1 F_last (g := (mkF m 8 #[oR a1, oJ u, oS, oJ w, oS, oU] [(.ref a1)])) rfl rfl (hb hby d4_8)
    refine hG _ _ (fun t₀ k₀ => st2 _ k₀) ?_
    show G (T2.setTop (mkF m 11 #[oR a1, oJ u, oS, oJ w, oS, oU] [(.int (0 : Int32))]))
    refine hG _ (T2.setTop (mkF m 14 #[oR a1, oJ u, oS, oJ w, oS, oU] [(.ref a1), (.int (1 : Int32))])) (fun t₀ k₀ => ?_) ?_
    · show Steps p.tables e below (T2.setTop (mkF m 11 #[oR a1, oJ u, oS, oJ w, oS, oU] [(.int (0 : Int32))])) t₀
      refine XS.iconst X2.here hx rfl (hb hby d4_11) ?_
      show Steps p.tables e below (T2.setTop (mkF m 12 #[oR a1, oJ u, oS, oJ w, oS, oU] [(.int (1 : Int32)), (.int (0 : Int32))])) t₀
      refine XS.iadd X2.here hx rfl (hb hby d4_12) rfl ?_
      show Steps p.tables e below (T2.setTop (mkF m 13 #[oR a1, oJ u, oS, oJ w, oS, oU] [(.int (1 : Int32))])) t₀
      refine XS.aloadN X2.here hx rfl (hb hby d4_13) rfl rfl ?_
      exact k₀
    obtain ⟨T3, X3, e3, st3⟩ := getF X2 hx hZ hown (host := "") (Or.inl (hw _ (List.mem_of_getElem? (i := 15) rfl))) Via.refl e2 F_seqNos (g := (mkF m 14 #[oR a1, oJ u, oS, oJ w, oS, oU] [(.ref a1), (.int (1 : Int32))])) rfl rfl (hb hby d4_14)
    refine hG _ _ (fun t₀ k₀ => st3 _ k₀) ?_
    show G (T3.setTop (mkF m 17 #[oR a1, oJ u, oS, oJ w, oS, oU] [(.ref wS), (.int (1 : Int32))]))
    have ov4 := V_wS
    obtain ⟨cl4, Ar4, q4, S4, N_4, H_4, G_4⟩ := ov4
    refine hG _ (T3.setTop (mkF m 26 #[oR a1, oJ u, oS, oJ w, oS, oU] [(.ref a1)])) (fun t₀ k₀ => ?_) ?_
    · show Steps p.tables e below (T3.setTop (mkF m 17 #[oR a1, oJ u, oS, oJ w, oS, oU] [(.ref wS), (.int (1 : Int32))])) t₀
      refine X3.arraylength hx (by rw [e3]; exact Ar4.1) (State.isArrayOf_alike hZ.alike Ar4.2.1) (g := (mkF m 17 #[oR a1, oJ u, oS, oJ w, oS, oU] [(.ref wS), (.int (1 : Int32))])) rfl rfl (hb hby d4_17) _ ?_
      rw [len_of S4 N_4]
      show Steps p.tables e below (T3.setTop (mkF m 18 #[oR a1, oJ u, oS, oJ w, oS, oU] [(.int (8 : Int32)), (.int (1 : Int32))])) t₀
      refine XS.icmpYes X3.here hx rfl (pc0 := 18) (pc' := 25) rfl (hb hby d4_18) rfl (feq (by decide : ¬ ((1 : Int32) = (8 : Int32)))).2 (by decide) (by decide) ?_
      show Steps p.tables e below (T3.setTop (mkF m 25 #[oR a1, oJ u, oS, oJ w, oS, oU] [])) t₀
      refine XS.aloadN X3.here hx rfl (hb hby d4_25) rfl rfl ?_
      exact k₀
    obtain ⟨T5, X5, e5, st5⟩ := getF X3 hx hZ hown (host := "") (Or.inl (hw _ (List.mem_of_getElem? (i := 21) rfl))) Via.refl e3 F_last (g := (mkF m 26 #[oR a1, oJ u, oS, oJ w, oS, oU] [(.ref a1)])) rfl rfl (hb hby d4_26)
    refine hG _ _ (fun t₀ k₀ => st5 _ k₀) ?_
    show G (T5.setTop (mkF m 29 #[oR a1, oJ u, oS, oJ w, oS, oU] [(.int (0 : Int32))]))
    refine hG _ (T5.setTop (mkF m 32 #[oR a1, oJ u, oS, oJ w, oS, oU] [(.ref a1), (.int (1 : Int32))])) (fun t₀ k₀ => ?_) ?_
    · show Steps p.tables e below (T5.setTop (mkF m 29 #[oR a1, oJ u, oS, oJ w, oS, oU] [(.int (0 : Int32))])) t₀
      refine XS.iconst X5.here hx rfl (hb hby d4_29) ?_
      show Steps p.tables e below (T5.setTop (mkF m 30 #[oR a1, oJ u, oS, oJ w, oS, oU] [(.int (1 : Int32)), (.int (0 : Int32))])) t₀
      refine XS.iadd X5.here hx rfl (hb hby d4_30) rfl ?_
      show Steps p.tables e below (T5.setTop (mkF m 31 #[oR a1, oJ u, oS, oJ w, oS, oU] [(.int (1 : Int32))])) t₀
      refine XS.aloadN X5.here hx rfl (hb hby d4_31) rfl rfl ?_
      exact k₀
    obtain ⟨T6, X6, e6, st6⟩ := getF X5 hx hZ hown (host := "") (Or.inl (hw _ (List.mem_of_getElem? (i := 15) rfl))) Via.refl e5 F_seqNos (g := (mkF m 32 #[oR a1, oJ u, oS, oJ w, oS, oU] [(.ref a1), (.int (1 : Int32))])) rfl rfl (hb hby d4_32)
    refine hG _ _ (fun t₀ k₀ => st6 _ k₀) ?_
    show G (T6.setTop (mkF m 35 #[oR a1, oJ u, oS, oJ w, oS, oU] [(.ref wS), (.int (1 : Int32))]))
    have ov7 := V_wS
    obtain ⟨cl7, Ar7, q7, S7, N_7, H_7, G_7⟩ := ov7
    refine hG _ (T6.setTop (mkF m 94 #[oR a1, oJ u, oS, oJ w, oS, oU] [(.ref a1), (.ref a1)])) (fun t₀ k₀ => ?_) ?_
    · show Steps p.tables e below (T6.setTop (mkF m 35 #[oR a1, oJ u, oS, oJ w, oS, oU] [(.ref wS), (.int (1 : Int32))])) t₀
      refine X6.arraylength hx (by rw [e6]; exact Ar7.1) (State.isArrayOf_alike hZ.alike Ar7.2.1) (g := (mkF m 35 #[oR a1, oJ u, oS, oJ w, oS, oU] [(.ref wS), (.int (1 : Int32))])) rfl rfl (hb hby d4_35) _ ?_
      rw [len_of S7 N_7]
      show Steps p.tables e below (T6.setTop (mkF m 36 #[oR a1, oJ u, oS, oJ w, oS, oU] [(.int (8 : Int32)), (.int (1 : Int32))])) t₀
      refine XS.icmpYes X6.here hx rfl (pc0 := 36) (pc' := 92) rfl (hb hby d4_36) rfl (feq (by decide : ¬ ((1 : Int32) = (8 : Int32)))).2 (by decide) (by decide) ?_
      show Steps p.tables e below (T6.setTop (mkF m 92 #[oR a1, oJ u, oS, oJ w, oS, oU] [])) t₀
      refine XS.aloadN X6.here hx rfl (hb hby d4_92) rfl rfl ?_
      show Steps p.tables e below (T6.setTop (mkF m 93 #[oR a1, oJ u, oS, oJ w, oS, oU] [(.ref a1)])) t₀
      refine XS.dup X6.here hx rfl (hb hby d4_93) rfl rfl ?_
      exact k₀
    obtain ⟨T8, X8, e8, st8⟩ := getF X6 hx hZ hown (host := "") (Or.inl (hw _ (List.mem_of_getElem? (i := 21) rfl))) Via.refl e6 F_last (g := (mkF m 94 #[oR a1, oJ u, oS, oJ w, oS, oU] [(.ref a1), (.ref a1)])) rfl rfl (hb hby d4_94)
    refine hG _ _ (fun t₀ k₀ => st8 _ k₀) ?_
    show G (T8.setTop (mkF m 97 #[oR a1, oJ u, oS, oJ w, oS, oU] [(.int (0 : Int32)), (.ref a1)]))
    refine hG _ (T8.setTop (mkF m 99 #[oR a1, oJ u, oS, oJ w, oS, oU] [(.int (1 : Int32)), (.ref a1)])) (fun t₀ k₀ => ?_) ?_
    · show Steps p.tables e below (T8.setTop (mkF m 97 #[oR a1, oJ u, oS, oJ w, oS, oU] [(.int (0 : Int32)), (.ref a1)])) t₀
      refine XS.iconst X8.here hx rfl (hb hby d4_97) ?_
      show Steps p.tables e below (T8.setTop (mkF m 98 #[oR a1, oJ u, oS, oJ w, oS, oU] [(.int (1 : Int32)), (.int (0 : Int32)), (.ref a1)])) t₀
      refine XS.iadd X8.here hx rfl (hb hby d4_98) rfl ?_
      exact k₀
    obtain ⟨T9, h9, X9, e9, W9, st9⟩ := putF X8 hx hZ hown (host := "") (Or.inl (hw _ (List.mem_of_getElem? (i := 21) rfl))) Via.refl e8 F_last E1 (Or.inl (hw _ (List.mem_of_getElem? (i := 22) rfl))) (hw _ (List.mem_of_getElem? (i := 5) rfl)) (ty := .int) (by decide) rfl rfl (g := (mkF m 99 #[oR a1, oJ u, oS, oJ w, oS, oU] [(.int (1 : Int32)), (.ref a1)])) rfl rfl (hb hby d4_99)
    refine hG _ _ (fun t₀ k₀ => st9 _ k₀) ?_
    have N9 := Fr.snoc X9 N0 g_a1
    have ea1_x9 := E1.wr W9
    have fa1_seqNos_x9 := F_seqNos.other W9 (Or.inr (slot_ne (Or.inl (hw _ (List.mem_of_getElem? (i := 16) rfl))) (Or.inl (hw _ (List.mem_of_getElem? (i := 22) rfl))) (by decide) (t := (.array .long)) (t' := .int) (by decide) (by decide)))
    have fa1_starts_x9 := F_starts.other W9 (Or.inr (slot_ne (Or.inl (hw _ (List.mem_of_getElem? (i := 18) rfl))) (Or.inl (hw _ (List.mem_of_getElem? (i := 22) rfl))) (by decide) (t := (.array .long)) (t' := .int) (by decide) (by decide)))
    have fa1_ends_x9 := F_ends.other W9 (Or.inr (slot_ne (Or.inl (hw _ (List.mem_of_getElem? (i := 20) rfl))) (Or.inl (hw _ (List.mem_of_getElem? (i := 22) rfl))) (by decide) (t := (.array .long)) (t' := .int) (by decide) (by decide)))
    have fa1_first_x9 := F_first.other W9 (Or.inr (slot_ne (Or.inl (hw _ (List.mem_of_getElem? (i := 34) rfl))) (Or.inl (hw _ (List.mem_of_getElem? (i := 22) rfl))) (by decide) (t := .int) (t' := .int) (by decide) (by decide)))
    have fa1_maxSeqNo_x9 := F_maxSeqNo.other W9 (Or.inr (slot_ne (Or.inl (hw _ (List.mem_of_getElem? (i := 25) rfl))) (Or.inl (hw _ (List.mem_of_getElem? (i := 22) rfl))) (by decide) (t := .long) (t' := .int) (by decide) (by decide)))
    have fa1_mergeAt_x9 := F_mergeAt.other W9 (Or.inr (slot_ne (Or.inl (hw _ (List.mem_of_getElem? (i := 27) rfl))) (Or.inl (hw _ (List.mem_of_getElem? (i := 22) rfl))) (by decide) (t := .int) (t' := .int) (by decide) (by decide)))
    have vwS_x9 := V_wS.other W9 (Ne.symm ne_a1_wS)
    have vwT_x9 := V_wT.other W9 (Ne.symm ne_a1_wT)
    have vwE_x9 := V_wE.other W9 (Ne.symm ne_a1_wE)
    have k_x9 := (Keep.refl h0 [a1, wS, wT, wE]).wr W9 (Or.inl (List.mem_of_getElem? (i := 0) rfl))
    have z_9 : n0 ≤ h9.size := Nat.le_trans Z0 (Keep.of_wr W9).1
    have F9_last := F_last.same W9
    show G (T9.setTop (mkF m 102 #[oR a1, oJ u, oS, oJ w, oS, oU] []))
    refine hG _ (T9.setTop (mkF m 103 #[oR a1, oJ u, oS, oJ w, oS, oU] [(.ref a1)])) (fun t₀ k₀ => ?_) ?_
    · show Steps p.tables e below (T9.setTop (mkF m 102 #[oR a1, oJ u, oS, oJ w, oS, oU] [])) t₀
      refine XS.aloadN X9.here hx rfl (hb hby d4_102) rfl rfl ?_
      exact k₀
    obtain ⟨T10, X10, e10, st10⟩ := getF X9 hx hZ hown (host := "") (Or.inl (hw _ (List.mem_of_getElem? (i := 15) rfl))) Via.refl e9 fa1_seqNos_x9 (g := (mkF m 103 #[oR a1, oJ u, oS, oJ w, oS, oU] [(.ref a1)])) rfl rfl (hb hby d4_103)
    refine hG _ _ (fun t₀ k₀ => st10 _ k₀) ?_
    show G (T10.setTop (mkF m 106 #[oR a1, oJ u, oS, oJ w, oS, oU] [(.ref wS)]))
    refine hG _ (T10.setTop (mkF m 107 #[oR a1, oJ u, oS, oJ w, oS, oU] [(.ref a1), (.ref wS)])) (fun t₀ k₀ => ?_) ?_
    · show Steps p.tables e below (T10.setTop (mkF m 106 #[oR a1, oJ u, oS, oJ w, oS, oU] [(.ref wS)])) t₀
      refine XS.aloadN X10.here hx rfl (hb hby d4_106) rfl rfl ?_
      exact k₀
    obtain ⟨T11, X11, e11, st11⟩ := getF X10 hx hZ hown (host := "") (Or.inl (hw _ (List.mem_of_getElem? (i := 21) rfl))) Via.refl e10 F9_last (g := (mkF m 107 #[oR a1, oJ u, oS, oJ w, oS, oU] [(.ref a1), (.ref wS)])) rfl rfl (hb hby d4_107)
    refine hG _ _ (fun t₀ k₀ => st11 _ k₀) ?_
    show G (T11.setTop (mkF m 110 #[oR a1, oJ u, oS, oJ w, oS, oU] [(.int (1 : Int32)), (.ref wS)]))
    refine hG _ (T11.setTop (mkF m 111 #[oR a1, oJ u, oS, oJ w, oS, oU] [(.long u), (.int (1 : Int32)), (.ref wS)])) (fun t₀ k₀ => ?_) ?_
    · show Steps p.tables e below (T11.setTop (mkF m 110 #[oR a1, oJ u, oS, oJ w, oS, oU] [(.int (1 : Int32)), (.ref wS)])) t₀
      refine XS.lloadN X11.here hx rfl (hb hby d4_110) rfl ?_
      exact k₀
    have ov12 := vwS_x9
    obtain ⟨cl12, Ar12, q12, S12, N_12, H_12, G_12⟩ := ov12
    have hin12 : ¬ ((1 : Int32) < 0 ∨ cl12.slots.size ≤ ((1 : Int32)).toNatClampNeg) := inb_of S12 ⟨by decide, by decide⟩
    obtain ⟨T13, h13, X13, e13, W13, st13⟩ := stJ X11 hx hZ e11 Ar12 (j := (1 : Int32)) hin12 (g := (mkF m 111 #[oR a1, oJ u, oS, oJ w, oS, oU] [(.long u), (.int (1 : Int32)), (.ref wS)])) rfl rfl (hb hby d4_111)
    refine hG _ _ (fun t₀ k₀ => st13 _ k₀) ?_
    have N13 := Fr.snoc X13 N9 g_wS
    have ea1_x13 := ea1_x9.wr W13
    have fa1_seqNos_x13 := fa1_seqNos_x9.other W13 (Or.inl ne_a1_wS)
    have fa1_starts_x13 := fa1_starts_x9.other W13 (Or.inl ne_a1_wS)
    have fa1_ends_x13 := fa1_ends_x9.other W13 (Or.inl ne_a1_wS)
    have fa1_first_x13 := fa1_first_x9.other W13 (Or.inl ne_a1_wS)
    have fa1_last_x13 := F9_last.other W13 (Or.inl ne_a1_wS)
    have fa1_maxSeqNo_x13 := fa1_maxSeqNo_x9.other W13 (Or.inl ne_a1_wS)
    have fa1_mergeAt_x13 := fa1_mergeAt_x9.other W13 (Or.inl ne_a1_wS)
    have vwT_x13 := vwT_x9.other W13 (Ne.symm ne_wS_wT)
    have vwE_x13 := vwE_x9.other W13 (Ne.symm ne_wS_wE)
    have k_x13 := k_x9.wr W13 (Or.inl (List.mem_of_getElem? (i := 1) rfl))
    have z_13 : n0 ≤ h13.size := Nat.le_trans z_9 (Keep.of_wr W13).1
    have V13 : Arv Z h13 wS kS .long (8 : Int32) [(.long x0), (.long u), (.long x2), (.long x3), (.long x4), (.long x5), (.long x6), (.long x7)] (.long (0 : Int64)) := Arv.set Ar12 q12 S12 N_12 H_12 G_12 rfl W13 1 rfl (Nat.le_of_ble_eq_true rfl)
    show G (T13.setTop (mkF m 112 #[oR a1, oJ u, oS, oJ w, oS, oU] []))
    refine hG _ (T13.setTop (mkF m 113 #[oR a1, oJ u, oS, oJ w, oS, oU] [(.ref a1)])) (fun t₀ k₀ => ?_) ?_
    · show Steps p.tables e below (T13.setTop (mkF m 112 #[oR a1, oJ u, oS, oJ w, oS, oU] [])) t₀
      refine XS.aloadN X13.here hx rfl (hb hby d4_112) rfl rfl ?_
      exact k₀
    obtain ⟨T14, X14, e14, st14⟩ := getF X13 hx hZ hown (host := "") (Or.inl (hw _ (List.mem_of_getElem? (i := 17) rfl))) Via.refl e13 fa1_starts_x13 (g := (mkF m 113 #[oR a1, oJ u, oS, oJ w, oS, oU] [(.ref a1)])) rfl rfl (hb hby d4_113)
    refine hG _ _ (fun t₀ k₀ => st14 _ k₀) ?_
    show G (T14.setTop (mkF m 116 #[oR a1, oJ u, oS, oJ w, oS, oU] [(.ref wT)]))
    refine hG _ (T14.setTop (mkF m 117 #[oR a1, oJ u, oS, oJ w, oS, oU] [(.ref a1), (.ref wT)])) (fun t₀ k₀ => ?_) ?_
    · show Steps p.tables e below (T14.setTop (mkF m 116 #[oR a1, oJ u, oS, oJ w, oS, oU] [(.ref wT)])) t₀
      refine XS.aloadN X14.here hx rfl (hb hby d4_116) rfl rfl ?_
      exact k₀
    obtain ⟨T15, X15, e15, st15⟩ := getF X14 hx hZ hown (host := "") (Or.inl (hw _ (List.mem_of_getElem? (i := 21) rfl))) Via.refl e14 fa1_last_x13 (g := (mkF m 117 #[oR a1, oJ u, oS, oJ w, oS, oU] [(.ref a1), (.ref wT)])) rfl rfl (hb hby d4_117)
    refine hG _ _ (fun t₀ k₀ => st15 _ k₀) ?_
    show G (T15.setTop (mkF m 120 #[oR a1, oJ u, oS, oJ w, oS, oU] [(.int (1 : Int32)), (.ref wT)]))
    refine hG _ (T15.setTop (mkF m 121 #[oR a1, oJ u, oS, oJ w, oS, oU] [(.long w), (.int (1 : Int32)), (.ref wT)])) (fun t₀ k₀ => ?_) ?_
    · show Steps p.tables e below (T15.setTop (mkF m 120 #[oR a1, oJ u, oS, oJ w, oS, oU] [(.int (1 : Int32)), (.ref wT)])) t₀
      refine XS.lloadN X15.here hx rfl (hb hby d4_120) rfl ?_
      exact k₀
    have ov16 := vwT_x13
    obtain ⟨cl16, Ar16, q16, S16, N_16, H_16, G_16⟩ := ov16
    have hin16 : ¬ ((1 : Int32) < 0 ∨ cl16.slots.size ≤ ((1 : Int32)).toNatClampNeg) := inb_of S16 ⟨by decide, by decide⟩
    obtain ⟨T17, h17, X17, e17, W17, st17⟩ := stJ X15 hx hZ e15 Ar16 (j := (1 : Int32)) hin16 (g := (mkF m 121 #[oR a1, oJ u, oS, oJ w, oS, oU] [(.long w), (.int (1 : Int32)), (.ref wT)])) rfl rfl (hb hby d4_121)
    refine hG _ _ (fun t₀ k₀ => st17 _ k₀) ?_
    have N17 := Fr.snoc X17 N13 g_wT
    have ea1_x17 := ea1_x13.wr W17
    have fa1_seqNos_x17 := fa1_seqNos_x13.other W17 (Or.inl ne_a1_wT)
    have fa1_starts_x17 := fa1_starts_x13.other W17 (Or.inl ne_a1_wT)
    have fa1_ends_x17 := fa1_ends_x13.other W17 (Or.inl ne_a1_wT)
    have fa1_first_x17 := fa1_first_x13.other W17 (Or.inl ne_a1_wT)
    have fa1_last_x17 := fa1_last_x13.other W17 (Or.inl ne_a1_wT)
    have fa1_maxSeqNo_x17 := fa1_maxSeqNo_x13.other W17 (Or.inl ne_a1_wT)
    have fa1_mergeAt_x17 := fa1_mergeAt_x13.other W17 (Or.inl ne_a1_wT)
    have vwS_x17 := V13.other W17 ne_wS_wT
    have vwE_x17 := vwE_x13.other W17 (Ne.symm ne_wT_wE)
    have k_x17 := k_x13.wr W17 (Or.inl (List.mem_of_getElem? (i := 2) rfl))
    have z_17 : n0 ≤ h17.size := Nat.le_trans z_13 (Keep.of_wr W17).1
    have V17 : Arv Z h17 wT kT .long (8 : Int32) [(.long y0), (.long w), (.long y2), (.long y3), (.long y4), (.long y5), (.long y6), (.long y7)] (.long (0 : Int64)) := Arv.set Ar16 q16 S16 N_16 H_16 G_16 rfl W17 1 rfl (Nat.le_of_ble_eq_true rfl)
    show G (T17.setTop (mkF m 122 #[oR a1, oJ u, oS, oJ w, oS, oU] []))
    refine hG _ (T17.setTop (mkF m 123 #[oR a1, oJ u, oS, oJ w, oS, oU] [(.ref a1)])) (fun t₀ k₀ => ?_) ?_
    · show Steps p.tables e below (T17.setTop (mkF m 122 #[oR a1, oJ u, oS, oJ w, oS, oU] [])) t₀
      refine XS.aloadN X17.here hx rfl (hb hby d4_122) rfl rfl ?_
      exact k₀
    obtain ⟨T18, X18, e18, st18⟩ := getF X17 hx hZ hown (host := "") (Or.inl (hw _ (List.mem_of_getElem? (i := 19) rfl))) Via.refl e17 fa1_ends_x17 (g := (mkF m 123 #[oR a1, oJ u, oS, oJ w, oS, oU] [(.ref a1)])) rfl rfl (hb hby d4_123)
    refine hG _ _ (fun t₀ k₀ => st18 _ k₀) ?_
    show G (T18.setTop (mkF m 126 #[oR a1, oJ u, oS, oJ w, oS, oU] [(.ref wE)]))
    refine hG _ (T18.setTop (mkF m 127 #[oR a1, oJ u, oS, oJ w, oS, oU] [(.ref a1), (.ref wE)])) (fun t₀ k₀ => ?_) ?_
    · show Steps p.tables e below (T18.setTop (mkF m 126 #[oR a1, oJ u, oS, oJ w, oS, oU] [(.ref wE)])) t₀
      refine XS.aloadN X18.here hx rfl (hb hby d4_126) rfl rfl ?_
      exact k₀
    obtain ⟨T19, X19, e19, st19⟩ := getF X18 hx hZ hown (host := "") (Or.inl (hw _ (List.mem_of_getElem? (i := 21) rfl))) Via.refl e18 fa1_last_x17 (g := (mkF m 127 #[oR a1, oJ u, oS, oJ w, oS, oU] [(.ref a1), (.ref wE)])) rfl rfl (hb hby d4_127)
    refine hG _ _ (fun t₀ k₀ => st19 _ k₀) ?_
    show G (T19.setTop (mkF m 130 #[oR a1, oJ u, oS, oJ w, oS, oU] [(.int (1 : Int32)), (.ref wE)]))
    refine hG _ (T19.setTop (mkF m 131 #[oR a1, oJ u, oS, oJ w, oS, oU] [(.long w), (.int (1 : Int32)), (.ref wE)])) (fun t₀ k₀ => ?_) ?_
    · show Steps p.tables e below (T19.setTop (mkF m 130 #[oR a1, oJ u, oS, oJ w, oS, oU] [(.int (1 : Int32)), (.ref wE)])) t₀
      refine XS.lloadN X19.here hx rfl (hb hby d4_130) rfl ?_
      exact k₀
    have ov20 := vwE_x17
    obtain ⟨cl20, Ar20, q20, S20, N_20, H_20, G_20⟩ := ov20
    have hin20 : ¬ ((1 : Int32) < 0 ∨ cl20.slots.size ≤ ((1 : Int32)).toNatClampNeg) := inb_of S20 ⟨by decide, by decide⟩
    obtain ⟨T21, h21, X21, e21, W21, st21⟩ := stJ X19 hx hZ e19 Ar20 (j := (1 : Int32)) hin20 (g := (mkF m 131 #[oR a1, oJ u, oS, oJ w, oS, oU] [(.long w), (.int (1 : Int32)), (.ref wE)])) rfl rfl (hb hby d4_131)
    refine hG _ _ (fun t₀ k₀ => st21 _ k₀) ?_
    have N21 := Fr.snoc X21 N17 g_wE
    have ea1_x21 := ea1_x17.wr W21
    have fa1_seqNos_x21 := fa1_seqNos_x17.other W21 (Or.inl ne_a1_wE)
    have fa1_starts_x21 := fa1_starts_x17.other W21 (Or.inl ne_a1_wE)
    have fa1_ends_x21 := fa1_ends_x17.other W21 (Or.inl ne_a1_wE)
    have fa1_first_x21 := fa1_first_x17.other W21 (Or.inl ne_a1_wE)
    have fa1_last_x21 := fa1_last_x17.other W21 (Or.inl ne_a1_wE)
    have fa1_maxSeqNo_x21 := fa1_maxSeqNo_x17.other W21 (Or.inl ne_a1_wE)
    have fa1_mergeAt_x21 := fa1_mergeAt_x17.other W21 (Or.inl ne_a1_wE)
    have vwS_x21 := vwS_x17.other W21 ne_wS_wE
    have vwT_x21 := V17.other W21 ne_wT_wE
    have k_x21 := k_x17.wr W21 (Or.inl (List.mem_of_getElem? (i := 3) rfl))
    have z_21 : n0 ≤ h21.size := Nat.le_trans z_17 (Keep.of_wr W21).1
    have V21 : Arv Z h21 wE kE .long (8 : Int32) [(.long z0), (.long w), (.long z2), (.long z3), (.long z4), (.long z5), (.long z6), (.long z7)] (.long (0 : Int64)) := Arv.set Ar20 q20 S20 N_20 H_20 G_20 rfl W21 1 rfl (Nat.le_of_ble_eq_true rfl)
    show G (T21.setTop (mkF m 132 #[oR a1, oJ u, oS, oJ w, oS, oU] []))
    refine hF _ T21 _ _ _ none _ X21 e21 (fun _ => rfl) (by decide) (by decide) ?_ (fun fs hr => X21.returnOut hx hrt (hb hby d4_132) hr)
    exact ⟨rfl, N21, k_x21, fa1_seqNos_x21, fa1_starts_x21, fa1_ends_x21, fa1_first_x21, fa1_last_x21, fa1_maxSeqNo_x21, fa1_mergeAt_x21, vwS_x21, vwT_x21, V21⟩
  ·
    refine hG _ (T1.setTop (mkF m 26 #[oR a1, oJ u, oS, oJ w, oS, oU] [(.ref a1)])) (fun t₀ k₀ => ?_) ?_
    · show Steps p.tables e below (T1.setTop (mkF m 4 #[oR a1, oJ u, oS, oJ w, oS, oU] [(.int f)])) t₀
      refine XS.ifYes X1.here hx rfl (pc0 := 4) (pc' := 25) rfl (hb hby d4_4) rfl ((if0 _ _).trans (flt hc4).2.2.2) (by decide) (by decide) ?_
      show Steps p.tables e below (T1.setTop (mkF m 25 #[oR a1, oJ u, oS, oJ w, oS, oU] [])) t₀
      refine XS.aloadN X1.here hx rfl (hb hby d4_25) rfl rfl ?_
      exact k₀
    obtain ⟨T22, X22, e22, st22⟩ := getF X1 hx hZ hown (host := "") (Or.inl (hw _ (List.mem_of_getElem? (i := 21) rfl))) Via.refl e1 F_last (g := (mkF m 26 #[oR a1, oJ u, oS, oJ w, oS, oU] [(.ref a1)])) rfl rfl (hb hby d4_26)
    refine hG _ _ (fun t₀ k₀ => st22 _ k₀) ?_
    show G (T22.setTop (mkF m 29 #[oR a1, oJ u, oS, oJ w, oS, oU] [(.int (0 : Int32))]))
    refine hG _ (T22.setTop (mkF m 32 #[oR a1, oJ u, oS, oJ w, oS, oU] [(.ref a1), (.int (1 : Int32))])) (fun t₀ k₀ => ?_) ?_
    · show Steps p.tables e below (T22.setTop (mkF m 29 #[oR a1, oJ u, oS, oJ w, oS, oU] [(.int (0 : Int32))])) t₀
      refine XS.iconst X22.here hx rfl (hb hby d4_29) ?_
      show Steps p.tables e below (T22.setTop (mkF m 30 #[oR a1, oJ u, oS, oJ w, oS, oU] [(.int (1 : Int32)), (.int (0 : Int32))])) t₀
      refine XS.iadd X22.here hx rfl (hb hby d4_30) rfl ?_
      show Steps p.tables e below (T22.setTop (mkF m 31 #[oR a1, oJ u, oS, oJ w, oS, oU] [(.int (1 : Int32))])) t₀
      refine XS.aloadN X22.here hx rfl (hb hby d4_31) rfl rfl ?_
      exact k₀
    obtain ⟨T23, X23, e23, st23⟩ := getF X22 hx hZ hown (host := "") (Or.inl (hw _ (List.mem_of_getElem? (i := 15) rfl))) Via.refl e22 F_seqNos (g := (mkF m 32 #[oR a1, oJ u, oS, oJ w, oS, oU] [(.ref a1), (.int (1 : Int32))])) rfl rfl (hb hby d4_32)
    refine hG _ _ (fun t₀ k₀ => st23 _ k₀) ?_
    show G (T23.setTop (mkF m 35 #[oR a1, oJ u, oS, oJ w, oS, oU] [(.ref wS), (.int (1 : Int32))]))
    have ov24 := V_wS
    obtain ⟨cl24, Ar24, q24, S24, N_24, H_24, G_24⟩ := ov24
    refine hG _ (T23.setTop (mkF m 94 #[oR a1, oJ u, oS, oJ w, oS, oU] [(.ref a1), (.ref a1)])) (fun t₀ k₀ => ?_) ?_
    · show Steps p.tables e below (T23.setTop (mkF m 35 #[oR a1, oJ u, oS, oJ w, oS, oU] [(.ref wS), (.int (1 : Int32))])) t₀
      refine X23.arraylength hx (by rw [e23]; exact Ar24.1) (State.isArrayOf_alike hZ.alike Ar24.2.1) (g := (mkF m 35 #[oR a1, oJ u, oS, oJ w, oS, oU] [(.ref wS), (.int (1 : Int32))])) rfl rfl (hb hby d4_35) _ ?_
      rw [len_of S24 N_24]
      show Steps p.tables e below (T23.setTop (mkF m 36 #[oR a1, oJ u, oS, oJ w, oS, oU] [(.int (8 : Int32)), (.int (1 : Int32))])) t₀
      refine XS.icmpYes X23.here hx rfl (pc0 := 36) (pc' := 92) rfl (hb hby d4_36) rfl (feq (by decide : ¬ ((1 : Int32) = (8 : Int32)))).2 (by decide) (by decide) ?_
      show Steps p.tables e below (T23.setTop (mkF m 92 #[oR a1, oJ u, oS, oJ w, oS, oU] [])) t₀
      refine XS.aloadN X23.here hx rfl (hb hby d4_92) rfl rfl ?_
      show Steps p.tables e below (T23.setTop (mkF m 93 #[oR a1, oJ u, oS, oJ w, oS, oU] [(.ref a1)])) t₀
      refine XS.dup X23.here hx rfl (hb hby d4_93) rfl rfl ?_
      exact k₀
    obtain ⟨T25, X25, e25, st25⟩ := getF X23 hx hZ hown (host := "") (Or.inl (hw _ (List.mem_of_getElem? (i := 21) rfl))) Via.refl e23 F_last (g := (mkF m 94 #[oR a1, oJ u, oS, oJ w, oS, oU] [(.ref a1), (.ref a1)])) rfl rfl (hb hby d4_94)
    refine hG _ _ (fun t₀ k₀ => st25 _ k₀) ?_
    show G (T25.setTop (mkF m 97 #[oR a1, oJ u, oS, oJ w, oS, oU] [(.int (0 : Int32)), (.ref a1)]))
    refine hG _ (T25.setTop (mkF m 99 #[oR a1, oJ u, oS, oJ w, oS, oU] [(.int (1 : Int32)), (.ref a1)])) (fun t₀ k₀ => ?_) ?_
    · show Steps p.tables e below (T25.setTop (mkF m 97 #[oR a1, oJ u, oS, oJ w, oS, oU] [(.int (0 : Int32)), (.ref a1)])) t₀
      refine XS.iconst X25.here hx rfl (hb hby d4_97) ?_
      show Steps p.tables e below (T25.setTop (mkF m 98 #[oR a1, oJ u, oS, oJ w, oS, oU] [(.int (1 : Int32)), (.int (0 : Int32)), (.ref a1)])) t₀
      refine XS.iadd X25.here hx rfl (hb hby d4_98) rfl ?_
      exact k₀
    obtain ⟨T26, h26, X26, e26, W26, st26⟩ := putF X25 hx hZ hown (host := "") (Or.inl (hw _ (List.mem_of_getElem? (i := 21) rfl))) Via.refl e25 F_last E1 (Or.inl (hw _ (List.mem_of_getElem? (i := 22) rfl))) (hw _ (List.mem_of_getElem? (i := 5) rfl)) (ty := .int) (by decide) rfl rfl (g := (mkF m 99 #[oR a1, oJ u, oS, oJ w, oS, oU] [(.int (1 : Int32)), (.ref a1)])) rfl rfl (hb hby d4_99)
    refine hG _ _ (fun t₀ k₀ => st26 _ k₀) ?_
    have N26 := Fr.snoc X26 N0 g_a1
    have ea1_x26 := E1.wr W26
    have fa1_seqNos_x26 := F_seqNos.other W26 (Or.inr (slot_ne (Or.inl (hw _ (List.mem_of_getElem? (i := 16) rfl))) (Or.inl (hw _ (List.mem_of_getElem? (i := 22) rfl))) (by decide) (t := (.array .long)) (t' := .int) (by decide) (by decide)))
    have fa1_starts_x26 := F_starts.other W26 (Or.inr (slot_ne (Or.inl (hw _ (List.mem_of_getElem? (i := 18) rfl))) (Or.inl (hw _ (List.mem_of_getElem? (i := 22) rfl))) (by decide) (t := (.array .long)) (t' := .int) (by decide) (by decide)))
    have fa1_ends_x26 := F_ends.other W26 (Or.inr (slot_ne (Or.inl (hw _ (List.mem_of_getElem? (i := 20) rfl))) (Or.inl (hw _ (List.mem_of_getElem? (i := 22) rfl))) (by decide) (t := (.array .long)) (t' := .int) (by decide) (by decide)))
    have fa1_first_x26 := F_first.other W26 (Or.inr (slot_ne (Or.inl (hw _ (List.mem_of_getElem? (i := 34) rfl))) (Or.inl (hw _ (List.mem_of_getElem? (i := 22) rfl))) (by decide) (t := .int) (t' := .int) (by decide) (by decide)))
    have fa1_maxSeqNo_x26 := F_maxSeqNo.other W26 (Or.inr (slot_ne (Or.inl (hw _ (List.mem_of_getElem? (i := 25) rfl))) (Or.inl (hw _ (List.mem_of_getElem? (i := 22) rfl))) (by decide) (t := .long) (t' := .int) (by decide) (by decide)))
    have fa1_mergeAt_x26 := F_mergeAt.other W26 (Or.inr (slot_ne (Or.inl (hw _ (List.mem_of_getElem? (i := 27) rfl))) (Or.inl (hw _ (List.mem_of_getElem? (i := 22) rfl))) (by decide) (t := .int) (t' := .int) (by decide) (by decide)))
    have vwS_x26 := V_wS.other W26 (Ne.symm ne_a1_wS)
    have vwT_x26 := V_wT.other W26 (Ne.symm ne_a1_wT)
    have vwE_x26 := V_wE.other W26 (Ne.symm ne_a1_wE)
    have k_x26 := (Keep.refl h0 [a1, wS, wT, wE]).wr W26 (Or.inl (List.mem_of_getElem? (i := 0) rfl))
    have z_26 : n0 ≤ h26.size := Nat.le_trans Z0 (Keep.of_wr W26).1
    have F26_last := F_last.same W26
    show G (T26.setTop (mkF m 102 #[oR a1, oJ u, oS, oJ w, oS, oU] []))
    refine hG _ (T26.setTop (mkF m 103 #[oR a1, oJ u, oS, oJ w, oS, oU] [(.ref a1)])) (fun t₀ k₀ => ?_) ?_
    · show Steps p.tables e below (T26.setTop (mkF m 102 #[oR a1, oJ u, oS, oJ w, oS, oU] [])) t₀
      refine XS.aloadN X26.here hx rfl (hb hby d4_102) rfl rfl ?_
      exact k₀
    obtain ⟨T27, X27, e27, st27⟩ := getF X26 hx hZ hown (host := "") (Or.inl (hw _ (List.mem_of_getElem? (i := 15) rfl))) Via.refl e26 fa1_seqNos_x26 (g := (mkF m 103 #[oR a1, oJ u, oS, oJ w, oS, oU] [(.ref a1)])) rfl rfl (hb hby d4_103)
    refine hG _ _ (fun t₀ k₀ => st27 _ k₀) ?_
    show G (T27.setTop (mkF m 106 #[oR a1, oJ u, oS, oJ w, oS, oU] [(.ref wS)]))
    refine hG _ (T27.setTop (mkF m 107 #[oR a1, oJ u, oS, oJ w, oS, oU] [(.ref a1), (.ref wS)])) (fun t₀ k₀ => ?_) ?_
    · show Steps p.tables e below (T27.setTop (mkF m 106 #[oR a1, oJ u, oS, oJ w, oS, oU] [(.ref wS)])) t₀
      refine XS.aloadN X27.here hx rfl (hb hby d4_106) rfl rfl ?_
      exact k₀
    obtain ⟨T28, X28, e28, st28⟩ := getF X27 hx hZ hown (host := "") (Or.inl (hw _ (List.mem_of_getElem? (i := 21) rfl))) Via.refl e27 F26_last (g := (mkF m 107 #[oR a1, oJ u, oS, oJ w, oS, oU] [(.ref a1), (.ref wS)])) rfl rfl (hb hby d4_107)
    refine hG _ _ (fun t₀ k₀ => st28 _ k₀) ?_
    show G (T28.setTop (mkF m 110 #[oR a1, oJ u, oS, oJ w, oS, oU] [(.int (1 : Int32)), (.ref wS)]))
    refine hG _ (T28.setTop (mkF m 111 #[oR a1, oJ u, oS, oJ w, oS, oU] [(.long u), (.int (1 : Int32)), (.ref wS)])) (fun t₀ k₀ => ?_) ?_
    · show Steps p.tables e below (T28.setTop (mkF m 110 #[oR a1, oJ u, oS, oJ w, oS, oU] [(.int (1 : Int32)), (.ref wS)])) t₀
      refine XS.lloadN X28.here hx rfl (hb hby d4_110) rfl ?_
      exact k₀
    have ov29 := vwS_x26
    obtain ⟨cl29, Ar29, q29, S29, N_29, H_29, G_29⟩ := ov29
    have hin29 : ¬ ((1 : Int32) < 0 ∨ cl29.slots.size ≤ ((1 : Int32)).toNatClampNeg) := inb_of S29 ⟨by decide, by decide⟩
    obtain ⟨T30, h30, X30, e30, W30, st30⟩ := stJ X28 hx hZ e28 Ar29 (j := (1 : Int32)) hin29 (g := (mkF m 111 #[oR a1, oJ u, oS, oJ w, oS, oU] [(.long u), (.int (1 : Int32)), (.ref wS)])) rfl rfl (hb hby d4_111)
    refine hG _ _ (fun t₀ k₀ => st30 _ k₀) ?_
    have N30 := Fr.snoc X30 N26 g_wS
    have ea1_x30 := ea1_x26.wr W30
    have fa1_seqNos_x30 := fa1_seqNos_x26.other W30 (Or.inl ne_a1_wS)
    have fa1_starts_x30 := fa1_starts_x26.other W30 (Or.inl ne_a1_wS)
    have fa1_ends_x30 := fa1_ends_x26.other W30 (Or.inl ne_a1_wS)
    have fa1_first_x30 := fa1_first_x26.other W30 (Or.inl ne_a1_wS)
    have fa1_last_x30 := F26_last.other W30 (Or.inl ne_a1_wS)
    have fa1_maxSeqNo_x30 := fa1_maxSeqNo_x26.other W30 (Or.inl ne_a1_wS)
    have fa1_mergeAt_x30 := fa1_mergeAt_x26.other W30 (Or.inl ne_a1_wS)
    have vwT_x30 := vwT_x26.other W30 (Ne.symm ne_wS_wT)
    have vwE_x30 := vwE_x26.other W30 (Ne.symm ne_wS_wE)
    have k_x30 := k_x26.wr W30 (Or.inl (List.mem_of_getElem? (i := 1) rfl))
    have z_30 : n0 ≤ h30.size := Nat.le_trans z_26 (Keep.of_wr W30).1
    have V30 : Arv Z h30 wS kS .long (8 : Int32) [(.long x0), (.long u), (.long x2), (.long x3), (.long x4), (.long x5), (.long x6), (.long x7)] (.long (0 : Int64)) := Arv.set Ar29 q29 S29 N_29 H_29 G_29 rfl W30 1 rfl (Nat.le_of_ble_eq_true rfl)
    show G (T30.setTop (mkF m 112 #[oR a1, oJ u, oS, oJ w, oS, oU] []))
    refine hG _ (T30.setTop (mkF m 113 #[oR a1, oJ u, oS, oJ w, oS, oU] [(.ref a1)])) (fun t₀ k₀ => ?_) ?_
    · show Steps p.tables e below (T30.setTop (mkF m 112 #[oR a1, oJ u, oS, oJ w, oS, oU] [])) t₀
      refine XS.aloadN X30.here hx rfl (hb hby d4_112) rfl rfl ?_
      exact k₀
    obtain ⟨T31, X31, e31, st31⟩ := getF X30 hx hZ hown (host := "") (Or.inl (hw _ (List.mem_of_getElem? (i := 17) rfl))) Via.refl e30 fa1_starts_x30 (g := (mkF m 113 #[oR a1, oJ u, oS, oJ w, oS, oU] [(.ref a1)])) rfl rfl (hb hby d4_113)
    refine hG _ _ (fun t₀ k₀ => st31 _ k₀) ?_
    show G (T31.setTop (mkF m 116 #[oR a1, oJ u, oS, oJ w, oS, oU] [(.ref wT)]))
    refine hG _ (T31.setTop (mkF m 117 #[oR a1, oJ u, oS, oJ w, oS, oU] [(.ref a1), (.ref wT)])) (fun t₀ k₀ => ?_) ?_
    · show Steps p.tables e below (T31.setTop (mkF m 116 #[oR a1, oJ u, oS, oJ w, oS, oU] [(.ref wT)])) t₀
      refine XS.aloadN X31.here hx rfl (hb hby d4_116) rfl rfl ?_
      exact k₀
    obtain ⟨T32, X32, e32, st32⟩ := getF X31 hx hZ hown (host := "") (Or.inl (hw _ (List.mem_of_getElem? (i := 21) rfl))) Via.refl e31 fa1_last_x30 (g := (mkF m 117 #[oR a1, oJ u, oS, oJ w, oS, oU] [(.ref a1), (.ref wT)])) rfl rfl (hb hby d4_117)
    refine hG _ _ (fun t₀ k₀ => st32 _ k₀) ?_
    show G (T32.setTop (mkF m 120 #[oR a1, oJ u, oS, oJ w, oS, oU] [(.int (1 : Int32)), (.ref wT)]))
    refine hG _ (T32.setTop (mkF m 121 #[oR a1, oJ u, oS, oJ w, oS, oU] [(.long w), (.int (1 : Int32)), (.ref wT)])) (fun t₀ k₀ => ?_) ?_
    · show Steps p.tables e below (T32.setTop (mkF m 120 #[oR a1, oJ u, oS, oJ w, oS, oU] [(.int (1 : Int32)), (.ref wT)])) t₀
      refine XS.lloadN X32.here hx rfl (hb hby d4_120) rfl ?_
      exact k₀
    have ov33 := vwT_x30
    obtain ⟨cl33, Ar33, q33, S33, N_33, H_33, G_33⟩ := ov33
    have hin33 : ¬ ((1 : Int32) < 0 ∨ cl33.slots.size ≤ ((1 : Int32)).toNatClampNeg) := inb_of S33 ⟨by decide, by decide⟩
    obtain ⟨T34, h34, X34, e34, W34, st34⟩ := stJ X32 hx hZ e32 Ar33 (j := (1 : Int32)) hin33 (g := (mkF m 121 #[oR a1, oJ u, oS, oJ w, oS, oU] [(.long w), (.int (1 : Int32)), (.ref wT)])) rfl rfl (hb hby d4_121)
    refine hG _ _ (fun t₀ k₀ => st34 _ k₀) ?_
    have N34 := Fr.snoc X34 N30 g_wT
    have ea1_x34 := ea1_x30.wr W34
    have fa1_seqNos_x34 := fa1_seqNos_x30.other W34 (Or.inl ne_a1_wT)
    have fa1_starts_x34 := fa1_starts_x30.other W34 (Or.inl ne_a1_wT)
    have fa1_ends_x34 := fa1_ends_x30.other W34 (Or.inl ne_a1_wT)
    have fa1_first_x34 := fa1_first_x30.other W34 (Or.inl ne_a1_wT)
    have fa1_last_x34 := fa1_last_x30.other W34 (Or.inl ne_a1_wT)
    have fa1_maxSeqNo_x34 := fa1_maxSeqNo_x30.other W34 (Or.inl ne_a1_wT)
    have fa1_mergeAt_x34 := fa1_mergeAt_x30.other W34 (Or.inl ne_a1_wT)
    have vwS_x34 := V30.other W34 ne_wS_wT
    have vwE_x34 := vwE_x30.other W34 (Ne.symm ne_wT_wE)
    have k_x34 := k_x30.wr W34 (Or.inl (List.mem_of_getElem? (i := 2) rfl))
    have z_34 : n0 ≤ h34.size := Nat.le_trans z_30 (Keep.of_wr W34).1
    have V34 : Arv Z h34 wT kT .long (8 : Int32) [(.long y0), (.long w), (.long y2), (.long y3), (.long y4), (.long y5), (.long y6), (.long y7)] (.long (0 : Int64)) := Arv.set Ar33 q33 S33 N_33 H_33 G_33 rfl W34 1 rfl (Nat.le_of_ble_eq_true rfl)
    show G (T34.setTop (mkF m 122 #[oR a1, oJ u, oS, oJ w, oS, oU] []))
    refine hG _ (T34.setTop (mkF m 123 #[oR a1, oJ u, oS, oJ w, oS, oU] [(.ref a1)])) (fun t₀ k₀ => ?_) ?_
    · show Steps p.tables e below (T34.setTop (mkF m 122 #[oR a1, oJ u, oS, oJ w, oS, oU] [])) t₀
      refine XS.aloadN X34.here hx rfl (hb hby d4_122) rfl rfl ?_
      exact k₀
    obtain ⟨T35, X35, e35, st35⟩ := getF X34 hx hZ hown (host := "") (Or.inl (hw _ (List.mem_of_getElem? (i := 19) rfl))) Via.refl e34 fa1_ends_x34 (g := (mkF m 123 #[oR a1, oJ u, oS, oJ w, oS, oU] [(.ref a1)])) rfl rfl (hb hby d4_123)
    refine hG _ _ (fun t₀ k₀ => st35 _ k₀) ?_
    show G (T35.setTop (mkF m 126 #[oR a1, oJ u, oS, oJ w, oS, oU] [(.ref wE)]))
    refine hG _ (T35.setTop (mkF m 127 #[oR a1, oJ u, oS, oJ w, oS, oU] [(.ref a1), (.ref wE)])) (fun t₀ k₀ => ?_) ?_
    · show Steps p.tables e below (T35.setTop (mkF m 126 #[oR a1, oJ u, oS, oJ w, oS, oU] [(.ref wE)])) t₀
      refine XS.aloadN X35.here hx rfl (hb hby d4_126) rfl rfl ?_
      exact k₀
    obtain ⟨T36, X36, e36, st36⟩ := getF X35 hx hZ hown (host := "") (Or.inl (hw _ (List.mem_of_getElem? (i := 21) rfl))) Via.refl e35 fa1_last_x34 (g := (mkF m 127 #[oR a1, oJ u, oS, oJ w, oS, oU] [(.ref a1), (.ref wE)])) rfl rfl (hb hby d4_127)
    refine hG _ _ (fun t₀ k₀ => st36 _ k₀) ?_
    show G (T36.setTop (mkF m 130 #[oR a1, oJ u, oS, oJ w, oS, oU] [(.int (1 : Int32)), (.ref wE)]))
    refine hG _ (T36.setTop (mkF m 131 #[oR a1, oJ u, oS, oJ w, oS, oU] [(.long w), (.int (1 : Int32)), (.ref wE)])) (fun t₀ k₀ => ?_) ?_
    · show Steps p.tables e below (T36.setTop (mkF m 130 #[oR a1, oJ u, oS, oJ w, oS, oU] [(.int (1 : Int32)), (.ref wE)])) t₀
      refine XS.lloadN X36.here hx rfl (hb hby d4_130) rfl ?_
      exact k₀
    have ov37 := vwE_x34
    obtain ⟨cl37, Ar37, q37, S37, N_37, H_37, G_37⟩ := ov37
    have hin37 : ¬ ((1 : Int32) < 0 ∨ cl37.slots.size ≤ ((1 : Int32)).toNatClampNeg) := inb_of S37 ⟨by decide, by decide⟩
    obtain ⟨T38, h38, X38, e38, W38, st38⟩ := stJ X36 hx hZ e36 Ar37 (j := (1 : Int32)) hin37 (g := (mkF m 131 #[oR a1, oJ u, oS, oJ w, oS, oU] [(.long w), (.int (1 : Int32)), (.ref wE)])) rfl rfl (hb hby d4_131)
    refine hG _ _ (fun t₀ k₀ => st38 _ k₀) ?_
    have N38 := Fr.snoc X38 N34 g_wE
    have ea1_x38 := ea1_x34.wr W38
    have fa1_seqNos_x38 := fa1_seqNos_x34.other W38 (Or.inl ne_a1_wE)
    have fa1_starts_x38 := fa1_starts_x34.other W38 (Or.inl ne_a1_wE)
    have fa1_ends_x38 := fa1_ends_x34.other W38 (Or.inl ne_a1_wE)
    have fa1_first_x38 := fa1_first_x34.other W38 (Or.inl ne_a1_wE)
    have fa1_last_x38 := fa1_last_x34.other W38 (Or.inl ne_a1_wE)
    have fa1_maxSeqNo_x38 := fa1_maxSeqNo_x34.other W38 (Or.inl ne_a1_wE)
    have fa1_mergeAt_x38 := fa1_mergeAt_x34.other W38 (Or.inl ne_a1_wE)
    have vwS_x38 := vwS_x34.other W38 ne_wS_wE
    have vwT_x38 := V34.other W38 ne_wT_wE
    have k_x38 := k_x34.wr W38 (Or.inl (List.mem_of_getElem? (i := 3) rfl))
    have z_38 : n0 ≤ h38.size := Nat.le_trans z_34 (Keep.of_wr W38).1
    have V38 : Arv Z h38 wE kE .long (8 : Int32) [(.long z0), (.long w), (.long z2), (.long z3), (.long z4), (.long z5), (.long z6), (.long z7)] (.long (0 : Int64)) := Arv.set Ar37 q37 S37 N_37 H_37 G_37 rfl W38 1 rfl (Nat.le_of_ble_eq_true rfl)
    show G (T38.setTop (mkF m 132 #[oR a1, oJ u, oS, oJ w, oS, oU] []))
    refine hF _ T38 _ _ _ none _ X38 e38 (fun _ => rfl) (by decide) (by decide) ?_ (fun fs hr => X38.returnOut hx hrt (hb hby d4_132) hr)
    exact ⟨rfl, N38, k_x38, fa1_seqNos_x38, fa1_starts_x38, fa1_ends_x38, fa1_first_x38, fa1_last_x38, fa1_maxSeqNo_x38, fa1_mergeAt_x38, vwS_x38, vwT_x38, V38⟩
theorem ef_rmAB1 (m : MethodId) (x0 : Addr) (x1 : Int64) (x2 : Int64) : entryFrame m #[(.ref x0), (.long x1), (.long x2)] 6 = mkF m 0 #[oR x0, oJ x1, oS, oJ x2, oS, oU] [] := by first | (simp [entryFrame, mkF, argsToLocals, Value.category]; done) | rfl
def Q_rmAB1 (Z : State) (a1 : Addr) (u w : Int64) (wS wT wE : Addr) (kS kT kE : ClassId) (f : Int32) (mx : Int64) (x0 y0 z0 x1 y1 z1 x2 y2 z2 x3 y3 z3 x4 y4 z4 x5 y5 z5 x6 y6 z6 x7 y7 z7 : Int64) (h0 : Heap) (n0 : Nat) (v : Option Value) (h : Heap) (L : List Loc) : Prop := v = none ∧ Fr n0 L ∧ Keep h0 h [a1, wS, wT, wE] ∧ Fld Z h a1 "com/example/opledger/opledger/AppendTimes" "seqNos" "[J" (.ref wS) ∧ Fld Z h a1 "com/example/opledger/opledger/AppendTimes" "starts" "[J" (.ref wT) ∧ Fld Z h a1 "com/example/opledger/opledger/AppendTimes" "ends" "[J" (.ref wE) ∧ Fld Z h a1 "com/example/opledger/opledger/AppendTimes" "first" "I" (.int f) ∧ Fld Z h a1 "com/example/opledger/opledger/AppendTimes" "last" "I" (.int (2 : Int32)) ∧ Fld Z h a1 "com/example/opledger/opledger/AppendTimes" "maxSeqNo" "J" (.long mx) ∧ Fld Z h a1 "com/example/opledger/opledger/AppendTimes" "mergeAt" "I" (.int (64 : Int32)) ∧ Arv Z h wS kS .long (8 : Int32) [(.long x0), (.long x1), (.long u), (.long x3), (.long x4), (.long x5), (.long x6), (.long x7)] (.long (0 : Int64)) ∧ Arv Z h wT kT .long (8 : Int32) [(.long y0), (.long y1), (.long w), (.long y3), (.long y4), (.long y5), (.long y6), (.long y7)] (.long (0 : Int64)) ∧ Arv Z h wE kE .long (8 : Int32) [(.long z0), (.long z1), (.long w), (.long z3), (.long z4), (.long z5), (.long z6), (.long z7)] (.long (0 : Int64))
set_option maxRecDepth 65536 in
set_option maxHeartbeats 40000000 in
theorem rmAB1 (l : Launch) (Z : State) (a0 : Array Value) (hw : ∀ d ∈ tables_1, d.before a0 Z = true) (ws : List Jvm.Cond) (a1 : Addr) (u w : Int64) (wS wT wE : Addr) (kS kT kE : ClassId) (f : Int32) (mx : Int64) (x0 y0 z0 x1 y1 z1 x2 y2 z2 x3 y3 z3 x4 y4 z4 x5 y5 z5 x6 y6 z6 x7 y7 z7 : Int64) (h0 : Heap) (n0 : Nat) (Z0 : n0 ≤ h0.size) (E1 : Exa Z h0 a1 "com/example/opledger/opledger/AppendTimes") (F_seqNos : Fld Z h0 a1 "com/example/opledger/opledger/AppendTimes" "seqNos" "[J" (.ref wS)) (F_starts : Fld Z h0 a1 "com/example/opledger/opledger/AppendTimes" "starts" "[J" (.ref wT)) (F_ends : Fld Z h0 a1 "com/example/opledger/opledger/AppendTimes" "ends" "[J" (.ref wE)) (F_first : Fld Z h0 a1 "com/example/opledger/opledger/AppendTimes" "first" "I" (.int f)) (F_last : Fld Z h0 a1 "com/example/opledger/opledger/AppendTimes" "last" "I" (.int (1 : Int32))) (F_maxSeqNo : Fld Z h0 a1 "com/example/opledger/opledger/AppendTimes" "maxSeqNo" "J" (.long mx)) (F_mergeAt : Fld Z h0 a1 "com/example/opledger/opledger/AppendTimes" "mergeAt" "I" (.int (64 : Int32))) (V_wS : Arv Z h0 wS kS .long (8 : Int32) [(.long x0), (.long x1), (.long x2), (.long x3), (.long x4), (.long x5), (.long x6), (.long x7)] (.long (0 : Int64))) (V_wT : Arv Z h0 wT kT .long (8 : Int32) [(.long y0), (.long y1), (.long y2), (.long y3), (.long y4), (.long y5), (.long y6), (.long y7)] (.long (0 : Int64))) (V_wE : Arv Z h0 wE kE .long (8 : Int32) [(.long z0), (.long z1), (.long z2), (.long z3), (.long z4), (.long z5), (.long z6), (.long z7)] (.long (0 : Int64))) (g_a1 : n0 ≤ a1) (g_wS : n0 ≤ wS) (g_wT : n0 ≤ wT) (g_wE : n0 ≤ wE) (ne_a1_wS : a1 ≠ wS) (ne_a1_wT : a1 ≠ wT) (ne_a1_wE : a1 ≠ wE) (ne_wS_wT : wS ≠ wT) (ne_wS_wE : wS ≠ wE) (ne_wT_wE : wT ≠ wE) :
    MetFree l (⟨"com/example/opledger/opledger/AppendTimes", "add", "(JJ)V"⟩ : MethodName) (head1 (Jvm.Cond.code (⟨"com/example/opledger/opledger/AppendTimes", "add", "(JJ)V"⟩ : MethodName) prog_1_method_3_code 6 none :: ws) ({ frames := 0, cells := 0, slots := 0, locals := 0 } : Room)) (fun a U => a = #[(.ref a1), (.long u), (.long w)] ∧ Z.Warmed39 U.vm ∧ U.heap = h0) (fun _ _ _ _ _ => True) (fun _ U o U' => ∃ v L, o = .returned v ∧ Q_rmAB1 Z a1 u w wS wT wE kS kT kE f mx x0 y0 z0 x1 y1 z1 x2 y2 z2 x3 y3 z3 x4 y4 z4 x5 y5 z5 x6 y6 z6 x7 y7 z7 h0 n0 v U'.heap L ∧ FrameEnd U o U' L ({ frames := 0, cells := 0, slots := 0, locals := 0 } : Room).cells ({ frames := 0, cells := 0, slots := 0, locals := 0 } : Room).slots) := by
  refine own_body (Q := fun v h L => Q_rmAB1 Z a1 u w wS wT wE kS kT kE f mx x0 y0 z0 x1 y1 z1 x2 y2 z2 x3 y3 z3 x4 y4 z4 x5 y5 z5 x6 y6 z6 x7 y7 z7 h0 n0 v h L) pn_4 ?_
  intro p e s m below meth c s₁ G X0 hx hZ hby hml hown hnm hrt e0 hG hF
  have hown : s.vm.findClass "com/example/opledger/opledger/AppendTimes" = some m.cls := hown
  have N0 := Fr.nil n0
  rw [ef_rmAB1 m a1 u w]
  show G (s₁.setTop (mkF m 0 #[oR a1, oJ u, oS, oJ w, oS, oU] []))
  refine hG _ (s₁.setTop (mkF m 1 #[oR a1, oJ u, oS, oJ w, oS, oU] [(.ref a1)])) (fun t₀ k₀ => ?_) ?_
  · show Steps p.tables e below (s₁.setTop (mkF m 0 #[oR a1, oJ u, oS, oJ w, oS, oU] [])) t₀
    refine XS.aloadN X0.here hx rfl (hb hby d4_0) rfl rfl ?_
    exact k₀
  obtain ⟨T1, X1, e1, st1⟩ := getF X0 hx hZ hown (host := "") (Or.inl (hw _ (List.mem_of_getElem? (i := 33) rfl))) Via.refl e0 F_first (g := (mkF m 1 #[oR a1, oJ u, oS, oJ w, oS, oU] [(.ref a1)])) rfl rfl (hb hby d4_1)
  refine hG _ _ (fun t₀ k₀ => st1 _ k₀) ?_
  show G (T1.setTop (mkF m 4 #[oR a1, oJ u, oS, oJ w, oS, oU] [(.int f)]))
  by_cases hc4 : (0 : Int32) < f
  ·
    refine hG _ (T1.setTop (mkF m 8 #[oR a1, oJ u, oS, oJ w, oS, oU] [(.ref a1)])) (fun t₀ k₀ => ?_) ?_
    · show Steps p.tables e below (T1.setTop (mkF m 4 #[oR a1, oJ u, oS, oJ w, oS, oU] [(.int f)])) t₀
      refine XS.ifNo X1.here hx rfl (hb hby d4_4) rfl ((if0 _ _).trans (tlt hc4).2.2.2) ?_
      show Steps p.tables e below (T1.setTop (mkF m 7 #[oR a1, oJ u, oS, oJ w, oS, oU] [])) t₀
      refine XS.aloadN X1.here hx rfl (hb hby d4_7) rfl rfl ?_
      exact k₀
    obtain ⟨T2, X2, e2, st2⟩ := getF X1 hx hZ hown (host := "") (Or.inl (hw _ (List.mem_of_getElem? (i := 21) rfl))) Via.refl e1 F_last (g := (mkF m 8 #[oR a1, oJ u, oS, oJ w, oS, oU] [(.ref a1)])) rfl rfl (hb hby d4_8)
    refine hG _ _ (fun t₀ k₀ => st2 _ k₀) ?_
    show G (T2.setTop (mkF m 11 #[oR a1, oJ u, oS, oJ w, oS, oU] [(.int (1 : Int32))]))
    refine hG _ (T2.setTop (mkF m 14 #[oR a1, oJ u, oS, oJ w, oS, oU] [(.ref a1), (.int (2 : Int32))])) (fun t₀ k₀ => ?_) ?_
    · show Steps p.tables e below (T2.setTop (mkF m 11 #[oR a1, oJ u, oS, oJ w, oS, oU] [(.int (1 : Int32))])) t₀
      refine XS.iconst X2.here hx rfl (hb hby d4_11) ?_
      show Steps p.tables e below (T2.setTop (mkF m 12 #[oR a1, oJ u, oS, oJ w, oS, oU] [(.int (1 : Int32)), (.int (1 : Int32))])) t₀
      refine XS.iadd X2.here hx rfl (hb hby d4_12) rfl ?_
      show Steps p.tables e below (T2.setTop (mkF m 13 #[oR a1, oJ u, oS, oJ w, oS, oU] [(.int (2 : Int32))])) t₀
      refine XS.aloadN X2.here hx rfl (hb hby d4_13) rfl rfl ?_
      exact k₀
    obtain ⟨T3, X3, e3, st3⟩ := getF X2 hx hZ hown (host := "") (Or.inl (hw _ (List.mem_of_getElem? (i := 15) rfl))) Via.refl e2 F_seqNos (g := (mkF m 14 #[oR a1, oJ u, oS, oJ w, oS, oU] [(.ref a1), (.int (2 : Int32))])) rfl rfl (hb hby d4_14)
    refine hG _ _ (fun t₀ k₀ => st3 _ k₀) ?_
    show G (T3.setTop (mkF m 17 #[oR a1, oJ u, oS, oJ w, oS, oU] [(.ref wS), (.int (2 : Int32))]))
    have ov4 := V_wS
    obtain ⟨cl4, Ar4, q4, S4, N_4, H_4, G_4⟩ := ov4
    refine hG _ (T3.setTop (mkF m 26 #[oR a1, oJ u, oS, oJ w, oS, oU] [(.ref a1)])) (fun t₀ k₀ => ?_) ?_
    · show Steps p.tables e below (T3.setTop (mkF m 17 #[oR a1, oJ u, oS, oJ w, oS, oU] [(.ref wS), (.int (2 : Int32))])) t₀
      refine X3.arraylength hx (by rw [e3]; exact Ar4.1) (State.isArrayOf_alike hZ.alike Ar4.2.1) (g := (mkF m 17 #[oR a1, oJ u, oS, oJ w, oS, oU] [(.ref wS), (.int (2 : Int32))])) rfl rfl (hb hby d4_17) _ ?_
      rw [len_of S4 N_4]
      show Steps p.tables e below (T3.setTop (mkF m 18 #[oR a1, oJ u, oS, oJ w, oS, oU] [(.int (8 : Int32)), (.int (2 : Int32))])) t₀
      refine XS.icmpYes X3.here hx rfl (pc0 := 18) (pc' := 25) rfl (hb hby d4_18) rfl (feq (by decide : ¬ ((2 : Int32) = (8 : Int32)))).2 (by decide) (by decide) ?_
      show Steps p.tables e below (T3.setTop (mkF m 25 #[oR a1, oJ u, oS, oJ w, oS, oU] [])) t₀
      refine XS.aloadN X3.here hx rfl (hb hby d4_25) rfl rfl ?_
      exact k₀
    obtain ⟨T5, X5, e5, st5⟩ := getF X3 hx hZ hown (host := "") (Or.inl (hw _ (List.mem_of_getElem? (i := 21) rfl))) Via.refl e3 F_last (g := (mkF m 26 #[oR a1, oJ u, oS, oJ w, oS, oU] [(.ref a1)])) rfl rfl (hb hby d4_26)
    refine hG _ _ (fun t₀ k₀ => st5 _ k₀) ?_
    show G (T5.setTop (mkF m 29 #[oR a1, oJ u, oS, oJ w, oS, oU] [(.int (1 : Int32))]))
    refine hG _ (T5.setTop (mkF m 32 #[oR a1, oJ u, oS, oJ w, oS, oU] [(.ref a1), (.int (2 : Int32))])) (fun t₀ k₀ => ?_) ?_
    · show Steps p.tables e below (T5.setTop (mkF m 29 #[oR a1, oJ u, oS, oJ w, oS, oU] [(.int (1 : Int32))])) t₀
      refine XS.iconst X5.here hx rfl (hb hby d4_29) ?_
      show Steps p.tables e below (T5.setTop (mkF m 30 #[oR a1, oJ u, oS, oJ w, oS, oU] [(.int (1 : Int32)), (.int (1 : Int32))])) t₀
      refine XS.iadd X5.here hx rfl (hb hby d4_30) rfl ?_
      show Steps p.tables e below (T5.setTop (mkF m 31 #[oR a1, oJ u, oS, oJ w, oS, oU] [(.int (2 : Int32))])) t₀
      refine XS.aloadN X5.here hx rfl (hb hby d4_31) rfl rfl ?_
      exact k₀
    obtain ⟨T6, X6, e6, st6⟩ := getF X5 hx hZ hown (host := "") (Or.inl (hw _ (List.mem_of_getElem? (i := 15) rfl))) Via.refl e5 F_seqNos (g := (mkF m 32 #[oR a1, oJ u, oS, oJ w, oS, oU] [(.ref a1), (.int (2 : Int32))])) rfl rfl (hb hby d4_32)
    refine hG _ _ (fun t₀ k₀ => st6 _ k₀) ?_
    show G (T6.setTop (mkF m 35 #[oR a1, oJ u, oS, oJ w, oS, oU] [(.ref wS), (.int (2 : Int32))]))
    have ov7 := V_wS
    obtain ⟨cl7, Ar7, q7, S7, N_7, H_7, G_7⟩ := ov7
    refine hG _ (T6.setTop (mkF m 94 #[oR a1, oJ u, oS, oJ w, oS, oU] [(.ref a1), (.ref a1)])) (fun t₀ k₀ => ?_) ?_
    · show Steps p.tables e below (T6.setTop (mkF m 35 #[oR a1, oJ u, oS, oJ w, oS, oU] [(.ref wS), (.int (2 : Int32))])) t₀
      refine X6.arraylength hx (by rw [e6]; exact Ar7.1) (State.isArrayOf_alike hZ.alike Ar7.2.1) (g := (mkF m 35 #[oR a1, oJ u, oS, oJ w, oS, oU] [(.ref wS), (.int (2 : Int32))])) rfl rfl (hb hby d4_35) _ ?_
      rw [len_of S7 N_7]
      show Steps p.tables e below (T6.setTop (mkF m 36 #[oR a1, oJ u, oS, oJ w, oS, oU] [(.int (8 : Int32)), (.int (2 : Int32))])) t₀
      refine XS.icmpYes X6.here hx rfl (pc0 := 36) (pc' := 92) rfl (hb hby d4_36) rfl (feq (by decide : ¬ ((2 : Int32) = (8 : Int32)))).2 (by decide) (by decide) ?_
      show Steps p.tables e below (T6.setTop (mkF m 92 #[oR a1, oJ u, oS, oJ w, oS, oU] [])) t₀
      refine XS.aloadN X6.here hx rfl (hb hby d4_92) rfl rfl ?_
      show Steps p.tables e below (T6.setTop (mkF m 93 #[oR a1, oJ u, oS, oJ w, oS, oU] [(.ref a1)])) t₀
      refine XS.dup X6.here hx rfl (hb hby d4_93) rfl rfl ?_
      exact k₀
    obtain ⟨T8, X8, e8, st8⟩ := getF X6 hx hZ hown (host := "") (Or.inl (hw _ (List.mem_of_getElem? (i := 21) rfl))) Via.refl e6 F_last (g := (mkF m 94 #[oR a1, oJ u, oS, oJ w, oS, oU] [(.ref a1), (.ref a1)])) rfl rfl (hb hby d4_94)
    refine hG _ _ (fun t₀ k₀ => st8 _ k₀) ?_
    show G (T8.setTop (mkF m 97 #[oR a1, oJ u, oS, oJ w, oS, oU] [(.int (1 : Int32)), (.ref a1)]))
    refine hG _ (T8.setTop (mkF m 99 #[oR a1, oJ u, oS, oJ w, oS, oU] [(.int (2 : Int32)), (.ref a1)])) (fun t₀ k₀ => ?_) ?_
    · show Steps p.tables e below (T8.setTop (mkF m 97 #[oR a1, oJ u, oS, oJ w, oS, oU] [(.int (1 : Int32)), (.ref a1)])) t₀
      refine XS.iconst X8.here hx rfl (hb hby d4_97) ?_
      show Steps p.tables e below (T8.setTop (mkF m 98 #[oR a1, oJ u, oS, oJ w, oS, oU] [(.int (1 : Int32)), (.int (1 : Int32)), (.ref a1)])) t₀
      refine XS.iadd X8.here hx rfl (hb hby d4_98) rfl ?_
      exact k₀
    obtain ⟨T9, h9, X9, e9, W9, st9⟩ := putF X8 hx hZ hown (host := "") (Or.inl (hw _ (List.mem_of_getElem? (i := 21) rfl))) Via.refl e8 F_last E1 (Or.inl (hw _ (List.mem_of_getElem? (i := 22) rfl))) (hw _ (List.mem_of_getElem? (i := 5) rfl)) (ty := .int) (by decide) rfl rfl (g := (mkF m 99 #[oR a1, oJ u, oS, oJ w, oS, oU] [(.int (2 : Int32)), (.ref a1)])) rfl rfl (hb hby d4_99)
    refine hG _ _ (fun t₀ k₀ => st9 _ k₀) ?_
    have N9 := Fr.snoc X9 N0 g_a1
    have ea1_x9 := E1.wr W9
    have fa1_seqNos_x9 := F_seqNos.other W9 (Or.inr (slot_ne (Or.inl (hw _ (List.mem_of_getElem? (i := 16) rfl))) (Or.inl (hw _ (List.mem_of_getElem? (i := 22) rfl))) (by decide) (t := (.array .long)) (t' := .int) (by decide) (by decide)))
    have fa1_starts_x9 := F_starts.other W9 (Or.inr (slot_ne (Or.inl (hw _ (List.mem_of_getElem? (i := 18) rfl))) (Or.inl (hw _ (List.mem_of_getElem? (i := 22) rfl))) (by decide) (t := (.array .long)) (t' := .int) (by decide) (by decide)))
    have fa1_ends_x9 := F_ends.other W9 (Or.inr (slot_ne (Or.inl (hw _ (List.mem_of_getElem? (i := 20) rfl))) (Or.inl (hw _ (List.mem_of_getElem? (i := 22) rfl))) (by decide) (t := (.array .long)) (t' := .int) (by decide) (by decide)))
    have fa1_first_x9 := F_first.other W9 (Or.inr (slot_ne (Or.inl (hw _ (List.mem_of_getElem? (i := 34) rfl))) (Or.inl (hw _ (List.mem_of_getElem? (i := 22) rfl))) (by decide) (t := .int) (t' := .int) (by decide) (by decide)))
    have fa1_maxSeqNo_x9 := F_maxSeqNo.other W9 (Or.inr (slot_ne (Or.inl (hw _ (List.mem_of_getElem? (i := 25) rfl))) (Or.inl (hw _ (List.mem_of_getElem? (i := 22) rfl))) (by decide) (t := .long) (t' := .int) (by decide) (by decide)))
    have fa1_mergeAt_x9 := F_mergeAt.other W9 (Or.inr (slot_ne (Or.inl (hw _ (List.mem_of_getElem? (i := 27) rfl))) (Or.inl (hw _ (List.mem_of_getElem? (i := 22) rfl))) (by decide) (t := .int) (t' := .int) (by decide) (by decide)))
    have vwS_x9 := V_wS.other W9 (Ne.symm ne_a1_wS)
    have vwT_x9 := V_wT.other W9 (Ne.symm ne_a1_wT)
    have vwE_x9 := V_wE.other W9 (Ne.symm ne_a1_wE)
    have k_x9 := (Keep.refl h0 [a1, wS, wT, wE]).wr W9 (Or.inl (List.mem_of_getElem? (i := 0) rfl))
    have z_9 : n0 ≤ h9.size := Nat.le_trans Z0 (Keep.of_wr W9).1
    have F9_last := F_last.same W9
    show G (T9.setTop (mkF m 102 #[oR a1, oJ u, oS, oJ w, oS, oU] []))
    refine hG _ (T9.setTop (mkF m 103 #[oR a1, oJ u, oS, oJ w, oS, oU] [(.ref a1)])) (fun t₀ k₀ => ?_) ?_
    · show Steps p.tables e below (T9.setTop (mkF m 102 #[oR a1, oJ u, oS, oJ w, oS, oU] [])) t₀
      refine XS.aloadN X9.here hx rfl (hb hby d4_102) rfl rfl ?_
      exact k₀
    obtain ⟨T10, X10, e10, st10⟩ := getF X9 hx hZ hown (host := "") (Or.inl (hw _ (List.mem_of_getElem? (i := 15) rfl))) Via.refl e9 fa1_seqNos_x9 (g := (mkF m 103 #[oR a1, oJ u, oS, oJ w, oS, oU] [(.ref a1)])) rfl rfl (hb hby d4_103)
    refine hG _ _ (fun t₀ k₀ => st10 _ k₀) ?_
    show G (T10.setTop (mkF m 106 #[oR a1, oJ u, oS, oJ w, oS, oU] [(.ref wS)]))
    refine hG _ (T10.setTop (mkF m 107 #[oR a1, oJ u, oS, oJ w, oS, oU] [(.ref a1), (.ref wS)])) (fun t₀ k₀ => ?_) ?_
    · show Steps p.tables e below (T10.setTop (mkF m 106 #[oR a1, oJ u, oS, oJ w, oS, oU] [(.ref wS)])) t₀
      refine XS.aloadN X10.here hx rfl (hb hby d4_106) rfl rfl ?_
      exact k₀
    obtain ⟨T11, X11, e11, st11⟩ := getF X10 hx hZ hown (host := "") (Or.inl (hw _ (List.mem_of_getElem? (i := 21) rfl))) Via.refl e10 F9_last (g := (mkF m 107 #[oR a1, oJ u, oS, oJ w, oS, oU] [(.ref a1), (.ref wS)])) rfl rfl (hb hby d4_107)
    refine hG _ _ (fun t₀ k₀ => st11 _ k₀) ?_
    show G (T11.setTop (mkF m 110 #[oR a1, oJ u, oS, oJ w, oS, oU] [(.int (2 : Int32)), (.ref wS)]))
    refine hG _ (T11.setTop (mkF m 111 #[oR a1, oJ u, oS, oJ w, oS, oU] [(.long u), (.int (2 : Int32)), (.ref wS)])) (fun t₀ k₀ => ?_) ?_
    · show Steps p.tables e below (T11.setTop (mkF m 110 #[oR a1, oJ u, oS, oJ w, oS, oU] [(.int (2 : Int32)), (.ref wS)])) t₀
      refine XS.lloadN X11.here hx rfl (hb hby d4_110) rfl ?_
      exact k₀
    have ov12 := vwS_x9
    obtain ⟨cl12, Ar12, q12, S12, N_12, H_12, G_12⟩ := ov12
    have hin12 : ¬ ((2 : Int32) < 0 ∨ cl12.slots.size ≤ ((2 : Int32)).toNatClampNeg) := inb_of S12 ⟨by decide, by decide⟩
    obtain ⟨T13, h13, X13, e13, W13, st13⟩ := stJ X11 hx hZ e11 Ar12 (j := (2 : Int32)) hin12 (g := (mkF m 111 #[oR a1, oJ u, oS, oJ w, oS, oU] [(.long u), (.int (2 : Int32)), (.ref wS)])) rfl rfl (hb hby d4_111)
    refine hG _ _ (fun t₀ k₀ => st13 _ k₀) ?_
    have N13 := Fr.snoc X13 N9 g_wS
    have ea1_x13 := ea1_x9.wr W13
    have fa1_seqNos_x13 := fa1_seqNos_x9.other W13 (Or.inl ne_a1_wS)
    have fa1_starts_x13 := fa1_starts_x9.other W13 (Or.inl ne_a1_wS)
    have fa1_ends_x13 := fa1_ends_x9.other W13 (Or.inl ne_a1_wS)
    have fa1_first_x13 := fa1_first_x9.other W13 (Or.inl ne_a1_wS)
    have fa1_last_x13 := F9_last.other W13 (Or.inl ne_a1_wS)
    have fa1_maxSeqNo_x13 := fa1_maxSeqNo_x9.other W13 (Or.inl ne_a1_wS)
    have fa1_mergeAt_x13 := fa1_mergeAt_x9.other W13 (Or.inl ne_a1_wS)
    have vwT_x13 := vwT_x9.other W13 (Ne.symm ne_wS_wT)
    have vwE_x13 := vwE_x9.other W13 (Ne.symm ne_wS_wE)
    have k_x13 := k_x9.wr W13 (Or.inl (List.mem_of_getElem? (i := 1) rfl))
    have z_13 : n0 ≤ h13.size := Nat.le_trans z_9 (Keep.of_wr W13).1
    have V13 : Arv Z h13 wS kS .long (8 : Int32) [(.long x0), (.long x1), (.long u), (.long x3), (.long x4), (.long x5), (.long x6), (.long x7)] (.long (0 : Int64)) := Arv.set Ar12 q12 S12 N_12 H_12 G_12 rfl W13 2 rfl (Nat.le_of_ble_eq_true rfl)
    show G (T13.setTop (mkF m 112 #[oR a1, oJ u, oS, oJ w, oS, oU] []))
    refine hG _ (T13.setTop (mkF m 113 #[oR a1, oJ u, oS, oJ w, oS, oU] [(.ref a1)])) (fun t₀ k₀ => ?_) ?_
    · show Steps p.tables e below (T13.setTop (mkF m 112 #[oR a1, oJ u, oS, oJ w, oS, oU] [])) t₀
      refine XS.aloadN X13.here hx rfl (hb hby d4_112) rfl rfl ?_
      exact k₀
    obtain ⟨T14, X14, e14, st14⟩ := getF X13 hx hZ hown (host := "") (Or.inl (hw _ (List.mem_of_getElem? (i := 17) rfl))) Via.refl e13 fa1_starts_x13 (g := (mkF m 113 #[oR a1, oJ u, oS, oJ w, oS, oU] [(.ref a1)])) rfl rfl (hb hby d4_113)
    refine hG _ _ (fun t₀ k₀ => st14 _ k₀) ?_
    show G (T14.setTop (mkF m 116 #[oR a1, oJ u, oS, oJ w, oS, oU] [(.ref wT)]))
    refine hG _ (T14.setTop (mkF m 117 #[oR a1, oJ u, oS, oJ w, oS, oU] [(.ref a1), (.ref wT)])) (fun t₀ k₀ => ?_) ?_
    · show Steps p.tables e below (T14.setTop (mkF m 116 #[oR a1, oJ u, oS, oJ w, oS, oU] [(.ref wT)])) t₀
      refine XS.aloadN X14.here hx rfl (hb hby d4_116) rfl rfl ?_
      exact k₀
    obtain ⟨T15, X15, e15, st15⟩ := getF X14 hx hZ hown (host := "") (Or.inl (hw _ (List.mem_of_getElem? (i := 21) rfl))) Via.refl e14 fa1_last_x13 (g := (mkF m 117 #[oR a1, oJ u, oS, oJ w, oS, oU] [(.ref a1), (.ref wT)])) rfl rfl (hb hby d4_117)
    refine hG _ _ (fun t₀ k₀ => st15 _ k₀) ?_
    show G (T15.setTop (mkF m 120 #[oR a1, oJ u, oS, oJ w, oS, oU] [(.int (2 : Int32)), (.ref wT)]))
    refine hG _ (T15.setTop (mkF m 121 #[oR a1, oJ u, oS, oJ w, oS, oU] [(.long w), (.int (2 : Int32)), (.ref wT)])) (fun t₀ k₀ => ?_) ?_
    · show Steps p.tables e below (T15.setTop (mkF m 120 #[oR a1, oJ u, oS, oJ w, oS, oU] [(.int (2 : Int32)), (.ref wT)])) t₀
      refine XS.lloadN X15.here hx rfl (hb hby d4_120) rfl ?_
      exact k₀
    have ov16 := vwT_x13
    obtain ⟨cl16, Ar16, q16, S16, N_16, H_16, G_16⟩ := ov16
    have hin16 : ¬ ((2 : Int32) < 0 ∨ cl16.slots.size ≤ ((2 : Int32)).toNatClampNeg) := inb_of S16 ⟨by decide, by decide⟩
    obtain ⟨T17, h17, X17, e17, W17, st17⟩ := stJ X15 hx hZ e15 Ar16 (j := (2 : Int32)) hin16 (g := (mkF m 121 #[oR a1, oJ u, oS, oJ w, oS, oU] [(.long w), (.int (2 : Int32)), (.ref wT)])) rfl rfl (hb hby d4_121)
    refine hG _ _ (fun t₀ k₀ => st17 _ k₀) ?_
    have N17 := Fr.snoc X17 N13 g_wT
    have ea1_x17 := ea1_x13.wr W17
    have fa1_seqNos_x17 := fa1_seqNos_x13.other W17 (Or.inl ne_a1_wT)
    have fa1_starts_x17 := fa1_starts_x13.other W17 (Or.inl ne_a1_wT)
    have fa1_ends_x17 := fa1_ends_x13.other W17 (Or.inl ne_a1_wT)
    have fa1_first_x17 := fa1_first_x13.other W17 (Or.inl ne_a1_wT)
    have fa1_last_x17 := fa1_last_x13.other W17 (Or.inl ne_a1_wT)
    have fa1_maxSeqNo_x17 := fa1_maxSeqNo_x13.other W17 (Or.inl ne_a1_wT)
    have fa1_mergeAt_x17 := fa1_mergeAt_x13.other W17 (Or.inl ne_a1_wT)
    have vwS_x17 := V13.other W17 ne_wS_wT
    have vwE_x17 := vwE_x13.other W17 (Ne.symm ne_wT_wE)
    have k_x17 := k_x13.wr W17 (Or.inl (List.mem_of_getElem? (i := 2) rfl))
    have z_17 : n0 ≤ h17.size := Nat.le_trans z_13 (Keep.of_wr W17).1
    have V17 : Arv Z h17 wT kT .long (8 : Int32) [(.long y0), (.long y1), (.long w), (.long y3), (.long y4), (.long y5), (.long y6), (.long y7)] (.long (0 : Int64)) := Arv.set Ar16 q16 S16 N_16 H_16 G_16 rfl W17 2 rfl (Nat.le_of_ble_eq_true rfl)
    show G (T17.setTop (mkF m 122 #[oR a1, oJ u, oS, oJ w, oS, oU] []))
    refine hG _ (T17.setTop (mkF m 123 #[oR a1, oJ u, oS, oJ w, oS, oU] [(.ref a1)])) (fun t₀ k₀ => ?_) ?_
    · show Steps p.tables e below (T17.setTop (mkF m 122 #[oR a1, oJ u, oS, oJ w, oS, oU] [])) t₀
      refine XS.aloadN X17.here hx rfl (hb hby d4_122) rfl rfl ?_
      exact k₀
    obtain ⟨T18, X18, e18, st18⟩ := getF X17 hx hZ hown (host := "") (Or.inl (hw _ (List.mem_of_getElem? (i := 19) rfl))) Via.refl e17 fa1_ends_x17 (g := (mkF m 123 #[oR a1, oJ u, oS, oJ w, oS, oU] [(.ref a1)])) rfl rfl (hb hby d4_123)
    refine hG _ _ (fun t₀ k₀ => st18 _ k₀) ?_
    show G (T18.setTop (mkF m 126 #[oR a1, oJ u, oS, oJ w, oS, oU] [(.ref wE)]))
    refine hG _ (T18.setTop (mkF m 127 #[oR a1, oJ u, oS, oJ w, oS, oU] [(.ref a1), (.ref wE)])) (fun t₀ k₀ => ?_) ?_
    · show Steps p.tables e below (T18.setTop (mkF m 126 #[oR a1, oJ u, oS, oJ w, oS, oU] [(.ref wE)])) t₀
      refine XS.aloadN X18.here hx rfl (hb hby d4_126) rfl rfl ?_
      exact k₀
    obtain ⟨T19, X19, e19, st19⟩ := getF X18 hx hZ hown (host := "") (Or.inl (hw _ (List.mem_of_getElem? (i := 21) rfl))) Via.refl e18 fa1_last_x17 (g := (mkF m 127 #[oR a1, oJ u, oS, oJ w, oS, oU] [(.ref a1), (.ref wE)])) rfl rfl (hb hby d4_127)
    refine hG _ _ (fun t₀ k₀ => st19 _ k₀) ?_
    show G (T19.setTop (mkF m 130 #[oR a1, oJ u, oS, oJ w, oS, oU] [(.int (2 : Int32)), (.ref wE)]))
    refine hG _ (T19.setTop (mkF m 131 #[oR a1, oJ u, oS, oJ w, oS, oU] [(.long w), (.int (2 : Int32)), (.ref wE)])) (fun t₀ k₀ => ?_) ?_
    · show Steps p.tables e below (T19.setTop (mkF m 130 #[oR a1, oJ u, oS, oJ w, oS, oU] [(.int (2 : Int32)), (.ref wE)])) t₀
      refine XS.lloadN X19.here hx rfl (hb hby d4_130) rfl ?_
      exact k₀
    have ov20 := vwE_x17
    obtain ⟨cl20, Ar20, q20, S20, N_20, H_20, G_20⟩ := ov20
    have hin20 : ¬ ((2 : Int32) < 0 ∨ cl20.slots.size ≤ ((2 : Int32)).toNatClampNeg) := inb_of S20 ⟨by decide, by decide⟩
    obtain ⟨T21, h21, X21, e21, W21, st21⟩ := stJ X19 hx hZ e19 Ar20 (j := (2 : Int32)) hin20 (g := (mkF m 131 #[oR a1, oJ u, oS, oJ w, oS, oU] [(.long w), (.int (2 : Int32)), (.ref wE)])) rfl rfl (hb hby d4_131)
    refine hG _ _ (fun t₀ k₀ => st21 _ k₀) ?_
    have N21 := Fr.snoc X21 N17 g_wE
    have ea1_x21 := ea1_x17.wr W21
    have fa1_seqNos_x21 := fa1_seqNos_x17.other W21 (Or.inl ne_a1_wE)
    have fa1_starts_x21 := fa1_starts_x17.other W21 (Or.inl ne_a1_wE)
    have fa1_ends_x21 := fa1_ends_x17.other W21 (Or.inl ne_a1_wE)
    have fa1_first_x21 := fa1_first_x17.other W21 (Or.inl ne_a1_wE)
    have fa1_last_x21 := fa1_last_x17.other W21 (Or.inl ne_a1_wE)
    have fa1_maxSeqNo_x21 := fa1_maxSeqNo_x17.other W21 (Or.inl ne_a1_wE)
    have fa1_mergeAt_x21 := fa1_mergeAt_x17.other W21 (Or.inl ne_a1_wE)
    have vwS_x21 := vwS_x17.other W21 ne_wS_wE
    have vwT_x21 := V17.other W21 ne_wT_wE
    have k_x21 := k_x17.wr W21 (Or.inl (List.mem_of_getElem? (i := 3) rfl))
    have z_21 : n0 ≤ h21.size := Nat.le_trans z_17 (Keep.of_wr W21).1
    have V21 : Arv Z h21 wE kE .long (8 : Int32) [(.long z0), (.long z1), (.long w), (.long z3), (.long z4), (.long z5), (.long z6), (.long z7)] (.long (0 : Int64)) := Arv.set Ar20 q20 S20 N_20 H_20 G_20 rfl W21 2 rfl (Nat.le_of_ble_eq_true rfl)
    show G (T21.setTop (mkF m 132 #[oR a1, oJ u, oS, oJ w, oS, oU] []))
    refine hF _ T21 _ _ _ none _ X21 e21 (fun _ => rfl) (by decide) (by decide) ?_ (fun fs hr => X21.returnOut hx hrt (hb hby d4_132) hr)
    exact ⟨rfl, N21, k_x21, fa1_seqNos_x21, fa1_starts_x21, fa1_ends_x21, fa1_first_x21, fa1_last_x21, fa1_maxSeqNo_x21, fa1_mergeAt_x21, vwS_x21, vwT_x21, V21⟩
  ·
    refine hG _ (T1.setTop (mkF m 26 #[oR a1, oJ u, oS, oJ w, oS, oU] [(.ref a1)])) (fun t₀ k₀ => ?_) ?_
    · show Steps p.tables e below (T1.setTop (mkF m 4 #[oR a1, oJ u, oS, oJ w, oS, oU] [(.int f)])) t₀
      refine XS.ifYes X1.here hx rfl (pc0 := 4) (pc' := 25) rfl (hb hby d4_4) rfl ((if0 _ _).trans (flt hc4).2.2.2) (by decide) (by decide) ?_
      show Steps p.tables e below (T1.setTop (mkF m 25 #[oR a1, oJ u, oS, oJ w, oS, oU] [])) t₀
      refine XS.aloadN X1.here hx rfl (hb hby d4_25) rfl rfl ?_
      exact k₀
    obtain ⟨T22, X22, e22, st22⟩ := getF X1 hx hZ hown (host := "") (Or.inl (hw _ (List.mem_of_getElem? (i := 21) rfl))) Via.refl e1 F_last (g := (mkF m 26 #[oR a1, oJ u, oS, oJ w, oS, oU] [(.ref a1)])) rfl rfl (hb hby d4_26)
    refine hG _ _ (fun t₀ k₀ => st22 _ k₀) ?_
    show G (T22.setTop (mkF m 29 #[oR a1, oJ u, oS, oJ w, oS, oU] [(.int (1 : Int32))]))
    refine hG _ (T22.setTop (mkF m 32 #[oR a1, oJ u, oS, oJ w, oS, oU] [(.ref a1), (.int (2 : Int32))])) (fun t₀ k₀ => ?_) ?_
    · show Steps p.tables e below (T22.setTop (mkF m 29 #[oR a1, oJ u, oS, oJ w, oS, oU] [(.int (1 : Int32))])) t₀
      refine XS.iconst X22.here hx rfl (hb hby d4_29) ?_
      show Steps p.tables e below (T22.setTop (mkF m 30 #[oR a1, oJ u, oS, oJ w, oS, oU] [(.int (1 : Int32)), (.int (1 : Int32))])) t₀
      refine XS.iadd X22.here hx rfl (hb hby d4_30) rfl ?_
      show Steps p.tables e below (T22.setTop (mkF m 31 #[oR a1, oJ u, oS, oJ w, oS, oU] [(.int (2 : Int32))])) t₀
      refine XS.aloadN X22.here hx rfl (hb hby d4_31) rfl rfl ?_
      exact k₀
    obtain ⟨T23, X23, e23, st23⟩ := getF X22 hx hZ hown (host := "") (Or.inl (hw _ (List.mem_of_getElem? (i := 15) rfl))) Via.refl e22 F_seqNos (g := (mkF m 32 #[oR a1, oJ u, oS, oJ w, oS, oU] [(.ref a1), (.int (2 : Int32))])) rfl rfl (hb hby d4_32)
    refine hG _ _ (fun t₀ k₀ => st23 _ k₀) ?_
    show G (T23.setTop (mkF m 35 #[oR a1, oJ u, oS, oJ w, oS, oU] [(.ref wS), (.int (2 : Int32))]))
    have ov24 := V_wS
    obtain ⟨cl24, Ar24, q24, S24, N_24, H_24, G_24⟩ := ov24
    refine hG _ (T23.setTop (mkF m 94 #[oR a1, oJ u, oS, oJ w, oS, oU] [(.ref a1), (.ref a1)])) (fun t₀ k₀ => ?_) ?_
    · show Steps p.tables e below (T23.setTop (mkF m 35 #[oR a1, oJ u, oS, oJ w, oS, oU] [(.ref wS), (.int (2 : Int32))])) t₀
      refine X23.arraylength hx (by rw [e23]; exact Ar24.1) (State.isArrayOf_alike hZ.alike Ar24.2.1) (g := (mkF m 35 #[oR a1, oJ u, oS, oJ w, oS, oU] [(.ref wS), (.int (2 : Int32))])) rfl rfl (hb hby d4_35) _ ?_
      rw [len_of S24 N_24]
      show Steps p.tables e below (T23.setTop (mkF m 36 #[oR a1, oJ u, oS, oJ w, oS, oU] [(.int (8 : Int32)), (.int (2 : Int32))])) t₀
      refine XS.icmpYes X23.here hx rfl (pc0 := 36) (pc' := 92) rfl (hb hby d4_36) rfl (feq (by decide : ¬ ((2 : Int32) = (8 : Int32)))).2 (by decide) (by decide) ?_
      show Steps p.tables e below (T23.setTop (mkF m 92 #[oR a1, oJ u, oS, oJ w, oS, oU] [])) t₀
      refine XS.aloadN X23.here hx rfl (hb hby d4_92) rfl rfl ?_
      show Steps p.tables e below (T23.setTop (mkF m 93 #[oR a1, oJ u, oS, oJ w, oS, oU] [(.ref a1)])) t₀
      refine XS.dup X23.here hx rfl (hb hby d4_93) rfl rfl ?_
      exact k₀
    obtain ⟨T25, X25, e25, st25⟩ := getF X23 hx hZ hown (host := "") (Or.inl (hw _ (List.mem_of_getElem? (i := 21) rfl))) Via.refl e23 F_last (g := (mkF m 94 #[oR a1, oJ u, oS, oJ w, oS, oU] [(.ref a1), (.ref a1)])) rfl rfl (hb hby d4_94)
    refine hG _ _ (fun t₀ k₀ => st25 _ k₀) ?_
    show G (T25.setTop (mkF m 97 #[oR a1, oJ u, oS, oJ w, oS, oU] [(.int (1 : Int32)), (.ref a1)]))
    refine hG _ (T25.setTop (mkF m 99 #[oR a1, oJ u, oS, oJ w, oS, oU] [(.int (2 : Int32)), (.ref a1)])) (fun t₀ k₀ => ?_) ?_
    · show Steps p.tables e below (T25.setTop (mkF m 97 #[oR a1, oJ u, oS, oJ w, oS, oU] [(.int (1 : Int32)), (.ref a1)])) t₀
      refine XS.iconst X25.here hx rfl (hb hby d4_97) ?_
      show Steps p.tables e below (T25.setTop (mkF m 98 #[oR a1, oJ u, oS, oJ w, oS, oU] [(.int (1 : Int32)), (.int (1 : Int32)), (.ref a1)])) t₀
      refine XS.iadd X25.here hx rfl (hb hby d4_98) rfl ?_
      exact k₀
    obtain ⟨T26, h26, X26, e26, W26, st26⟩ := putF X25 hx hZ hown (host := "") (Or.inl (hw _ (List.mem_of_getElem? (i := 21) rfl))) Via.refl e25 F_last E1 (Or.inl (hw _ (List.mem_of_getElem? (i := 22) rfl))) (hw _ (List.mem_of_getElem? (i := 5) rfl)) (ty := .int) (by decide) rfl rfl (g := (mkF m 99 #[oR a1, oJ u, oS, oJ w, oS, oU] [(.int (2 : Int32)), (.ref a1)])) rfl rfl (hb hby d4_99)
    refine hG _ _ (fun t₀ k₀ => st26 _ k₀) ?_
    have N26 := Fr.snoc X26 N0 g_a1
    have ea1_x26 := E1.wr W26
    have fa1_seqNos_x26 := F_seqNos.other W26 (Or.inr (slot_ne (Or.inl (hw _ (List.mem_of_getElem? (i := 16) rfl))) (Or.inl (hw _ (List.mem_of_getElem? (i := 22) rfl))) (by decide) (t := (.array .long)) (t' := .int) (by decide) (by decide)))
    have fa1_starts_x26 := F_starts.other W26 (Or.inr (slot_ne (Or.inl (hw _ (List.mem_of_getElem? (i := 18) rfl))) (Or.inl (hw _ (List.mem_of_getElem? (i := 22) rfl))) (by decide) (t := (.array .long)) (t' := .int) (by decide) (by decide)))
    have fa1_ends_x26 := F_ends.other W26 (Or.inr (slot_ne (Or.inl (hw _ (List.mem_of_getElem? (i := 20) rfl))) (Or.inl (hw _ (List.mem_of_getElem? (i := 22) rfl))) (by decide) (t := (.array .long)) (t' := .int) (by decide) (by decide)))
    have fa1_first_x26 := F_first.other W26 (Or.inr (slot_ne (Or.inl (hw _ (List.mem_of_getElem? (i := 34) rfl))) (Or.inl (hw _ (List.mem_of_getElem? (i := 22) rfl))) (by decide) (t := .int) (t' := .int) (by decide) (by decide)))
    have fa1_maxSeqNo_x26 := F_maxSeqNo.other W26 (Or.inr (slot_ne (Or.inl (hw _ (List.mem_of_getElem? (i := 25) rfl))) (Or.inl (hw _ (List.mem_of_getElem? (i := 22) rfl))) (by decide) (t := .long) (t' := .int) (by decide) (by decide)))
    have fa1_mergeAt_x26 := F_mergeAt.other W26 (Or.inr (slot_ne (Or.inl (hw _ (List.mem_of_getElem? (i := 27) rfl))) (Or.inl (hw _ (List.mem_of_getElem? (i := 22) rfl))) (by decide) (t := .int) (t' := .int) (by decide) (by decide)))
    have vwS_x26 := V_wS.other W26 (Ne.symm ne_a1_wS)
    have vwT_x26 := V_wT.other W26 (Ne.symm ne_a1_wT)
    have vwE_x26 := V_wE.other W26 (Ne.symm ne_a1_wE)
    have k_x26 := (Keep.refl h0 [a1, wS, wT, wE]).wr W26 (Or.inl (List.mem_of_getElem? (i := 0) rfl))
    have z_26 : n0 ≤ h26.size := Nat.le_trans Z0 (Keep.of_wr W26).1
    have F26_last := F_last.same W26
    show G (T26.setTop (mkF m 102 #[oR a1, oJ u, oS, oJ w, oS, oU] []))
    refine hG _ (T26.setTop (mkF m 103 #[oR a1, oJ u, oS, oJ w, oS, oU] [(.ref a1)])) (fun t₀ k₀ => ?_) ?_
    · show Steps p.tables e below (T26.setTop (mkF m 102 #[oR a1, oJ u, oS, oJ w, oS, oU] [])) t₀
      refine XS.aloadN X26.here hx rfl (hb hby d4_102) rfl rfl ?_
      exact k₀
    obtain ⟨T27, X27, e27, st27⟩ := getF X26 hx hZ hown (host := "") (Or.inl (hw _ (List.mem_of_getElem? (i := 15) rfl))) Via.refl e26 fa1_seqNos_x26 (g := (mkF m 103 #[oR a1, oJ u, oS, oJ w, oS, oU] [(.ref a1)])) rfl rfl (hb hby d4_103)
    refine hG _ _ (fun t₀ k₀ => st27 _ k₀) ?_
    show G (T27.setTop (mkF m 106 #[oR a1, oJ u, oS, oJ w, oS, oU] [(.ref wS)]))
    refine hG _ (T27.setTop (mkF m 107 #[oR a1, oJ u, oS, oJ w, oS, oU] [(.ref a1), (.ref wS)])) (fun t₀ k₀ => ?_) ?_
    · show Steps p.tables e below (T27.setTop (mkF m 106 #[oR a1, oJ u, oS, oJ w, oS, oU] [(.ref wS)])) t₀
      refine XS.aloadN X27.here hx rfl (hb hby d4_106) rfl rfl ?_
      exact k₀
    obtain ⟨T28, X28, e28, st28⟩ := getF X27 hx hZ hown (host := "") (Or.inl (hw _ (List.mem_of_getElem? (i := 21) rfl))) Via.refl e27 F26_last (g := (mkF m 107 #[oR a1, oJ u, oS, oJ w, oS, oU] [(.ref a1), (.ref wS)])) rfl rfl (hb hby d4_107)
    refine hG _ _ (fun t₀ k₀ => st28 _ k₀) ?_
    show G (T28.setTop (mkF m 110 #[oR a1, oJ u, oS, oJ w, oS, oU] [(.int (2 : Int32)), (.ref wS)]))
    refine hG _ (T28.setTop (mkF m 111 #[oR a1, oJ u, oS, oJ w, oS, oU] [(.long u), (.int (2 : Int32)), (.ref wS)])) (fun t₀ k₀ => ?_) ?_
    · show Steps p.tables e below (T28.setTop (mkF m 110 #[oR a1, oJ u, oS, oJ w, oS, oU] [(.int (2 : Int32)), (.ref wS)])) t₀
      refine XS.lloadN X28.here hx rfl (hb hby d4_110) rfl ?_
      exact k₀
    have ov29 := vwS_x26
    obtain ⟨cl29, Ar29, q29, S29, N_29, H_29, G_29⟩ := ov29
    have hin29 : ¬ ((2 : Int32) < 0 ∨ cl29.slots.size ≤ ((2 : Int32)).toNatClampNeg) := inb_of S29 ⟨by decide, by decide⟩
    obtain ⟨T30, h30, X30, e30, W30, st30⟩ := stJ X28 hx hZ e28 Ar29 (j := (2 : Int32)) hin29 (g := (mkF m 111 #[oR a1, oJ u, oS, oJ w, oS, oU] [(.long u), (.int (2 : Int32)), (.ref wS)])) rfl rfl (hb hby d4_111)
    refine hG _ _ (fun t₀ k₀ => st30 _ k₀) ?_
    have N30 := Fr.snoc X30 N26 g_wS
    have ea1_x30 := ea1_x26.wr W30
    have fa1_seqNos_x30 := fa1_seqNos_x26.other W30 (Or.inl ne_a1_wS)
    have fa1_starts_x30 := fa1_starts_x26.other W30 (Or.inl ne_a1_wS)
    have fa1_ends_x30 := fa1_ends_x26.other W30 (Or.inl ne_a1_wS)
    have fa1_first_x30 := fa1_first_x26.other W30 (Or.inl ne_a1_wS)
    have fa1_last_x30 := F26_last.other W30 (Or.inl ne_a1_wS)
    have fa1_maxSeqNo_x30 := fa1_maxSeqNo_x26.other W30 (Or.inl ne_a1_wS)
    have fa1_mergeAt_x30 := fa1_mergeAt_x26.other W30 (Or.inl ne_a1_wS)
    have vwT_x30 := vwT_x26.other W30 (Ne.symm ne_wS_wT)
    have vwE_x30 := vwE_x26.other W30 (Ne.symm ne_wS_wE)
    have k_x30 := k_x26.wr W30 (Or.inl (List.mem_of_getElem? (i := 1) rfl))
    have z_30 : n0 ≤ h30.size := Nat.le_trans z_26 (Keep.of_wr W30).1
    have V30 : Arv Z h30 wS kS .long (8 : Int32) [(.long x0), (.long x1), (.long u), (.long x3), (.long x4), (.long x5), (.long x6), (.long x7)] (.long (0 : Int64)) := Arv.set Ar29 q29 S29 N_29 H_29 G_29 rfl W30 2 rfl (Nat.le_of_ble_eq_true rfl)
    show G (T30.setTop (mkF m 112 #[oR a1, oJ u, oS, oJ w, oS, oU] []))
    refine hG _ (T30.setTop (mkF m 113 #[oR a1, oJ u, oS, oJ w, oS, oU] [(.ref a1)])) (fun t₀ k₀ => ?_) ?_
    · show Steps p.tables e below (T30.setTop (mkF m 112 #[oR a1, oJ u, oS, oJ w, oS, oU] [])) t₀
      refine XS.aloadN X30.here hx rfl (hb hby d4_112) rfl rfl ?_
      exact k₀
    obtain ⟨T31, X31, e31, st31⟩ := getF X30 hx hZ hown (host := "") (Or.inl (hw _ (List.mem_of_getElem? (i := 17) rfl))) Via.refl e30 fa1_starts_x30 (g := (mkF m 113 #[oR a1, oJ u, oS, oJ w, oS, oU] [(.ref a1)])) rfl rfl (hb hby d4_113)
    refine hG _ _ (fun t₀ k₀ => st31 _ k₀) ?_
    show G (T31.setTop (mkF m 116 #[oR a1, oJ u, oS, oJ w, oS, oU] [(.ref wT)]))
    refine hG _ (T31.setTop (mkF m 117 #[oR a1, oJ u, oS, oJ w, oS, oU] [(.ref a1), (.ref wT)])) (fun t₀ k₀ => ?_) ?_
    · show Steps p.tables e below (T31.setTop (mkF m 116 #[oR a1, oJ u, oS, oJ w, oS, oU] [(.ref wT)])) t₀
      refine XS.aloadN X31.here hx rfl (hb hby d4_116) rfl rfl ?_
      exact k₀
    obtain ⟨T32, X32, e32, st32⟩ := getF X31 hx hZ hown (host := "") (Or.inl (hw _ (List.mem_of_getElem? (i := 21) rfl))) Via.refl e31 fa1_last_x30 (g := (mkF m 117 #[oR a1, oJ u, oS, oJ w, oS, oU] [(.ref a1), (.ref wT)])) rfl rfl (hb hby d4_117)
    refine hG _ _ (fun t₀ k₀ => st32 _ k₀) ?_
    show G (T32.setTop (mkF m 120 #[oR a1, oJ u, oS, oJ w, oS, oU] [(.int (2 : Int32)), (.ref wT)]))
    refine hG _ (T32.setTop (mkF m 121 #[oR a1, oJ u, oS, oJ w, oS, oU] [(.long w), (.int (2 : Int32)), (.ref wT)])) (fun t₀ k₀ => ?_) ?_
    · show Steps p.tables e below (T32.setTop (mkF m 120 #[oR a1, oJ u, oS, oJ w, oS, oU] [(.int (2 : Int32)), (.ref wT)])) t₀
      refine XS.lloadN X32.here hx rfl (hb hby d4_120) rfl ?_
      exact k₀
    have ov33 := vwT_x30
    obtain ⟨cl33, Ar33, q33, S33, N_33, H_33, G_33⟩ := ov33
    have hin33 : ¬ ((2 : Int32) < 0 ∨ cl33.slots.size ≤ ((2 : Int32)).toNatClampNeg) := inb_of S33 ⟨by decide, by decide⟩
    obtain ⟨T34, h34, X34, e34, W34, st34⟩ := stJ X32 hx hZ e32 Ar33 (j := (2 : Int32)) hin33 (g := (mkF m 121 #[oR a1, oJ u, oS, oJ w, oS, oU] [(.long w), (.int (2 : Int32)), (.ref wT)])) rfl rfl (hb hby d4_121)
    refine hG _ _ (fun t₀ k₀ => st34 _ k₀) ?_
    have N34 := Fr.snoc X34 N30 g_wT
    have ea1_x34 := ea1_x30.wr W34
    have fa1_seqNos_x34 := fa1_seqNos_x30.other W34 (Or.inl ne_a1_wT)
    have fa1_starts_x34 := fa1_starts_x30.other W34 (Or.inl ne_a1_wT)
    have fa1_ends_x34 := fa1_ends_x30.other W34 (Or.inl ne_a1_wT)
    have fa1_first_x34 := fa1_first_x30.other W34 (Or.inl ne_a1_wT)
    have fa1_last_x34 := fa1_last_x30.other W34 (Or.inl ne_a1_wT)
    have fa1_maxSeqNo_x34 := fa1_maxSeqNo_x30.other W34 (Or.inl ne_a1_wT)
    have fa1_mergeAt_x34 := fa1_mergeAt_x30.other W34 (Or.inl ne_a1_wT)
    have vwS_x34 := V30.other W34 ne_wS_wT
    have vwE_x34 := vwE_x30.other W34 (Ne.symm ne_wT_wE)
    have k_x34 := k_x30.wr W34 (Or.inl (List.mem_of_getElem? (i := 2) rfl))
    have z_34 : n0 ≤ h34.size := Nat.le_trans z_30 (Keep.of_wr W34).1
    have V34 : Arv Z h34 wT kT .long (8 : Int32) [(.long y0), (.long y1), (.long w), (.long y3), (.long y4), (.long y5), (.long y6), (.long y7)] (.long (0 : Int64)) := Arv.set Ar33 q33 S33 N_33 H_33 G_33 rfl W34 2 rfl (Nat.le_of_ble_eq_true rfl)
    show G (T34.setTop (mkF m 122 #[oR a1, oJ u, oS, oJ w, oS, oU] []))
    refine hG _ (T34.setTop (mkF m 123 #[oR a1, oJ u, oS, oJ w, oS, oU] [(.ref a1)])) (fun t₀ k₀ => ?_) ?_
    · show Steps p.tables e below (T34.setTop (mkF m 122 #[oR a1, oJ u, oS, oJ w, oS, oU] [])) t₀
      refine XS.aloadN X34.here hx rfl (hb hby d4_122) rfl rfl ?_
      exact k₀
    obtain ⟨T35, X35, e35, st35⟩ := getF X34 hx hZ hown (host := "") (Or.inl (hw _ (List.mem_of_getElem? (i := 19) rfl))) Via.refl e34 fa1_ends_x34 (g := (mkF m 123 #[oR a1, oJ u, oS, oJ w, oS, oU] [(.ref a1)])) rfl rfl (hb hby d4_123)
    refine hG _ _ (fun t₀ k₀ => st35 _ k₀) ?_
    show G (T35.setTop (mkF m 126 #[oR a1, oJ u, oS, oJ w, oS, oU] [(.ref wE)]))
    refine hG _ (T35.setTop (mkF m 127 #[oR a1, oJ u, oS, oJ w, oS, oU] [(.ref a1), (.ref wE)])) (fun t₀ k₀ => ?_) ?_
    · show Steps p.tables e below (T35.setTop (mkF m 126 #[oR a1, oJ u, oS, oJ w, oS, oU] [(.ref wE)])) t₀
      refine XS.aloadN X35.here hx rfl (hb hby d4_126) rfl rfl ?_
      exact k₀
    obtain ⟨T36, X36, e36, st36⟩ := getF X35 hx hZ hown (host := "") (Or.inl (hw _ (List.mem_of_getElem? (i := 21) rfl))) Via.refl e35 fa1_last_x34 (g := (mkF m 127 #[oR a1, oJ u, oS, oJ w, oS, oU] [(.ref a1), (.ref wE)])) rfl rfl (hb hby d4_127)
    refine hG _ _ (fun t₀ k₀ => st36 _ k₀) ?_
    show G (T36.setTop (mkF m 130 #[oR a1, oJ u, oS, oJ w, oS, oU] [(.int (2 : Int32)), (.ref wE)]))
    refine hG _ (T36.setTop (mkF m 131 #[oR a1, oJ u, oS, oJ w, oS, oU] [(.long w), (.int (2 : Int32)), (.ref wE)])) (fun t₀ k₀ => ?_) ?_
    · show Steps p.tables e below (T36.setTop (mkF m 130 #[oR a1, oJ u, oS, oJ w, oS, oU] [(.int (2 : Int32)), (.ref wE)])) t₀
      refine XS.lloadN X36.here hx rfl (hb hby d4_130) rfl ?_
      exact k₀
    have ov37 := vwE_x34
    obtain ⟨cl37, Ar37, q37, S37, N_37, H_37, G_37⟩ := ov37
    have hin37 : ¬ ((2 : Int32) < 0 ∨ cl37.slots.size ≤ ((2 : Int32)).toNatClampNeg) := inb_of S37 ⟨by decide, by decide⟩
    obtain ⟨T38, h38, X38, e38, W38, st38⟩ := stJ X36 hx hZ e36 Ar37 (j := (2 : Int32)) hin37 (g := (mkF m 131 #[oR a1, oJ u, oS, oJ w, oS, oU] [(.long w), (.int (2 : Int32)), (.ref wE)])) rfl rfl (hb hby d4_131)
    refine hG _ _ (fun t₀ k₀ => st38 _ k₀) ?_
    have N38 := Fr.snoc X38 N34 g_wE
    have ea1_x38 := ea1_x34.wr W38
    have fa1_seqNos_x38 := fa1_seqNos_x34.other W38 (Or.inl ne_a1_wE)
    have fa1_starts_x38 := fa1_starts_x34.other W38 (Or.inl ne_a1_wE)
    have fa1_ends_x38 := fa1_ends_x34.other W38 (Or.inl ne_a1_wE)
    have fa1_first_x38 := fa1_first_x34.other W38 (Or.inl ne_a1_wE)
    have fa1_last_x38 := fa1_last_x34.other W38 (Or.inl ne_a1_wE)
    have fa1_maxSeqNo_x38 := fa1_maxSeqNo_x34.other W38 (Or.inl ne_a1_wE)
    have fa1_mergeAt_x38 := fa1_mergeAt_x34.other W38 (Or.inl ne_a1_wE)
    have vwS_x38 := vwS_x34.other W38 ne_wS_wE
    have vwT_x38 := V34.other W38 ne_wT_wE
    have k_x38 := k_x34.wr W38 (Or.inl (List.mem_of_getElem? (i := 3) rfl))
    have z_38 : n0 ≤ h38.size := Nat.le_trans z_34 (Keep.of_wr W38).1
    have V38 : Arv Z h38 wE kE .long (8 : Int32) [(.long z0), (.long z1), (.long w), (.long z3), (.long z4), (.long z5), (.long z6), (.long z7)] (.long (0 : Int64)) := Arv.set Ar37 q37 S37 N_37 H_37 G_37 rfl W38 2 rfl (Nat.le_of_ble_eq_true rfl)
    show G (T38.setTop (mkF m 132 #[oR a1, oJ u, oS, oJ w, oS, oU] []))
    refine hF _ T38 _ _ _ none _ X38 e38 (fun _ => rfl) (by decide) (by decide) ?_ (fun fs hr => X38.returnOut hx hrt (hb hby d4_132) hr)
    exact ⟨rfl, N38, k_x38, fa1_seqNos_x38, fa1_starts_x38, fa1_ends_x38, fa1_first_x38, fa1_last_x38, fa1_maxSeqNo_x38, fa1_mergeAt_x38, vwS_x38, vwT_x38, V38⟩
theorem ef_rmAB2 (m : MethodId) (x0 : Addr) (x1 : Int64) (x2 : Int64) : entryFrame m #[(.ref x0), (.long x1), (.long x2)] 6 = mkF m 0 #[oR x0, oJ x1, oS, oJ x2, oS, oU] [] := by first | (simp [entryFrame, mkF, argsToLocals, Value.category]; done) | rfl
def Q_rmAB2 (Z : State) (a1 : Addr) (u w : Int64) (wS wT wE : Addr) (kS kT kE : ClassId) (f : Int32) (mx : Int64) (x0 y0 z0 x1 y1 z1 x2 y2 z2 x3 y3 z3 x4 y4 z4 x5 y5 z5 x6 y6 z6 x7 y7 z7 : Int64) (h0 : Heap) (n0 : Nat) (v : Option Value) (h : Heap) (L : List Loc) : Prop := v = none ∧ Fr n0 L ∧ Keep h0 h [a1, wS, wT, wE] ∧ Fld Z h a1 "com/example/opledger/opledger/AppendTimes" "seqNos" "[J" (.ref wS) ∧ Fld Z h a1 "com/example/opledger/opledger/AppendTimes" "starts" "[J" (.ref wT) ∧ Fld Z h a1 "com/example/opledger/opledger/AppendTimes" "ends" "[J" (.ref wE) ∧ Fld Z h a1 "com/example/opledger/opledger/AppendTimes" "first" "I" (.int f) ∧ Fld Z h a1 "com/example/opledger/opledger/AppendTimes" "last" "I" (.int (3 : Int32)) ∧ Fld Z h a1 "com/example/opledger/opledger/AppendTimes" "maxSeqNo" "J" (.long mx) ∧ Fld Z h a1 "com/example/opledger/opledger/AppendTimes" "mergeAt" "I" (.int (64 : Int32)) ∧ Arv Z h wS kS .long (8 : Int32) [(.long x0), (.long x1), (.long x2), (.long u), (.long x4), (.long x5), (.long x6), (.long x7)] (.long (0 : Int64)) ∧ Arv Z h wT kT .long (8 : Int32) [(.long y0), (.long y1), (.long y2), (.long w), (.long y4), (.long y5), (.long y6), (.long y7)] (.long (0 : Int64)) ∧ Arv Z h wE kE .long (8 : Int32) [(.long z0), (.long z1), (.long z2), (.long w), (.long z4), (.long z5), (.long z6), (.long z7)] (.long (0 : Int64))
set_option maxRecDepth 65536 in
set_option maxHeartbeats 40000000 in
theorem rmAB2 (l : Launch) (Z : State) (a0 : Array Value) (hw : ∀ d ∈ tables_1, d.before a0 Z = true) (ws : List Jvm.Cond) (a1 : Addr) (u w : Int64) (wS wT wE : Addr) (kS kT kE : ClassId) (f : Int32) (mx : Int64) (x0 y0 z0 x1 y1 z1 x2 y2 z2 x3 y3 z3 x4 y4 z4 x5 y5 z5 x6 y6 z6 x7 y7 z7 : Int64) (h0 : Heap) (n0 : Nat) (Z0 : n0 ≤ h0.size) (E1 : Exa Z h0 a1 "com/example/opledger/opledger/AppendTimes") (F_seqNos : Fld Z h0 a1 "com/example/opledger/opledger/AppendTimes" "seqNos" "[J" (.ref wS)) (F_starts : Fld Z h0 a1 "com/example/opledger/opledger/AppendTimes" "starts" "[J" (.ref wT)) (F_ends : Fld Z h0 a1 "com/example/opledger/opledger/AppendTimes" "ends" "[J" (.ref wE)) (F_first : Fld Z h0 a1 "com/example/opledger/opledger/AppendTimes" "first" "I" (.int f)) (F_last : Fld Z h0 a1 "com/example/opledger/opledger/AppendTimes" "last" "I" (.int (2 : Int32))) (F_maxSeqNo : Fld Z h0 a1 "com/example/opledger/opledger/AppendTimes" "maxSeqNo" "J" (.long mx)) (F_mergeAt : Fld Z h0 a1 "com/example/opledger/opledger/AppendTimes" "mergeAt" "I" (.int (64 : Int32))) (V_wS : Arv Z h0 wS kS .long (8 : Int32) [(.long x0), (.long x1), (.long x2), (.long x3), (.long x4), (.long x5), (.long x6), (.long x7)] (.long (0 : Int64))) (V_wT : Arv Z h0 wT kT .long (8 : Int32) [(.long y0), (.long y1), (.long y2), (.long y3), (.long y4), (.long y5), (.long y6), (.long y7)] (.long (0 : Int64))) (V_wE : Arv Z h0 wE kE .long (8 : Int32) [(.long z0), (.long z1), (.long z2), (.long z3), (.long z4), (.long z5), (.long z6), (.long z7)] (.long (0 : Int64))) (g_a1 : n0 ≤ a1) (g_wS : n0 ≤ wS) (g_wT : n0 ≤ wT) (g_wE : n0 ≤ wE) (ne_a1_wS : a1 ≠ wS) (ne_a1_wT : a1 ≠ wT) (ne_a1_wE : a1 ≠ wE) (ne_wS_wT : wS ≠ wT) (ne_wS_wE : wS ≠ wE) (ne_wT_wE : wT ≠ wE) :
    MetFree l (⟨"com/example/opledger/opledger/AppendTimes", "add", "(JJ)V"⟩ : MethodName) (head1 (Jvm.Cond.code (⟨"com/example/opledger/opledger/AppendTimes", "add", "(JJ)V"⟩ : MethodName) prog_1_method_3_code 6 none :: ws) ({ frames := 0, cells := 0, slots := 0, locals := 0 } : Room)) (fun a U => a = #[(.ref a1), (.long u), (.long w)] ∧ Z.Warmed39 U.vm ∧ U.heap = h0) (fun _ _ _ _ _ => True) (fun _ U o U' => ∃ v L, o = .returned v ∧ Q_rmAB2 Z a1 u w wS wT wE kS kT kE f mx x0 y0 z0 x1 y1 z1 x2 y2 z2 x3 y3 z3 x4 y4 z4 x5 y5 z5 x6 y6 z6 x7 y7 z7 h0 n0 v U'.heap L ∧ FrameEnd U o U' L ({ frames := 0, cells := 0, slots := 0, locals := 0 } : Room).cells ({ frames := 0, cells := 0, slots := 0, locals := 0 } : Room).slots) := by
  refine own_body (Q := fun v h L => Q_rmAB2 Z a1 u w wS wT wE kS kT kE f mx x0 y0 z0 x1 y1 z1 x2 y2 z2 x3 y3 z3 x4 y4 z4 x5 y5 z5 x6 y6 z6 x7 y7 z7 h0 n0 v h L) pn_4 ?_
  intro p e s m below meth c s₁ G X0 hx hZ hby hml hown hnm hrt e0 hG hF
  have hown : s.vm.findClass "com/example/opledger/opledger/AppendTimes" = some m.cls := hown
  have N0 := Fr.nil n0
  rw [ef_rmAB2 m a1 u w]
  show G (s₁.setTop (mkF m 0 #[oR a1, oJ u, oS, oJ w, oS, oU] []))
  refine hG _ (s₁.setTop (mkF m 1 #[oR a1, oJ u, oS, oJ w, oS, oU] [(.ref a1)])) (fun t₀ k₀ => ?_) ?_
  · show Steps p.tables e below (s₁.setTop (mkF m 0 #[oR a1, oJ u, oS, oJ w, oS, oU] [])) t₀
    refine XS.aloadN X0.here hx rfl (hb hby d4_0) rfl rfl ?_
    exact k₀
  obtain ⟨T1, X1, e1, st1⟩ := getF X0 hx hZ hown (host := "") (Or.inl (hw _ (List.mem_of_getElem? (i := 33) rfl))) Via.refl e0 F_first (g := (mkF m 1 #[oR a1, oJ u, oS, oJ w, oS, oU] [(.ref a1)])) rfl rfl (hb hby d4_1)
  refine hG _ _ (fun t₀ k₀ => st1 _ k₀) ?_
  show G (T1.setTop (mkF m 4 #[oR a1, oJ u, oS, oJ w, oS, oU] [(.int f)]))
  by_cases hc4 : (0 : Int32) < f
  ·
    refine hG _ (T1.setTop (mkF m 8 #[oR a1, oJ u, oS, oJ w, oS, oU] [(.ref a1)])) (fun t₀ k₀ => ?_) ?_
    · show Steps p.tables e below (T1.setTop (mkF m 4 #[oR a1, oJ u, oS, oJ w, oS, oU] [(.int f)])) t₀
      refine XS.ifNo X1.here hx rfl (hb hby d4_4) rfl ((if0 _ _).trans (tlt hc4).2.2.2) ?_
      show Steps p.tables e below (T1.setTop (mkF m 7 #[oR a1, oJ u, oS, oJ w, oS, oU] [])) t₀
      refine XS.aloadN X1.here hx rfl (hb hby d4_7) rfl rfl ?_
      exact k₀
    obtain ⟨T2, X2, e2, st2⟩ := getF X1 hx hZ hown (host := "") (Or.inl (hw _ (List.mem_of_getElem? (i := 21) rfl))) Via.refl e1 F_last (g := (mkF m 8 #[oR a1, oJ u, oS, oJ w, oS, oU] [(.ref a1)])) rfl rfl (hb hby d4_8)
    refine hG _ _ (fun t₀ k₀ => st2 _ k₀) ?_
    show G (T2.setTop (mkF m 11 #[oR a1, oJ u, oS, oJ w, oS, oU] [(.int (2 : Int32))]))
    refine hG _ (T2.setTop (mkF m 14 #[oR a1, oJ u, oS, oJ w, oS, oU] [(.ref a1), (.int (3 : Int32))])) (fun t₀ k₀ => ?_) ?_
    · show Steps p.tables e below (T2.setTop (mkF m 11 #[oR a1, oJ u, oS, oJ w, oS, oU] [(.int (2 : Int32))])) t₀
      refine XS.iconst X2.here hx rfl (hb hby d4_11) ?_
      show Steps p.tables e below (T2.setTop (mkF m 12 #[oR a1, oJ u, oS, oJ w, oS, oU] [(.int (1 : Int32)), (.int (2 : Int32))])) t₀
      refine XS.iadd X2.here hx rfl (hb hby d4_12) rfl ?_
      show Steps p.tables e below (T2.setTop (mkF m 13 #[oR a1, oJ u, oS, oJ w, oS, oU] [(.int (3 : Int32))])) t₀
      refine XS.aloadN X2.here hx rfl (hb hby d4_13) rfl rfl ?_
      exact k₀
    obtain ⟨T3, X3, e3, st3⟩ := getF X2 hx hZ hown (host := "") (Or.inl (hw _ (List.mem_of_getElem? (i := 15) rfl))) Via.refl e2 F_seqNos (g := (mkF m 14 #[oR a1, oJ u, oS, oJ w, oS, oU] [(.ref a1), (.int (3 : Int32))])) rfl rfl (hb hby d4_14)
    refine hG _ _ (fun t₀ k₀ => st3 _ k₀) ?_
    show G (T3.setTop (mkF m 17 #[oR a1, oJ u, oS, oJ w, oS, oU] [(.ref wS), (.int (3 : Int32))]))
    have ov4 := V_wS
    obtain ⟨cl4, Ar4, q4, S4, N_4, H_4, G_4⟩ := ov4
    refine hG _ (T3.setTop (mkF m 26 #[oR a1, oJ u, oS, oJ w, oS, oU] [(.ref a1)])) (fun t₀ k₀ => ?_) ?_
    · show Steps p.tables e below (T3.setTop (mkF m 17 #[oR a1, oJ u, oS, oJ w, oS, oU] [(.ref wS), (.int (3 : Int32))])) t₀
      refine X3.arraylength hx (by rw [e3]; exact Ar4.1) (State.isArrayOf_alike hZ.alike Ar4.2.1) (g := (mkF m 17 #[oR a1, oJ u, oS, oJ w, oS, oU] [(.ref wS), (.int (3 : Int32))])) rfl rfl (hb hby d4_17) _ ?_
      rw [len_of S4 N_4]
      show Steps p.tables e below (T3.setTop (mkF m 18 #[oR a1, oJ u, oS, oJ w, oS, oU] [(.int (8 : Int32)), (.int (3 : Int32))])) t₀
      refine XS.icmpYes X3.here hx rfl (pc0 := 18) (pc' := 25) rfl (hb hby d4_18) rfl (feq (by decide : ¬ ((3 : Int32) = (8 : Int32)))).2 (by decide) (by decide) ?_
      show Steps p.tables e below (T3.setTop (mkF m 25 #[oR a1, oJ u, oS, oJ w, oS, oU] [])) t₀
      refine XS.aloadN X3.here hx rfl (hb hby d4_25) rfl rfl ?_
      exact k₀
    obtain ⟨T5, X5, e5, st5⟩ := getF X3 hx hZ hown (host := "") (Or.inl (hw _ (List.mem_of_getElem? (i := 21) rfl))) Via.refl e3 F_last (g := (mkF m 26 #[oR a1, oJ u, oS, oJ w, oS, oU] [(.ref a1)])) rfl rfl (hb hby d4_26)
    refine hG _ _ (fun t₀ k₀ => st5 _ k₀) ?_
    show G (T5.setTop (mkF m 29 #[oR a1, oJ u, oS, oJ w, oS, oU] [(.int (2 : Int32))]))
    refine hG _ (T5.setTop (mkF m 32 #[oR a1, oJ u, oS, oJ w, oS, oU] [(.ref a1), (.int (3 : Int32))])) (fun t₀ k₀ => ?_) ?_
    · show Steps p.tables e below (T5.setTop (mkF m 29 #[oR a1, oJ u, oS, oJ w, oS, oU] [(.int (2 : Int32))])) t₀
      refine XS.iconst X5.here hx rfl (hb hby d4_29) ?_
      show Steps p.tables e below (T5.setTop (mkF m 30 #[oR a1, oJ u, oS, oJ w, oS, oU] [(.int (1 : Int32)), (.int (2 : Int32))])) t₀
      refine XS.iadd X5.here hx rfl (hb hby d4_30) rfl ?_
      show Steps p.tables e below (T5.setTop (mkF m 31 #[oR a1, oJ u, oS, oJ w, oS, oU] [(.int (3 : Int32))])) t₀
      refine XS.aloadN X5.here hx rfl (hb hby d4_31) rfl rfl ?_
      exact k₀
    obtain ⟨T6, X6, e6, st6⟩ := getF X5 hx hZ hown (host := "") (Or.inl (hw _ (List.mem_of_getElem? (i := 15) rfl))) Via.refl e5 F_seqNos (g := (mkF m 32 #[oR a1, oJ u, oS, oJ w, oS, oU] [(.ref a1), (.int (3 : Int32))])) rfl rfl (hb hby d4_32)
    refine hG _ _ (fun t₀ k₀ => st6 _ k₀) ?_
    show G (T6.setTop (mkF m 35 #[oR a1, oJ u, oS, oJ w, oS, oU] [(.ref wS), (.int (3 : Int32))]))
    have ov7 := V_wS
    obtain ⟨cl7, Ar7, q7, S7, N_7, H_7, G_7⟩ := ov7
    refine hG _ (T6.setTop (mkF m 94 #[oR a1, oJ u, oS, oJ w, oS, oU] [(.ref a1), (.ref a1)])) (fun t₀ k₀ => ?_) ?_
    · show Steps p.tables e below (T6.setTop (mkF m 35 #[oR a1, oJ u, oS, oJ w, oS, oU] [(.ref wS), (.int (3 : Int32))])) t₀
      refine X6.arraylength hx (by rw [e6]; exact Ar7.1) (State.isArrayOf_alike hZ.alike Ar7.2.1) (g := (mkF m 35 #[oR a1, oJ u, oS, oJ w, oS, oU] [(.ref wS), (.int (3 : Int32))])) rfl rfl (hb hby d4_35) _ ?_
      rw [len_of S7 N_7]
      show Steps p.tables e below (T6.setTop (mkF m 36 #[oR a1, oJ u, oS, oJ w, oS, oU] [(.int (8 : Int32)), (.int (3 : Int32))])) t₀
      refine XS.icmpYes X6.here hx rfl (pc0 := 36) (pc' := 92) rfl (hb hby d4_36) rfl (feq (by decide : ¬ ((3 : Int32) = (8 : Int32)))).2 (by decide) (by decide) ?_
      show Steps p.tables e below (T6.setTop (mkF m 92 #[oR a1, oJ u, oS, oJ w, oS, oU] [])) t₀
      refine XS.aloadN X6.here hx rfl (hb hby d4_92) rfl rfl ?_
      show Steps p.tables e below (T6.setTop (mkF m 93 #[oR a1, oJ u, oS, oJ w, oS, oU] [(.ref a1)])) t₀
      refine XS.dup X6.here hx rfl (hb hby d4_93) rfl rfl ?_
      exact k₀
    obtain ⟨T8, X8, e8, st8⟩ := getF X6 hx hZ hown (host := "") (Or.inl (hw _ (List.mem_of_getElem? (i := 21) rfl))) Via.refl e6 F_last (g := (mkF m 94 #[oR a1, oJ u, oS, oJ w, oS, oU] [(.ref a1), (.ref a1)])) rfl rfl (hb hby d4_94)
    refine hG _ _ (fun t₀ k₀ => st8 _ k₀) ?_
    show G (T8.setTop (mkF m 97 #[oR a1, oJ u, oS, oJ w, oS, oU] [(.int (2 : Int32)), (.ref a1)]))
    refine hG _ (T8.setTop (mkF m 99 #[oR a1, oJ u, oS, oJ w, oS, oU] [(.int (3 : Int32)), (.ref a1)])) (fun t₀ k₀ => ?_) ?_
    · show Steps p.tables e below (T8.setTop (mkF m 97 #[oR a1, oJ u, oS, oJ w, oS, oU] [(.int (2 : Int32)), (.ref a1)])) t₀
      refine XS.iconst X8.here hx rfl (hb hby d4_97) ?_
      show Steps p.tables e below (T8.setTop (mkF m 98 #[oR a1, oJ u, oS, oJ w, oS, oU] [(.int (1 : Int32)), (.int (2 : Int32)), (.ref a1)])) t₀
      refine XS.iadd X8.here hx rfl (hb hby d4_98) rfl ?_
      exact k₀
    obtain ⟨T9, h9, X9, e9, W9, st9⟩ := putF X8 hx hZ hown (host := "") (Or.inl (hw _ (List.mem_of_getElem? (i := 21) rfl))) Via.refl e8 F_last E1 (Or.inl (hw _ (List.mem_of_getElem? (i := 22) rfl))) (hw _ (List.mem_of_getElem? (i := 5) rfl)) (ty := .int) (by decide) rfl rfl (g := (mkF m 99 #[oR a1, oJ u, oS, oJ w, oS, oU] [(.int (3 : Int32)), (.ref a1)])) rfl rfl (hb hby d4_99)
    refine hG _ _ (fun t₀ k₀ => st9 _ k₀) ?_
    have N9 := Fr.snoc X9 N0 g_a1
    have ea1_x9 := E1.wr W9
    have fa1_seqNos_x9 := F_seqNos.other W9 (Or.inr (slot_ne (Or.inl (hw _ (List.mem_of_getElem? (i := 16) rfl))) (Or.inl (hw _ (List.mem_of_getElem? (i := 22) rfl))) (by decide) (t := (.array .long)) (t' := .int) (by decide) (by decide)))
    have fa1_starts_x9 := F_starts.other W9 (Or.inr (slot_ne (Or.inl (hw _ (List.mem_of_getElem? (i := 18) rfl))) (Or.inl (hw _ (List.mem_of_getElem? (i := 22) rfl))) (by decide) (t := (.array .long)) (t' := .int) (by decide) (by decide)))
    have fa1_ends_x9 := F_ends.other W9 (Or.inr (slot_ne (Or.inl (hw _ (List.mem_of_getElem? (i := 20) rfl))) (Or.inl (hw _ (List.mem_of_getElem? (i := 22) rfl))) (by decide) (t := (.array .long)) (t' := .int) (by decide) (by decide)))
    have fa1_first_x9 := F_first.other W9 (Or.inr (slot_ne (Or.inl (hw _ (List.mem_of_getElem? (i := 34) rfl))) (Or.inl (hw _ (List.mem_of_getElem? (i := 22) rfl))) (by decide) (t := .int) (t' := .int) (by decide) (by decide)))
    have fa1_maxSeqNo_x9 := F_maxSeqNo.other W9 (Or.inr (slot_ne (Or.inl (hw _ (List.mem_of_getElem? (i := 25) rfl))) (Or.inl (hw _ (List.mem_of_getElem? (i := 22) rfl))) (by decide) (t := .long) (t' := .int) (by decide) (by decide)))
    have fa1_mergeAt_x9 := F_mergeAt.other W9 (Or.inr (slot_ne (Or.inl (hw _ (List.mem_of_getElem? (i := 27) rfl))) (Or.inl (hw _ (List.mem_of_getElem? (i := 22) rfl))) (by decide) (t := .int) (t' := .int) (by decide) (by decide)))
    have vwS_x9 := V_wS.other W9 (Ne.symm ne_a1_wS)
    have vwT_x9 := V_wT.other W9 (Ne.symm ne_a1_wT)
    have vwE_x9 := V_wE.other W9 (Ne.symm ne_a1_wE)
    have k_x9 := (Keep.refl h0 [a1, wS, wT, wE]).wr W9 (Or.inl (List.mem_of_getElem? (i := 0) rfl))
    have z_9 : n0 ≤ h9.size := Nat.le_trans Z0 (Keep.of_wr W9).1
    have F9_last := F_last.same W9
    show G (T9.setTop (mkF m 102 #[oR a1, oJ u, oS, oJ w, oS, oU] []))
    refine hG _ (T9.setTop (mkF m 103 #[oR a1, oJ u, oS, oJ w, oS, oU] [(.ref a1)])) (fun t₀ k₀ => ?_) ?_
    · show Steps p.tables e below (T9.setTop (mkF m 102 #[oR a1, oJ u, oS, oJ w, oS, oU] [])) t₀
      refine XS.aloadN X9.here hx rfl (hb hby d4_102) rfl rfl ?_
      exact k₀
    obtain ⟨T10, X10, e10, st10⟩ := getF X9 hx hZ hown (host := "") (Or.inl (hw _ (List.mem_of_getElem? (i := 15) rfl))) Via.refl e9 fa1_seqNos_x9 (g := (mkF m 103 #[oR a1, oJ u, oS, oJ w, oS, oU] [(.ref a1)])) rfl rfl (hb hby d4_103)
    refine hG _ _ (fun t₀ k₀ => st10 _ k₀) ?_
    show G (T10.setTop (mkF m 106 #[oR a1, oJ u, oS, oJ w, oS, oU] [(.ref wS)]))
    refine hG _ (T10.setTop (mkF m 107 #[oR a1, oJ u, oS, oJ w, oS, oU] [(.ref a1), (.ref wS)])) (fun t₀ k₀ => ?_) ?_
    · show Steps p.tables e below (T10.setTop (mkF m 106 #[oR a1, oJ u, oS, oJ w, oS, oU] [(.ref wS)])) t₀
      refine XS.aloadN X10.here hx rfl (hb hby d4_106) rfl rfl ?_
      exact k₀
    obtain ⟨T11, X11, e11, st11⟩ := getF X10 hx hZ hown (host := "") (Or.inl (hw _ (List.mem_of_getElem? (i := 21) rfl))) Via.refl e10 F9_last (g := (mkF m 107 #[oR a1, oJ u, oS, oJ w, oS, oU] [(.ref a1), (.ref wS)])) rfl rfl (hb hby d4_107)
    refine hG _ _ (fun t₀ k₀ => st11 _ k₀) ?_
    show G (T11.setTop (mkF m 110 #[oR a1, oJ u, oS, oJ w, oS, oU] [(.int (3 : Int32)), (.ref wS)]))
    refine hG _ (T11.setTop (mkF m 111 #[oR a1, oJ u, oS, oJ w, oS, oU] [(.long u), (.int (3 : Int32)), (.ref wS)])) (fun t₀ k₀ => ?_) ?_
    · show Steps p.tables e below (T11.setTop (mkF m 110 #[oR a1, oJ u, oS, oJ w, oS, oU] [(.int (3 : Int32)), (.ref wS)])) t₀
      refine XS.lloadN X11.here hx rfl (hb hby d4_110) rfl ?_
      exact k₀
    have ov12 := vwS_x9
    obtain ⟨cl12, Ar12, q12, S12, N_12, H_12, G_12⟩ := ov12
    have hin12 : ¬ ((3 : Int32) < 0 ∨ cl12.slots.size ≤ ((3 : Int32)).toNatClampNeg) := inb_of S12 ⟨by decide, by decide⟩
    obtain ⟨T13, h13, X13, e13, W13, st13⟩ := stJ X11 hx hZ e11 Ar12 (j := (3 : Int32)) hin12 (g := (mkF m 111 #[oR a1, oJ u, oS, oJ w, oS, oU] [(.long u), (.int (3 : Int32)), (.ref wS)])) rfl rfl (hb hby d4_111)
    refine hG _ _ (fun t₀ k₀ => st13 _ k₀) ?_
    have N13 := Fr.snoc X13 N9 g_wS
    have ea1_x13 := ea1_x9.wr W13
    have fa1_seqNos_x13 := fa1_seqNos_x9.other W13 (Or.inl ne_a1_wS)
    have fa1_starts_x13 := fa1_starts_x9.other W13 (Or.inl ne_a1_wS)
    have fa1_ends_x13 := fa1_ends_x9.other W13 (Or.inl ne_a1_wS)
    have fa1_first_x13 := fa1_first_x9.other W13 (Or.inl ne_a1_wS)
    have fa1_last_x13 := F9_last.other W13 (Or.inl ne_a1_wS)
    have fa1_maxSeqNo_x13 := fa1_maxSeqNo_x9.other W13 (Or.inl ne_a1_wS)
    have fa1_mergeAt_x13 := fa1_mergeAt_x9.other W13 (Or.inl ne_a1_wS)
    have vwT_x13 := vwT_x9.other W13 (Ne.symm ne_wS_wT)
    have vwE_x13 := vwE_x9.other W13 (Ne.symm ne_wS_wE)
    have k_x13 := k_x9.wr W13 (Or.inl (List.mem_of_getElem? (i := 1) rfl))
    have z_13 : n0 ≤ h13.size := Nat.le_trans z_9 (Keep.of_wr W13).1
    have V13 : Arv Z h13 wS kS .long (8 : Int32) [(.long x0), (.long x1), (.long x2), (.long u), (.long x4), (.long x5), (.long x6), (.long x7)] (.long (0 : Int64)) := Arv.set Ar12 q12 S12 N_12 H_12 G_12 rfl W13 3 rfl (Nat.le_of_ble_eq_true rfl)
    show G (T13.setTop (mkF m 112 #[oR a1, oJ u, oS, oJ w, oS, oU] []))
    refine hG _ (T13.setTop (mkF m 113 #[oR a1, oJ u, oS, oJ w, oS, oU] [(.ref a1)])) (fun t₀ k₀ => ?_) ?_
    · show Steps p.tables e below (T13.setTop (mkF m 112 #[oR a1, oJ u, oS, oJ w, oS, oU] [])) t₀
      refine XS.aloadN X13.here hx rfl (hb hby d4_112) rfl rfl ?_
      exact k₀
    obtain ⟨T14, X14, e14, st14⟩ := getF X13 hx hZ hown (host := "") (Or.inl (hw _ (List.mem_of_getElem? (i := 17) rfl))) Via.refl e13 fa1_starts_x13 (g := (mkF m 113 #[oR a1, oJ u, oS, oJ w, oS, oU] [(.ref a1)])) rfl rfl (hb hby d4_113)
    refine hG _ _ (fun t₀ k₀ => st14 _ k₀) ?_
    show G (T14.setTop (mkF m 116 #[oR a1, oJ u, oS, oJ w, oS, oU] [(.ref wT)]))
    refine hG _ (T14.setTop (mkF m 117 #[oR a1, oJ u, oS, oJ w, oS, oU] [(.ref a1), (.ref wT)])) (fun t₀ k₀ => ?_) ?_
    · show Steps p.tables e below (T14.setTop (mkF m 116 #[oR a1, oJ u, oS, oJ w, oS, oU] [(.ref wT)])) t₀
      refine XS.aloadN X14.here hx rfl (hb hby d4_116) rfl rfl ?_
      exact k₀
    obtain ⟨T15, X15, e15, st15⟩ := getF X14 hx hZ hown (host := "") (Or.inl (hw _ (List.mem_of_getElem? (i := 21) rfl))) Via.refl e14 fa1_last_x13 (g := (mkF m 117 #[oR a1, oJ u, oS, oJ w, oS, oU] [(.ref a1), (.ref wT)])) rfl rfl (hb hby d4_117)
    refine hG _ _ (fun t₀ k₀ => st15 _ k₀) ?_
    show G (T15.setTop (mkF m 120 #[oR a1, oJ u, oS, oJ w, oS, oU] [(.int (3 : Int32)), (.ref wT)]))
    refine hG _ (T15.setTop (mkF m 121 #[oR a1, oJ u, oS, oJ w, oS, oU] [(.long w), (.int (3 : Int32)), (.ref wT)])) (fun t₀ k₀ => ?_) ?_
    · show Steps p.tables e below (T15.setTop (mkF m 120 #[oR a1, oJ u, oS, oJ w, oS, oU] [(.int (3 : Int32)), (.ref wT)])) t₀
      refine XS.lloadN X15.here hx rfl (hb hby d4_120) rfl ?_
      exact k₀
    have ov16 := vwT_x13
    obtain ⟨cl16, Ar16, q16, S16, N_16, H_16, G_16⟩ := ov16
    have hin16 : ¬ ((3 : Int32) < 0 ∨ cl16.slots.size ≤ ((3 : Int32)).toNatClampNeg) := inb_of S16 ⟨by decide, by decide⟩
    obtain ⟨T17, h17, X17, e17, W17, st17⟩ := stJ X15 hx hZ e15 Ar16 (j := (3 : Int32)) hin16 (g := (mkF m 121 #[oR a1, oJ u, oS, oJ w, oS, oU] [(.long w), (.int (3 : Int32)), (.ref wT)])) rfl rfl (hb hby d4_121)
    refine hG _ _ (fun t₀ k₀ => st17 _ k₀) ?_
    have N17 := Fr.snoc X17 N13 g_wT
    have ea1_x17 := ea1_x13.wr W17
    have fa1_seqNos_x17 := fa1_seqNos_x13.other W17 (Or.inl ne_a1_wT)
    have fa1_starts_x17 := fa1_starts_x13.other W17 (Or.inl ne_a1_wT)
    have fa1_ends_x17 := fa1_ends_x13.other W17 (Or.inl ne_a1_wT)
    have fa1_first_x17 := fa1_first_x13.other W17 (Or.inl ne_a1_wT)
    have fa1_last_x17 := fa1_last_x13.other W17 (Or.inl ne_a1_wT)
    have fa1_maxSeqNo_x17 := fa1_maxSeqNo_x13.other W17 (Or.inl ne_a1_wT)
    have fa1_mergeAt_x17 := fa1_mergeAt_x13.other W17 (Or.inl ne_a1_wT)
    have vwS_x17 := V13.other W17 ne_wS_wT
    have vwE_x17 := vwE_x13.other W17 (Ne.symm ne_wT_wE)
    have k_x17 := k_x13.wr W17 (Or.inl (List.mem_of_getElem? (i := 2) rfl))
    have z_17 : n0 ≤ h17.size := Nat.le_trans z_13 (Keep.of_wr W17).1
    have V17 : Arv Z h17 wT kT .long (8 : Int32) [(.long y0), (.long y1), (.long y2), (.long w), (.long y4), (.long y5), (.long y6), (.long y7)] (.long (0 : Int64)) := Arv.set Ar16 q16 S16 N_16 H_16 G_16 rfl W17 3 rfl (Nat.le_of_ble_eq_true rfl)
    show G (T17.setTop (mkF m 122 #[oR a1, oJ u, oS, oJ w, oS, oU] []))
    refine hG _ (T17.setTop (mkF m 123 #[oR a1, oJ u, oS, oJ w, oS, oU] [(.ref a1)])) (fun t₀ k₀ => ?_) ?_
    · show Steps p.tables e below (T17.setTop (mkF m 122 #[oR a1, oJ u, oS, oJ w, oS, oU] [])) t₀
      refine XS.aloadN X17.here hx rfl (hb hby d4_122) rfl rfl ?_
      exact k₀
    obtain ⟨T18, X18, e18, st18⟩ := getF X17 hx hZ hown (host := "") (Or.inl (hw _ (List.mem_of_getElem? (i := 19) rfl))) Via.refl e17 fa1_ends_x17 (g := (mkF m 123 #[oR a1, oJ u, oS, oJ w, oS, oU] [(.ref a1)])) rfl rfl (hb hby d4_123)
    refine hG _ _ (fun t₀ k₀ => st18 _ k₀) ?_
    show G (T18.setTop (mkF m 126 #[oR a1, oJ u, oS, oJ w, oS, oU] [(.ref wE)]))
    refine hG _ (T18.setTop (mkF m 127 #[oR a1, oJ u, oS, oJ w, oS, oU] [(.ref a1), (.ref wE)])) (fun t₀ k₀ => ?_) ?_
    · show Steps p.tables e below (T18.setTop (mkF m 126 #[oR a1, oJ u, oS, oJ w, oS, oU] [(.ref wE)])) t₀
      refine XS.aloadN X18.here hx rfl (hb hby d4_126) rfl rfl ?_
      exact k₀
    obtain ⟨T19, X19, e19, st19⟩ := getF X18 hx hZ hown (host := "") (Or.inl (hw _ (List.mem_of_getElem? (i := 21) rfl))) Via.refl e18 fa1_last_x17 (g := (mkF m 127 #[oR a1, oJ u, oS, oJ w, oS, oU] [(.ref a1), (.ref wE)])) rfl rfl (hb hby d4_127)
    refine hG _ _ (fun t₀ k₀ => st19 _ k₀) ?_
    show G (T19.setTop (mkF m 130 #[oR a1, oJ u, oS, oJ w, oS, oU] [(.int (3 : Int32)), (.ref wE)]))
    refine hG _ (T19.setTop (mkF m 131 #[oR a1, oJ u, oS, oJ w, oS, oU] [(.long w), (.int (3 : Int32)), (.ref wE)])) (fun t₀ k₀ => ?_) ?_
    · show Steps p.tables e below (T19.setTop (mkF m 130 #[oR a1, oJ u, oS, oJ w, oS, oU] [(.int (3 : Int32)), (.ref wE)])) t₀
      refine XS.lloadN X19.here hx rfl (hb hby d4_130) rfl ?_
      exact k₀
    have ov20 := vwE_x17
    obtain ⟨cl20, Ar20, q20, S20, N_20, H_20, G_20⟩ := ov20
    have hin20 : ¬ ((3 : Int32) < 0 ∨ cl20.slots.size ≤ ((3 : Int32)).toNatClampNeg) := inb_of S20 ⟨by decide, by decide⟩
    obtain ⟨T21, h21, X21, e21, W21, st21⟩ := stJ X19 hx hZ e19 Ar20 (j := (3 : Int32)) hin20 (g := (mkF m 131 #[oR a1, oJ u, oS, oJ w, oS, oU] [(.long w), (.int (3 : Int32)), (.ref wE)])) rfl rfl (hb hby d4_131)
    refine hG _ _ (fun t₀ k₀ => st21 _ k₀) ?_
    have N21 := Fr.snoc X21 N17 g_wE
    have ea1_x21 := ea1_x17.wr W21
    have fa1_seqNos_x21 := fa1_seqNos_x17.other W21 (Or.inl ne_a1_wE)
    have fa1_starts_x21 := fa1_starts_x17.other W21 (Or.inl ne_a1_wE)
    have fa1_ends_x21 := fa1_ends_x17.other W21 (Or.inl ne_a1_wE)
    have fa1_first_x21 := fa1_first_x17.other W21 (Or.inl ne_a1_wE)
    have fa1_last_x21 := fa1_last_x17.other W21 (Or.inl ne_a1_wE)
    have fa1_maxSeqNo_x21 := fa1_maxSeqNo_x17.other W21 (Or.inl ne_a1_wE)
    have fa1_mergeAt_x21 := fa1_mergeAt_x17.other W21 (Or.inl ne_a1_wE)
    have vwS_x21 := vwS_x17.other W21 ne_wS_wE
    have vwT_x21 := V17.other W21 ne_wT_wE
    have k_x21 := k_x17.wr W21 (Or.inl (List.mem_of_getElem? (i := 3) rfl))
    have z_21 : n0 ≤ h21.size := Nat.le_trans z_17 (Keep.of_wr W21).1
    have V21 : Arv Z h21 wE kE .long (8 : Int32) [(.long z0), (.long z1), (.long z2), (.long w), (.long z4), (.long z5), (.long z6), (.long z7)] (.long (0 : Int64)) := Arv.set Ar20 q20 S20 N_20 H_20 G_20 rfl W21 3 rfl (Nat.le_of_ble_eq_true rfl)
    show G (T21.setTop (mkF m 132 #[oR a1, oJ u, oS, oJ w, oS, oU] []))
    refine hF _ T21 _ _ _ none _ X21 e21 (fun _ => rfl) (by decide) (by decide) ?_ (fun fs hr => X21.returnOut hx hrt (hb hby d4_132) hr)
    exact ⟨rfl, N21, k_x21, fa1_seqNos_x21, fa1_starts_x21, fa1_ends_x21, fa1_first_x21, fa1_last_x21, fa1_maxSeqNo_x21, fa1_mergeAt_x21, vwS_x21, vwT_x21, V21⟩
  ·
    refine hG _ (T1.setTop (mkF m 26 #[oR a1, oJ u, oS, oJ w, oS, oU] [(.ref a1)])) (fun t₀ k₀ => ?_) ?_
    · show Steps p.tables e below (T1.setTop (mkF m 4 #[oR a1, oJ u, oS, oJ w, oS, oU] [(.int f)])) t₀
      refine XS.ifYes X1.here hx rfl (pc0 := 4) (pc' := 25) rfl (hb hby d4_4) rfl ((if0 _ _).trans (flt hc4).2.2.2) (by decide) (by decide) ?_
      show Steps p.tables e below (T1.setTop (mkF m 25 #[oR a1, oJ u, oS, oJ w, oS, oU] [])) t₀
      refine XS.aloadN X1.here hx rfl (hb hby d4_25) rfl rfl ?_
      exact k₀
    obtain ⟨T22, X22, e22, st22⟩ := getF X1 hx hZ hown (host := "") (Or.inl (hw _ (List.mem_of_getElem? (i := 21) rfl))) Via.refl e1 F_last (g := (mkF m 26 #[oR a1, oJ u, oS, oJ w, oS, oU] [(.ref a1)])) rfl rfl (hb hby d4_26)
    refine hG _ _ (fun t₀ k₀ => st22 _ k₀) ?_
    show G (T22.setTop (mkF m 29 #[oR a1, oJ u, oS, oJ w, oS, oU] [(.int (2 : Int32))]))
    refine hG _ (T22.setTop (mkF m 32 #[oR a1, oJ u, oS, oJ w, oS, oU] [(.ref a1), (.int (3 : Int32))])) (fun t₀ k₀ => ?_) ?_
    · show Steps p.tables e below (T22.setTop (mkF m 29 #[oR a1, oJ u, oS, oJ w, oS, oU] [(.int (2 : Int32))])) t₀
      refine XS.iconst X22.here hx rfl (hb hby d4_29) ?_
      show Steps p.tables e below (T22.setTop (mkF m 30 #[oR a1, oJ u, oS, oJ w, oS, oU] [(.int (1 : Int32)), (.int (2 : Int32))])) t₀
      refine XS.iadd X22.here hx rfl (hb hby d4_30) rfl ?_
      show Steps p.tables e below (T22.setTop (mkF m 31 #[oR a1, oJ u, oS, oJ w, oS, oU] [(.int (3 : Int32))])) t₀
      refine XS.aloadN X22.here hx rfl (hb hby d4_31) rfl rfl ?_
      exact k₀
    obtain ⟨T23, X23, e23, st23⟩ := getF X22 hx hZ hown (host := "") (Or.inl (hw _ (List.mem_of_getElem? (i := 15) rfl))) Via.refl e22 F_seqNos (g := (mkF m 32 #[oR a1, oJ u, oS, oJ w, oS, oU] [(.ref a1), (.int (3 : Int32))])) rfl rfl (hb hby d4_32)
    refine hG _ _ (fun t₀ k₀ => st23 _ k₀) ?_
    show G (T23.setTop (mkF m 35 #[oR a1, oJ u, oS, oJ w, oS, oU] [(.ref wS), (.int (3 : Int32))]))
    have ov24 := V_wS
    obtain ⟨cl24, Ar24, q24, S24, N_24, H_24, G_24⟩ := ov24
    refine hG _ (T23.setTop (mkF m 94 #[oR a1, oJ u, oS, oJ w, oS, oU] [(.ref a1), (.ref a1)])) (fun t₀ k₀ => ?_) ?_
    · show Steps p.tables e below (T23.setTop (mkF m 35 #[oR a1, oJ u, oS, oJ w, oS, oU] [(.ref wS), (.int (3 : Int32))])) t₀
      refine X23.arraylength hx (by rw [e23]; exact Ar24.1) (State.isArrayOf_alike hZ.alike Ar24.2.1) (g := (mkF m 35 #[oR a1, oJ u, oS, oJ w, oS, oU] [(.ref wS), (.int (3 : Int32))])) rfl rfl (hb hby d4_35) _ ?_
      rw [len_of S24 N_24]
      show Steps p.tables e below (T23.setTop (mkF m 36 #[oR a1, oJ u, oS, oJ w, oS, oU] [(.int (8 : Int32)), (.int (3 : Int32))])) t₀
      refine XS.icmpYes X23.here hx rfl (pc0 := 36) (pc' := 92) rfl (hb hby d4_36) rfl (feq (by decide : ¬ ((3 : Int32) = (8 : Int32)))).2 (by decide) (by decide) ?_
      show Steps p.tables e below (T23.setTop (mkF m 92 #[oR a1, oJ u, oS, oJ w, oS, oU] [])) t₀
      refine XS.aloadN X23.here hx rfl (hb hby d4_92) rfl rfl ?_
      show Steps p.tables e below (T23.setTop (mkF m 93 #[oR a1, oJ u, oS, oJ w, oS, oU] [(.ref a1)])) t₀
      refine XS.dup X23.here hx rfl (hb hby d4_93) rfl rfl ?_
      exact k₀
    obtain ⟨T25, X25, e25, st25⟩ := getF X23 hx hZ hown (host := "") (Or.inl (hw _ (List.mem_of_getElem? (i := 21) rfl))) Via.refl e23 F_last (g := (mkF m 94 #[oR a1, oJ u, oS, oJ w, oS, oU] [(.ref a1), (.ref a1)])) rfl rfl (hb hby d4_94)
    refine hG _ _ (fun t₀ k₀ => st25 _ k₀) ?_
    show G (T25.setTop (mkF m 97 #[oR a1, oJ u, oS, oJ w, oS, oU] [(.int (2 : Int32)), (.ref a1)]))
    refine hG _ (T25.setTop (mkF m 99 #[oR a1, oJ u, oS, oJ w, oS, oU] [(.int (3 : Int32)), (.ref a1)])) (fun t₀ k₀ => ?_) ?_
    · show Steps p.tables e below (T25.setTop (mkF m 97 #[oR a1, oJ u, oS, oJ w, oS, oU] [(.int (2 : Int32)), (.ref a1)])) t₀
      refine XS.iconst X25.here hx rfl (hb hby d4_97) ?_
      show Steps p.tables e below (T25.setTop (mkF m 98 #[oR a1, oJ u, oS, oJ w, oS, oU] [(.int (1 : Int32)), (.int (2 : Int32)), (.ref a1)])) t₀
      refine XS.iadd X25.here hx rfl (hb hby d4_98) rfl ?_
      exact k₀
    obtain ⟨T26, h26, X26, e26, W26, st26⟩ := putF X25 hx hZ hown (host := "") (Or.inl (hw _ (List.mem_of_getElem? (i := 21) rfl))) Via.refl e25 F_last E1 (Or.inl (hw _ (List.mem_of_getElem? (i := 22) rfl))) (hw _ (List.mem_of_getElem? (i := 5) rfl)) (ty := .int) (by decide) rfl rfl (g := (mkF m 99 #[oR a1, oJ u, oS, oJ w, oS, oU] [(.int (3 : Int32)), (.ref a1)])) rfl rfl (hb hby d4_99)
    refine hG _ _ (fun t₀ k₀ => st26 _ k₀) ?_
    have N26 := Fr.snoc X26 N0 g_a1
    have ea1_x26 := E1.wr W26
    have fa1_seqNos_x26 := F_seqNos.other W26 (Or.inr (slot_ne (Or.inl (hw _ (List.mem_of_getElem? (i := 16) rfl))) (Or.inl (hw _ (List.mem_of_getElem? (i := 22) rfl))) (by decide) (t := (.array .long)) (t' := .int) (by decide) (by decide)))
    have fa1_starts_x26 := F_starts.other W26 (Or.inr (slot_ne (Or.inl (hw _ (List.mem_of_getElem? (i := 18) rfl))) (Or.inl (hw _ (List.mem_of_getElem? (i := 22) rfl))) (by decide) (t := (.array .long)) (t' := .int) (by decide) (by decide)))
    have fa1_ends_x26 := F_ends.other W26 (Or.inr (slot_ne (Or.inl (hw _ (List.mem_of_getElem? (i := 20) rfl))) (Or.inl (hw _ (List.mem_of_getElem? (i := 22) rfl))) (by decide) (t := (.array .long)) (t' := .int) (by decide) (by decide)))
    have fa1_first_x26 := F_first.other W26 (Or.inr (slot_ne (Or.inl (hw _ (List.mem_of_getElem? (i := 34) rfl))) (Or.inl (hw _ (List.mem_of_getElem? (i := 22) rfl))) (by decide) (t := .int) (t' := .int) (by decide) (by decide)))
    have fa1_maxSeqNo_x26 := F_maxSeqNo.other W26 (Or.inr (slot_ne (Or.inl (hw _ (List.mem_of_getElem? (i := 25) rfl))) (Or.inl (hw _ (List.mem_of_getElem? (i := 22) rfl))) (by decide) (t := .long) (t' := .int) (by decide) (by decide)))
    have fa1_mergeAt_x26 := F_mergeAt.other W26 (Or.inr (slot_ne (Or.inl (hw _ (List.mem_of_getElem? (i := 27) rfl))) (Or.inl (hw _ (List.mem_of_getElem? (i := 22) rfl))) (by decide) (t := .int) (t' := .int) (by decide) (by decide)))
    have vwS_x26 := V_wS.other W26 (Ne.symm ne_a1_wS)
    have vwT_x26 := V_wT.other W26 (Ne.symm ne_a1_wT)
    have vwE_x26 := V_wE.other W26 (Ne.symm ne_a1_wE)
    have k_x26 := (Keep.refl h0 [a1, wS, wT, wE]).wr W26 (Or.inl (List.mem_of_getElem? (i := 0) rfl))
    have z_26 : n0 ≤ h26.size := Nat.le_trans Z0 (Keep.of_wr W26).1
    have F26_last := F_last.same W26
    show G (T26.setTop (mkF m 102 #[oR a1, oJ u, oS, oJ w, oS, oU] []))
    refine hG _ (T26.setTop (mkF m 103 #[oR a1, oJ u, oS, oJ w, oS, oU] [(.ref a1)])) (fun t₀ k₀ => ?_) ?_
    · show Steps p.tables e below (T26.setTop (mkF m 102 #[oR a1, oJ u, oS, oJ w, oS, oU] [])) t₀
      refine XS.aloadN X26.here hx rfl (hb hby d4_102) rfl rfl ?_
      exact k₀
    obtain ⟨T27, X27, e27, st27⟩ := getF X26 hx hZ hown (host := "") (Or.inl (hw _ (List.mem_of_getElem? (i := 15) rfl))) Via.refl e26 fa1_seqNos_x26 (g := (mkF m 103 #[oR a1, oJ u, oS, oJ w, oS, oU] [(.ref a1)])) rfl rfl (hb hby d4_103)
    refine hG _ _ (fun t₀ k₀ => st27 _ k₀) ?_
    show G (T27.setTop (mkF m 106 #[oR a1, oJ u, oS, oJ w, oS, oU] [(.ref wS)]))
    refine hG _ (T27.setTop (mkF m 107 #[oR a1, oJ u, oS, oJ w, oS, oU] [(.ref a1), (.ref wS)])) (fun t₀ k₀ => ?_) ?_
    · show Steps p.tables e below (T27.setTop (mkF m 106 #[oR a1, oJ u, oS, oJ w, oS, oU] [(.ref wS)])) t₀
      refine XS.aloadN X27.here hx rfl (hb hby d4_106) rfl rfl ?_
      exact k₀
    obtain ⟨T28, X28, e28, st28⟩ := getF X27 hx hZ hown (host := "") (Or.inl (hw _ (List.mem_of_getElem? (i := 21) rfl))) Via.refl e27 F26_last (g := (mkF m 107 #[oR a1, oJ u, oS, oJ w, oS, oU] [(.ref a1), (.ref wS)])) rfl rfl (hb hby d4_107)
    refine hG _ _ (fun t₀ k₀ => st28 _ k₀) ?_
    show G (T28.setTop (mkF m 110 #[oR a1, oJ u, oS, oJ w, oS, oU] [(.int (3 : Int32)), (.ref wS)]))
    refine hG _ (T28.setTop (mkF m 111 #[oR a1, oJ u, oS, oJ w, oS, oU] [(.long u), (.int (3 : Int32)), (.ref wS)])) (fun t₀ k₀ => ?_) ?_
    · show Steps p.tables e below (T28.setTop (mkF m 110 #[oR a1, oJ u, oS, oJ w, oS, oU] [(.int (3 : Int32)), (.ref wS)])) t₀
      refine XS.lloadN X28.here hx rfl (hb hby d4_110) rfl ?_
      exact k₀
    have ov29 := vwS_x26
    obtain ⟨cl29, Ar29, q29, S29, N_29, H_29, G_29⟩ := ov29
    have hin29 : ¬ ((3 : Int32) < 0 ∨ cl29.slots.size ≤ ((3 : Int32)).toNatClampNeg) := inb_of S29 ⟨by decide, by decide⟩
    obtain ⟨T30, h30, X30, e30, W30, st30⟩ := stJ X28 hx hZ e28 Ar29 (j := (3 : Int32)) hin29 (g := (mkF m 111 #[oR a1, oJ u, oS, oJ w, oS, oU] [(.long u), (.int (3 : Int32)), (.ref wS)])) rfl rfl (hb hby d4_111)
    refine hG _ _ (fun t₀ k₀ => st30 _ k₀) ?_
    have N30 := Fr.snoc X30 N26 g_wS
    have ea1_x30 := ea1_x26.wr W30
    have fa1_seqNos_x30 := fa1_seqNos_x26.other W30 (Or.inl ne_a1_wS)
    have fa1_starts_x30 := fa1_starts_x26.other W30 (Or.inl ne_a1_wS)
    have fa1_ends_x30 := fa1_ends_x26.other W30 (Or.inl ne_a1_wS)
    have fa1_first_x30 := fa1_first_x26.other W30 (Or.inl ne_a1_wS)
    have fa1_last_x30 := F26_last.other W30 (Or.inl ne_a1_wS)
    have fa1_maxSeqNo_x30 := fa1_maxSeqNo_x26.other W30 (Or.inl ne_a1_wS)
    have fa1_mergeAt_x30 := fa1_mergeAt_x26.other W30 (Or.inl ne_a1_wS)
    have vwT_x30 := vwT_x26.other W30 (Ne.symm ne_wS_wT)
    have vwE_x30 := vwE_x26.other W30 (Ne.symm ne_wS_wE)
    have k_x30 := k_x26.wr W30 (Or.inl (List.mem_of_getElem? (i := 1) rfl))
    have z_30 : n0 ≤ h30.size := Nat.le_trans z_26 (Keep.of_wr W30).1
    have V30 : Arv Z h30 wS kS .long (8 : Int32) [(.long x0), (.long x1), (.long x2), (.long u), (.long x4), (.long x5), (.long x6), (.long x7)] (.long (0 : Int64)) := Arv.set Ar29 q29 S29 N_29 H_29 G_29 rfl W30 3 rfl (Nat.le_of_ble_eq_true rfl)
    show G (T30.setTop (mkF m 112 #[oR a1, oJ u, oS, oJ w, oS, oU] []))
    refine hG _ (T30.setTop (mkF m 113 #[oR a1, oJ u, oS, oJ w, oS, oU] [(.ref a1)])) (fun t₀ k₀ => ?_) ?_
    · show Steps p.tables e below (T30.setTop (mkF m 112 #[oR a1, oJ u, oS, oJ w, oS, oU] [])) t₀
      refine XS.aloadN X30.here hx rfl (hb hby d4_112) rfl rfl ?_
      exact k₀
    obtain ⟨T31, X31, e31, st31⟩ := getF X30 hx hZ hown (host := "") (Or.inl (hw _ (List.mem_of_getElem? (i := 17) rfl))) Via.refl e30 fa1_starts_x30 (g := (mkF m 113 #[oR a1, oJ u, oS, oJ w, oS, oU] [(.ref a1)])) rfl rfl (hb hby d4_113)
    refine hG _ _ (fun t₀ k₀ => st31 _ k₀) ?_
    show G (T31.setTop (mkF m 116 #[oR a1, oJ u, oS, oJ w, oS, oU] [(.ref wT)]))
    refine hG _ (T31.setTop (mkF m 117 #[oR a1, oJ u, oS, oJ w, oS, oU] [(.ref a1), (.ref wT)])) (fun t₀ k₀ => ?_) ?_
    · show Steps p.tables e below (T31.setTop (mkF m 116 #[oR a1, oJ u, oS, oJ w, oS, oU] [(.ref wT)])) t₀
      refine XS.aloadN X31.here hx rfl (hb hby d4_116) rfl rfl ?_
      exact k₀
    obtain ⟨T32, X32, e32, st32⟩ := getF X31 hx hZ hown (host := "") (Or.inl (hw _ (List.mem_of_getElem? (i := 21) rfl))) Via.refl e31 fa1_last_x30 (g := (mkF m 117 #[oR a1, oJ u, oS, oJ w, oS, oU] [(.ref a1), (.ref wT)])) rfl rfl (hb hby d4_117)
    refine hG _ _ (fun t₀ k₀ => st32 _ k₀) ?_
    show G (T32.setTop (mkF m 120 #[oR a1, oJ u, oS, oJ w, oS, oU] [(.int (3 : Int32)), (.ref wT)]))
    refine hG _ (T32.setTop (mkF m 121 #[oR a1, oJ u, oS, oJ w, oS, oU] [(.long w), (.int (3 : Int32)), (.ref wT)])) (fun t₀ k₀ => ?_) ?_
    · show Steps p.tables e below (T32.setTop (mkF m 120 #[oR a1, oJ u, oS, oJ w, oS, oU] [(.int (3 : Int32)), (.ref wT)])) t₀
      refine XS.lloadN X32.here hx rfl (hb hby d4_120) rfl ?_
      exact k₀
    have ov33 := vwT_x30
    obtain ⟨cl33, Ar33, q33, S33, N_33, H_33, G_33⟩ := ov33
    have hin33 : ¬ ((3 : Int32) < 0 ∨ cl33.slots.size ≤ ((3 : Int32)).toNatClampNeg) := inb_of S33 ⟨by decide, by decide⟩
    obtain ⟨T34, h34, X34, e34, W34, st34⟩ := stJ X32 hx hZ e32 Ar33 (j := (3 : Int32)) hin33 (g := (mkF m 121 #[oR a1, oJ u, oS, oJ w, oS, oU] [(.long w), (.int (3 : Int32)), (.ref wT)])) rfl rfl (hb hby d4_121)
    refine hG _ _ (fun t₀ k₀ => st34 _ k₀) ?_
    have N34 := Fr.snoc X34 N30 g_wT
    have ea1_x34 := ea1_x30.wr W34
    have fa1_seqNos_x34 := fa1_seqNos_x30.other W34 (Or.inl ne_a1_wT)
    have fa1_starts_x34 := fa1_starts_x30.other W34 (Or.inl ne_a1_wT)
    have fa1_ends_x34 := fa1_ends_x30.other W34 (Or.inl ne_a1_wT)
    have fa1_first_x34 := fa1_first_x30.other W34 (Or.inl ne_a1_wT)
    have fa1_last_x34 := fa1_last_x30.other W34 (Or.inl ne_a1_wT)
    have fa1_maxSeqNo_x34 := fa1_maxSeqNo_x30.other W34 (Or.inl ne_a1_wT)
    have fa1_mergeAt_x34 := fa1_mergeAt_x30.other W34 (Or.inl ne_a1_wT)
    have vwS_x34 := V30.other W34 ne_wS_wT
    have vwE_x34 := vwE_x30.other W34 (Ne.symm ne_wT_wE)
    have k_x34 := k_x30.wr W34 (Or.inl (List.mem_of_getElem? (i := 2) rfl))
    have z_34 : n0 ≤ h34.size := Nat.le_trans z_30 (Keep.of_wr W34).1
    have V34 : Arv Z h34 wT kT .long (8 : Int32) [(.long y0), (.long y1), (.long y2), (.long w), (.long y4), (.long y5), (.long y6), (.long y7)] (.long (0 : Int64)) := Arv.set Ar33 q33 S33 N_33 H_33 G_33 rfl W34 3 rfl (Nat.le_of_ble_eq_true rfl)
    show G (T34.setTop (mkF m 122 #[oR a1, oJ u, oS, oJ w, oS, oU] []))
    refine hG _ (T34.setTop (mkF m 123 #[oR a1, oJ u, oS, oJ w, oS, oU] [(.ref a1)])) (fun t₀ k₀ => ?_) ?_
    · show Steps p.tables e below (T34.setTop (mkF m 122 #[oR a1, oJ u, oS, oJ w, oS, oU] [])) t₀
      refine XS.aloadN X34.here hx rfl (hb hby d4_122) rfl rfl ?_
      exact k₀
    obtain ⟨T35, X35, e35, st35⟩ := getF X34 hx hZ hown (host := "") (Or.inl (hw _ (List.mem_of_getElem? (i := 19) rfl))) Via.refl e34 fa1_ends_x34 (g := (mkF m 123 #[oR a1, oJ u, oS, oJ w, oS, oU] [(.ref a1)])) rfl rfl (hb hby d4_123)
    refine hG _ _ (fun t₀ k₀ => st35 _ k₀) ?_
    show G (T35.setTop (mkF m 126 #[oR a1, oJ u, oS, oJ w, oS, oU] [(.ref wE)]))
    refine hG _ (T35.setTop (mkF m 127 #[oR a1, oJ u, oS, oJ w, oS, oU] [(.ref a1), (.ref wE)])) (fun t₀ k₀ => ?_) ?_
    · show Steps p.tables e below (T35.setTop (mkF m 126 #[oR a1, oJ u, oS, oJ w, oS, oU] [(.ref wE)])) t₀
      refine XS.aloadN X35.here hx rfl (hb hby d4_126) rfl rfl ?_
      exact k₀
    obtain ⟨T36, X36, e36, st36⟩ := getF X35 hx hZ hown (host := "") (Or.inl (hw _ (List.mem_of_getElem? (i := 21) rfl))) Via.refl e35 fa1_last_x34 (g := (mkF m 127 #[oR a1, oJ u, oS, oJ w, oS, oU] [(.ref a1), (.ref wE)])) rfl rfl (hb hby d4_127)
    refine hG _ _ (fun t₀ k₀ => st36 _ k₀) ?_
    show G (T36.setTop (mkF m 130 #[oR a1, oJ u, oS, oJ w, oS, oU] [(.int (3 : Int32)), (.ref wE)]))
    refine hG _ (T36.setTop (mkF m 131 #[oR a1, oJ u, oS, oJ w, oS, oU] [(.long w), (.int (3 : Int32)), (.ref wE)])) (fun t₀ k₀ => ?_) ?_
    · show Steps p.tables e below (T36.setTop (mkF m 130 #[oR a1, oJ u, oS, oJ w, oS, oU] [(.int (3 : Int32)), (.ref wE)])) t₀
      refine XS.lloadN X36.here hx rfl (hb hby d4_130) rfl ?_
      exact k₀
    have ov37 := vwE_x34
    obtain ⟨cl37, Ar37, q37, S37, N_37, H_37, G_37⟩ := ov37
    have hin37 : ¬ ((3 : Int32) < 0 ∨ cl37.slots.size ≤ ((3 : Int32)).toNatClampNeg) := inb_of S37 ⟨by decide, by decide⟩
    obtain ⟨T38, h38, X38, e38, W38, st38⟩ := stJ X36 hx hZ e36 Ar37 (j := (3 : Int32)) hin37 (g := (mkF m 131 #[oR a1, oJ u, oS, oJ w, oS, oU] [(.long w), (.int (3 : Int32)), (.ref wE)])) rfl rfl (hb hby d4_131)
    refine hG _ _ (fun t₀ k₀ => st38 _ k₀) ?_
    have N38 := Fr.snoc X38 N34 g_wE
    have ea1_x38 := ea1_x34.wr W38
    have fa1_seqNos_x38 := fa1_seqNos_x34.other W38 (Or.inl ne_a1_wE)
    have fa1_starts_x38 := fa1_starts_x34.other W38 (Or.inl ne_a1_wE)
    have fa1_ends_x38 := fa1_ends_x34.other W38 (Or.inl ne_a1_wE)
    have fa1_first_x38 := fa1_first_x34.other W38 (Or.inl ne_a1_wE)
    have fa1_last_x38 := fa1_last_x34.other W38 (Or.inl ne_a1_wE)
    have fa1_maxSeqNo_x38 := fa1_maxSeqNo_x34.other W38 (Or.inl ne_a1_wE)
    have fa1_mergeAt_x38 := fa1_mergeAt_x34.other W38 (Or.inl ne_a1_wE)
    have vwS_x38 := vwS_x34.other W38 ne_wS_wE
    have vwT_x38 := V34.other W38 ne_wT_wE
    have k_x38 := k_x34.wr W38 (Or.inl (List.mem_of_getElem? (i := 3) rfl))
    have z_38 : n0 ≤ h38.size := Nat.le_trans z_34 (Keep.of_wr W38).1
    have V38 : Arv Z h38 wE kE .long (8 : Int32) [(.long z0), (.long z1), (.long z2), (.long w), (.long z4), (.long z5), (.long z6), (.long z7)] (.long (0 : Int64)) := Arv.set Ar37 q37 S37 N_37 H_37 G_37 rfl W38 3 rfl (Nat.le_of_ble_eq_true rfl)
    show G (T38.setTop (mkF m 132 #[oR a1, oJ u, oS, oJ w, oS, oU] []))
    refine hF _ T38 _ _ _ none _ X38 e38 (fun _ => rfl) (by decide) (by decide) ?_ (fun fs hr => X38.returnOut hx hrt (hb hby d4_132) hr)
    exact ⟨rfl, N38, k_x38, fa1_seqNos_x38, fa1_starts_x38, fa1_ends_x38, fa1_first_x38, fa1_last_x38, fa1_maxSeqNo_x38, fa1_mergeAt_x38, vwS_x38, vwT_x38, V38⟩
theorem d3_0 : decode prog_1_method_2_code 0 = .ok (.lload_n 1, 1) := by decide +kernel
theorem d3_1 : decode prog_1_method_2_code 1 = .ok (.aload_n 0, 1) := by decide +kernel
theorem d3_2 : decode prog_1_method_2_code 2 = .ok (.getfield 30, 3) := by decide +kernel
theorem d3_5 : decode prog_1_method_2_code 5 = .ok (.lcmp, 1) := by decide +kernel
theorem d3_6 : decode prog_1_method_2_code 6 = .ok (.ifCond .gt 4, 3) := by decide +kernel
theorem d3_9 : decode prog_1_method_2_code 9 = .ok (.return_, 1) := by decide +kernel
theorem d3_10 : decode prog_1_method_2_code 10 = .ok (.aload_n 0, 1) := by decide +kernel
theorem d3_11 : decode prog_1_method_2_code 11 = .ok (.lload_n 1, 1) := by decide +kernel
theorem d3_12 : decode prog_1_method_2_code 12 = .ok (.putfield 30, 3) := by decide +kernel
theorem d3_15 : decode prog_1_method_2_code 15 = .ok (.aload_n 0, 1) := by decide +kernel
theorem d3_16 : decode prog_1_method_2_code 16 = .ok (.getfield 22, 3) := by decide +kernel
theorem d3_19 : decode prog_1_method_2_code 19 = .ok (.aload_n 0, 1) := by decide +kernel
theorem d3_20 : decode prog_1_method_2_code 20 = .ok (.getfield 37, 3) := by decide +kernel
theorem d3_23 : decode prog_1_method_2_code 23 = .ok (.if_icmp .lt 44, 3) := by decide +kernel
theorem d3_26 : decode prog_1_method_2_code 26 = .ok (.lload_n 3, 1) := by decide +kernel
theorem d3_27 : decode prog_1_method_2_code 27 = .ok (.aload_n 0, 1) := by decide +kernel
theorem d3_28 : decode prog_1_method_2_code 28 = .ok (.getfield 16, 3) := by decide +kernel
theorem d3_31 : decode prog_1_method_2_code 31 = .ok (.aload_n 0, 1) := by decide +kernel
theorem d3_32 : decode prog_1_method_2_code 32 = .ok (.getfield 22, 3) := by decide +kernel
theorem d3_35 : decode prog_1_method_2_code 35 = .ok (.laload, 1) := by decide +kernel
theorem d3_36 : decode prog_1_method_2_code 36 = .ok (.lsub, 1) := by decide +kernel
theorem d3_37 : decode prog_1_method_2_code 37 = .ok (.ldc2_w 40, 3) := by decide +kernel
theorem d3_40 : decode prog_1_method_2_code 40 = .ok (.lcmp, 1) := by decide +kernel
theorem d3_41 : decode prog_1_method_2_code 41 = .ok (.ifCond .gt 26, 3) := by decide +kernel
theorem d3_44 : decode prog_1_method_2_code 44 = .ok (.aload_n 0, 1) := by decide +kernel
theorem d3_45 : decode prog_1_method_2_code 45 = .ok (.getfield 13, 3) := by decide +kernel
theorem d3_48 : decode prog_1_method_2_code 48 = .ok (.aload_n 0, 1) := by decide +kernel
theorem d3_49 : decode prog_1_method_2_code 49 = .ok (.getfield 22, 3) := by decide +kernel
theorem d3_52 : decode prog_1_method_2_code 52 = .ok (.lload_n 1, 1) := by decide +kernel
theorem d3_53 : decode prog_1_method_2_code 53 = .ok (.lastore, 1) := by decide +kernel
theorem d3_54 : decode prog_1_method_2_code 54 = .ok (.aload_n 0, 1) := by decide +kernel
theorem d3_55 : decode prog_1_method_2_code 55 = .ok (.getfield 19, 3) := by decide +kernel
theorem d3_58 : decode prog_1_method_2_code 58 = .ok (.aload_n 0, 1) := by decide +kernel
theorem d3_59 : decode prog_1_method_2_code 59 = .ok (.getfield 22, 3) := by decide +kernel
theorem d3_62 : decode prog_1_method_2_code 62 = .ok (.lload_n 3, 1) := by decide +kernel
theorem d3_63 : decode prog_1_method_2_code 63 = .ok (.lastore, 1) := by decide +kernel
theorem d3_64 : decode prog_1_method_2_code 64 = .ok (.goto 32, 3) := by decide +kernel
theorem d3_67 : decode prog_1_method_2_code 67 = .ok (.aload_n 0, 1) := by decide +kernel
theorem d3_68 : decode prog_1_method_2_code 68 = .ok (.lload_n 1, 1) := by decide +kernel
theorem d3_69 : decode prog_1_method_2_code 69 = .ok (.lload_n 3, 1) := by decide +kernel
theorem d3_70 : decode prog_1_method_2_code 70 = .ok (.invokevirtual 42, 3) := by decide +kernel
theorem d3_73 : decode prog_1_method_2_code 73 = .ok (.aload_n 0, 1) := by decide +kernel
theorem d3_74 : decode prog_1_method_2_code 74 = .ok (.getfield 22, 3) := by decide +kernel
theorem d3_77 : decode prog_1_method_2_code 77 = .ok (.aload_n 0, 1) := by decide +kernel
theorem d3_78 : decode prog_1_method_2_code 78 = .ok (.getfield 37, 3) := by decide +kernel
theorem d3_81 : decode prog_1_method_2_code 81 = .ok (.isub, 1) := by decide +kernel
theorem d3_82 : decode prog_1_method_2_code 82 = .ok (.iconst 1, 1) := by decide +kernel
theorem d3_83 : decode prog_1_method_2_code 83 = .ok (.iadd, 1) := by decide +kernel
theorem d3_84 : decode prog_1_method_2_code 84 = .ok (.aload_n 0, 1) := by decide +kernel
theorem d3_85 : decode prog_1_method_2_code 85 = .ok (.getfield 34, 3) := by decide +kernel
theorem d3_88 : decode prog_1_method_2_code 88 = .ok (.if_icmp .lt 8, 3) := by decide +kernel
theorem d3_91 : decode prog_1_method_2_code 91 = .ok (.aload_n 0, 1) := by decide +kernel
theorem d3_92 : decode prog_1_method_2_code 92 = .ok (.lload_n 3, 1) := by decide +kernel
theorem d3_93 : decode prog_1_method_2_code 93 = .ok (.invokevirtual 46, 3) := by decide +kernel
theorem d3_96 : decode prog_1_method_2_code 96 = .ok (.return_, 1) := by decide +kernel
theorem pn_3 : plainFor (⟨"com/example/opledger/opledger/AppendTimes", "record", "(JJ)V"⟩ : MethodName) = true := plainFor_of_name (by first | (simp [plainName, overriddenIn]; done) | decide +kernel)
theorem ef_rmRA (m : MethodId) (x0 : Addr) (x1 : Int64) (x2 : Int64) : entryFrame m #[(.ref x0), (.long x1), (.long x2)] 5 = mkF m 0 #[oR x0, oJ x1, oS, oJ x2, oS] [] := by first | (simp [entryFrame, mkF, argsToLocals, Value.category]; done) | rfl
def Q_rmRA (Z : State) (a1 : Addr) (u w mx : Int64) (wN : Addr) (kN : ClassId) (h0 : Heap) (n0 : Nat) (v : Option Value) (h : Heap) (L : List Loc) : Prop := ∃ wS kS wT kT wE kE, v = none ∧ Fr n0 L ∧ Keep h0 h [a1] ∧ n0 ≤ wS ∧ n0 ≤ wT ∧ n0 ≤ wE ∧ a1 ≠ wS ∧ a1 ≠ wT ∧ a1 ≠ wE ∧ wS ≠ wT ∧ wS ≠ wE ∧ wT ≠ wE ∧ Fld Z h a1 "com/example/opledger/opledger/AppendTimes" "seqNos" "[J" (.ref wS) ∧ Fld Z h a1 "com/example/opledger/opledger/AppendTimes" "starts" "[J" (.ref wT) ∧ Fld Z h a1 "com/example/opledger/opledger/AppendTimes" "ends" "[J" (.ref wE) ∧ Fld Z h a1 "com/example/opledger/opledger/AppendTimes" "first" "I" (.int (0 : Int32)) ∧ Fld Z h a1 "com/example/opledger/opledger/AppendTimes" "last" "I" (.int (0 : Int32)) ∧ Fld Z h a1 "com/example/opledger/opledger/AppendTimes" "maxSeqNo" "J" (.long u) ∧ Fld Z h a1 "com/example/opledger/opledger/AppendTimes" "mergeAt" "I" (.int (64 : Int32)) ∧ Arv Z h wS kS .long (8 : Int32) [(.long u), (.long (0 : Int64)), (.long (0 : Int64)), (.long (0 : Int64)), (.long (0 : Int64)), (.long (0 : Int64)), (.long (0 : Int64)), (.long (0 : Int64))] (.long (0 : Int64)) ∧ Arv Z h wT kT .long (8 : Int32) [(.long w), (.long (0 : Int64)), (.long (0 : Int64)), (.long (0 : Int64)), (.long (0 : Int64)), (.long (0 : Int64)), (.long (0 : Int64)), (.long (0 : Int64))] (.long (0 : Int64)) ∧ Arv Z h wE kE .long (8 : Int32) [(.long w), (.long (0 : Int64)), (.long (0 : Int64)), (.long (0 : Int64)), (.long (0 : Int64)), (.long (0 : Int64)), (.long (0 : Int64)), (.long (0 : Int64))] (.long (0 : Int64))
set_option maxRecDepth 65536 in
set_option maxHeartbeats 40000000 in
theorem rmRA (l : Launch) (Z : State) (a0 : Array Value) (hw : ∀ d ∈ tables_1, d.before a0 Z = true) (ws : List Jvm.Cond) (a1 : Addr) (u w mx : Int64) (wN : Addr) (kN : ClassId) (h0 : Heap) (n0 : Nat) (Z0 : n0 ≤ h0.size) (O0 : Old Z n0 h0) (S_NO : Sta Z Z.heap "com/example/opledger/opledger/AppendTimes" "NO_ENTRIES" "[J" (.ref wN)) (VN : Arv Z Z.heap wN kN .long (0 : Int32) [] (.long (0 : Int64))) (E1 : Exa Z h0 a1 "com/example/opledger/opledger/AppendTimes") (F_seqNos : Fld Z h0 a1 "com/example/opledger/opledger/AppendTimes" "seqNos" "[J" (.ref wN)) (F_starts : Fld Z h0 a1 "com/example/opledger/opledger/AppendTimes" "starts" "[J" (.ref wN)) (F_ends : Fld Z h0 a1 "com/example/opledger/opledger/AppendTimes" "ends" "[J" (.ref wN)) (F_first : Fld Z h0 a1 "com/example/opledger/opledger/AppendTimes" "first" "I" (.int (0 : Int32))) (F_last : Fld Z h0 a1 "com/example/opledger/opledger/AppendTimes" "last" "I" (.int (-1 : Int32))) (F_maxSeqNo : Fld Z h0 a1 "com/example/opledger/opledger/AppendTimes" "maxSeqNo" "J" (.long mx)) (F_mergeAt : Fld Z h0 a1 "com/example/opledger/opledger/AppendTimes" "mergeAt" "I" (.int (64 : Int32))) (g_a1 : n0 ≤ a1) (hmx : mx < u) :
    MetFree l (⟨"com/example/opledger/opledger/AppendTimes", "record", "(JJ)V"⟩ : MethodName) (head1 (Jvm.Cond.code (⟨"com/example/opledger/opledger/AppendTimes", "record", "(JJ)V"⟩ : MethodName) prog_1_method_2_code 5 none :: ws) ({ frames := 3, cells := 3, slots := 24, locals := 50 } : Room)) (fun a U => a = #[(.ref a1), (.long u), (.long w)] ∧ Z.Warmed39 U.vm ∧ U.heap = h0) (fun _ _ _ _ _ => True) (fun _ U o U' => ∃ v L, o = .returned v ∧ Q_rmRA Z a1 u w mx wN kN h0 n0 v U'.heap L ∧ FrameEnd U o U' L ({ frames := 3, cells := 3, slots := 24, locals := 50 } : Room).cells ({ frames := 3, cells := 3, slots := 24, locals := 50 } : Room).slots) := by
  refine own_body (Q := fun v h L => Q_rmRA Z a1 u w mx wN kN h0 n0 v h L) pn_3 ?_
  intro p e s m below meth c s₁ G X0 hx hZ hby hml hown hnm hrt e0 hG hF
  have hown : s.vm.findClass "com/example/opledger/opledger/AppendTimes" = some m.cls := hown
  have N0 := Fr.nil n0
  rw [ef_rmRA m a1 u w]
  show G (s₁.setTop (mkF m 0 #[oR a1, oJ u, oS, oJ w, oS] []))
  refine hG _ (s₁.setTop (mkF m 2 #[oR a1, oJ u, oS, oJ w, oS] [(.ref a1), (.long u)])) (fun t₀ k₀ => ?_) ?_
  · show Steps p.tables e below (s₁.setTop (mkF m 0 #[oR a1, oJ u, oS, oJ w, oS] [])) t₀
    refine XS.lloadN X0.here hx rfl (hb hby d3_0) rfl ?_
    show Steps p.tables e below (s₁.setTop (mkF m 1 #[oR a1, oJ u, oS, oJ w, oS] [(.long u)])) t₀
    refine XS.aloadN X0.here hx rfl (hb hby d3_1) rfl rfl ?_
    exact k₀
  obtain ⟨T1, X1, e1, st1⟩ := getF X0 hx hZ hown (host := "") (Or.inl (hw _ (List.mem_of_getElem? (i := 24) rfl))) Via.refl e0 F_maxSeqNo (g := (mkF m 2 #[oR a1, oJ u, oS, oJ w, oS] [(.ref a1), (.long u)])) rfl rfl (hb hby d3_2)
  refine hG _ _ (fun t₀ k₀ => st1 _ k₀) ?_
  show G (T1.setTop (mkF m 5 #[oR a1, oJ u, oS, oJ w, oS] [(.long mx), (.long u)]))
  refine hG _ (T1.setTop (mkF m 12 #[oR a1, oJ u, oS, oJ w, oS] [(.long u), (.ref a1)])) (fun t₀ k₀ => ?_) ?_
  · show Steps p.tables e below (T1.setTop (mkF m 5 #[oR a1, oJ u, oS, oJ w, oS] [(.long mx), (.long u)])) t₀
    refine XS.lcmp X1.here hx rfl (hb hby d3_5) rfl ?_
    show Steps p.tables e below (T1.setTop (mkF m 6 #[oR a1, oJ u, oS, oJ w, oS] [(.int (lcmpW u mx))])) t₀
    refine XS.ifYes X1.here hx rfl (pc0 := 6) (pc' := 10) rfl (hb hby d3_6) rfl ((if0 _ _).trans (tlt ((lw_gt u mx).mpr hmx)).2.2.1) (by decide) (by decide) ?_
    show Steps p.tables e below (T1.setTop (mkF m 10 #[oR a1, oJ u, oS, oJ w, oS] [])) t₀
    refine XS.aloadN X1.here hx rfl (hb hby d3_10) rfl rfl ?_
    show Steps p.tables e below (T1.setTop (mkF m 11 #[oR a1, oJ u, oS, oJ w, oS] [(.ref a1)])) t₀
    refine XS.lloadN X1.here hx rfl (hb hby d3_11) rfl ?_
    exact k₀
  obtain ⟨T2, h2, X2, e2, W2, st2⟩ := putF X1 hx hZ hown (host := "") (Or.inl (hw _ (List.mem_of_getElem? (i := 24) rfl))) Via.refl e1 F_maxSeqNo E1 (Or.inl (hw _ (List.mem_of_getElem? (i := 25) rfl))) (hw _ (List.mem_of_getElem? (i := 5) rfl)) (ty := .long) (by decide) rfl rfl (g := (mkF m 12 #[oR a1, oJ u, oS, oJ w, oS] [(.long u), (.ref a1)])) rfl rfl (hb hby d3_12)
  refine hG _ _ (fun t₀ k₀ => st2 _ k₀) ?_
  have N2 := Fr.snoc X2 N0 g_a1
  have o_x2 := O0.wr W2 g_a1
  have ea1_x2 := E1.wr W2
  have fa1_seqNos_x2 := F_seqNos.other W2 (Or.inr (slot_ne (Or.inl (hw _ (List.mem_of_getElem? (i := 16) rfl))) (Or.inl (hw _ (List.mem_of_getElem? (i := 25) rfl))) (by decide) (t := (.array .long)) (t' := .long) (by decide) (by decide)))
  have fa1_starts_x2 := F_starts.other W2 (Or.inr (slot_ne (Or.inl (hw _ (List.mem_of_getElem? (i := 18) rfl))) (Or.inl (hw _ (List.mem_of_getElem? (i := 25) rfl))) (by decide) (t := (.array .long)) (t' := .long) (by decide) (by decide)))
  have fa1_ends_x2 := F_ends.other W2 (Or.inr (slot_ne (Or.inl (hw _ (List.mem_of_getElem? (i := 20) rfl))) (Or.inl (hw _ (List.mem_of_getElem? (i := 25) rfl))) (by decide) (t := (.array .long)) (t' := .long) (by decide) (by decide)))
  have fa1_first_x2 := F_first.other W2 (Or.inr (slot_ne (Or.inl (hw _ (List.mem_of_getElem? (i := 34) rfl))) (Or.inl (hw _ (List.mem_of_getElem? (i := 25) rfl))) (by decide) (t := .int) (t' := .long) (by decide) (by decide)))
  have fa1_last_x2 := F_last.other W2 (Or.inr (slot_ne (Or.inl (hw _ (List.mem_of_getElem? (i := 22) rfl))) (Or.inl (hw _ (List.mem_of_getElem? (i := 25) rfl))) (by decide) (t := .int) (t' := .long) (by decide) (by decide)))
  have fa1_mergeAt_x2 := F_mergeAt.other W2 (Or.inr (slot_ne (Or.inl (hw _ (List.mem_of_getElem? (i := 27) rfl))) (Or.inl (hw _ (List.mem_of_getElem? (i := 25) rfl))) (by decide) (t := .int) (t' := .long) (by decide) (by decide)))
  have k_x2 := (Keep.refl h0 [a1]).wr W2 (Or.inl (List.mem_of_getElem? (i := 0) rfl))
  have z_2 : n0 ≤ h2.size := Nat.le_trans Z0 (Keep.of_wr W2).1
  have F2_maxSeqNo := F_maxSeqNo.same W2
  show G (T2.setTop (mkF m 15 #[oR a1, oJ u, oS, oJ w, oS] []))
  refine hG _ (T2.setTop (mkF m 16 #[oR a1, oJ u, oS, oJ w, oS] [(.ref a1)])) (fun t₀ k₀ => ?_) ?_
  · show Steps p.tables e below (T2.setTop (mkF m 15 #[oR a1, oJ u, oS, oJ w, oS] [])) t₀
    refine XS.aloadN X2.here hx rfl (hb hby d3_15) rfl rfl ?_
    exact k₀
  obtain ⟨T3, X3, e3, st3⟩ := getF X2 hx hZ hown (host := "") (Or.inl (hw _ (List.mem_of_getElem? (i := 21) rfl))) Via.refl e2 fa1_last_x2 (g := (mkF m 16 #[oR a1, oJ u, oS, oJ w, oS] [(.ref a1)])) rfl rfl (hb hby d3_16)
  refine hG _ _ (fun t₀ k₀ => st3 _ k₀) ?_
  show G (T3.setTop (mkF m 19 #[oR a1, oJ u, oS, oJ w, oS] [(.int (-1 : Int32))]))
  refine hG _ (T3.setTop (mkF m 20 #[oR a1, oJ u, oS, oJ w, oS] [(.ref a1), (.int (-1 : Int32))])) (fun t₀ k₀ => ?_) ?_
  · show Steps p.tables e below (T3.setTop (mkF m 19 #[oR a1, oJ u, oS, oJ w, oS] [(.int (-1 : Int32))])) t₀
    refine XS.aloadN X3.here hx rfl (hb hby d3_19) rfl rfl ?_
    exact k₀
  obtain ⟨T4, X4, e4, st4⟩ := getF X3 hx hZ hown (host := "") (Or.inl (hw _ (List.mem_of_getElem? (i := 33) rfl))) Via.refl e3 fa1_first_x2 (g := (mkF m 20 #[oR a1, oJ u, oS, oJ w, oS] [(.ref a1), (.int (-1 : Int32))])) rfl rfl (hb hby d3_20)
  refine hG _ _ (fun t₀ k₀ => st4 _ k₀) ?_
  show G (T4.setTop (mkF m 23 #[oR a1, oJ u, oS, oJ w, oS] [(.int (0 : Int32)), (.int (-1 : Int32))]))
  refine hG _ (T4.setTop (mkF m 70 #[oR a1, oJ u, oS, oJ w, oS] [(.long w), (.long u), (.ref a1)])) (fun t₀ k₀ => ?_) ?_
  · show Steps p.tables e below (T4.setTop (mkF m 23 #[oR a1, oJ u, oS, oJ w, oS] [(.int (0 : Int32)), (.int (-1 : Int32))])) t₀
    refine XS.icmpYes X4.here hx rfl (pc0 := 23) (pc' := 67) rfl (hb hby d3_23) rfl (tlt (by decide : ((-1 : Int32) < (0 : Int32)))).1 (by decide) (by decide) ?_
    show Steps p.tables e below (T4.setTop (mkF m 67 #[oR a1, oJ u, oS, oJ w, oS] [])) t₀
    refine XS.aloadN X4.here hx rfl (hb hby d3_67) rfl rfl ?_
    show Steps p.tables e below (T4.setTop (mkF m 68 #[oR a1, oJ u, oS, oJ w, oS] [(.ref a1)])) t₀
    refine XS.lloadN X4.here hx rfl (hb hby d3_68) rfl ?_
    show Steps p.tables e below (T4.setTop (mkF m 69 #[oR a1, oJ u, oS, oJ w, oS] [(.long u), (.ref a1)])) t₀
    refine XS.lloadN X4.here hx rfl (hb hby d3_69) rfl ?_
    exact k₀
  obtain ⟨cp5, kp5, p5a, p5b, -, p5c, -⟩ := Cond.instantiable_spec (mvT (args := #[]) hZ (hw _ (List.mem_of_getElem? (i := 5) rfl)))
  obtain ⟨cq5, q5, q5'⟩ := ea1_x2.cell
  obtain ⟨_, _, ⟨T5, L5, k5, n5⟩, -, X5, ⟨Lc5, hQ5, l5, y5, z5⟩, st5⟩ := X4.privateBack hx (y := (⟨"com/example/opledger/opledger/AppendTimes", "add", "(JJ)V"⟩ : MethodName)) hown (mvT hZ (hw _ (List.mem_of_getElem? (i := 35) rfl))) (mvT hZ (hw _ (List.mem_of_getElem? (i := 36) rfl))) (selects_self_of_private p5a p5b (Bool.or_eq_false_iff.mp p5c).1 (Cond.privateMethod_at (mvP hZ (hw _ (List.mem_of_getElem? (i := 37) rfl)) (args := #[]))) (mvT hZ (hw _ (List.mem_of_getElem? (i := 36) rfl))) (by decide)) (Cond.privateMethod_at (mvP hZ (hw _ (List.mem_of_getElem? (i := 37) rfl)) (args := #[]))) (mvT hZ (hw _ (List.mem_of_getElem? (i := 38) rfl))) (by decide) (backOf (W := 0) (rmAA l Z a0 hw [] a1 u w u wN kN h2 n0 z_2 o_x2 S_NO VN ea1_x2 fa1_seqNos_x2 fa1_starts_x2 fa1_ends_x2 fa1_first_x2 fa1_last_x2 F2_maxSeqNo fa1_mergeAt_x2 g_a1) hZ (hw _ (List.mem_of_getElem? (i := 38) rfl)) (hw _ (List.mem_of_getElem? (i := 6) rfl)) (by decide) (by decide)) (g := (mkF m 70 #[oR a1, oJ u, oS, oJ w, oS] [(.long w), (.long u), (.ref a1)])) rfl (by rw [hml]; rfl) (Steps.refl _) (a := a1) (by rw [e4]; exact q5) q5' (argsL := [(.long u), (.long w)]) (rest := []) (lenOf pd_1 rfl) rfl (by show 2 * 0 + _ ≤ _; exact Nat.le_of_eq rfl) (hb hby d3_70) (fun _ _ => ⟨rfl, e4, (by decide : 0 + 3 ≤ _), (by decide : 0 + 24 ≤ _)⟩)
  dsimp only [Pt.U, Pt.locs, Pt.cells, Pt.slots] at X5 l5 y5 z5 st5 hQ5
  subst l5 y5 z5
  obtain ⟨S5, kS5, W5T, kT5, W5E, kE5, rfl, N5q, K5, g5_0, g5_1, g5_2, d5_0, d5_1, d5_2, d5_3, d5_4, d5_5, f5_0, f5_1, f5_2, f5_3, f5_4, f5_5, f5_6, f5_7, f5_8, f5_9⟩ := hQ5
  have N5 := Fr.app N2 N5q
  refine hG _ _ (fun t₀ k₀ => st5.trans k₀) ?_
  have z_x5 := Nat.le_trans z_2 K5.1
  have o_x5 := o_x2.keep K5 (allS g_a1 all0)
  have ea1_x5 := ea1_x2.keep K5
  have k_x5 := k_x2.trans K5 (allS (Or.inl (List.mem_of_getElem? (i := 0) rfl)) all0)
  show G (T5.setTop (mkF m 73 #[oR a1, oJ u, oS, oJ w, oS] []))
  refine hG _ (T5.setTop (mkF m 74 #[oR a1, oJ u, oS, oJ w, oS] [(.ref a1)])) (fun t₀ k₀ => ?_) ?_
  · show Steps p.tables e below (T5.setTop (mkF m 73 #[oR a1, oJ u, oS, oJ w, oS] [])) t₀
    refine XS.aloadN X5.here hx rfl (hb hby d3_73) rfl rfl ?_
    exact k₀
  obtain ⟨T6, X6, e6, st6⟩ := getF X5 hx hZ hown (host := "") (Or.inl (hw _ (List.mem_of_getElem? (i := 21) rfl))) Via.refl rfl f5_4 (g := (mkF m 74 #[oR a1, oJ u, oS, oJ w, oS] [(.ref a1)])) rfl rfl (hb hby d3_74)
  refine hG _ _ (fun t₀ k₀ => st6 _ k₀) ?_
  show G (T6.setTop (mkF m 77 #[oR a1, oJ u, oS, oJ w, oS] [(.int (0 : Int32))]))
  refine hG _ (T6.setTop (mkF m 78 #[oR a1, oJ u, oS, oJ w, oS] [(.ref a1), (.int (0 : Int32))])) (fun t₀ k₀ => ?_) ?_
  · show Steps p.tables e below (T6.setTop (mkF m 77 #[oR a1, oJ u, oS, oJ w, oS] [(.int (0 : Int32))])) t₀
    refine XS.aloadN X6.here hx rfl (hb hby d3_77) rfl rfl ?_
    exact k₀
  obtain ⟨T7, X7, e7, st7⟩ := getF X6 hx hZ hown (host := "") (Or.inl (hw _ (List.mem_of_getElem? (i := 33) rfl))) Via.refl e6 f5_3 (g := (mkF m 78 #[oR a1, oJ u, oS, oJ w, oS] [(.ref a1), (.int (0 : Int32))])) rfl rfl (hb hby d3_78)
  refine hG _ _ (fun t₀ k₀ => st7 _ k₀) ?_
  show G (T7.setTop (mkF m 81 #[oR a1, oJ u, oS, oJ w, oS] [(.int (0 : Int32)), (.int (0 : Int32))]))
  refine hG _ (T7.setTop (mkF m 85 #[oR a1, oJ u, oS, oJ w, oS] [(.ref a1), (.int (1 : Int32))])) (fun t₀ k₀ => ?_) ?_
  · show Steps p.tables e below (T7.setTop (mkF m 81 #[oR a1, oJ u, oS, oJ w, oS] [(.int (0 : Int32)), (.int (0 : Int32))])) t₀
    refine XS.isub X7.here hx rfl (hb hby d3_81) rfl ?_
    show Steps p.tables e below (T7.setTop (mkF m 82 #[oR a1, oJ u, oS, oJ w, oS] [(.int (0 : Int32))])) t₀
    refine XS.iconst X7.here hx rfl (hb hby d3_82) ?_
    show Steps p.tables e below (T7.setTop (mkF m 83 #[oR a1, oJ u, oS, oJ w, oS] [(.int (1 : Int32)), (.int (0 : Int32))])) t₀
    refine XS.iadd X7.here hx rfl (hb hby d3_83) rfl ?_
    show Steps p.tables e below (T7.setTop (mkF m 84 #[oR a1, oJ u, oS, oJ w, oS] [(.int (1 : Int32))])) t₀
    refine XS.aloadN X7.here hx rfl (hb hby d3_84) rfl rfl ?_
    exact k₀
  obtain ⟨T8, X8, e8, st8⟩ := getF X7 hx hZ hown (host := "") (Or.inl (hw _ (List.mem_of_getElem? (i := 26) rfl))) Via.refl e7 f5_6 (g := (mkF m 85 #[oR a1, oJ u, oS, oJ w, oS] [(.ref a1), (.int (1 : Int32))])) rfl rfl (hb hby d3_85)
  refine hG _ _ (fun t₀ k₀ => st8 _ k₀) ?_
  show G (T8.setTop (mkF m 88 #[oR a1, oJ u, oS, oJ w, oS] [(.int (64 : Int32)), (.int (1 : Int32))]))
  refine hG _ (T8.setTop (mkF m 96 #[oR a1, oJ u, oS, oJ w, oS] [])) (fun t₀ k₀ => ?_) ?_
  · show Steps p.tables e below (T8.setTop (mkF m 88 #[oR a1, oJ u, oS, oJ w, oS] [(.int (64 : Int32)), (.int (1 : Int32))])) t₀
    refine XS.icmpYes X8.here hx rfl (pc0 := 88) (pc' := 96) rfl (hb hby d3_88) rfl (tlt (by decide : ((1 : Int32) < (64 : Int32)))).1 (by decide) (by decide) ?_
    exact k₀
  refine hF _ T8 _ _ _ none _ X8 e8 (fun _ => rfl) (by decide) (by decide) ?_ (fun fs hr => X8.returnOut hx hrt (hb hby d3_96) hr)
  exact ⟨_, _, _, _, _, _, rfl, N5, k_x5, g5_0, g5_1, g5_2, d5_0, d5_1, d5_2, d5_3, d5_4, d5_5, f5_0, f5_1, f5_2, f5_3, f5_4, f5_5, f5_6, f5_7, f5_8, f5_9⟩
theorem ef_rmRB0 (m : MethodId) (x0 : Addr) (x1 : Int64) (x2 : Int64) : entryFrame m #[(.ref x0), (.long x1), (.long x2)] 5 = mkF m 0 #[oR x0, oJ x1, oS, oJ x2, oS] [] := by first | (simp [entryFrame, mkF, argsToLocals, Value.category]; done) | rfl
def Q_rmRB0 (Z : State) (a1 : Addr) (u w : Int64) (wS wT wE : Addr) (kS kT kE : ClassId) (f : Int32) (mx : Int64) (x0 y0 z0 x1 y1 z1 x2 y2 z2 x3 y3 z3 x4 y4 z4 x5 y5 z5 x6 y6 z6 x7 y7 z7 : Int64) (h0 : Heap) (n0 : Nat) (v : Option Value) (h : Heap) (L : List Loc) : Prop := v = none ∧ Fr n0 L ∧ Keep h0 h [a1, wS, wT, wE] ∧ Fld Z h a1 "com/example/opledger/opledger/AppendTimes" "seqNos" "[J" (.ref wS) ∧ Fld Z h a1 "com/example/opledger/opledger/AppendTimes" "starts" "[J" (.ref wT) ∧ Fld Z h a1 "com/example/opledger/opledger/AppendTimes" "ends" "[J" (.ref wE) ∧ Fld Z h a1 "com/example/opledger/opledger/AppendTimes" "first" "I" (.int f) ∧ Fld Z h a1 "com/example/opledger/opledger/AppendTimes" "last" "I" (.int (1 : Int32)) ∧ Fld Z h a1 "com/example/opledger/opledger/AppendTimes" "maxSeqNo" "J" (.long u) ∧ Fld Z h a1 "com/example/opledger/opledger/AppendTimes" "mergeAt" "I" (.int (64 : Int32)) ∧ Arv Z h wS kS .long (8 : Int32) [(.long x0), (.long u), (.long x2), (.long x3), (.long x4), (.long x5), (.long x6), (.long x7)] (.long (0 : Int64)) ∧ Arv Z h wT kT .long (8 : Int32) [(.long y0), (.long w), (.long y2), (.long y3), (.long y4), (.long y5), (.long y6), (.long y7)] (.long (0 : Int64)) ∧ Arv Z h wE kE .long (8 : Int32) [(.long z0), (.long w), (.long z2), (.long z3), (.long z4), (.long z5), (.long z6), (.long z7)] (.long (0 : Int64))
set_option maxRecDepth 65536 in
set_option maxHeartbeats 40000000 in
theorem rmRB0 (l : Launch) (Z : State) (a0 : Array Value) (hw : ∀ d ∈ tables_1, d.before a0 Z = true) (ws : List Jvm.Cond) (a1 : Addr) (u w : Int64) (wS wT wE : Addr) (kS kT kE : ClassId) (f : Int32) (mx : Int64) (x0 y0 z0 x1 y1 z1 x2 y2 z2 x3 y3 z3 x4 y4 z4 x5 y5 z5 x6 y6 z6 x7 y7 z7 : Int64) (h0 : Heap) (n0 : Nat) (Z0 : n0 ≤ h0.size) (E1 : Exa Z h0 a1 "com/example/opledger/opledger/AppendTimes") (F_seqNos : Fld Z h0 a1 "com/example/opledger/opledger/AppendTimes" "seqNos" "[J" (.ref wS)) (F_starts : Fld Z h0 a1 "com/example/opledger/opledger/AppendTimes" "starts" "[J" (.ref wT)) (F_ends : Fld Z h0 a1 "com/example/opledger/opledger/AppendTimes" "ends" "[J" (.ref wE)) (F_first : Fld Z h0 a1 "com/example/opledger/opledger/AppendTimes" "first" "I" (.int f)) (F_last : Fld Z h0 a1 "com/example/opledger/opledger/AppendTimes" "last" "I" (.int (0 : Int32))) (F_maxSeqNo : Fld Z h0 a1 "com/example/opledger/opledger/AppendTimes" "maxSeqNo" "J" (.long mx)) (F_mergeAt : Fld Z h0 a1 "com/example/opledger/opledger/AppendTimes" "mergeAt" "I" (.int (64 : Int32))) (V_wS : Arv Z h0 wS kS .long (8 : Int32) [(.long x0), (.long x1), (.long x2), (.long x3), (.long x4), (.long x5), (.long x6), (.long x7)] (.long (0 : Int64))) (V_wT : Arv Z h0 wT kT .long (8 : Int32) [(.long y0), (.long y1), (.long y2), (.long y3), (.long y4), (.long y5), (.long y6), (.long y7)] (.long (0 : Int64))) (V_wE : Arv Z h0 wE kE .long (8 : Int32) [(.long z0), (.long z1), (.long z2), (.long z3), (.long z4), (.long z5), (.long z6), (.long z7)] (.long (0 : Int64))) (g_a1 : n0 ≤ a1) (g_wS : n0 ≤ wS) (g_wT : n0 ≤ wT) (g_wE : n0 ≤ wE) (ne_a1_wS : a1 ≠ wS) (ne_a1_wT : a1 ≠ wT) (ne_a1_wE : a1 ≠ wE) (ne_wS_wT : wS ≠ wT) (ne_wS_wE : wS ≠ wE) (ne_wT_wE : wT ≠ wE) (hmx : mx < u) (hf1 : ¬ (0 : Int32) < f) (hgap : (1000000 : Int64) < (w - y0)) (hf2 : (((1 : Int32) - f) + (1 : Int32)) < (64 : Int32)) :
    MetFree l (⟨"com/example/opledger/opledger/AppendTimes", "record", "(JJ)V"⟩ : MethodName) (head1 (Jvm.Cond.code (⟨"com/example/opledger/opledger/AppendTimes", "record", "(JJ)V"⟩ : MethodName) prog_1_method_2_code 5 none :: ws) ({ frames := 1, cells := 0, slots := 0, locals := 17 } : Room)) (fun a U => a = #[(.ref a1), (.long u), (.long w)] ∧ Z.Warmed39 U.vm ∧ U.heap = h0) (fun _ _ _ _ _ => True) (fun _ U o U' => ∃ v L, o = .returned v ∧ Q_rmRB0 Z a1 u w wS wT wE kS kT kE f mx x0 y0 z0 x1 y1 z1 x2 y2 z2 x3 y3 z3 x4 y4 z4 x5 y5 z5 x6 y6 z6 x7 y7 z7 h0 n0 v U'.heap L ∧ FrameEnd U o U' L ({ frames := 1, cells := 0, slots := 0, locals := 17 } : Room).cells ({ frames := 1, cells := 0, slots := 0, locals := 17 } : Room).slots) := by
  refine own_body (Q := fun v h L => Q_rmRB0 Z a1 u w wS wT wE kS kT kE f mx x0 y0 z0 x1 y1 z1 x2 y2 z2 x3 y3 z3 x4 y4 z4 x5 y5 z5 x6 y6 z6 x7 y7 z7 h0 n0 v h L) pn_3 ?_
  intro p e s m below meth c s₁ G X0 hx hZ hby hml hown hnm hrt e0 hG hF
  have hown : s.vm.findClass "com/example/opledger/opledger/AppendTimes" = some m.cls := hown
  have N0 := Fr.nil n0
  rw [ef_rmRB0 m a1 u w]
  show G (s₁.setTop (mkF m 0 #[oR a1, oJ u, oS, oJ w, oS] []))
  refine hG _ (s₁.setTop (mkF m 2 #[oR a1, oJ u, oS, oJ w, oS] [(.ref a1), (.long u)])) (fun t₀ k₀ => ?_) ?_
  · show Steps p.tables e below (s₁.setTop (mkF m 0 #[oR a1, oJ u, oS, oJ w, oS] [])) t₀
    refine XS.lloadN X0.here hx rfl (hb hby d3_0) rfl ?_
    show Steps p.tables e below (s₁.setTop (mkF m 1 #[oR a1, oJ u, oS, oJ w, oS] [(.long u)])) t₀
    refine XS.aloadN X0.here hx rfl (hb hby d3_1) rfl rfl ?_
    exact k₀
  obtain ⟨T1, X1, e1, st1⟩ := getF X0 hx hZ hown (host := "") (Or.inl (hw _ (List.mem_of_getElem? (i := 24) rfl))) Via.refl e0 F_maxSeqNo (g := (mkF m 2 #[oR a1, oJ u, oS, oJ w, oS] [(.ref a1), (.long u)])) rfl rfl (hb hby d3_2)
  refine hG _ _ (fun t₀ k₀ => st1 _ k₀) ?_
  show G (T1.setTop (mkF m 5 #[oR a1, oJ u, oS, oJ w, oS] [(.long mx), (.long u)]))
  refine hG _ (T1.setTop (mkF m 12 #[oR a1, oJ u, oS, oJ w, oS] [(.long u), (.ref a1)])) (fun t₀ k₀ => ?_) ?_
  · show Steps p.tables e below (T1.setTop (mkF m 5 #[oR a1, oJ u, oS, oJ w, oS] [(.long mx), (.long u)])) t₀
    refine XS.lcmp X1.here hx rfl (hb hby d3_5) rfl ?_
    show Steps p.tables e below (T1.setTop (mkF m 6 #[oR a1, oJ u, oS, oJ w, oS] [(.int (lcmpW u mx))])) t₀
    refine XS.ifYes X1.here hx rfl (pc0 := 6) (pc' := 10) rfl (hb hby d3_6) rfl ((if0 _ _).trans (tlt ((lw_gt u mx).mpr hmx)).2.2.1) (by decide) (by decide) ?_
    show Steps p.tables e below (T1.setTop (mkF m 10 #[oR a1, oJ u, oS, oJ w, oS] [])) t₀
    refine XS.aloadN X1.here hx rfl (hb hby d3_10) rfl rfl ?_
    show Steps p.tables e below (T1.setTop (mkF m 11 #[oR a1, oJ u, oS, oJ w, oS] [(.ref a1)])) t₀
    refine XS.lloadN X1.here hx rfl (hb hby d3_11) rfl ?_
    exact k₀
  obtain ⟨T2, h2, X2, e2, W2, st2⟩ := putF X1 hx hZ hown (host := "") (Or.inl (hw _ (List.mem_of_getElem? (i := 24) rfl))) Via.refl e1 F_maxSeqNo E1 (Or.inl (hw _ (List.mem_of_getElem? (i := 25) rfl))) (hw _ (List.mem_of_getElem? (i := 5) rfl)) (ty := .long) (by decide) rfl rfl (g := (mkF m 12 #[oR a1, oJ u, oS, oJ w, oS] [(.long u), (.ref a1)])) rfl rfl (hb hby d3_12)
  refine hG _ _ (fun t₀ k₀ => st2 _ k₀) ?_
  have N2 := Fr.snoc X2 N0 g_a1
  have ea1_x2 := E1.wr W2
  have fa1_seqNos_x2 := F_seqNos.other W2 (Or.inr (slot_ne (Or.inl (hw _ (List.mem_of_getElem? (i := 16) rfl))) (Or.inl (hw _ (List.mem_of_getElem? (i := 25) rfl))) (by decide) (t := (.array .long)) (t' := .long) (by decide) (by decide)))
  have fa1_starts_x2 := F_starts.other W2 (Or.inr (slot_ne (Or.inl (hw _ (List.mem_of_getElem? (i := 18) rfl))) (Or.inl (hw _ (List.mem_of_getElem? (i := 25) rfl))) (by decide) (t := (.array .long)) (t' := .long) (by decide) (by decide)))
  have fa1_ends_x2 := F_ends.other W2 (Or.inr (slot_ne (Or.inl (hw _ (List.mem_of_getElem? (i := 20) rfl))) (Or.inl (hw _ (List.mem_of_getElem? (i := 25) rfl))) (by decide) (t := (.array .long)) (t' := .long) (by decide) (by decide)))
  have fa1_first_x2 := F_first.other W2 (Or.inr (slot_ne (Or.inl (hw _ (List.mem_of_getElem? (i := 34) rfl))) (Or.inl (hw _ (List.mem_of_getElem? (i := 25) rfl))) (by decide) (t := .int) (t' := .long) (by decide) (by decide)))
  have fa1_last_x2 := F_last.other W2 (Or.inr (slot_ne (Or.inl (hw _ (List.mem_of_getElem? (i := 22) rfl))) (Or.inl (hw _ (List.mem_of_getElem? (i := 25) rfl))) (by decide) (t := .int) (t' := .long) (by decide) (by decide)))
  have fa1_mergeAt_x2 := F_mergeAt.other W2 (Or.inr (slot_ne (Or.inl (hw _ (List.mem_of_getElem? (i := 27) rfl))) (Or.inl (hw _ (List.mem_of_getElem? (i := 25) rfl))) (by decide) (t := .int) (t' := .long) (by decide) (by decide)))
  have vwS_x2 := V_wS.other W2 (Ne.symm ne_a1_wS)
  have vwT_x2 := V_wT.other W2 (Ne.symm ne_a1_wT)
  have vwE_x2 := V_wE.other W2 (Ne.symm ne_a1_wE)
  have k_x2 := (Keep.refl h0 [a1, wS, wT, wE]).wr W2 (Or.inl (List.mem_of_getElem? (i := 0) rfl))
  have z_2 : n0 ≤ h2.size := Nat.le_trans Z0 (Keep.of_wr W2).1
  have F2_maxSeqNo := F_maxSeqNo.same W2
  show G (T2.setTop (mkF m 15 #[oR a1, oJ u, oS, oJ w, oS] []))
  refine hG _ (T2.setTop (mkF m 16 #[oR a1, oJ u, oS, oJ w, oS] [(.ref a1)])) (fun t₀ k₀ => ?_) ?_
  · show Steps p.tables e below (T2.setTop (mkF m 15 #[oR a1, oJ u, oS, oJ w, oS] [])) t₀
    refine XS.aloadN X2.here hx rfl (hb hby d3_15) rfl rfl ?_
    exact k₀
  obtain ⟨T3, X3, e3, st3⟩ := getF X2 hx hZ hown (host := "") (Or.inl (hw _ (List.mem_of_getElem? (i := 21) rfl))) Via.refl e2 fa1_last_x2 (g := (mkF m 16 #[oR a1, oJ u, oS, oJ w, oS] [(.ref a1)])) rfl rfl (hb hby d3_16)
  refine hG _ _ (fun t₀ k₀ => st3 _ k₀) ?_
  show G (T3.setTop (mkF m 19 #[oR a1, oJ u, oS, oJ w, oS] [(.int (0 : Int32))]))
  refine hG _ (T3.setTop (mkF m 20 #[oR a1, oJ u, oS, oJ w, oS] [(.ref a1), (.int (0 : Int32))])) (fun t₀ k₀ => ?_) ?_
  · show Steps p.tables e below (T3.setTop (mkF m 19 #[oR a1, oJ u, oS, oJ w, oS] [(.int (0 : Int32))])) t₀
    refine XS.aloadN X3.here hx rfl (hb hby d3_19) rfl rfl ?_
    exact k₀
  obtain ⟨T4, X4, e4, st4⟩ := getF X3 hx hZ hown (host := "") (Or.inl (hw _ (List.mem_of_getElem? (i := 33) rfl))) Via.refl e3 fa1_first_x2 (g := (mkF m 20 #[oR a1, oJ u, oS, oJ w, oS] [(.ref a1), (.int (0 : Int32))])) rfl rfl (hb hby d3_20)
  refine hG _ _ (fun t₀ k₀ => st4 _ k₀) ?_
  show G (T4.setTop (mkF m 23 #[oR a1, oJ u, oS, oJ w, oS] [(.int f), (.int (0 : Int32))]))
  refine hG _ (T4.setTop (mkF m 28 #[oR a1, oJ u, oS, oJ w, oS] [(.ref a1), (.long w)])) (fun t₀ k₀ => ?_) ?_
  · show Steps p.tables e below (T4.setTop (mkF m 23 #[oR a1, oJ u, oS, oJ w, oS] [(.int f), (.int (0 : Int32))])) t₀
    refine XS.icmpNo X4.here hx rfl (hb hby d3_23) rfl (flt hf1).1 ?_
    show Steps p.tables e below (T4.setTop (mkF m 26 #[oR a1, oJ u, oS, oJ w, oS] [])) t₀
    refine XS.lloadN X4.here hx rfl (hb hby d3_26) rfl ?_
    show Steps p.tables e below (T4.setTop (mkF m 27 #[oR a1, oJ u, oS, oJ w, oS] [(.long w)])) t₀
    refine XS.aloadN X4.here hx rfl (hb hby d3_27) rfl rfl ?_
    exact k₀
  obtain ⟨T5, X5, e5, st5⟩ := getF X4 hx hZ hown (host := "") (Or.inl (hw _ (List.mem_of_getElem? (i := 17) rfl))) Via.refl e4 fa1_starts_x2 (g := (mkF m 28 #[oR a1, oJ u, oS, oJ w, oS] [(.ref a1), (.long w)])) rfl rfl (hb hby d3_28)
  refine hG _ _ (fun t₀ k₀ => st5 _ k₀) ?_
  show G (T5.setTop (mkF m 31 #[oR a1, oJ u, oS, oJ w, oS] [(.ref wT), (.long w)]))
  refine hG _ (T5.setTop (mkF m 32 #[oR a1, oJ u, oS, oJ w, oS] [(.ref a1), (.ref wT), (.long w)])) (fun t₀ k₀ => ?_) ?_
  · show Steps p.tables e below (T5.setTop (mkF m 31 #[oR a1, oJ u, oS, oJ w, oS] [(.ref wT), (.long w)])) t₀
    refine XS.aloadN X5.here hx rfl (hb hby d3_31) rfl rfl ?_
    exact k₀
  obtain ⟨T6, X6, e6, st6⟩ := getF X5 hx hZ hown (host := "") (Or.inl (hw _ (List.mem_of_getElem? (i := 21) rfl))) Via.refl e5 fa1_last_x2 (g := (mkF m 32 #[oR a1, oJ u, oS, oJ w, oS] [(.ref a1), (.ref wT), (.long w)])) rfl rfl (hb hby d3_32)
  refine hG _ _ (fun t₀ k₀ => st6 _ k₀) ?_
  show G (T6.setTop (mkF m 35 #[oR a1, oJ u, oS, oJ w, oS] [(.int (0 : Int32)), (.ref wT), (.long w)]))
  have ov7 := vwT_x2
  obtain ⟨cl7, Ar7, q7, S7, N_7, H_7, G_7⟩ := ov7
  have hin7 : ¬ ((0 : Int32) < 0 ∨ cl7.slots.size ≤ ((0 : Int32)).toNatClampNeg) := inb_of S7 ⟨by decide, by decide⟩
  have hat7 : cl7.slots[((0 : Int32)).toNatClampNeg]? = some (.long y0) := H_7.at hin7 rfl
  refine hG _ (T6.setTop (mkF m 70 #[oR a1, oJ u, oS, oJ w, oS] [(.long w), (.long u), (.ref a1)])) (fun t₀ k₀ => ?_) ?_
  · show Steps p.tables e below (T6.setTop (mkF m 35 #[oR a1, oJ u, oS, oJ w, oS] [(.int (0 : Int32)), (.ref wT), (.long w)])) t₀
    refine X6.laload hx (j := (0 : Int32)) (v := (.long y0)) (by rw [e6]; exact Ar7.1) (State.isArrayOf_alike hZ.alike Ar7.2.1) Ar7.2.2 hin7 hat7 (g := (mkF m 35 #[oR a1, oJ u, oS, oJ w, oS] [(.int (0 : Int32)), (.ref wT), (.long w)])) rfl rfl (hb hby d3_35) _ ?_
    show Steps p.tables e below (T6.setTop (mkF m 36 #[oR a1, oJ u, oS, oJ w, oS] [(.long y0), (.long w)])) t₀
    refine XS.lsub X6.here hx rfl (hb hby d3_36) rfl ?_
    show Steps p.tables e below (T6.setTop (mkF m 37 #[oR a1, oJ u, oS, oJ w, oS] [(.long (w - y0))])) t₀
    refine X6.ldc2Long hx hown (mvT hZ (hw _ (List.mem_of_getElem? (i := 55) rfl))) (g := (mkF m 37 #[oR a1, oJ u, oS, oJ w, oS] [(.long (w - y0))])) rfl (hb hby d3_37) _ ?_
    show Steps p.tables e below (T6.setTop (mkF m 40 #[oR a1, oJ u, oS, oJ w, oS] [(.long (1000000 : Int64)), (.long (w - y0))])) t₀
    refine XS.lcmp X6.here hx rfl (hb hby d3_40) rfl ?_
    show Steps p.tables e below (T6.setTop (mkF m 41 #[oR a1, oJ u, oS, oJ w, oS] [(.int (lcmpW (w - y0) (1000000 : Int64)))])) t₀
    refine XS.ifYes X6.here hx rfl (pc0 := 41) (pc' := 67) rfl (hb hby d3_41) rfl ((if0 _ _).trans (tlt ((lw_gt (w - y0) (1000000 : Int64)).mpr hgap)).2.2.1) (by decide) (by decide) ?_
    show Steps p.tables e below (T6.setTop (mkF m 67 #[oR a1, oJ u, oS, oJ w, oS] [])) t₀
    refine XS.aloadN X6.here hx rfl (hb hby d3_67) rfl rfl ?_
    show Steps p.tables e below (T6.setTop (mkF m 68 #[oR a1, oJ u, oS, oJ w, oS] [(.ref a1)])) t₀
    refine XS.lloadN X6.here hx rfl (hb hby d3_68) rfl ?_
    show Steps p.tables e below (T6.setTop (mkF m 69 #[oR a1, oJ u, oS, oJ w, oS] [(.long u), (.ref a1)])) t₀
    refine XS.lloadN X6.here hx rfl (hb hby d3_69) rfl ?_
    exact k₀
  obtain ⟨cp8, kp8, p8a, p8b, -, p8c, -⟩ := Cond.instantiable_spec (mvT (args := #[]) hZ (hw _ (List.mem_of_getElem? (i := 5) rfl)))
  obtain ⟨cq8, q8, q8'⟩ := ea1_x2.cell
  obtain ⟨_, _, ⟨T8, L8, k8, n8⟩, -, X8, ⟨Lc8, hQ8, l8, y8, z8⟩, st8⟩ := X6.privateBack hx (y := (⟨"com/example/opledger/opledger/AppendTimes", "add", "(JJ)V"⟩ : MethodName)) hown (mvT hZ (hw _ (List.mem_of_getElem? (i := 35) rfl))) (mvT hZ (hw _ (List.mem_of_getElem? (i := 36) rfl))) (selects_self_of_private p8a p8b (Bool.or_eq_false_iff.mp p8c).1 (Cond.privateMethod_at (mvP hZ (hw _ (List.mem_of_getElem? (i := 37) rfl)) (args := #[]))) (mvT hZ (hw _ (List.mem_of_getElem? (i := 36) rfl))) (by decide)) (Cond.privateMethod_at (mvP hZ (hw _ (List.mem_of_getElem? (i := 37) rfl)) (args := #[]))) (mvT hZ (hw _ (List.mem_of_getElem? (i := 38) rfl))) (by decide) (backOf (W := 0) (rmAB0 l Z a0 hw [] a1 u w wS wT wE kS kT kE f u x0 y0 z0 x1 y1 z1 x2 y2 z2 x3 y3 z3 x4 y4 z4 x5 y5 z5 x6 y6 z6 x7 y7 z7 h2 n0 z_2 ea1_x2 fa1_seqNos_x2 fa1_starts_x2 fa1_ends_x2 fa1_first_x2 fa1_last_x2 F2_maxSeqNo fa1_mergeAt_x2 vwS_x2 vwT_x2 vwE_x2 g_a1 g_wS g_wT g_wE ne_a1_wS ne_a1_wT ne_a1_wE ne_wS_wT ne_wS_wE ne_wT_wE) hZ (hw _ (List.mem_of_getElem? (i := 38) rfl)) (hw _ (List.mem_of_getElem? (i := 6) rfl)) (by decide) (by decide)) (g := (mkF m 70 #[oR a1, oJ u, oS, oJ w, oS] [(.long w), (.long u), (.ref a1)])) rfl (by rw [hml]; rfl) (Steps.refl _) (a := a1) (by rw [e6]; exact q8) q8' (argsL := [(.long u), (.long w)]) (rest := []) (lenOf pd_1 rfl) rfl (by show 2 * 0 + _ ≤ _; exact Nat.le_of_eq rfl) (hb hby d3_70) (fun _ _ => ⟨rfl, e6, (by decide : 0 + 0 ≤ _), (by decide : 0 + 0 ≤ _)⟩)
  dsimp only [Pt.U, Pt.locs, Pt.cells, Pt.slots] at X8 l8 y8 z8 st8 hQ8
  subst l8 y8 z8
  obtain ⟨rfl, N8q, K8, f8_0, f8_1, f8_2, f8_3, f8_4, f8_5, f8_6, f8_7, f8_8, f8_9⟩ := hQ8
  have N8 := Fr.app N2 N8q
  refine hG _ _ (fun t₀ k₀ => st8.trans k₀) ?_
  have z_x8 := Nat.le_trans z_2 K8.1
  have ea1_x8 := ea1_x2.keep K8
  have k_x8 := k_x2.trans K8 (allS (Or.inl (List.mem_of_getElem? (i := 0) rfl)) (allS (Or.inl (List.mem_of_getElem? (i := 1) rfl)) (allS (Or.inl (List.mem_of_getElem? (i := 2) rfl)) (allS (Or.inl (List.mem_of_getElem? (i := 3) rfl)) all0))))
  show G (T8.setTop (mkF m 73 #[oR a1, oJ u, oS, oJ w, oS] []))
  refine hG _ (T8.setTop (mkF m 74 #[oR a1, oJ u, oS, oJ w, oS] [(.ref a1)])) (fun t₀ k₀ => ?_) ?_
  · show Steps p.tables e below (T8.setTop (mkF m 73 #[oR a1, oJ u, oS, oJ w, oS] [])) t₀
    refine XS.aloadN X8.here hx rfl (hb hby d3_73) rfl rfl ?_
    exact k₀
  obtain ⟨T9, X9, e9, st9⟩ := getF X8 hx hZ hown (host := "") (Or.inl (hw _ (List.mem_of_getElem? (i := 21) rfl))) Via.refl rfl f8_4 (g := (mkF m 74 #[oR a1, oJ u, oS, oJ w, oS] [(.ref a1)])) rfl rfl (hb hby d3_74)
  refine hG _ _ (fun t₀ k₀ => st9 _ k₀) ?_
  show G (T9.setTop (mkF m 77 #[oR a1, oJ u, oS, oJ w, oS] [(.int (1 : Int32))]))
  refine hG _ (T9.setTop (mkF m 78 #[oR a1, oJ u, oS, oJ w, oS] [(.ref a1), (.int (1 : Int32))])) (fun t₀ k₀ => ?_) ?_
  · show Steps p.tables e below (T9.setTop (mkF m 77 #[oR a1, oJ u, oS, oJ w, oS] [(.int (1 : Int32))])) t₀
    refine XS.aloadN X9.here hx rfl (hb hby d3_77) rfl rfl ?_
    exact k₀
  obtain ⟨T10, X10, e10, st10⟩ := getF X9 hx hZ hown (host := "") (Or.inl (hw _ (List.mem_of_getElem? (i := 33) rfl))) Via.refl e9 f8_3 (g := (mkF m 78 #[oR a1, oJ u, oS, oJ w, oS] [(.ref a1), (.int (1 : Int32))])) rfl rfl (hb hby d3_78)
  refine hG _ _ (fun t₀ k₀ => st10 _ k₀) ?_
  show G (T10.setTop (mkF m 81 #[oR a1, oJ u, oS, oJ w, oS] [(.int f), (.int (1 : Int32))]))
  refine hG _ (T10.setTop (mkF m 85 #[oR a1, oJ u, oS, oJ w, oS] [(.ref a1), (.int (((1 : Int32) - f) + (1 : Int32)))])) (fun t₀ k₀ => ?_) ?_
  · show Steps p.tables e below (T10.setTop (mkF m 81 #[oR a1, oJ u, oS, oJ w, oS] [(.int f), (.int (1 : Int32))])) t₀
    refine XS.isub X10.here hx rfl (hb hby d3_81) rfl ?_
    show Steps p.tables e below (T10.setTop (mkF m 82 #[oR a1, oJ u, oS, oJ w, oS] [(.int ((1 : Int32) - f))])) t₀
    refine XS.iconst X10.here hx rfl (hb hby d3_82) ?_
    show Steps p.tables e below (T10.setTop (mkF m 83 #[oR a1, oJ u, oS, oJ w, oS] [(.int (1 : Int32)), (.int ((1 : Int32) - f))])) t₀
    refine XS.iadd X10.here hx rfl (hb hby d3_83) rfl ?_
    show Steps p.tables e below (T10.setTop (mkF m 84 #[oR a1, oJ u, oS, oJ w, oS] [(.int (((1 : Int32) - f) + (1 : Int32)))])) t₀
    refine XS.aloadN X10.here hx rfl (hb hby d3_84) rfl rfl ?_
    exact k₀
  obtain ⟨T11, X11, e11, st11⟩ := getF X10 hx hZ hown (host := "") (Or.inl (hw _ (List.mem_of_getElem? (i := 26) rfl))) Via.refl e10 f8_6 (g := (mkF m 85 #[oR a1, oJ u, oS, oJ w, oS] [(.ref a1), (.int (((1 : Int32) - f) + (1 : Int32)))])) rfl rfl (hb hby d3_85)
  refine hG _ _ (fun t₀ k₀ => st11 _ k₀) ?_
  show G (T11.setTop (mkF m 88 #[oR a1, oJ u, oS, oJ w, oS] [(.int (64 : Int32)), (.int (((1 : Int32) - f) + (1 : Int32)))]))
  refine hG _ (T11.setTop (mkF m 96 #[oR a1, oJ u, oS, oJ w, oS] [])) (fun t₀ k₀ => ?_) ?_
  · show Steps p.tables e below (T11.setTop (mkF m 88 #[oR a1, oJ u, oS, oJ w, oS] [(.int (64 : Int32)), (.int (((1 : Int32) - f) + (1 : Int32)))])) t₀
    refine XS.icmpYes X11.here hx rfl (pc0 := 88) (pc' := 96) rfl (hb hby d3_88) rfl (tlt hf2).1 (by decide) (by decide) ?_
    exact k₀
  refine hF _ T11 _ _ _ none _ X11 e11 (fun _ => rfl) (by decide) (by decide) ?_ (fun fs hr => X11.returnOut hx hrt (hb hby d3_96) hr)
  exact ⟨rfl, N8, k_x8, f8_0, f8_1, f8_2, f8_3, f8_4, f8_5, f8_6, f8_7, f8_8, f8_9⟩
theorem ef_rmRB1 (m : MethodId) (x0 : Addr) (x1 : Int64) (x2 : Int64) : entryFrame m #[(.ref x0), (.long x1), (.long x2)] 5 = mkF m 0 #[oR x0, oJ x1, oS, oJ x2, oS] [] := by first | (simp [entryFrame, mkF, argsToLocals, Value.category]; done) | rfl
def Q_rmRB1 (Z : State) (a1 : Addr) (u w : Int64) (wS wT wE : Addr) (kS kT kE : ClassId) (f : Int32) (mx : Int64) (x0 y0 z0 x1 y1 z1 x2 y2 z2 x3 y3 z3 x4 y4 z4 x5 y5 z5 x6 y6 z6 x7 y7 z7 : Int64) (h0 : Heap) (n0 : Nat) (v : Option Value) (h : Heap) (L : List Loc) : Prop := v = none ∧ Fr n0 L ∧ Keep h0 h [a1, wS, wT, wE] ∧ Fld Z h a1 "com/example/opledger/opledger/AppendTimes" "seqNos" "[J" (.ref wS) ∧ Fld Z h a1 "com/example/opledger/opledger/AppendTimes" "starts" "[J" (.ref wT) ∧ Fld Z h a1 "com/example/opledger/opledger/AppendTimes" "ends" "[J" (.ref wE) ∧ Fld Z h a1 "com/example/opledger/opledger/AppendTimes" "first" "I" (.int f) ∧ Fld Z h a1 "com/example/opledger/opledger/AppendTimes" "last" "I" (.int (2 : Int32)) ∧ Fld Z h a1 "com/example/opledger/opledger/AppendTimes" "maxSeqNo" "J" (.long u) ∧ Fld Z h a1 "com/example/opledger/opledger/AppendTimes" "mergeAt" "I" (.int (64 : Int32)) ∧ Arv Z h wS kS .long (8 : Int32) [(.long x0), (.long x1), (.long u), (.long x3), (.long x4), (.long x5), (.long x6), (.long x7)] (.long (0 : Int64)) ∧ Arv Z h wT kT .long (8 : Int32) [(.long y0), (.long y1), (.long w), (.long y3), (.long y4), (.long y5), (.long y6), (.long y7)] (.long (0 : Int64)) ∧ Arv Z h wE kE .long (8 : Int32) [(.long z0), (.long z1), (.long w), (.long z3), (.long z4), (.long z5), (.long z6), (.long z7)] (.long (0 : Int64))
set_option maxRecDepth 65536 in
set_option maxHeartbeats 40000000 in
theorem rmRB1 (l : Launch) (Z : State) (a0 : Array Value) (hw : ∀ d ∈ tables_1, d.before a0 Z = true) (ws : List Jvm.Cond) (a1 : Addr) (u w : Int64) (wS wT wE : Addr) (kS kT kE : ClassId) (f : Int32) (mx : Int64) (x0 y0 z0 x1 y1 z1 x2 y2 z2 x3 y3 z3 x4 y4 z4 x5 y5 z5 x6 y6 z6 x7 y7 z7 : Int64) (h0 : Heap) (n0 : Nat) (Z0 : n0 ≤ h0.size) (E1 : Exa Z h0 a1 "com/example/opledger/opledger/AppendTimes") (F_seqNos : Fld Z h0 a1 "com/example/opledger/opledger/AppendTimes" "seqNos" "[J" (.ref wS)) (F_starts : Fld Z h0 a1 "com/example/opledger/opledger/AppendTimes" "starts" "[J" (.ref wT)) (F_ends : Fld Z h0 a1 "com/example/opledger/opledger/AppendTimes" "ends" "[J" (.ref wE)) (F_first : Fld Z h0 a1 "com/example/opledger/opledger/AppendTimes" "first" "I" (.int f)) (F_last : Fld Z h0 a1 "com/example/opledger/opledger/AppendTimes" "last" "I" (.int (1 : Int32))) (F_maxSeqNo : Fld Z h0 a1 "com/example/opledger/opledger/AppendTimes" "maxSeqNo" "J" (.long mx)) (F_mergeAt : Fld Z h0 a1 "com/example/opledger/opledger/AppendTimes" "mergeAt" "I" (.int (64 : Int32))) (V_wS : Arv Z h0 wS kS .long (8 : Int32) [(.long x0), (.long x1), (.long x2), (.long x3), (.long x4), (.long x5), (.long x6), (.long x7)] (.long (0 : Int64))) (V_wT : Arv Z h0 wT kT .long (8 : Int32) [(.long y0), (.long y1), (.long y2), (.long y3), (.long y4), (.long y5), (.long y6), (.long y7)] (.long (0 : Int64))) (V_wE : Arv Z h0 wE kE .long (8 : Int32) [(.long z0), (.long z1), (.long z2), (.long z3), (.long z4), (.long z5), (.long z6), (.long z7)] (.long (0 : Int64))) (g_a1 : n0 ≤ a1) (g_wS : n0 ≤ wS) (g_wT : n0 ≤ wT) (g_wE : n0 ≤ wE) (ne_a1_wS : a1 ≠ wS) (ne_a1_wT : a1 ≠ wT) (ne_a1_wE : a1 ≠ wE) (ne_wS_wT : wS ≠ wT) (ne_wS_wE : wS ≠ wE) (ne_wT_wE : wT ≠ wE) (hmx : mx < u) (hf1 : ¬ (1 : Int32) < f) (hgap : (1000000 : Int64) < (w - y1)) (hf2 : (((2 : Int32) - f) + (1 : Int32)) < (64 : Int32)) :
    MetFree l (⟨"com/example/opledger/opledger/AppendTimes", "record", "(JJ)V"⟩ : MethodName) (head1 (Jvm.Cond.code (⟨"com/example/opledger/opledger/AppendTimes", "record", "(JJ)V"⟩ : MethodName) prog_1_method_2_code 5 none :: ws) ({ frames := 1, cells := 0, slots := 0, locals := 17 } : Room)) (fun a U => a = #[(.ref a1), (.long u), (.long w)] ∧ Z.Warmed39 U.vm ∧ U.heap = h0) (fun _ _ _ _ _ => True) (fun _ U o U' => ∃ v L, o = .returned v ∧ Q_rmRB1 Z a1 u w wS wT wE kS kT kE f mx x0 y0 z0 x1 y1 z1 x2 y2 z2 x3 y3 z3 x4 y4 z4 x5 y5 z5 x6 y6 z6 x7 y7 z7 h0 n0 v U'.heap L ∧ FrameEnd U o U' L ({ frames := 1, cells := 0, slots := 0, locals := 17 } : Room).cells ({ frames := 1, cells := 0, slots := 0, locals := 17 } : Room).slots) := by
  refine own_body (Q := fun v h L => Q_rmRB1 Z a1 u w wS wT wE kS kT kE f mx x0 y0 z0 x1 y1 z1 x2 y2 z2 x3 y3 z3 x4 y4 z4 x5 y5 z5 x6 y6 z6 x7 y7 z7 h0 n0 v h L) pn_3 ?_
  intro p e s m below meth c s₁ G X0 hx hZ hby hml hown hnm hrt e0 hG hF
  have hown : s.vm.findClass "com/example/opledger/opledger/AppendTimes" = some m.cls := hown
  have N0 := Fr.nil n0
  rw [ef_rmRB1 m a1 u w]
  show G (s₁.setTop (mkF m 0 #[oR a1, oJ u, oS, oJ w, oS] []))
  refine hG _ (s₁.setTop (mkF m 2 #[oR a1, oJ u, oS, oJ w, oS] [(.ref a1), (.long u)])) (fun t₀ k₀ => ?_) ?_
  · show Steps p.tables e below (s₁.setTop (mkF m 0 #[oR a1, oJ u, oS, oJ w, oS] [])) t₀
    refine XS.lloadN X0.here hx rfl (hb hby d3_0) rfl ?_
    show Steps p.tables e below (s₁.setTop (mkF m 1 #[oR a1, oJ u, oS, oJ w, oS] [(.long u)])) t₀
    refine XS.aloadN X0.here hx rfl (hb hby d3_1) rfl rfl ?_
    exact k₀
  obtain ⟨T1, X1, e1, st1⟩ := getF X0 hx hZ hown (host := "") (Or.inl (hw _ (List.mem_of_getElem? (i := 24) rfl))) Via.refl e0 F_maxSeqNo (g := (mkF m 2 #[oR a1, oJ u, oS, oJ w, oS] [(.ref a1), (.long u)])) rfl rfl (hb hby d3_2)
  refine hG _ _ (fun t₀ k₀ => st1 _ k₀) ?_
  show G (T1.setTop (mkF m 5 #[oR a1, oJ u, oS, oJ w, oS] [(.long mx), (.long u)]))
  refine hG _ (T1.setTop (mkF m 12 #[oR a1, oJ u, oS, oJ w, oS] [(.long u), (.ref a1)])) (fun t₀ k₀ => ?_) ?_
  · show Steps p.tables e below (T1.setTop (mkF m 5 #[oR a1, oJ u, oS, oJ w, oS] [(.long mx), (.long u)])) t₀
    refine XS.lcmp X1.here hx rfl (hb hby d3_5) rfl ?_
    show Steps p.tables e below (T1.setTop (mkF m 6 #[oR a1, oJ u, oS, oJ w, oS] [(.int (lcmpW u mx))])) t₀
    refine XS.ifYes X1.here hx rfl (pc0 := 6) (pc' := 10) rfl (hb hby d3_6) rfl ((if0 _ _).trans (tlt ((lw_gt u mx).mpr hmx)).2.2.1) (by decide) (by decide) ?_
    show Steps p.tables e below (T1.setTop (mkF m 10 #[oR a1, oJ u, oS, oJ w, oS] [])) t₀
    refine XS.aloadN X1.here hx rfl (hb hby d3_10) rfl rfl ?_
    show Steps p.tables e below (T1.setTop (mkF m 11 #[oR a1, oJ u, oS, oJ w, oS] [(.ref a1)])) t₀
    refine XS.lloadN X1.here hx rfl (hb hby d3_11) rfl ?_
    exact k₀
  obtain ⟨T2, h2, X2, e2, W2, st2⟩ := putF X1 hx hZ hown (host := "") (Or.inl (hw _ (List.mem_of_getElem? (i := 24) rfl))) Via.refl e1 F_maxSeqNo E1 (Or.inl (hw _ (List.mem_of_getElem? (i := 25) rfl))) (hw _ (List.mem_of_getElem? (i := 5) rfl)) (ty := .long) (by decide) rfl rfl (g := (mkF m 12 #[oR a1, oJ u, oS, oJ w, oS] [(.long u), (.ref a1)])) rfl rfl (hb hby d3_12)
  refine hG _ _ (fun t₀ k₀ => st2 _ k₀) ?_
  have N2 := Fr.snoc X2 N0 g_a1
  have ea1_x2 := E1.wr W2
  have fa1_seqNos_x2 := F_seqNos.other W2 (Or.inr (slot_ne (Or.inl (hw _ (List.mem_of_getElem? (i := 16) rfl))) (Or.inl (hw _ (List.mem_of_getElem? (i := 25) rfl))) (by decide) (t := (.array .long)) (t' := .long) (by decide) (by decide)))
  have fa1_starts_x2 := F_starts.other W2 (Or.inr (slot_ne (Or.inl (hw _ (List.mem_of_getElem? (i := 18) rfl))) (Or.inl (hw _ (List.mem_of_getElem? (i := 25) rfl))) (by decide) (t := (.array .long)) (t' := .long) (by decide) (by decide)))
  have fa1_ends_x2 := F_ends.other W2 (Or.inr (slot_ne (Or.inl (hw _ (List.mem_of_getElem? (i := 20) rfl))) (Or.inl (hw _ (List.mem_of_getElem? (i := 25) rfl))) (by decide) (t := (.array .long)) (t' := .long) (by decide) (by decide)))
  have fa1_first_x2 := F_first.other W2 (Or.inr (slot_ne (Or.inl (hw _ (List.mem_of_getElem? (i := 34) rfl))) (Or.inl (hw _ (List.mem_of_getElem? (i := 25) rfl))) (by decide) (t := .int) (t' := .long) (by decide) (by decide)))
  have fa1_last_x2 := F_last.other W2 (Or.inr (slot_ne (Or.inl (hw _ (List.mem_of_getElem? (i := 22) rfl))) (Or.inl (hw _ (List.mem_of_getElem? (i := 25) rfl))) (by decide) (t := .int) (t' := .long) (by decide) (by decide)))
  have fa1_mergeAt_x2 := F_mergeAt.other W2 (Or.inr (slot_ne (Or.inl (hw _ (List.mem_of_getElem? (i := 27) rfl))) (Or.inl (hw _ (List.mem_of_getElem? (i := 25) rfl))) (by decide) (t := .int) (t' := .long) (by decide) (by decide)))
  have vwS_x2 := V_wS.other W2 (Ne.symm ne_a1_wS)
  have vwT_x2 := V_wT.other W2 (Ne.symm ne_a1_wT)
  have vwE_x2 := V_wE.other W2 (Ne.symm ne_a1_wE)
  have k_x2 := (Keep.refl h0 [a1, wS, wT, wE]).wr W2 (Or.inl (List.mem_of_getElem? (i := 0) rfl))
  have z_2 : n0 ≤ h2.size := Nat.le_trans Z0 (Keep.of_wr W2).1
  have F2_maxSeqNo := F_maxSeqNo.same W2
  show G (T2.setTop (mkF m 15 #[oR a1, oJ u, oS, oJ w, oS] []))
  refine hG _ (T2.setTop (mkF m 16 #[oR a1, oJ u, oS, oJ w, oS] [(.ref a1)])) (fun t₀ k₀ => ?_) ?_
  · show Steps p.tables e below (T2.setTop (mkF m 15 #[oR a1, oJ u, oS, oJ w, oS] [])) t₀
    refine XS.aloadN X2.here hx rfl (hb hby d3_15) rfl rfl ?_
    exact k₀
  obtain ⟨T3, X3, e3, st3⟩ := getF X2 hx hZ hown (host := "") (Or.inl (hw _ (List.mem_of_getElem? (i := 21) rfl))) Via.refl e2 fa1_last_x2 (g := (mkF m 16 #[oR a1, oJ u, oS, oJ w, oS] [(.ref a1)])) rfl rfl (hb hby d3_16)
  refine hG _ _ (fun t₀ k₀ => st3 _ k₀) ?_
  show G (T3.setTop (mkF m 19 #[oR a1, oJ u, oS, oJ w, oS] [(.int (1 : Int32))]))
  refine hG _ (T3.setTop (mkF m 20 #[oR a1, oJ u, oS, oJ w, oS] [(.ref a1), (.int (1 : Int32))])) (fun t₀ k₀ => ?_) ?_
  · show Steps p.tables e below (T3.setTop (mkF m 19 #[oR a1, oJ u, oS, oJ w, oS] [(.int (1 : Int32))])) t₀
    refine XS.aloadN X3.here hx rfl (hb hby d3_19) rfl rfl ?_
    exact k₀
  obtain ⟨T4, X4, e4, st4⟩ := getF X3 hx hZ hown (host := "") (Or.inl (hw _ (List.mem_of_getElem? (i := 33) rfl))) Via.refl e3 fa1_first_x2 (g := (mkF m 20 #[oR a1, oJ u, oS, oJ w, oS] [(.ref a1), (.int (1 : Int32))])) rfl rfl (hb hby d3_20)
  refine hG _ _ (fun t₀ k₀ => st4 _ k₀) ?_
  show G (T4.setTop (mkF m 23 #[oR a1, oJ u, oS, oJ w, oS] [(.int f), (.int (1 : Int32))]))
  refine hG _ (T4.setTop (mkF m 28 #[oR a1, oJ u, oS, oJ w, oS] [(.ref a1), (.long w)])) (fun t₀ k₀ => ?_) ?_
  · show Steps p.tables e below (T4.setTop (mkF m 23 #[oR a1, oJ u, oS, oJ w, oS] [(.int f), (.int (1 : Int32))])) t₀
    refine XS.icmpNo X4.here hx rfl (hb hby d3_23) rfl (flt hf1).1 ?_
    show Steps p.tables e below (T4.setTop (mkF m 26 #[oR a1, oJ u, oS, oJ w, oS] [])) t₀
    refine XS.lloadN X4.here hx rfl (hb hby d3_26) rfl ?_
    show Steps p.tables e below (T4.setTop (mkF m 27 #[oR a1, oJ u, oS, oJ w, oS] [(.long w)])) t₀
    refine XS.aloadN X4.here hx rfl (hb hby d3_27) rfl rfl ?_
    exact k₀
  obtain ⟨T5, X5, e5, st5⟩ := getF X4 hx hZ hown (host := "") (Or.inl (hw _ (List.mem_of_getElem? (i := 17) rfl))) Via.refl e4 fa1_starts_x2 (g := (mkF m 28 #[oR a1, oJ u, oS, oJ w, oS] [(.ref a1), (.long w)])) rfl rfl (hb hby d3_28)
  refine hG _ _ (fun t₀ k₀ => st5 _ k₀) ?_
  show G (T5.setTop (mkF m 31 #[oR a1, oJ u, oS, oJ w, oS] [(.ref wT), (.long w)]))
  refine hG _ (T5.setTop (mkF m 32 #[oR a1, oJ u, oS, oJ w, oS] [(.ref a1), (.ref wT), (.long w)])) (fun t₀ k₀ => ?_) ?_
  · show Steps p.tables e below (T5.setTop (mkF m 31 #[oR a1, oJ u, oS, oJ w, oS] [(.ref wT), (.long w)])) t₀
    refine XS.aloadN X5.here hx rfl (hb hby d3_31) rfl rfl ?_
    exact k₀
  obtain ⟨T6, X6, e6, st6⟩ := getF X5 hx hZ hown (host := "") (Or.inl (hw _ (List.mem_of_getElem? (i := 21) rfl))) Via.refl e5 fa1_last_x2 (g := (mkF m 32 #[oR a1, oJ u, oS, oJ w, oS] [(.ref a1), (.ref wT), (.long w)])) rfl rfl (hb hby d3_32)
  refine hG _ _ (fun t₀ k₀ => st6 _ k₀) ?_
  show G (T6.setTop (mkF m 35 #[oR a1, oJ u, oS, oJ w, oS] [(.int (1 : Int32)), (.ref wT), (.long w)]))
  have ov7 := vwT_x2
  obtain ⟨cl7, Ar7, q7, S7, N_7, H_7, G_7⟩ := ov7
  have hin7 : ¬ ((1 : Int32) < 0 ∨ cl7.slots.size ≤ ((1 : Int32)).toNatClampNeg) := inb_of S7 ⟨by decide, by decide⟩
  have hat7 : cl7.slots[((1 : Int32)).toNatClampNeg]? = some (.long y1) := H_7.at hin7 rfl
  refine hG _ (T6.setTop (mkF m 70 #[oR a1, oJ u, oS, oJ w, oS] [(.long w), (.long u), (.ref a1)])) (fun t₀ k₀ => ?_) ?_
  · show Steps p.tables e below (T6.setTop (mkF m 35 #[oR a1, oJ u, oS, oJ w, oS] [(.int (1 : Int32)), (.ref wT), (.long w)])) t₀
    refine X6.laload hx (j := (1 : Int32)) (v := (.long y1)) (by rw [e6]; exact Ar7.1) (State.isArrayOf_alike hZ.alike Ar7.2.1) Ar7.2.2 hin7 hat7 (g := (mkF m 35 #[oR a1, oJ u, oS, oJ w, oS] [(.int (1 : Int32)), (.ref wT), (.long w)])) rfl rfl (hb hby d3_35) _ ?_
    show Steps p.tables e below (T6.setTop (mkF m 36 #[oR a1, oJ u, oS, oJ w, oS] [(.long y1), (.long w)])) t₀
    refine XS.lsub X6.here hx rfl (hb hby d3_36) rfl ?_
    show Steps p.tables e below (T6.setTop (mkF m 37 #[oR a1, oJ u, oS, oJ w, oS] [(.long (w - y1))])) t₀
    refine X6.ldc2Long hx hown (mvT hZ (hw _ (List.mem_of_getElem? (i := 55) rfl))) (g := (mkF m 37 #[oR a1, oJ u, oS, oJ w, oS] [(.long (w - y1))])) rfl (hb hby d3_37) _ ?_
    show Steps p.tables e below (T6.setTop (mkF m 40 #[oR a1, oJ u, oS, oJ w, oS] [(.long (1000000 : Int64)), (.long (w - y1))])) t₀
    refine XS.lcmp X6.here hx rfl (hb hby d3_40) rfl ?_
    show Steps p.tables e below (T6.setTop (mkF m 41 #[oR a1, oJ u, oS, oJ w, oS] [(.int (lcmpW (w - y1) (1000000 : Int64)))])) t₀
    refine XS.ifYes X6.here hx rfl (pc0 := 41) (pc' := 67) rfl (hb hby d3_41) rfl ((if0 _ _).trans (tlt ((lw_gt (w - y1) (1000000 : Int64)).mpr hgap)).2.2.1) (by decide) (by decide) ?_
    show Steps p.tables e below (T6.setTop (mkF m 67 #[oR a1, oJ u, oS, oJ w, oS] [])) t₀
    refine XS.aloadN X6.here hx rfl (hb hby d3_67) rfl rfl ?_
    show Steps p.tables e below (T6.setTop (mkF m 68 #[oR a1, oJ u, oS, oJ w, oS] [(.ref a1)])) t₀
    refine XS.lloadN X6.here hx rfl (hb hby d3_68) rfl ?_
    show Steps p.tables e below (T6.setTop (mkF m 69 #[oR a1, oJ u, oS, oJ w, oS] [(.long u), (.ref a1)])) t₀
    refine XS.lloadN X6.here hx rfl (hb hby d3_69) rfl ?_
    exact k₀
  obtain ⟨cp8, kp8, p8a, p8b, -, p8c, -⟩ := Cond.instantiable_spec (mvT (args := #[]) hZ (hw _ (List.mem_of_getElem? (i := 5) rfl)))
  obtain ⟨cq8, q8, q8'⟩ := ea1_x2.cell
  obtain ⟨_, _, ⟨T8, L8, k8, n8⟩, -, X8, ⟨Lc8, hQ8, l8, y8, z8⟩, st8⟩ := X6.privateBack hx (y := (⟨"com/example/opledger/opledger/AppendTimes", "add", "(JJ)V"⟩ : MethodName)) hown (mvT hZ (hw _ (List.mem_of_getElem? (i := 35) rfl))) (mvT hZ (hw _ (List.mem_of_getElem? (i := 36) rfl))) (selects_self_of_private p8a p8b (Bool.or_eq_false_iff.mp p8c).1 (Cond.privateMethod_at (mvP hZ (hw _ (List.mem_of_getElem? (i := 37) rfl)) (args := #[]))) (mvT hZ (hw _ (List.mem_of_getElem? (i := 36) rfl))) (by decide)) (Cond.privateMethod_at (mvP hZ (hw _ (List.mem_of_getElem? (i := 37) rfl)) (args := #[]))) (mvT hZ (hw _ (List.mem_of_getElem? (i := 38) rfl))) (by decide) (backOf (W := 0) (rmAB1 l Z a0 hw [] a1 u w wS wT wE kS kT kE f u x0 y0 z0 x1 y1 z1 x2 y2 z2 x3 y3 z3 x4 y4 z4 x5 y5 z5 x6 y6 z6 x7 y7 z7 h2 n0 z_2 ea1_x2 fa1_seqNos_x2 fa1_starts_x2 fa1_ends_x2 fa1_first_x2 fa1_last_x2 F2_maxSeqNo fa1_mergeAt_x2 vwS_x2 vwT_x2 vwE_x2 g_a1 g_wS g_wT g_wE ne_a1_wS ne_a1_wT ne_a1_wE ne_wS_wT ne_wS_wE ne_wT_wE) hZ (hw _ (List.mem_of_getElem? (i := 38) rfl)) (hw _ (List.mem_of_getElem? (i := 6) rfl)) (by decide) (by decide)) (g := (mkF m 70 #[oR a1, oJ u, oS, oJ w, oS] [(.long w), (.long u), (.ref a1)])) rfl (by rw [hml]; rfl) (Steps.refl _) (a := a1) (by rw [e6]; exact q8) q8' (argsL := [(.long u), (.long w)]) (rest := []) (lenOf pd_1 rfl) rfl (by show 2 * 0 + _ ≤ _; exact Nat.le_of_eq rfl) (hb hby d3_70) (fun _ _ => ⟨rfl, e6, (by decide : 0 + 0 ≤ _), (by decide : 0 + 0 ≤ _)⟩)
  dsimp only [Pt.U, Pt.locs, Pt.cells, Pt.slots] at X8 l8 y8 z8 st8 hQ8
  subst l8 y8 z8
  obtain ⟨rfl, N8q, K8, f8_0, f8_1, f8_2, f8_3, f8_4, f8_5, f8_6, f8_7, f8_8, f8_9⟩ := hQ8
  have N8 := Fr.app N2 N8q
  refine hG _ _ (fun t₀ k₀ => st8.trans k₀) ?_
  have z_x8 := Nat.le_trans z_2 K8.1
  have ea1_x8 := ea1_x2.keep K8
  have k_x8 := k_x2.trans K8 (allS (Or.inl (List.mem_of_getElem? (i := 0) rfl)) (allS (Or.inl (List.mem_of_getElem? (i := 1) rfl)) (allS (Or.inl (List.mem_of_getElem? (i := 2) rfl)) (allS (Or.inl (List.mem_of_getElem? (i := 3) rfl)) all0))))
  show G (T8.setTop (mkF m 73 #[oR a1, oJ u, oS, oJ w, oS] []))
  refine hG _ (T8.setTop (mkF m 74 #[oR a1, oJ u, oS, oJ w, oS] [(.ref a1)])) (fun t₀ k₀ => ?_) ?_
  · show Steps p.tables e below (T8.setTop (mkF m 73 #[oR a1, oJ u, oS, oJ w, oS] [])) t₀
    refine XS.aloadN X8.here hx rfl (hb hby d3_73) rfl rfl ?_
    exact k₀
  obtain ⟨T9, X9, e9, st9⟩ := getF X8 hx hZ hown (host := "") (Or.inl (hw _ (List.mem_of_getElem? (i := 21) rfl))) Via.refl rfl f8_4 (g := (mkF m 74 #[oR a1, oJ u, oS, oJ w, oS] [(.ref a1)])) rfl rfl (hb hby d3_74)
  refine hG _ _ (fun t₀ k₀ => st9 _ k₀) ?_
  show G (T9.setTop (mkF m 77 #[oR a1, oJ u, oS, oJ w, oS] [(.int (2 : Int32))]))
  refine hG _ (T9.setTop (mkF m 78 #[oR a1, oJ u, oS, oJ w, oS] [(.ref a1), (.int (2 : Int32))])) (fun t₀ k₀ => ?_) ?_
  · show Steps p.tables e below (T9.setTop (mkF m 77 #[oR a1, oJ u, oS, oJ w, oS] [(.int (2 : Int32))])) t₀
    refine XS.aloadN X9.here hx rfl (hb hby d3_77) rfl rfl ?_
    exact k₀
  obtain ⟨T10, X10, e10, st10⟩ := getF X9 hx hZ hown (host := "") (Or.inl (hw _ (List.mem_of_getElem? (i := 33) rfl))) Via.refl e9 f8_3 (g := (mkF m 78 #[oR a1, oJ u, oS, oJ w, oS] [(.ref a1), (.int (2 : Int32))])) rfl rfl (hb hby d3_78)
  refine hG _ _ (fun t₀ k₀ => st10 _ k₀) ?_
  show G (T10.setTop (mkF m 81 #[oR a1, oJ u, oS, oJ w, oS] [(.int f), (.int (2 : Int32))]))
  refine hG _ (T10.setTop (mkF m 85 #[oR a1, oJ u, oS, oJ w, oS] [(.ref a1), (.int (((2 : Int32) - f) + (1 : Int32)))])) (fun t₀ k₀ => ?_) ?_
  · show Steps p.tables e below (T10.setTop (mkF m 81 #[oR a1, oJ u, oS, oJ w, oS] [(.int f), (.int (2 : Int32))])) t₀
    refine XS.isub X10.here hx rfl (hb hby d3_81) rfl ?_
    show Steps p.tables e below (T10.setTop (mkF m 82 #[oR a1, oJ u, oS, oJ w, oS] [(.int ((2 : Int32) - f))])) t₀
    refine XS.iconst X10.here hx rfl (hb hby d3_82) ?_
    show Steps p.tables e below (T10.setTop (mkF m 83 #[oR a1, oJ u, oS, oJ w, oS] [(.int (1 : Int32)), (.int ((2 : Int32) - f))])) t₀
    refine XS.iadd X10.here hx rfl (hb hby d3_83) rfl ?_
    show Steps p.tables e below (T10.setTop (mkF m 84 #[oR a1, oJ u, oS, oJ w, oS] [(.int (((2 : Int32) - f) + (1 : Int32)))])) t₀
    refine XS.aloadN X10.here hx rfl (hb hby d3_84) rfl rfl ?_
    exact k₀
  obtain ⟨T11, X11, e11, st11⟩ := getF X10 hx hZ hown (host := "") (Or.inl (hw _ (List.mem_of_getElem? (i := 26) rfl))) Via.refl e10 f8_6 (g := (mkF m 85 #[oR a1, oJ u, oS, oJ w, oS] [(.ref a1), (.int (((2 : Int32) - f) + (1 : Int32)))])) rfl rfl (hb hby d3_85)
  refine hG _ _ (fun t₀ k₀ => st11 _ k₀) ?_
  show G (T11.setTop (mkF m 88 #[oR a1, oJ u, oS, oJ w, oS] [(.int (64 : Int32)), (.int (((2 : Int32) - f) + (1 : Int32)))]))
  refine hG _ (T11.setTop (mkF m 96 #[oR a1, oJ u, oS, oJ w, oS] [])) (fun t₀ k₀ => ?_) ?_
  · show Steps p.tables e below (T11.setTop (mkF m 88 #[oR a1, oJ u, oS, oJ w, oS] [(.int (64 : Int32)), (.int (((2 : Int32) - f) + (1 : Int32)))])) t₀
    refine XS.icmpYes X11.here hx rfl (pc0 := 88) (pc' := 96) rfl (hb hby d3_88) rfl (tlt hf2).1 (by decide) (by decide) ?_
    exact k₀
  refine hF _ T11 _ _ _ none _ X11 e11 (fun _ => rfl) (by decide) (by decide) ?_ (fun fs hr => X11.returnOut hx hrt (hb hby d3_96) hr)
  exact ⟨rfl, N8, k_x8, f8_0, f8_1, f8_2, f8_3, f8_4, f8_5, f8_6, f8_7, f8_8, f8_9⟩
theorem ef_rmRB2 (m : MethodId) (x0 : Addr) (x1 : Int64) (x2 : Int64) : entryFrame m #[(.ref x0), (.long x1), (.long x2)] 5 = mkF m 0 #[oR x0, oJ x1, oS, oJ x2, oS] [] := by first | (simp [entryFrame, mkF, argsToLocals, Value.category]; done) | rfl
def Q_rmRB2 (Z : State) (a1 : Addr) (u w : Int64) (wS wT wE : Addr) (kS kT kE : ClassId) (f : Int32) (mx : Int64) (x0 y0 z0 x1 y1 z1 x2 y2 z2 x3 y3 z3 x4 y4 z4 x5 y5 z5 x6 y6 z6 x7 y7 z7 : Int64) (h0 : Heap) (n0 : Nat) (v : Option Value) (h : Heap) (L : List Loc) : Prop := v = none ∧ Fr n0 L ∧ Keep h0 h [a1, wS, wT, wE] ∧ Fld Z h a1 "com/example/opledger/opledger/AppendTimes" "seqNos" "[J" (.ref wS) ∧ Fld Z h a1 "com/example/opledger/opledger/AppendTimes" "starts" "[J" (.ref wT) ∧ Fld Z h a1 "com/example/opledger/opledger/AppendTimes" "ends" "[J" (.ref wE) ∧ Fld Z h a1 "com/example/opledger/opledger/AppendTimes" "first" "I" (.int f) ∧ Fld Z h a1 "com/example/opledger/opledger/AppendTimes" "last" "I" (.int (3 : Int32)) ∧ Fld Z h a1 "com/example/opledger/opledger/AppendTimes" "maxSeqNo" "J" (.long u) ∧ Fld Z h a1 "com/example/opledger/opledger/AppendTimes" "mergeAt" "I" (.int (64 : Int32)) ∧ Arv Z h wS kS .long (8 : Int32) [(.long x0), (.long x1), (.long x2), (.long u), (.long x4), (.long x5), (.long x6), (.long x7)] (.long (0 : Int64)) ∧ Arv Z h wT kT .long (8 : Int32) [(.long y0), (.long y1), (.long y2), (.long w), (.long y4), (.long y5), (.long y6), (.long y7)] (.long (0 : Int64)) ∧ Arv Z h wE kE .long (8 : Int32) [(.long z0), (.long z1), (.long z2), (.long w), (.long z4), (.long z5), (.long z6), (.long z7)] (.long (0 : Int64))
set_option maxRecDepth 65536 in
set_option maxHeartbeats 40000000 in
theorem rmRB2 (l : Launch) (Z : State) (a0 : Array Value) (hw : ∀ d ∈ tables_1, d.before a0 Z = true) (ws : List Jvm.Cond) (a1 : Addr) (u w : Int64) (wS wT wE : Addr) (kS kT kE : ClassId) (f : Int32) (mx : Int64) (x0 y0 z0 x1 y1 z1 x2 y2 z2 x3 y3 z3 x4 y4 z4 x5 y5 z5 x6 y6 z6 x7 y7 z7 : Int64) (h0 : Heap) (n0 : Nat) (Z0 : n0 ≤ h0.size) (E1 : Exa Z h0 a1 "com/example/opledger/opledger/AppendTimes") (F_seqNos : Fld Z h0 a1 "com/example/opledger/opledger/AppendTimes" "seqNos" "[J" (.ref wS)) (F_starts : Fld Z h0 a1 "com/example/opledger/opledger/AppendTimes" "starts" "[J" (.ref wT)) (F_ends : Fld Z h0 a1 "com/example/opledger/opledger/AppendTimes" "ends" "[J" (.ref wE)) (F_first : Fld Z h0 a1 "com/example/opledger/opledger/AppendTimes" "first" "I" (.int f)) (F_last : Fld Z h0 a1 "com/example/opledger/opledger/AppendTimes" "last" "I" (.int (2 : Int32))) (F_maxSeqNo : Fld Z h0 a1 "com/example/opledger/opledger/AppendTimes" "maxSeqNo" "J" (.long mx)) (F_mergeAt : Fld Z h0 a1 "com/example/opledger/opledger/AppendTimes" "mergeAt" "I" (.int (64 : Int32))) (V_wS : Arv Z h0 wS kS .long (8 : Int32) [(.long x0), (.long x1), (.long x2), (.long x3), (.long x4), (.long x5), (.long x6), (.long x7)] (.long (0 : Int64))) (V_wT : Arv Z h0 wT kT .long (8 : Int32) [(.long y0), (.long y1), (.long y2), (.long y3), (.long y4), (.long y5), (.long y6), (.long y7)] (.long (0 : Int64))) (V_wE : Arv Z h0 wE kE .long (8 : Int32) [(.long z0), (.long z1), (.long z2), (.long z3), (.long z4), (.long z5), (.long z6), (.long z7)] (.long (0 : Int64))) (g_a1 : n0 ≤ a1) (g_wS : n0 ≤ wS) (g_wT : n0 ≤ wT) (g_wE : n0 ≤ wE) (ne_a1_wS : a1 ≠ wS) (ne_a1_wT : a1 ≠ wT) (ne_a1_wE : a1 ≠ wE) (ne_wS_wT : wS ≠ wT) (ne_wS_wE : wS ≠ wE) (ne_wT_wE : wT ≠ wE) (hmx : mx < u) (hf1 : ¬ (2 : Int32) < f) (hgap : (1000000 : Int64) < (w - y2)) (hf2 : (((3 : Int32) - f) + (1 : Int32)) < (64 : Int32)) :
    MetFree l (⟨"com/example/opledger/opledger/AppendTimes", "record", "(JJ)V"⟩ : MethodName) (head1 (Jvm.Cond.code (⟨"com/example/opledger/opledger/AppendTimes", "record", "(JJ)V"⟩ : MethodName) prog_1_method_2_code 5 none :: ws) ({ frames := 1, cells := 0, slots := 0, locals := 17 } : Room)) (fun a U => a = #[(.ref a1), (.long u), (.long w)] ∧ Z.Warmed39 U.vm ∧ U.heap = h0) (fun _ _ _ _ _ => True) (fun _ U o U' => ∃ v L, o = .returned v ∧ Q_rmRB2 Z a1 u w wS wT wE kS kT kE f mx x0 y0 z0 x1 y1 z1 x2 y2 z2 x3 y3 z3 x4 y4 z4 x5 y5 z5 x6 y6 z6 x7 y7 z7 h0 n0 v U'.heap L ∧ FrameEnd U o U' L ({ frames := 1, cells := 0, slots := 0, locals := 17 } : Room).cells ({ frames := 1, cells := 0, slots := 0, locals := 17 } : Room).slots) := by
  refine own_body (Q := fun v h L => Q_rmRB2 Z a1 u w wS wT wE kS kT kE f mx x0 y0 z0 x1 y1 z1 x2 y2 z2 x3 y3 z3 x4 y4 z4 x5 y5 z5 x6 y6 z6 x7 y7 z7 h0 n0 v h L) pn_3 ?_
  intro p e s m below meth c s₁ G X0 hx hZ hby hml hown hnm hrt e0 hG hF
  have hown : s.vm.findClass "com/example/opledger/opledger/AppendTimes" = some m.cls := hown
  have N0 := Fr.nil n0
  rw [ef_rmRB2 m a1 u w]
  show G (s₁.setTop (mkF m 0 #[oR a1, oJ u, oS, oJ w, oS] []))
  refine hG _ (s₁.setTop (mkF m 2 #[oR a1, oJ u, oS, oJ w, oS] [(.ref a1), (.long u)])) (fun t₀ k₀ => ?_) ?_
  · show Steps p.tables e below (s₁.setTop (mkF m 0 #[oR a1, oJ u, oS, oJ w, oS] [])) t₀
    refine XS.lloadN X0.here hx rfl (hb hby d3_0) rfl ?_
    show Steps p.tables e below (s₁.setTop (mkF m 1 #[oR a1, oJ u, oS, oJ w, oS] [(.long u)])) t₀
    refine XS.aloadN X0.here hx rfl (hb hby d3_1) rfl rfl ?_
    exact k₀
  obtain ⟨T1, X1, e1, st1⟩ := getF X0 hx hZ hown (host := "") (Or.inl (hw _ (List.mem_of_getElem? (i := 24) rfl))) Via.refl e0 F_maxSeqNo (g := (mkF m 2 #[oR a1, oJ u, oS, oJ w, oS] [(.ref a1), (.long u)])) rfl rfl (hb hby d3_2)
  refine hG _ _ (fun t₀ k₀ => st1 _ k₀) ?_
  show G (T1.setTop (mkF m 5 #[oR a1, oJ u, oS, oJ w, oS] [(.long mx), (.long u)]))
  refine hG _ (T1.setTop (mkF m 12 #[oR a1, oJ u, oS, oJ w, oS] [(.long u), (.ref a1)])) (fun t₀ k₀ => ?_) ?_
  · show Steps p.tables e below (T1.setTop (mkF m 5 #[oR a1, oJ u, oS, oJ w, oS] [(.long mx), (.long u)])) t₀
    refine XS.lcmp X1.here hx rfl (hb hby d3_5) rfl ?_
    show Steps p.tables e below (T1.setTop (mkF m 6 #[oR a1, oJ u, oS, oJ w, oS] [(.int (lcmpW u mx))])) t₀
    refine XS.ifYes X1.here hx rfl (pc0 := 6) (pc' := 10) rfl (hb hby d3_6) rfl ((if0 _ _).trans (tlt ((lw_gt u mx).mpr hmx)).2.2.1) (by decide) (by decide) ?_
    show Steps p.tables e below (T1.setTop (mkF m 10 #[oR a1, oJ u, oS, oJ w, oS] [])) t₀
    refine XS.aloadN X1.here hx rfl (hb hby d3_10) rfl rfl ?_
    show Steps p.tables e below (T1.setTop (mkF m 11 #[oR a1, oJ u, oS, oJ w, oS] [(.ref a1)])) t₀
    refine XS.lloadN X1.here hx rfl (hb hby d3_11) rfl ?_
    exact k₀
  obtain ⟨T2, h2, X2, e2, W2, st2⟩ := putF X1 hx hZ hown (host := "") (Or.inl (hw _ (List.mem_of_getElem? (i := 24) rfl))) Via.refl e1 F_maxSeqNo E1 (Or.inl (hw _ (List.mem_of_getElem? (i := 25) rfl))) (hw _ (List.mem_of_getElem? (i := 5) rfl)) (ty := .long) (by decide) rfl rfl (g := (mkF m 12 #[oR a1, oJ u, oS, oJ w, oS] [(.long u), (.ref a1)])) rfl rfl (hb hby d3_12)
  refine hG _ _ (fun t₀ k₀ => st2 _ k₀) ?_
  have N2 := Fr.snoc X2 N0 g_a1
  have ea1_x2 := E1.wr W2
  have fa1_seqNos_x2 := F_seqNos.other W2 (Or.inr (slot_ne (Or.inl (hw _ (List.mem_of_getElem? (i := 16) rfl))) (Or.inl (hw _ (List.mem_of_getElem? (i := 25) rfl))) (by decide) (t := (.array .long)) (t' := .long) (by decide) (by decide)))
  have fa1_starts_x2 := F_starts.other W2 (Or.inr (slot_ne (Or.inl (hw _ (List.mem_of_getElem? (i := 18) rfl))) (Or.inl (hw _ (List.mem_of_getElem? (i := 25) rfl))) (by decide) (t := (.array .long)) (t' := .long) (by decide) (by decide)))
  have fa1_ends_x2 := F_ends.other W2 (Or.inr (slot_ne (Or.inl (hw _ (List.mem_of_getElem? (i := 20) rfl))) (Or.inl (hw _ (List.mem_of_getElem? (i := 25) rfl))) (by decide) (t := (.array .long)) (t' := .long) (by decide) (by decide)))
  have fa1_first_x2 := F_first.other W2 (Or.inr (slot_ne (Or.inl (hw _ (List.mem_of_getElem? (i := 34) rfl))) (Or.inl (hw _ (List.mem_of_getElem? (i := 25) rfl))) (by decide) (t := .int) (t' := .long) (by decide) (by decide)))
  have fa1_last_x2 := F_last.other W2 (Or.inr (slot_ne (Or.inl (hw _ (List.mem_of_getElem? (i := 22) rfl))) (Or.inl (hw _ (List.mem_of_getElem? (i := 25) rfl))) (by decide) (t := .int) (t' := .long) (by decide) (by decide)))
  have fa1_mergeAt_x2 := F_mergeAt.other W2 (Or.inr (slot_ne (Or.inl (hw _ (List.mem_of_getElem? (i := 27) rfl))) (Or.inl (hw _ (List.mem_of_getElem? (i := 25) rfl))) (by decide) (t := .int) (t' := .long) (by decide) (by decide)))
  have vwS_x2 := V_wS.other W2 (Ne.symm ne_a1_wS)
  have vwT_x2 := V_wT.other W2 (Ne.symm ne_a1_wT)
  have vwE_x2 := V_wE.other W2 (Ne.symm ne_a1_wE)
  have k_x2 := (Keep.refl h0 [a1, wS, wT, wE]).wr W2 (Or.inl (List.mem_of_getElem? (i := 0) rfl))
  have z_2 : n0 ≤ h2.size := Nat.le_trans Z0 (Keep.of_wr W2).1
  have F2_maxSeqNo := F_maxSeqNo.same W2
  show G (T2.setTop (mkF m 15 #[oR a1, oJ u, oS, oJ w, oS] []))
  refine hG _ (T2.setTop (mkF m 16 #[oR a1, oJ u, oS, oJ w, oS] [(.ref a1)])) (fun t₀ k₀ => ?_) ?_
  · show Steps p.tables e below (T2.setTop (mkF m 15 #[oR a1, oJ u, oS, oJ w, oS] [])) t₀
    refine XS.aloadN X2.here hx rfl (hb hby d3_15) rfl rfl ?_
    exact k₀
  obtain ⟨T3, X3, e3, st3⟩ := getF X2 hx hZ hown (host := "") (Or.inl (hw _ (List.mem_of_getElem? (i := 21) rfl))) Via.refl e2 fa1_last_x2 (g := (mkF m 16 #[oR a1, oJ u, oS, oJ w, oS] [(.ref a1)])) rfl rfl (hb hby d3_16)
  refine hG _ _ (fun t₀ k₀ => st3 _ k₀) ?_
  show G (T3.setTop (mkF m 19 #[oR a1, oJ u, oS, oJ w, oS] [(.int (2 : Int32))]))
  refine hG _ (T3.setTop (mkF m 20 #[oR a1, oJ u, oS, oJ w, oS] [(.ref a1), (.int (2 : Int32))])) (fun t₀ k₀ => ?_) ?_
  · show Steps p.tables e below (T3.setTop (mkF m 19 #[oR a1, oJ u, oS, oJ w, oS] [(.int (2 : Int32))])) t₀
    refine XS.aloadN X3.here hx rfl (hb hby d3_19) rfl rfl ?_
    exact k₀
  obtain ⟨T4, X4, e4, st4⟩ := getF X3 hx hZ hown (host := "") (Or.inl (hw _ (List.mem_of_getElem? (i := 33) rfl))) Via.refl e3 fa1_first_x2 (g := (mkF m 20 #[oR a1, oJ u, oS, oJ w, oS] [(.ref a1), (.int (2 : Int32))])) rfl rfl (hb hby d3_20)
  refine hG _ _ (fun t₀ k₀ => st4 _ k₀) ?_
  show G (T4.setTop (mkF m 23 #[oR a1, oJ u, oS, oJ w, oS] [(.int f), (.int (2 : Int32))]))
  refine hG _ (T4.setTop (mkF m 28 #[oR a1, oJ u, oS, oJ w, oS] [(.ref a1), (.long w)])) (fun t₀ k₀ => ?_) ?_
  · show Steps p.tables e below (T4.setTop (mkF m 23 #[oR a1, oJ u, oS, oJ w, oS] [(.int f), (.int (2 : Int32))])) t₀
    refine XS.icmpNo X4.here hx rfl (hb hby d3_23) rfl (flt hf1).1 ?_
    show Steps p.tables e below (T4.setTop (mkF m 26 #[oR a1, oJ u, oS, oJ w, oS] [])) t₀
    refine XS.lloadN X4.here hx rfl (hb hby d3_26) rfl ?_
    show Steps p.tables e below (T4.setTop (mkF m 27 #[oR a1, oJ u, oS, oJ w, oS] [(.long w)])) t₀
    refine XS.aloadN X4.here hx rfl (hb hby d3_27) rfl rfl ?_
    exact k₀
  obtain ⟨T5, X5, e5, st5⟩ := getF X4 hx hZ hown (host := "") (Or.inl (hw _ (List.mem_of_getElem? (i := 17) rfl))) Via.refl e4 fa1_starts_x2 (g := (mkF m 28 #[oR a1, oJ u, oS, oJ w, oS] [(.ref a1), (.long w)])) rfl rfl (hb hby d3_28)
  refine hG _ _ (fun t₀ k₀ => st5 _ k₀) ?_
  show G (T5.setTop (mkF m 31 #[oR a1, oJ u, oS, oJ w, oS] [(.ref wT), (.long w)]))
  refine hG _ (T5.setTop (mkF m 32 #[oR a1, oJ u, oS, oJ w, oS] [(.ref a1), (.ref wT), (.long w)])) (fun t₀ k₀ => ?_) ?_
  · show Steps p.tables e below (T5.setTop (mkF m 31 #[oR a1, oJ u, oS, oJ w, oS] [(.ref wT), (.long w)])) t₀
    refine XS.aloadN X5.here hx rfl (hb hby d3_31) rfl rfl ?_
    exact k₀
  obtain ⟨T6, X6, e6, st6⟩ := getF X5 hx hZ hown (host := "") (Or.inl (hw _ (List.mem_of_getElem? (i := 21) rfl))) Via.refl e5 fa1_last_x2 (g := (mkF m 32 #[oR a1, oJ u, oS, oJ w, oS] [(.ref a1), (.ref wT), (.long w)])) rfl rfl (hb hby d3_32)
  refine hG _ _ (fun t₀ k₀ => st6 _ k₀) ?_
  show G (T6.setTop (mkF m 35 #[oR a1, oJ u, oS, oJ w, oS] [(.int (2 : Int32)), (.ref wT), (.long w)]))
  have ov7 := vwT_x2
  obtain ⟨cl7, Ar7, q7, S7, N_7, H_7, G_7⟩ := ov7
  have hin7 : ¬ ((2 : Int32) < 0 ∨ cl7.slots.size ≤ ((2 : Int32)).toNatClampNeg) := inb_of S7 ⟨by decide, by decide⟩
  have hat7 : cl7.slots[((2 : Int32)).toNatClampNeg]? = some (.long y2) := H_7.at hin7 rfl
  refine hG _ (T6.setTop (mkF m 70 #[oR a1, oJ u, oS, oJ w, oS] [(.long w), (.long u), (.ref a1)])) (fun t₀ k₀ => ?_) ?_
  · show Steps p.tables e below (T6.setTop (mkF m 35 #[oR a1, oJ u, oS, oJ w, oS] [(.int (2 : Int32)), (.ref wT), (.long w)])) t₀
    refine X6.laload hx (j := (2 : Int32)) (v := (.long y2)) (by rw [e6]; exact Ar7.1) (State.isArrayOf_alike hZ.alike Ar7.2.1) Ar7.2.2 hin7 hat7 (g := (mkF m 35 #[oR a1, oJ u, oS, oJ w, oS] [(.int (2 : Int32)), (.ref wT), (.long w)])) rfl rfl (hb hby d3_35) _ ?_
    show Steps p.tables e below (T6.setTop (mkF m 36 #[oR a1, oJ u, oS, oJ w, oS] [(.long y2), (.long w)])) t₀
    refine XS.lsub X6.here hx rfl (hb hby d3_36) rfl ?_
    show Steps p.tables e below (T6.setTop (mkF m 37 #[oR a1, oJ u, oS, oJ w, oS] [(.long (w - y2))])) t₀
    refine X6.ldc2Long hx hown (mvT hZ (hw _ (List.mem_of_getElem? (i := 55) rfl))) (g := (mkF m 37 #[oR a1, oJ u, oS, oJ w, oS] [(.long (w - y2))])) rfl (hb hby d3_37) _ ?_
    show Steps p.tables e below (T6.setTop (mkF m 40 #[oR a1, oJ u, oS, oJ w, oS] [(.long (1000000 : Int64)), (.long (w - y2))])) t₀
    refine XS.lcmp X6.here hx rfl (hb hby d3_40) rfl ?_
    show Steps p.tables e below (T6.setTop (mkF m 41 #[oR a1, oJ u, oS, oJ w, oS] [(.int (lcmpW (w - y2) (1000000 : Int64)))])) t₀
    refine XS.ifYes X6.here hx rfl (pc0 := 41) (pc' := 67) rfl (hb hby d3_41) rfl ((if0 _ _).trans (tlt ((lw_gt (w - y2) (1000000 : Int64)).mpr hgap)).2.2.1) (by decide) (by decide) ?_
    show Steps p.tables e below (T6.setTop (mkF m 67 #[oR a1, oJ u, oS, oJ w, oS] [])) t₀
    refine XS.aloadN X6.here hx rfl (hb hby d3_67) rfl rfl ?_
    show Steps p.tables e below (T6.setTop (mkF m 68 #[oR a1, oJ u, oS, oJ w, oS] [(.ref a1)])) t₀
    refine XS.lloadN X6.here hx rfl (hb hby d3_68) rfl ?_
    show Steps p.tables e below (T6.setTop (mkF m 69 #[oR a1, oJ u, oS, oJ w, oS] [(.long u), (.ref a1)])) t₀
    refine XS.lloadN X6.here hx rfl (hb hby d3_69) rfl ?_
    exact k₀
  obtain ⟨cp8, kp8, p8a, p8b, -, p8c, -⟩ := Cond.instantiable_spec (mvT (args := #[]) hZ (hw _ (List.mem_of_getElem? (i := 5) rfl)))
  obtain ⟨cq8, q8, q8'⟩ := ea1_x2.cell
  obtain ⟨_, _, ⟨T8, L8, k8, n8⟩, -, X8, ⟨Lc8, hQ8, l8, y8, z8⟩, st8⟩ := X6.privateBack hx (y := (⟨"com/example/opledger/opledger/AppendTimes", "add", "(JJ)V"⟩ : MethodName)) hown (mvT hZ (hw _ (List.mem_of_getElem? (i := 35) rfl))) (mvT hZ (hw _ (List.mem_of_getElem? (i := 36) rfl))) (selects_self_of_private p8a p8b (Bool.or_eq_false_iff.mp p8c).1 (Cond.privateMethod_at (mvP hZ (hw _ (List.mem_of_getElem? (i := 37) rfl)) (args := #[]))) (mvT hZ (hw _ (List.mem_of_getElem? (i := 36) rfl))) (by decide)) (Cond.privateMethod_at (mvP hZ (hw _ (List.mem_of_getElem? (i := 37) rfl)) (args := #[]))) (mvT hZ (hw _ (List.mem_of_getElem? (i := 38) rfl))) (by decide) (backOf (W := 0) (rmAB2 l Z a0 hw [] a1 u w wS wT wE kS kT kE f u x0 y0 z0 x1 y1 z1 x2 y2 z2 x3 y3 z3 x4 y4 z4 x5 y5 z5 x6 y6 z6 x7 y7 z7 h2 n0 z_2 ea1_x2 fa1_seqNos_x2 fa1_starts_x2 fa1_ends_x2 fa1_first_x2 fa1_last_x2 F2_maxSeqNo fa1_mergeAt_x2 vwS_x2 vwT_x2 vwE_x2 g_a1 g_wS g_wT g_wE ne_a1_wS ne_a1_wT ne_a1_wE ne_wS_wT ne_wS_wE ne_wT_wE) hZ (hw _ (List.mem_of_getElem? (i := 38) rfl)) (hw _ (List.mem_of_getElem? (i := 6) rfl)) (by decide) (by decide)) (g := (mkF m 70 #[oR a1, oJ u, oS, oJ w, oS] [(.long w), (.long u), (.ref a1)])) rfl (by rw [hml]; rfl) (Steps.refl _) (a := a1) (by rw [e6]; exact q8) q8' (argsL := [(.long u), (.long w)]) (rest := []) (lenOf pd_1 rfl) rfl (by show 2 * 0 + _ ≤ _; exact Nat.le_of_eq rfl) (hb hby d3_70) (fun _ _ => ⟨rfl, e6, (by decide : 0 + 0 ≤ _), (by decide : 0 + 0 ≤ _)⟩)
  dsimp only [Pt.U, Pt.locs, Pt.cells, Pt.slots] at X8 l8 y8 z8 st8 hQ8
  subst l8 y8 z8
  obtain ⟨rfl, N8q, K8, f8_0, f8_1, f8_2, f8_3, f8_4, f8_5, f8_6, f8_7, f8_8, f8_9⟩ := hQ8
  have N8 := Fr.app N2 N8q
  refine hG _ _ (fun t₀ k₀ => st8.trans k₀) ?_
  have z_x8 := Nat.le_trans z_2 K8.1
  have ea1_x8 := ea1_x2.keep K8
  have k_x8 := k_x2.trans K8 (allS (Or.inl (List.mem_of_getElem? (i := 0) rfl)) (allS (Or.inl (List.mem_of_getElem? (i := 1) rfl)) (allS (Or.inl (List.mem_of_getElem? (i := 2) rfl)) (allS (Or.inl (List.mem_of_getElem? (i := 3) rfl)) all0))))
  show G (T8.setTop (mkF m 73 #[oR a1, oJ u, oS, oJ w, oS] []))
  refine hG _ (T8.setTop (mkF m 74 #[oR a1, oJ u, oS, oJ w, oS] [(.ref a1)])) (fun t₀ k₀ => ?_) ?_
  · show Steps p.tables e below (T8.setTop (mkF m 73 #[oR a1, oJ u, oS, oJ w, oS] [])) t₀
    refine XS.aloadN X8.here hx rfl (hb hby d3_73) rfl rfl ?_
    exact k₀
  obtain ⟨T9, X9, e9, st9⟩ := getF X8 hx hZ hown (host := "") (Or.inl (hw _ (List.mem_of_getElem? (i := 21) rfl))) Via.refl rfl f8_4 (g := (mkF m 74 #[oR a1, oJ u, oS, oJ w, oS] [(.ref a1)])) rfl rfl (hb hby d3_74)
  refine hG _ _ (fun t₀ k₀ => st9 _ k₀) ?_
  show G (T9.setTop (mkF m 77 #[oR a1, oJ u, oS, oJ w, oS] [(.int (3 : Int32))]))
  refine hG _ (T9.setTop (mkF m 78 #[oR a1, oJ u, oS, oJ w, oS] [(.ref a1), (.int (3 : Int32))])) (fun t₀ k₀ => ?_) ?_
  · show Steps p.tables e below (T9.setTop (mkF m 77 #[oR a1, oJ u, oS, oJ w, oS] [(.int (3 : Int32))])) t₀
    refine XS.aloadN X9.here hx rfl (hb hby d3_77) rfl rfl ?_
    exact k₀
  obtain ⟨T10, X10, e10, st10⟩ := getF X9 hx hZ hown (host := "") (Or.inl (hw _ (List.mem_of_getElem? (i := 33) rfl))) Via.refl e9 f8_3 (g := (mkF m 78 #[oR a1, oJ u, oS, oJ w, oS] [(.ref a1), (.int (3 : Int32))])) rfl rfl (hb hby d3_78)
  refine hG _ _ (fun t₀ k₀ => st10 _ k₀) ?_
  show G (T10.setTop (mkF m 81 #[oR a1, oJ u, oS, oJ w, oS] [(.int f), (.int (3 : Int32))]))
  refine hG _ (T10.setTop (mkF m 85 #[oR a1, oJ u, oS, oJ w, oS] [(.ref a1), (.int (((3 : Int32) - f) + (1 : Int32)))])) (fun t₀ k₀ => ?_) ?_
  · show Steps p.tables e below (T10.setTop (mkF m 81 #[oR a1, oJ u, oS, oJ w, oS] [(.int f), (.int (3 : Int32))])) t₀
    refine XS.isub X10.here hx rfl (hb hby d3_81) rfl ?_
    show Steps p.tables e below (T10.setTop (mkF m 82 #[oR a1, oJ u, oS, oJ w, oS] [(.int ((3 : Int32) - f))])) t₀
    refine XS.iconst X10.here hx rfl (hb hby d3_82) ?_
    show Steps p.tables e below (T10.setTop (mkF m 83 #[oR a1, oJ u, oS, oJ w, oS] [(.int (1 : Int32)), (.int ((3 : Int32) - f))])) t₀
    refine XS.iadd X10.here hx rfl (hb hby d3_83) rfl ?_
    show Steps p.tables e below (T10.setTop (mkF m 84 #[oR a1, oJ u, oS, oJ w, oS] [(.int (((3 : Int32) - f) + (1 : Int32)))])) t₀
    refine XS.aloadN X10.here hx rfl (hb hby d3_84) rfl rfl ?_
    exact k₀
  obtain ⟨T11, X11, e11, st11⟩ := getF X10 hx hZ hown (host := "") (Or.inl (hw _ (List.mem_of_getElem? (i := 26) rfl))) Via.refl e10 f8_6 (g := (mkF m 85 #[oR a1, oJ u, oS, oJ w, oS] [(.ref a1), (.int (((3 : Int32) - f) + (1 : Int32)))])) rfl rfl (hb hby d3_85)
  refine hG _ _ (fun t₀ k₀ => st11 _ k₀) ?_
  show G (T11.setTop (mkF m 88 #[oR a1, oJ u, oS, oJ w, oS] [(.int (64 : Int32)), (.int (((3 : Int32) - f) + (1 : Int32)))]))
  refine hG _ (T11.setTop (mkF m 96 #[oR a1, oJ u, oS, oJ w, oS] [])) (fun t₀ k₀ => ?_) ?_
  · show Steps p.tables e below (T11.setTop (mkF m 88 #[oR a1, oJ u, oS, oJ w, oS] [(.int (64 : Int32)), (.int (((3 : Int32) - f) + (1 : Int32)))])) t₀
    refine XS.icmpYes X11.here hx rfl (pc0 := 88) (pc' := 96) rfl (hb hby d3_88) rfl (tlt hf2).1 (by decide) (by decide) ?_
    exact k₀
  refine hF _ T11 _ _ _ none _ X11 e11 (fun _ => rfl) (by decide) (by decide) ?_ (fun fs hr => X11.returnOut hx hrt (hb hby d3_96) hr)
  exact ⟨rfl, N8, k_x8, f8_0, f8_1, f8_2, f8_3, f8_4, f8_5, f8_6, f8_7, f8_8, f8_9⟩
theorem ef_rmRM (m : MethodId) (x0 : Addr) (x1 : Int64) (x2 : Int64) : entryFrame m #[(.ref x0), (.long x1), (.long x2)] 5 = mkF m 0 #[oR x0, oJ x1, oS, oJ x2, oS] [] := by first | (simp [entryFrame, mkF, argsToLocals, Value.category]; done) | rfl
def Q_rmRM (Z : State) (a1 : Addr) (u w : Int64) (wS wT wE : Addr) (kS kT kE : ClassId) (f : Int32) (mx : Int64) (x0 y0 z0 x1 y1 z1 x2 y2 z2 x3 y3 z3 x4 y4 z4 x5 y5 z5 x6 y6 z6 x7 y7 z7 : Int64) (h0 : Heap) (n0 : Nat) (v : Option Value) (h : Heap) (L : List Loc) : Prop := v = none ∧ Fr n0 L ∧ Keep h0 h [a1, wS, wT, wE] ∧ Fld Z h a1 "com/example/opledger/opledger/AppendTimes" "seqNos" "[J" (.ref wS) ∧ Fld Z h a1 "com/example/opledger/opledger/AppendTimes" "starts" "[J" (.ref wT) ∧ Fld Z h a1 "com/example/opledger/opledger/AppendTimes" "ends" "[J" (.ref wE) ∧ Fld Z h a1 "com/example/opledger/opledger/AppendTimes" "first" "I" (.int f) ∧ Fld Z h a1 "com/example/opledger/opledger/AppendTimes" "last" "I" (.int (2 : Int32)) ∧ Fld Z h a1 "com/example/opledger/opledger/AppendTimes" "maxSeqNo" "J" (.long u) ∧ Fld Z h a1 "com/example/opledger/opledger/AppendTimes" "mergeAt" "I" (.int (64 : Int32)) ∧ Arv Z h wS kS .long (8 : Int32) [(.long x0), (.long x1), (.long u), (.long x3), (.long x4), (.long x5), (.long x6), (.long x7)] (.long (0 : Int64)) ∧ Arv Z h wT kT .long (8 : Int32) [(.long y0), (.long y1), (.long y2), (.long y3), (.long y4), (.long y5), (.long y6), (.long y7)] (.long (0 : Int64)) ∧ Arv Z h wE kE .long (8 : Int32) [(.long z0), (.long z1), (.long w), (.long z3), (.long z4), (.long z5), (.long z6), (.long z7)] (.long (0 : Int64))
set_option maxRecDepth 65536 in
set_option maxHeartbeats 40000000 in
theorem rmRM (l : Launch) (Z : State) (a0 : Array Value) (hw : ∀ d ∈ tables_1, d.before a0 Z = true) (ws : List Jvm.Cond) (a1 : Addr) (u w : Int64) (wS wT wE : Addr) (kS kT kE : ClassId) (f : Int32) (mx : Int64) (x0 y0 z0 x1 y1 z1 x2 y2 z2 x3 y3 z3 x4 y4 z4 x5 y5 z5 x6 y6 z6 x7 y7 z7 : Int64) (h0 : Heap) (n0 : Nat) (Z0 : n0 ≤ h0.size) (E1 : Exa Z h0 a1 "com/example/opledger/opledger/AppendTimes") (F_seqNos : Fld Z h0 a1 "com/example/opledger/opledger/AppendTimes" "seqNos" "[J" (.ref wS)) (F_starts : Fld Z h0 a1 "com/example/opledger/opledger/AppendTimes" "starts" "[J" (.ref wT)) (F_ends : Fld Z h0 a1 "com/example/opledger/opledger/AppendTimes" "ends" "[J" (.ref wE)) (F_first : Fld Z h0 a1 "com/example/opledger/opledger/AppendTimes" "first" "I" (.int f)) (F_last : Fld Z h0 a1 "com/example/opledger/opledger/AppendTimes" "last" "I" (.int (2 : Int32))) (F_maxSeqNo : Fld Z h0 a1 "com/example/opledger/opledger/AppendTimes" "maxSeqNo" "J" (.long mx)) (F_mergeAt : Fld Z h0 a1 "com/example/opledger/opledger/AppendTimes" "mergeAt" "I" (.int (64 : Int32))) (V_wS : Arv Z h0 wS kS .long (8 : Int32) [(.long x0), (.long x1), (.long x2), (.long x3), (.long x4), (.long x5), (.long x6), (.long x7)] (.long (0 : Int64))) (V_wT : Arv Z h0 wT kT .long (8 : Int32) [(.long y0), (.long y1), (.long y2), (.long y3), (.long y4), (.long y5), (.long y6), (.long y7)] (.long (0 : Int64))) (V_wE : Arv Z h0 wE kE .long (8 : Int32) [(.long z0), (.long z1), (.long z2), (.long z3), (.long z4), (.long z5), (.long z6), (.long z7)] (.long (0 : Int64))) (g_a1 : n0 ≤ a1) (g_wS : n0 ≤ wS) (g_wT : n0 ≤ wT) (g_wE : n0 ≤ wE) (ne_a1_wS : a1 ≠ wS) (ne_a1_wT : a1 ≠ wT) (ne_a1_wE : a1 ≠ wE) (ne_wS_wT : wS ≠ wT) (ne_wS_wE : wS ≠ wE) (ne_wT_wE : wT ≠ wE) (hmx : mx < u) (hf1 : ¬ (2 : Int32) < f) (hgap : ¬ (1000000 : Int64) < (w - y2)) :
    MetFree l (⟨"com/example/opledger/opledger/AppendTimes", "record", "(JJ)V"⟩ : MethodName) (head1 (Jvm.Cond.code (⟨"com/example/opledger/opledger/AppendTimes", "record", "(JJ)V"⟩ : MethodName) prog_1_method_2_code 5 none :: ws) ({ frames := 0, cells := 0, slots := 0, locals := 0 } : Room)) (fun a U => a = #[(.ref a1), (.long u), (.long w)] ∧ Z.Warmed39 U.vm ∧ U.heap = h0) (fun _ _ _ _ _ => True) (fun _ U o U' => ∃ v L, o = .returned v ∧ Q_rmRM Z a1 u w wS wT wE kS kT kE f mx x0 y0 z0 x1 y1 z1 x2 y2 z2 x3 y3 z3 x4 y4 z4 x5 y5 z5 x6 y6 z6 x7 y7 z7 h0 n0 v U'.heap L ∧ FrameEnd U o U' L ({ frames := 0, cells := 0, slots := 0, locals := 0 } : Room).cells ({ frames := 0, cells := 0, slots := 0, locals := 0 } : Room).slots) := by
  refine own_body (Q := fun v h L => Q_rmRM Z a1 u w wS wT wE kS kT kE f mx x0 y0 z0 x1 y1 z1 x2 y2 z2 x3 y3 z3 x4 y4 z4 x5 y5 z5 x6 y6 z6 x7 y7 z7 h0 n0 v h L) pn_3 ?_
  intro p e s m below meth c s₁ G X0 hx hZ hby hml hown hnm hrt e0 hG hF
  have hown : s.vm.findClass "com/example/opledger/opledger/AppendTimes" = some m.cls := hown
  have N0 := Fr.nil n0
  rw [ef_rmRM m a1 u w]
  show G (s₁.setTop (mkF m 0 #[oR a1, oJ u, oS, oJ w, oS] []))
  refine hG _ (s₁.setTop (mkF m 2 #[oR a1, oJ u, oS, oJ w, oS] [(.ref a1), (.long u)])) (fun t₀ k₀ => ?_) ?_
  · show Steps p.tables e below (s₁.setTop (mkF m 0 #[oR a1, oJ u, oS, oJ w, oS] [])) t₀
    refine XS.lloadN X0.here hx rfl (hb hby d3_0) rfl ?_
    show Steps p.tables e below (s₁.setTop (mkF m 1 #[oR a1, oJ u, oS, oJ w, oS] [(.long u)])) t₀
    refine XS.aloadN X0.here hx rfl (hb hby d3_1) rfl rfl ?_
    exact k₀
  obtain ⟨T1, X1, e1, st1⟩ := getF X0 hx hZ hown (host := "") (Or.inl (hw _ (List.mem_of_getElem? (i := 24) rfl))) Via.refl e0 F_maxSeqNo (g := (mkF m 2 #[oR a1, oJ u, oS, oJ w, oS] [(.ref a1), (.long u)])) rfl rfl (hb hby d3_2)
  refine hG _ _ (fun t₀ k₀ => st1 _ k₀) ?_
  show G (T1.setTop (mkF m 5 #[oR a1, oJ u, oS, oJ w, oS] [(.long mx), (.long u)]))
  refine hG _ (T1.setTop (mkF m 12 #[oR a1, oJ u, oS, oJ w, oS] [(.long u), (.ref a1)])) (fun t₀ k₀ => ?_) ?_
  · show Steps p.tables e below (T1.setTop (mkF m 5 #[oR a1, oJ u, oS, oJ w, oS] [(.long mx), (.long u)])) t₀
    refine XS.lcmp X1.here hx rfl (hb hby d3_5) rfl ?_
    show Steps p.tables e below (T1.setTop (mkF m 6 #[oR a1, oJ u, oS, oJ w, oS] [(.int (lcmpW u mx))])) t₀
    refine XS.ifYes X1.here hx rfl (pc0 := 6) (pc' := 10) rfl (hb hby d3_6) rfl ((if0 _ _).trans (tlt ((lw_gt u mx).mpr hmx)).2.2.1) (by decide) (by decide) ?_
    show Steps p.tables e below (T1.setTop (mkF m 10 #[oR a1, oJ u, oS, oJ w, oS] [])) t₀
    refine XS.aloadN X1.here hx rfl (hb hby d3_10) rfl rfl ?_
    show Steps p.tables e below (T1.setTop (mkF m 11 #[oR a1, oJ u, oS, oJ w, oS] [(.ref a1)])) t₀
    refine XS.lloadN X1.here hx rfl (hb hby d3_11) rfl ?_
    exact k₀
  obtain ⟨T2, h2, X2, e2, W2, st2⟩ := putF X1 hx hZ hown (host := "") (Or.inl (hw _ (List.mem_of_getElem? (i := 24) rfl))) Via.refl e1 F_maxSeqNo E1 (Or.inl (hw _ (List.mem_of_getElem? (i := 25) rfl))) (hw _ (List.mem_of_getElem? (i := 5) rfl)) (ty := .long) (by decide) rfl rfl (g := (mkF m 12 #[oR a1, oJ u, oS, oJ w, oS] [(.long u), (.ref a1)])) rfl rfl (hb hby d3_12)
  refine hG _ _ (fun t₀ k₀ => st2 _ k₀) ?_
  have N2 := Fr.snoc X2 N0 g_a1
  have ea1_x2 := E1.wr W2
  have fa1_seqNos_x2 := F_seqNos.other W2 (Or.inr (slot_ne (Or.inl (hw _ (List.mem_of_getElem? (i := 16) rfl))) (Or.inl (hw _ (List.mem_of_getElem? (i := 25) rfl))) (by decide) (t := (.array .long)) (t' := .long) (by decide) (by decide)))
  have fa1_starts_x2 := F_starts.other W2 (Or.inr (slot_ne (Or.inl (hw _ (List.mem_of_getElem? (i := 18) rfl))) (Or.inl (hw _ (List.mem_of_getElem? (i := 25) rfl))) (by decide) (t := (.array .long)) (t' := .long) (by decide) (by decide)))
  have fa1_ends_x2 := F_ends.other W2 (Or.inr (slot_ne (Or.inl (hw _ (List.mem_of_getElem? (i := 20) rfl))) (Or.inl (hw _ (List.mem_of_getElem? (i := 25) rfl))) (by decide) (t := (.array .long)) (t' := .long) (by decide) (by decide)))
  have fa1_first_x2 := F_first.other W2 (Or.inr (slot_ne (Or.inl (hw _ (List.mem_of_getElem? (i := 34) rfl))) (Or.inl (hw _ (List.mem_of_getElem? (i := 25) rfl))) (by decide) (t := .int) (t' := .long) (by decide) (by decide)))
  have fa1_last_x2 := F_last.other W2 (Or.inr (slot_ne (Or.inl (hw _ (List.mem_of_getElem? (i := 22) rfl))) (Or.inl (hw _ (List.mem_of_getElem? (i := 25) rfl))) (by decide) (t := .int) (t' := .long) (by decide) (by decide)))
  have fa1_mergeAt_x2 := F_mergeAt.other W2 (Or.inr (slot_ne (Or.inl (hw _ (List.mem_of_getElem? (i := 27) rfl))) (Or.inl (hw _ (List.mem_of_getElem? (i := 25) rfl))) (by decide) (t := .int) (t' := .long) (by decide) (by decide)))
  have vwS_x2 := V_wS.other W2 (Ne.symm ne_a1_wS)
  have vwT_x2 := V_wT.other W2 (Ne.symm ne_a1_wT)
  have vwE_x2 := V_wE.other W2 (Ne.symm ne_a1_wE)
  have k_x2 := (Keep.refl h0 [a1, wS, wT, wE]).wr W2 (Or.inl (List.mem_of_getElem? (i := 0) rfl))
  have z_2 : n0 ≤ h2.size := Nat.le_trans Z0 (Keep.of_wr W2).1
  have F2_maxSeqNo := F_maxSeqNo.same W2
  show G (T2.setTop (mkF m 15 #[oR a1, oJ u, oS, oJ w, oS] []))
  refine hG _ (T2.setTop (mkF m 16 #[oR a1, oJ u, oS, oJ w, oS] [(.ref a1)])) (fun t₀ k₀ => ?_) ?_
  · show Steps p.tables e below (T2.setTop (mkF m 15 #[oR a1, oJ u, oS, oJ w, oS] [])) t₀
    refine XS.aloadN X2.here hx rfl (hb hby d3_15) rfl rfl ?_
    exact k₀
  obtain ⟨T3, X3, e3, st3⟩ := getF X2 hx hZ hown (host := "") (Or.inl (hw _ (List.mem_of_getElem? (i := 21) rfl))) Via.refl e2 fa1_last_x2 (g := (mkF m 16 #[oR a1, oJ u, oS, oJ w, oS] [(.ref a1)])) rfl rfl (hb hby d3_16)
  refine hG _ _ (fun t₀ k₀ => st3 _ k₀) ?_
  show G (T3.setTop (mkF m 19 #[oR a1, oJ u, oS, oJ w, oS] [(.int (2 : Int32))]))
  refine hG _ (T3.setTop (mkF m 20 #[oR a1, oJ u, oS, oJ w, oS] [(.ref a1), (.int (2 : Int32))])) (fun t₀ k₀ => ?_) ?_
  · show Steps p.tables e below (T3.setTop (mkF m 19 #[oR a1, oJ u, oS, oJ w, oS] [(.int (2 : Int32))])) t₀
    refine XS.aloadN X3.here hx rfl (hb hby d3_19) rfl rfl ?_
    exact k₀
  obtain ⟨T4, X4, e4, st4⟩ := getF X3 hx hZ hown (host := "") (Or.inl (hw _ (List.mem_of_getElem? (i := 33) rfl))) Via.refl e3 fa1_first_x2 (g := (mkF m 20 #[oR a1, oJ u, oS, oJ w, oS] [(.ref a1), (.int (2 : Int32))])) rfl rfl (hb hby d3_20)
  refine hG _ _ (fun t₀ k₀ => st4 _ k₀) ?_
  show G (T4.setTop (mkF m 23 #[oR a1, oJ u, oS, oJ w, oS] [(.int f), (.int (2 : Int32))]))
  refine hG _ (T4.setTop (mkF m 28 #[oR a1, oJ u, oS, oJ w, oS] [(.ref a1), (.long w)])) (fun t₀ k₀ => ?_) ?_
  · show Steps p.tables e below (T4.setTop (mkF m 23 #[oR a1, oJ u, oS, oJ w, oS] [(.int f), (.int (2 : Int32))])) t₀
    refine XS.icmpNo X4.here hx rfl (hb hby d3_23) rfl (flt hf1).1 ?_
    show Steps p.tables e below (T4.setTop (mkF m 26 #[oR a1, oJ u, oS, oJ w, oS] [])) t₀
    refine XS.lloadN X4.here hx rfl (hb hby d3_26) rfl ?_
    show Steps p.tables e below (T4.setTop (mkF m 27 #[oR a1, oJ u, oS, oJ w, oS] [(.long w)])) t₀
    refine XS.aloadN X4.here hx rfl (hb hby d3_27) rfl rfl ?_
    exact k₀
  obtain ⟨T5, X5, e5, st5⟩ := getF X4 hx hZ hown (host := "") (Or.inl (hw _ (List.mem_of_getElem? (i := 17) rfl))) Via.refl e4 fa1_starts_x2 (g := (mkF m 28 #[oR a1, oJ u, oS, oJ w, oS] [(.ref a1), (.long w)])) rfl rfl (hb hby d3_28)
  refine hG _ _ (fun t₀ k₀ => st5 _ k₀) ?_
  show G (T5.setTop (mkF m 31 #[oR a1, oJ u, oS, oJ w, oS] [(.ref wT), (.long w)]))
  refine hG _ (T5.setTop (mkF m 32 #[oR a1, oJ u, oS, oJ w, oS] [(.ref a1), (.ref wT), (.long w)])) (fun t₀ k₀ => ?_) ?_
  · show Steps p.tables e below (T5.setTop (mkF m 31 #[oR a1, oJ u, oS, oJ w, oS] [(.ref wT), (.long w)])) t₀
    refine XS.aloadN X5.here hx rfl (hb hby d3_31) rfl rfl ?_
    exact k₀
  obtain ⟨T6, X6, e6, st6⟩ := getF X5 hx hZ hown (host := "") (Or.inl (hw _ (List.mem_of_getElem? (i := 21) rfl))) Via.refl e5 fa1_last_x2 (g := (mkF m 32 #[oR a1, oJ u, oS, oJ w, oS] [(.ref a1), (.ref wT), (.long w)])) rfl rfl (hb hby d3_32)
  refine hG _ _ (fun t₀ k₀ => st6 _ k₀) ?_
  show G (T6.setTop (mkF m 35 #[oR a1, oJ u, oS, oJ w, oS] [(.int (2 : Int32)), (.ref wT), (.long w)]))
  have ov7 := vwT_x2
  obtain ⟨cl7, Ar7, q7, S7, N_7, H_7, G_7⟩ := ov7
  have hin7 : ¬ ((2 : Int32) < 0 ∨ cl7.slots.size ≤ ((2 : Int32)).toNatClampNeg) := inb_of S7 ⟨by decide, by decide⟩
  have hat7 : cl7.slots[((2 : Int32)).toNatClampNeg]? = some (.long y2) := H_7.at hin7 rfl
  refine hG _ (T6.setTop (mkF m 45 #[oR a1, oJ u, oS, oJ w, oS] [(.ref a1)])) (fun t₀ k₀ => ?_) ?_
  · show Steps p.tables e below (T6.setTop (mkF m 35 #[oR a1, oJ u, oS, oJ w, oS] [(.int (2 : Int32)), (.ref wT), (.long w)])) t₀
    refine X6.laload hx (j := (2 : Int32)) (v := (.long y2)) (by rw [e6]; exact Ar7.1) (State.isArrayOf_alike hZ.alike Ar7.2.1) Ar7.2.2 hin7 hat7 (g := (mkF m 35 #[oR a1, oJ u, oS, oJ w, oS] [(.int (2 : Int32)), (.ref wT), (.long w)])) rfl rfl (hb hby d3_35) _ ?_
    show Steps p.tables e below (T6.setTop (mkF m 36 #[oR a1, oJ u, oS, oJ w, oS] [(.long y2), (.long w)])) t₀
    refine XS.lsub X6.here hx rfl (hb hby d3_36) rfl ?_
    show Steps p.tables e below (T6.setTop (mkF m 37 #[oR a1, oJ u, oS, oJ w, oS] [(.long (w - y2))])) t₀
    refine X6.ldc2Long hx hown (mvT hZ (hw _ (List.mem_of_getElem? (i := 55) rfl))) (g := (mkF m 37 #[oR a1, oJ u, oS, oJ w, oS] [(.long (w - y2))])) rfl (hb hby d3_37) _ ?_
    show Steps p.tables e below (T6.setTop (mkF m 40 #[oR a1, oJ u, oS, oJ w, oS] [(.long (1000000 : Int64)), (.long (w - y2))])) t₀
    refine XS.lcmp X6.here hx rfl (hb hby d3_40) rfl ?_
    show Steps p.tables e below (T6.setTop (mkF m 41 #[oR a1, oJ u, oS, oJ w, oS] [(.int (lcmpW (w - y2) (1000000 : Int64)))])) t₀
    refine XS.ifNo X6.here hx rfl (hb hby d3_41) rfl ((if0 _ _).trans (flt (fun z => hgap ((lw_gt (w - y2) (1000000 : Int64)).mp z))).2.2.1) ?_
    show Steps p.tables e below (T6.setTop (mkF m 44 #[oR a1, oJ u, oS, oJ w, oS] [])) t₀
    refine XS.aloadN X6.here hx rfl (hb hby d3_44) rfl rfl ?_
    exact k₀
  obtain ⟨T8, X8, e8, st8⟩ := getF X6 hx hZ hown (host := "") (Or.inl (hw _ (List.mem_of_getElem? (i := 15) rfl))) Via.refl e6 fa1_seqNos_x2 (g := (mkF m 45 #[oR a1, oJ u, oS, oJ w, oS] [(.ref a1)])) rfl rfl (hb hby d3_45)
  refine hG _ _ (fun t₀ k₀ => st8 _ k₀) ?_
  show G (T8.setTop (mkF m 48 #[oR a1, oJ u, oS, oJ w, oS] [(.ref wS)]))
  refine hG _ (T8.setTop (mkF m 49 #[oR a1, oJ u, oS, oJ w, oS] [(.ref a1), (.ref wS)])) (fun t₀ k₀ => ?_) ?_
  · show Steps p.tables e below (T8.setTop (mkF m 48 #[oR a1, oJ u, oS, oJ w, oS] [(.ref wS)])) t₀
    refine XS.aloadN X8.here hx rfl (hb hby d3_48) rfl rfl ?_
    exact k₀
  obtain ⟨T9, X9, e9, st9⟩ := getF X8 hx hZ hown (host := "") (Or.inl (hw _ (List.mem_of_getElem? (i := 21) rfl))) Via.refl e8 fa1_last_x2 (g := (mkF m 49 #[oR a1, oJ u, oS, oJ w, oS] [(.ref a1), (.ref wS)])) rfl rfl (hb hby d3_49)
  refine hG _ _ (fun t₀ k₀ => st9 _ k₀) ?_
  show G (T9.setTop (mkF m 52 #[oR a1, oJ u, oS, oJ w, oS] [(.int (2 : Int32)), (.ref wS)]))
  refine hG _ (T9.setTop (mkF m 53 #[oR a1, oJ u, oS, oJ w, oS] [(.long u), (.int (2 : Int32)), (.ref wS)])) (fun t₀ k₀ => ?_) ?_
  · show Steps p.tables e below (T9.setTop (mkF m 52 #[oR a1, oJ u, oS, oJ w, oS] [(.int (2 : Int32)), (.ref wS)])) t₀
    refine XS.lloadN X9.here hx rfl (hb hby d3_52) rfl ?_
    exact k₀
  have ov10 := vwS_x2
  obtain ⟨cl10, Ar10, q10, S10, N_10, H_10, G_10⟩ := ov10
  have hin10 : ¬ ((2 : Int32) < 0 ∨ cl10.slots.size ≤ ((2 : Int32)).toNatClampNeg) := inb_of S10 ⟨by decide, by decide⟩
  obtain ⟨T11, h11, X11, e11, W11, st11⟩ := stJ X9 hx hZ e9 Ar10 (j := (2 : Int32)) hin10 (g := (mkF m 53 #[oR a1, oJ u, oS, oJ w, oS] [(.long u), (.int (2 : Int32)), (.ref wS)])) rfl rfl (hb hby d3_53)
  refine hG _ _ (fun t₀ k₀ => st11 _ k₀) ?_
  have N11 := Fr.snoc X11 N2 g_wS
  have ea1_x11 := ea1_x2.wr W11
  have fa1_seqNos_x11 := fa1_seqNos_x2.other W11 (Or.inl ne_a1_wS)
  have fa1_starts_x11 := fa1_starts_x2.other W11 (Or.inl ne_a1_wS)
  have fa1_ends_x11 := fa1_ends_x2.other W11 (Or.inl ne_a1_wS)
  have fa1_first_x11 := fa1_first_x2.other W11 (Or.inl ne_a1_wS)
  have fa1_last_x11 := fa1_last_x2.other W11 (Or.inl ne_a1_wS)
  have fa1_maxSeqNo_x11 := F2_maxSeqNo.other W11 (Or.inl ne_a1_wS)
  have fa1_mergeAt_x11 := fa1_mergeAt_x2.other W11 (Or.inl ne_a1_wS)
  have vwT_x11 := vwT_x2.other W11 (Ne.symm ne_wS_wT)
  have vwE_x11 := vwE_x2.other W11 (Ne.symm ne_wS_wE)
  have k_x11 := k_x2.wr W11 (Or.inl (List.mem_of_getElem? (i := 1) rfl))
  have z_11 : n0 ≤ h11.size := Nat.le_trans z_2 (Keep.of_wr W11).1
  have V11 : Arv Z h11 wS kS .long (8 : Int32) [(.long x0), (.long x1), (.long u), (.long x3), (.long x4), (.long x5), (.long x6), (.long x7)] (.long (0 : Int64)) := Arv.set Ar10 q10 S10 N_10 H_10 G_10 rfl W11 2 rfl (Nat.le_of_ble_eq_true rfl)
  show G (T11.setTop (mkF m 54 #[oR a1, oJ u, oS, oJ w, oS] []))
  refine hG _ (T11.setTop (mkF m 55 #[oR a1, oJ u, oS, oJ w, oS] [(.ref a1)])) (fun t₀ k₀ => ?_) ?_
  · show Steps p.tables e below (T11.setTop (mkF m 54 #[oR a1, oJ u, oS, oJ w, oS] [])) t₀
    refine XS.aloadN X11.here hx rfl (hb hby d3_54) rfl rfl ?_
    exact k₀
  obtain ⟨T12, X12, e12, st12⟩ := getF X11 hx hZ hown (host := "") (Or.inl (hw _ (List.mem_of_getElem? (i := 19) rfl))) Via.refl e11 fa1_ends_x11 (g := (mkF m 55 #[oR a1, oJ u, oS, oJ w, oS] [(.ref a1)])) rfl rfl (hb hby d3_55)
  refine hG _ _ (fun t₀ k₀ => st12 _ k₀) ?_
  show G (T12.setTop (mkF m 58 #[oR a1, oJ u, oS, oJ w, oS] [(.ref wE)]))
  refine hG _ (T12.setTop (mkF m 59 #[oR a1, oJ u, oS, oJ w, oS] [(.ref a1), (.ref wE)])) (fun t₀ k₀ => ?_) ?_
  · show Steps p.tables e below (T12.setTop (mkF m 58 #[oR a1, oJ u, oS, oJ w, oS] [(.ref wE)])) t₀
    refine XS.aloadN X12.here hx rfl (hb hby d3_58) rfl rfl ?_
    exact k₀
  obtain ⟨T13, X13, e13, st13⟩ := getF X12 hx hZ hown (host := "") (Or.inl (hw _ (List.mem_of_getElem? (i := 21) rfl))) Via.refl e12 fa1_last_x11 (g := (mkF m 59 #[oR a1, oJ u, oS, oJ w, oS] [(.ref a1), (.ref wE)])) rfl rfl (hb hby d3_59)
  refine hG _ _ (fun t₀ k₀ => st13 _ k₀) ?_
  show G (T13.setTop (mkF m 62 #[oR a1, oJ u, oS, oJ w, oS] [(.int (2 : Int32)), (.ref wE)]))
  refine hG _ (T13.setTop (mkF m 63 #[oR a1, oJ u, oS, oJ w, oS] [(.long w), (.int (2 : Int32)), (.ref wE)])) (fun t₀ k₀ => ?_) ?_
  · show Steps p.tables e below (T13.setTop (mkF m 62 #[oR a1, oJ u, oS, oJ w, oS] [(.int (2 : Int32)), (.ref wE)])) t₀
    refine XS.lloadN X13.here hx rfl (hb hby d3_62) rfl ?_
    exact k₀
  have ov14 := vwE_x11
  obtain ⟨cl14, Ar14, q14, S14, N_14, H_14, G_14⟩ := ov14
  have hin14 : ¬ ((2 : Int32) < 0 ∨ cl14.slots.size ≤ ((2 : Int32)).toNatClampNeg) := inb_of S14 ⟨by decide, by decide⟩
  obtain ⟨T15, h15, X15, e15, W15, st15⟩ := stJ X13 hx hZ e13 Ar14 (j := (2 : Int32)) hin14 (g := (mkF m 63 #[oR a1, oJ u, oS, oJ w, oS] [(.long w), (.int (2 : Int32)), (.ref wE)])) rfl rfl (hb hby d3_63)
  refine hG _ _ (fun t₀ k₀ => st15 _ k₀) ?_
  have N15 := Fr.snoc X15 N11 g_wE
  have ea1_x15 := ea1_x11.wr W15
  have fa1_seqNos_x15 := fa1_seqNos_x11.other W15 (Or.inl ne_a1_wE)
  have fa1_starts_x15 := fa1_starts_x11.other W15 (Or.inl ne_a1_wE)
  have fa1_ends_x15 := fa1_ends_x11.other W15 (Or.inl ne_a1_wE)
  have fa1_first_x15 := fa1_first_x11.other W15 (Or.inl ne_a1_wE)
  have fa1_last_x15 := fa1_last_x11.other W15 (Or.inl ne_a1_wE)
  have fa1_maxSeqNo_x15 := fa1_maxSeqNo_x11.other W15 (Or.inl ne_a1_wE)
  have fa1_mergeAt_x15 := fa1_mergeAt_x11.other W15 (Or.inl ne_a1_wE)
  have vwS_x15 := V11.other W15 ne_wS_wE
  have vwT_x15 := vwT_x11.other W15 ne_wT_wE
  have k_x15 := k_x11.wr W15 (Or.inl (List.mem_of_getElem? (i := 3) rfl))
  have z_15 : n0 ≤ h15.size := Nat.le_trans z_11 (Keep.of_wr W15).1
  have V15 : Arv Z h15 wE kE .long (8 : Int32) [(.long z0), (.long z1), (.long w), (.long z3), (.long z4), (.long z5), (.long z6), (.long z7)] (.long (0 : Int64)) := Arv.set Ar14 q14 S14 N_14 H_14 G_14 rfl W15 2 rfl (Nat.le_of_ble_eq_true rfl)
  show G (T15.setTop (mkF m 64 #[oR a1, oJ u, oS, oJ w, oS] []))
  refine hG _ (T15.setTop (mkF m 96 #[oR a1, oJ u, oS, oJ w, oS] [])) (fun t₀ k₀ => ?_) ?_
  · show Steps p.tables e below (T15.setTop (mkF m 64 #[oR a1, oJ u, oS, oJ w, oS] [])) t₀
    refine XS.goto X15.here hx rfl (pc0 := 64) (pc' := 96) rfl (hb hby d3_64) (by decide) (by decide) ?_
    exact k₀
  refine hF _ T15 _ _ _ none _ X15 e15 (fun _ => rfl) (by decide) (by decide) ?_ (fun fs hr => X15.returnOut hx hrt (hb hby d3_96) hr)
  exact ⟨rfl, N15, k_x15, fa1_seqNos_x15, fa1_starts_x15, fa1_ends_x15, fa1_first_x15, fa1_last_x15, fa1_maxSeqNo_x15, fa1_mergeAt_x15, vwS_x15, vwT_x15, V15⟩
theorem d8_0 : decode prog_1_method_7_code 0 = .ok (.aload_n 0, 1) := by decide +kernel
theorem d8_1 : decode prog_1_method_7_code 1 = .ok (.getfield 37, 3) := by decide +kernel
theorem d8_4 : decode prog_1_method_7_code 4 = .ok (.aload_n 0, 1) := by decide +kernel
theorem d8_5 : decode prog_1_method_7_code 5 = .ok (.getfield 22, 3) := by decide +kernel
theorem d8_8 : decode prog_1_method_7_code 8 = .ok (.if_icmp .gt 30, 3) := by decide +kernel
theorem d8_11 : decode prog_1_method_7_code 11 = .ok (.aload_n 0, 1) := by decide +kernel
theorem d8_12 : decode prog_1_method_7_code 12 = .ok (.getfield 13, 3) := by decide +kernel
theorem d8_15 : decode prog_1_method_7_code 15 = .ok (.aload_n 0, 1) := by decide +kernel
theorem d8_16 : decode prog_1_method_7_code 16 = .ok (.getfield 37, 3) := by decide +kernel
theorem d8_19 : decode prog_1_method_7_code 19 = .ok (.laload, 1) := by decide +kernel
theorem d8_20 : decode prog_1_method_7_code 20 = .ok (.lload_n 1, 1) := by decide +kernel
theorem d8_21 : decode prog_1_method_7_code 21 = .ok (.lcmp, 1) := by decide +kernel
theorem d8_22 : decode prog_1_method_7_code 22 = .ok (.ifCond .gt 16, 3) := by decide +kernel
theorem d8_25 : decode prog_1_method_7_code 25 = .ok (.aload_n 0, 1) := by decide +kernel
theorem d8_26 : decode prog_1_method_7_code 26 = .ok (.dup, 1) := by decide +kernel
theorem d8_27 : decode prog_1_method_7_code 27 = .ok (.getfield 37, 3) := by decide +kernel
theorem d8_30 : decode prog_1_method_7_code 30 = .ok (.iconst 1, 1) := by decide +kernel
theorem d8_31 : decode prog_1_method_7_code 31 = .ok (.iadd, 1) := by decide +kernel
theorem d8_32 : decode prog_1_method_7_code 32 = .ok (.putfield 37, 3) := by decide +kernel
theorem d8_35 : decode prog_1_method_7_code 35 = .ok (.goto (-35), 3) := by decide +kernel
theorem d8_38 : decode prog_1_method_7_code 38 = .ok (.aload_n 0, 1) := by decide +kernel
theorem d8_39 : decode prog_1_method_7_code 39 = .ok (.getfield 37, 3) := by decide +kernel
theorem d8_42 : decode prog_1_method_7_code 42 = .ok (.aload_n 0, 1) := by decide +kernel
theorem d8_43 : decode prog_1_method_7_code 43 = .ok (.getfield 22, 3) := by decide +kernel
theorem d8_46 : decode prog_1_method_7_code 46 = .ok (.if_icmp .le 40, 3) := by decide +kernel
theorem d8_49 : decode prog_1_method_7_code 49 = .ok (.aload_n 0, 1) := by decide +kernel
theorem d8_50 : decode prog_1_method_7_code 50 = .ok (.getstatic 7, 3) := by decide +kernel
theorem d8_53 : decode prog_1_method_7_code 53 = .ok (.putfield 13, 3) := by decide +kernel
theorem d8_56 : decode prog_1_method_7_code 56 = .ok (.aload_n 0, 1) := by decide +kernel
theorem d8_57 : decode prog_1_method_7_code 57 = .ok (.getstatic 7, 3) := by decide +kernel
theorem d8_60 : decode prog_1_method_7_code 60 = .ok (.putfield 16, 3) := by decide +kernel
theorem d8_63 : decode prog_1_method_7_code 63 = .ok (.aload_n 0, 1) := by decide +kernel
theorem d8_64 : decode prog_1_method_7_code 64 = .ok (.getstatic 7, 3) := by decide +kernel
theorem d8_67 : decode prog_1_method_7_code 67 = .ok (.putfield 19, 3) := by decide +kernel
theorem d8_70 : decode prog_1_method_7_code 70 = .ok (.aload_n 0, 1) := by decide +kernel
theorem d8_71 : decode prog_1_method_7_code 71 = .ok (.iconst 0, 1) := by decide +kernel
theorem d8_72 : decode prog_1_method_7_code 72 = .ok (.putfield 37, 3) := by decide +kernel
theorem d8_75 : decode prog_1_method_7_code 75 = .ok (.aload_n 0, 1) := by decide +kernel
theorem d8_76 : decode prog_1_method_7_code 76 = .ok (.iconst (-1), 1) := by decide +kernel
theorem d8_77 : decode prog_1_method_7_code 77 = .ok (.putfield 22, 3) := by decide +kernel
theorem d8_80 : decode prog_1_method_7_code 80 = .ok (.aload_n 0, 1) := by decide +kernel
theorem d8_81 : decode prog_1_method_7_code 81 = .ok (.bipush 64, 2) := by decide +kernel
theorem d8_83 : decode prog_1_method_7_code 83 = .ok (.putfield 34, 3) := by decide +kernel
theorem d8_86 : decode prog_1_method_7_code 86 = .ok (.return_, 1) := by decide +kernel
theorem pn_8 : plainFor (⟨"com/example/opledger/opledger/AppendTimes", "forgetUpTo", "(J)V"⟩ : MethodName) = true := plainFor_of_name (by first | (simp [plainName, overriddenIn]; done) | decide +kernel)
theorem ef_rmF0 (m : MethodId) (x0 : Addr) (x1 : Int64) : entryFrame m #[(.ref x0), (.long x1)] 3 = mkF m 0 #[oR x0, oJ x1, oS] [] := by first | (simp [entryFrame, mkF, argsToLocals, Value.category]; done) | rfl
def Q_rmF0 (Z : State) (a1 : Addr) (q : Int64) (wN : Addr) (kN : ClassId) (wS wT wE : Addr) (kS kT kE : ClassId) (mx : Int64) (x0 y0 z0 x1 y1 z1 x2 y2 z2 x3 y3 z3 x4 y4 z4 x5 y5 z5 x6 y6 z6 x7 y7 z7 : Int64) (h0 : Heap) (n0 : Nat) (v : Option Value) (h : Heap) (L : List Loc) : Prop := v = none ∧ Fr n0 L ∧ Keep h0 h [a1] ∧ Fld Z h a1 "com/example/opledger/opledger/AppendTimes" "seqNos" "[J" (.ref wS) ∧ Fld Z h a1 "com/example/opledger/opledger/AppendTimes" "starts" "[J" (.ref wT) ∧ Fld Z h a1 "com/example/opledger/opledger/AppendTimes" "ends" "[J" (.ref wE) ∧ Fld Z h a1 "com/example/opledger/opledger/AppendTimes" "first" "I" (.int (0 : Int32)) ∧ Fld Z h a1 "com/example/opledger/opledger/AppendTimes" "last" "I" (.int (2 : Int32)) ∧ Fld Z h a1 "com/example/opledger/opledger/AppendTimes" "maxSeqNo" "J" (.long mx) ∧ Fld Z h a1 "com/example/opledger/opledger/AppendTimes" "mergeAt" "I" (.int (64 : Int32)) ∧ Arv Z h wS kS .long (8 : Int32) [(.long x0), (.long x1), (.long x2), (.long x3), (.long x4), (.long x5), (.long x6), (.long x7)] (.long (0 : Int64)) ∧ Arv Z h wT kT .long (8 : Int32) [(.long y0), (.long y1), (.long y2), (.long y3), (.long y4), (.long y5), (.long y6), (.long y7)] (.long (0 : Int64)) ∧ Arv Z h wE kE .long (8 : Int32) [(.long z0), (.long z1), (.long z2), (.long z3), (.long z4), (.long z5), (.long z6), (.long z7)] (.long (0 : Int64))
set_option maxRecDepth 65536 in
set_option maxHeartbeats 40000000 in
theorem rmF0 (l : Launch) (Z : State) (a0 : Array Value) (hw : ∀ d ∈ tables_1, d.before a0 Z = true) (ws : List Jvm.Cond) (a1 : Addr) (q : Int64) (wN : Addr) (kN : ClassId) (wS wT wE : Addr) (kS kT kE : ClassId) (mx : Int64) (x0 y0 z0 x1 y1 z1 x2 y2 z2 x3 y3 z3 x4 y4 z4 x5 y5 z5 x6 y6 z6 x7 y7 z7 : Int64) (h0 : Heap) (n0 : Nat) (Z0 : n0 ≤ h0.size) (O0 : Old Z n0 h0) (S_NO : Sta Z Z.heap "com/example/opledger/opledger/AppendTimes" "NO_ENTRIES" "[J" (.ref wN)) (VN : Arv Z Z.heap wN kN .long (0 : Int32) [] (.long (0 : Int64))) (E1 : Exa Z h0 a1 "com/example/opledger/opledger/AppendTimes") (F_seqNos : Fld Z h0 a1 "com/example/opledger/opledger/AppendTimes" "seqNos" "[J" (.ref wS)) (F_starts : Fld Z h0 a1 "com/example/opledger/opledger/AppendTimes" "starts" "[J" (.ref wT)) (F_ends : Fld Z h0 a1 "com/example/opledger/opledger/AppendTimes" "ends" "[J" (.ref wE)) (F_first : Fld Z h0 a1 "com/example/opledger/opledger/AppendTimes" "first" "I" (.int (0 : Int32))) (F_last : Fld Z h0 a1 "com/example/opledger/opledger/AppendTimes" "last" "I" (.int (2 : Int32))) (F_maxSeqNo : Fld Z h0 a1 "com/example/opledger/opledger/AppendTimes" "maxSeqNo" "J" (.long mx)) (F_mergeAt : Fld Z h0 a1 "com/example/opledger/opledger/AppendTimes" "mergeAt" "I" (.int (64 : Int32))) (V_wS : Arv Z h0 wS kS .long (8 : Int32) [(.long x0), (.long x1), (.long x2), (.long x3), (.long x4), (.long x5), (.long x6), (.long x7)] (.long (0 : Int64))) (V_wT : Arv Z h0 wT kT .long (8 : Int32) [(.long y0), (.long y1), (.long y2), (.long y3), (.long y4), (.long y5), (.long y6), (.long y7)] (.long (0 : Int64))) (V_wE : Arv Z h0 wE kE .long (8 : Int32) [(.long z0), (.long z1), (.long z2), (.long z3), (.long z4), (.long z5), (.long z6), (.long z7)] (.long (0 : Int64))) (g_a1 : n0 ≤ a1) (g_wS : n0 ≤ wS) (g_wT : n0 ≤ wT) (g_wE : n0 ≤ wE) (ne_a1_wS : a1 ≠ wS) (ne_a1_wT : a1 ≠ wT) (ne_a1_wE : a1 ≠ wE) (ne_wS_wT : wS ≠ wT) (ne_wS_wE : wS ≠ wE) (ne_wT_wE : wT ≠ wE) (hq0 : q < x0) :
    MetFree l (⟨"com/example/opledger/opledger/AppendTimes", "forgetUpTo", "(J)V"⟩ : MethodName) (head1 (Jvm.Cond.code (⟨"com/example/opledger/opledger/AppendTimes", "forgetUpTo", "(J)V"⟩ : MethodName) prog_1_method_7_code 3 none :: ws) ({ frames := 0, cells := 0, slots := 0, locals := 0 } : Room)) (fun a U => a = #[(.ref a1), (.long q)] ∧ Z.Warmed39 U.vm ∧ U.heap = h0) (fun _ _ _ _ _ => True) (fun _ U o U' => ∃ v L, o = .returned v ∧ Q_rmF0 Z a1 q wN kN wS wT wE kS kT kE mx x0 y0 z0 x1 y1 z1 x2 y2 z2 x3 y3 z3 x4 y4 z4 x5 y5 z5 x6 y6 z6 x7 y7 z7 h0 n0 v U'.heap L ∧ FrameEnd U o U' L ({ frames := 0, cells := 0, slots := 0, locals := 0 } : Room).cells ({ frames := 0, cells := 0, slots := 0, locals := 0 } : Room).slots) := by
  refine own_body (Q := fun v h L => Q_rmF0 Z a1 q wN kN wS wT wE kS kT kE mx x0 y0 z0 x1 y1 z1 x2 y2 z2 x3 y3 z3 x4 y4 z4 x5 y5 z5 x6 y6 z6 x7 y7 z7 h0 n0 v h L) pn_8 ?_
  intro p e s m below meth c s₁ G X0 hx hZ hby hml hown hnm hrt e0 hG hF
  have hown : s.vm.findClass "com/example/opledger/opledger/AppendTimes" = some m.cls := hown
  have N0 := Fr.nil n0
  rw [ef_rmF0 m a1 q]
  show G (s₁.setTop (mkF m 0 #[oR a1, oJ q, oS] []))
  refine hG _ (s₁.setTop (mkF m 1 #[oR a1, oJ q, oS] [(.ref a1)])) (fun t₀ k₀ => ?_) ?_
  · show Steps p.tables e below (s₁.setTop (mkF m 0 #[oR a1, oJ q, oS] [])) t₀
    refine XS.aloadN X0.here hx rfl (hb hby d8_0) rfl rfl ?_
    exact k₀
  obtain ⟨T1, X1, e1, st1⟩ := getF X0 hx hZ hown (host := "") (Or.inl (hw _ (List.mem_of_getElem? (i := 33) rfl))) Via.refl e0 F_first (g := (mkF m 1 #[oR a1, oJ q, oS] [(.ref a1)])) rfl rfl (hb hby d8_1)
  refine hG _ _ (fun t₀ k₀ => st1 _ k₀) ?_
  show G (T1.setTop (mkF m 4 #[oR a1, oJ q, oS] [(.int (0 : Int32))]))
  refine hG _ (T1.setTop (mkF m 5 #[oR a1, oJ q, oS] [(.ref a1), (.int (0 : Int32))])) (fun t₀ k₀ => ?_) ?_
  · show Steps p.tables e below (T1.setTop (mkF m 4 #[oR a1, oJ q, oS] [(.int (0 : Int32))])) t₀
    refine XS.aloadN X1.here hx rfl (hb hby d8_4) rfl rfl ?_
    exact k₀
  obtain ⟨T2, X2, e2, st2⟩ := getF X1 hx hZ hown (host := "") (Or.inl (hw _ (List.mem_of_getElem? (i := 21) rfl))) Via.refl e1 F_last (g := (mkF m 5 #[oR a1, oJ q, oS] [(.ref a1), (.int (0 : Int32))])) rfl rfl (hb hby d8_5)
  refine hG _ _ (fun t₀ k₀ => st2 _ k₀) ?_
  show G (T2.setTop (mkF m 8 #[oR a1, oJ q, oS] [(.int (2 : Int32)), (.int (0 : Int32))]))
  refine hG _ (T2.setTop (mkF m 12 #[oR a1, oJ q, oS] [(.ref a1)])) (fun t₀ k₀ => ?_) ?_
  · show Steps p.tables e below (T2.setTop (mkF m 8 #[oR a1, oJ q, oS] [(.int (2 : Int32)), (.int (0 : Int32))])) t₀
    refine XS.icmpNo X2.here hx rfl (hb hby d8_8) rfl (flt (by decide : ¬ ((2 : Int32) < (0 : Int32)))).2.2.1 ?_
    show Steps p.tables e below (T2.setTop (mkF m 11 #[oR a1, oJ q, oS] [])) t₀
    refine XS.aloadN X2.here hx rfl (hb hby d8_11) rfl rfl ?_
    exact k₀
  obtain ⟨T3, X3, e3, st3⟩ := getF X2 hx hZ hown (host := "") (Or.inl (hw _ (List.mem_of_getElem? (i := 15) rfl))) Via.refl e2 F_seqNos (g := (mkF m 12 #[oR a1, oJ q, oS] [(.ref a1)])) rfl rfl (hb hby d8_12)
  refine hG _ _ (fun t₀ k₀ => st3 _ k₀) ?_
  show G (T3.setTop (mkF m 15 #[oR a1, oJ q, oS] [(.ref wS)]))
  refine hG _ (T3.setTop (mkF m 16 #[oR a1, oJ q, oS] [(.ref a1), (.ref wS)])) (fun t₀ k₀ => ?_) ?_
  · show Steps p.tables e below (T3.setTop (mkF m 15 #[oR a1, oJ q, oS] [(.ref wS)])) t₀
    refine XS.aloadN X3.here hx rfl (hb hby d8_15) rfl rfl ?_
    exact k₀
  obtain ⟨T4, X4, e4, st4⟩ := getF X3 hx hZ hown (host := "") (Or.inl (hw _ (List.mem_of_getElem? (i := 33) rfl))) Via.refl e3 F_first (g := (mkF m 16 #[oR a1, oJ q, oS] [(.ref a1), (.ref wS)])) rfl rfl (hb hby d8_16)
  refine hG _ _ (fun t₀ k₀ => st4 _ k₀) ?_
  show G (T4.setTop (mkF m 19 #[oR a1, oJ q, oS] [(.int (0 : Int32)), (.ref wS)]))
  have ov5 := V_wS
  obtain ⟨cl5, Ar5, q5, S5, N_5, H_5, G_5⟩ := ov5
  have hin5 : ¬ ((0 : Int32) < 0 ∨ cl5.slots.size ≤ ((0 : Int32)).toNatClampNeg) := inb_of S5 ⟨by decide, by decide⟩
  have hat5 : cl5.slots[((0 : Int32)).toNatClampNeg]? = some (.long x0) := H_5.at hin5 rfl
  refine hG _ (T4.setTop (mkF m 39 #[oR a1, oJ q, oS] [(.ref a1)])) (fun t₀ k₀ => ?_) ?_
  · show Steps p.tables e below (T4.setTop (mkF m 19 #[oR a1, oJ q, oS] [(.int (0 : Int32)), (.ref wS)])) t₀
    refine X4.laload hx (j := (0 : Int32)) (v := (.long x0)) (by rw [e4]; exact Ar5.1) (State.isArrayOf_alike hZ.alike Ar5.2.1) Ar5.2.2 hin5 hat5 (g := (mkF m 19 #[oR a1, oJ q, oS] [(.int (0 : Int32)), (.ref wS)])) rfl rfl (hb hby d8_19) _ ?_
    show Steps p.tables e below (T4.setTop (mkF m 20 #[oR a1, oJ q, oS] [(.long x0)])) t₀
    refine XS.lloadN X4.here hx rfl (hb hby d8_20) rfl ?_
    show Steps p.tables e below (T4.setTop (mkF m 21 #[oR a1, oJ q, oS] [(.long q), (.long x0)])) t₀
    refine XS.lcmp X4.here hx rfl (hb hby d8_21) rfl ?_
    show Steps p.tables e below (T4.setTop (mkF m 22 #[oR a1, oJ q, oS] [(.int (lcmpW x0 q))])) t₀
    refine XS.ifYes X4.here hx rfl (pc0 := 22) (pc' := 38) rfl (hb hby d8_22) rfl ((if0 _ _).trans (tlt ((lw_gt x0 q).mpr hq0)).2.2.1) (by decide) (by decide) ?_
    show Steps p.tables e below (T4.setTop (mkF m 38 #[oR a1, oJ q, oS] [])) t₀
    refine XS.aloadN X4.here hx rfl (hb hby d8_38) rfl rfl ?_
    exact k₀
  obtain ⟨T6, X6, e6, st6⟩ := getF X4 hx hZ hown (host := "") (Or.inl (hw _ (List.mem_of_getElem? (i := 33) rfl))) Via.refl e4 F_first (g := (mkF m 39 #[oR a1, oJ q, oS] [(.ref a1)])) rfl rfl (hb hby d8_39)
  refine hG _ _ (fun t₀ k₀ => st6 _ k₀) ?_
  show G (T6.setTop (mkF m 42 #[oR a1, oJ q, oS] [(.int (0 : Int32))]))
  refine hG _ (T6.setTop (mkF m 43 #[oR a1, oJ q, oS] [(.ref a1), (.int (0 : Int32))])) (fun t₀ k₀ => ?_) ?_
  · show Steps p.tables e below (T6.setTop (mkF m 42 #[oR a1, oJ q, oS] [(.int (0 : Int32))])) t₀
    refine XS.aloadN X6.here hx rfl (hb hby d8_42) rfl rfl ?_
    exact k₀
  obtain ⟨T7, X7, e7, st7⟩ := getF X6 hx hZ hown (host := "") (Or.inl (hw _ (List.mem_of_getElem? (i := 21) rfl))) Via.refl e6 F_last (g := (mkF m 43 #[oR a1, oJ q, oS] [(.ref a1), (.int (0 : Int32))])) rfl rfl (hb hby d8_43)
  refine hG _ _ (fun t₀ k₀ => st7 _ k₀) ?_
  show G (T7.setTop (mkF m 46 #[oR a1, oJ q, oS] [(.int (2 : Int32)), (.int (0 : Int32))]))
  refine hG _ (T7.setTop (mkF m 86 #[oR a1, oJ q, oS] [])) (fun t₀ k₀ => ?_) ?_
  · show Steps p.tables e below (T7.setTop (mkF m 46 #[oR a1, oJ q, oS] [(.int (2 : Int32)), (.int (0 : Int32))])) t₀
    refine XS.icmpYes X7.here hx rfl (pc0 := 46) (pc' := 86) rfl (hb hby d8_46) rfl (flt (by decide : ¬ ((2 : Int32) < (0 : Int32)))).2.2.2 (by decide) (by decide) ?_
    exact k₀
  refine hF _ T7 _ _ _ none _ X7 e7 (fun _ => rfl) (by decide) (by decide) ?_ (fun fs hr => X7.returnOut hx hrt (hb hby d8_86) hr)
  exact ⟨rfl, N0, (Keep.refl h0 [a1]), F_seqNos, F_starts, F_ends, F_first, F_last, F_maxSeqNo, F_mergeAt, V_wS, V_wT, V_wE⟩
theorem ef_rmF1 (m : MethodId) (x0 : Addr) (x1 : Int64) : entryFrame m #[(.ref x0), (.long x1)] 3 = mkF m 0 #[oR x0, oJ x1, oS] [] := by first | (simp [entryFrame, mkF, argsToLocals, Value.category]; done) | rfl
def Q_rmF1 (Z : State) (a1 : Addr) (q : Int64) (wN : Addr) (kN : ClassId) (wS wT wE : Addr) (kS kT kE : ClassId) (mx : Int64) (x0 y0 z0 x1 y1 z1 x2 y2 z2 x3 y3 z3 x4 y4 z4 x5 y5 z5 x6 y6 z6 x7 y7 z7 : Int64) (h0 : Heap) (n0 : Nat) (v : Option Value) (h : Heap) (L : List Loc) : Prop := v = none ∧ Fr n0 L ∧ Keep h0 h [a1] ∧ Fld Z h a1 "com/example/opledger/opledger/AppendTimes" "seqNos" "[J" (.ref wS) ∧ Fld Z h a1 "com/example/opledger/opledger/AppendTimes" "starts" "[J" (.ref wT) ∧ Fld Z h a1 "com/example/opledger/opledger/AppendTimes" "ends" "[J" (.ref wE) ∧ Fld Z h a1 "com/example/opledger/opledger/AppendTimes" "first" "I" (.int (1 : Int32)) ∧ Fld Z h a1 "com/example/opledger/opledger/AppendTimes" "last" "I" (.int (2 : Int32)) ∧ Fld Z h a1 "com/example/opledger/opledger/AppendTimes" "maxSeqNo" "J" (.long mx) ∧ Fld Z h a1 "com/example/opledger/opledger/AppendTimes" "mergeAt" "I" (.int (64 : Int32)) ∧ Arv Z h wS kS .long (8 : Int32) [(.long x0), (.long x1), (.long x2), (.long x3), (.long x4), (.long x5), (.long x6), (.long x7)] (.long (0 : Int64)) ∧ Arv Z h wT kT .long (8 : Int32) [(.long y0), (.long y1), (.long y2), (.long y3), (.long y4), (.long y5), (.long y6), (.long y7)] (.long (0 : Int64)) ∧ Arv Z h wE kE .long (8 : Int32) [(.long z0), (.long z1), (.long z2), (.long z3), (.long z4), (.long z5), (.long z6), (.long z7)] (.long (0 : Int64))
set_option maxRecDepth 65536 in
set_option maxHeartbeats 40000000 in
theorem rmF1 (l : Launch) (Z : State) (a0 : Array Value) (hw : ∀ d ∈ tables_1, d.before a0 Z = true) (ws : List Jvm.Cond) (a1 : Addr) (q : Int64) (wN : Addr) (kN : ClassId) (wS wT wE : Addr) (kS kT kE : ClassId) (mx : Int64) (x0 y0 z0 x1 y1 z1 x2 y2 z2 x3 y3 z3 x4 y4 z4 x5 y5 z5 x6 y6 z6 x7 y7 z7 : Int64) (h0 : Heap) (n0 : Nat) (Z0 : n0 ≤ h0.size) (O0 : Old Z n0 h0) (S_NO : Sta Z Z.heap "com/example/opledger/opledger/AppendTimes" "NO_ENTRIES" "[J" (.ref wN)) (VN : Arv Z Z.heap wN kN .long (0 : Int32) [] (.long (0 : Int64))) (E1 : Exa Z h0 a1 "com/example/opledger/opledger/AppendTimes") (F_seqNos : Fld Z h0 a1 "com/example/opledger/opledger/AppendTimes" "seqNos" "[J" (.ref wS)) (F_starts : Fld Z h0 a1 "com/example/opledger/opledger/AppendTimes" "starts" "[J" (.ref wT)) (F_ends : Fld Z h0 a1 "com/example/opledger/opledger/AppendTimes" "ends" "[J" (.ref wE)) (F_first : Fld Z h0 a1 "com/example/opledger/opledger/AppendTimes" "first" "I" (.int (0 : Int32))) (F_last : Fld Z h0 a1 "com/example/opledger/opledger/AppendTimes" "last" "I" (.int (2 : Int32))) (F_maxSeqNo : Fld Z h0 a1 "com/example/opledger/opledger/AppendTimes" "maxSeqNo" "J" (.long mx)) (F_mergeAt : Fld Z h0 a1 "com/example/opledger/opledger/AppendTimes" "mergeAt" "I" (.int (64 : Int32))) (V_wS : Arv Z h0 wS kS .long (8 : Int32) [(.long x0), (.long x1), (.long x2), (.long x3), (.long x4), (.long x5), (.long x6), (.long x7)] (.long (0 : Int64))) (V_wT : Arv Z h0 wT kT .long (8 : Int32) [(.long y0), (.long y1), (.long y2), (.long y3), (.long y4), (.long y5), (.long y6), (.long y7)] (.long (0 : Int64))) (V_wE : Arv Z h0 wE kE .long (8 : Int32) [(.long z0), (.long z1), (.long z2), (.long z3), (.long z4), (.long z5), (.long z6), (.long z7)] (.long (0 : Int64))) (g_a1 : n0 ≤ a1) (g_wS : n0 ≤ wS) (g_wT : n0 ≤ wT) (g_wE : n0 ≤ wE) (ne_a1_wS : a1 ≠ wS) (ne_a1_wT : a1 ≠ wT) (ne_a1_wE : a1 ≠ wE) (ne_wS_wT : wS ≠ wT) (ne_wS_wE : wS ≠ wE) (ne_wT_wE : wT ≠ wE) (hq0 : ¬ q < x0) (hq1 : q < x1) :
    MetFree l (⟨"com/example/opledger/opledger/AppendTimes", "forgetUpTo", "(J)V"⟩ : MethodName) (head1 (Jvm.Cond.code (⟨"com/example/opledger/opledger/AppendTimes", "forgetUpTo", "(J)V"⟩ : MethodName) prog_1_method_7_code 3 none :: ws) ({ frames := 0, cells := 0, slots := 0, locals := 0 } : Room)) (fun a U => a = #[(.ref a1), (.long q)] ∧ Z.Warmed39 U.vm ∧ U.heap = h0) (fun _ _ _ _ _ => True) (fun _ U o U' => ∃ v L, o = .returned v ∧ Q_rmF1 Z a1 q wN kN wS wT wE kS kT kE mx x0 y0 z0 x1 y1 z1 x2 y2 z2 x3 y3 z3 x4 y4 z4 x5 y5 z5 x6 y6 z6 x7 y7 z7 h0 n0 v U'.heap L ∧ FrameEnd U o U' L ({ frames := 0, cells := 0, slots := 0, locals := 0 } : Room).cells ({ frames := 0, cells := 0, slots := 0, locals := 0 } : Room).slots) := by
  refine own_body (Q := fun v h L => Q_rmF1 Z a1 q wN kN wS wT wE kS kT kE mx x0 y0 z0 x1 y1 z1 x2 y2 z2 x3 y3 z3 x4 y4 z4 x5 y5 z5 x6 y6 z6 x7 y7 z7 h0 n0 v h L) pn_8 ?_
  intro p e s m below meth c s₁ G X0 hx hZ hby hml hown hnm hrt e0 hG hF
  have hown : s.vm.findClass "com/example/opledger/opledger/AppendTimes" = some m.cls := hown
  have N0 := Fr.nil n0
  rw [ef_rmF1 m a1 q]
  show G (s₁.setTop (mkF m 0 #[oR a1, oJ q, oS] []))
  refine hG _ (s₁.setTop (mkF m 1 #[oR a1, oJ q, oS] [(.ref a1)])) (fun t₀ k₀ => ?_) ?_
  · show Steps p.tables e below (s₁.setTop (mkF m 0 #[oR a1, oJ q, oS] [])) t₀
    refine XS.aloadN X0.here hx rfl (hb hby d8_0) rfl rfl ?_
    exact k₀
  obtain ⟨T1, X1, e1, st1⟩ := getF X0 hx hZ hown (host := "") (Or.inl (hw _ (List.mem_of_getElem? (i := 33) rfl))) Via.refl e0 F_first (g := (mkF m 1 #[oR a1, oJ q, oS] [(.ref a1)])) rfl rfl (hb hby d8_1)
  refine hG _ _ (fun t₀ k₀ => st1 _ k₀) ?_
  show G (T1.setTop (mkF m 4 #[oR a1, oJ q, oS] [(.int (0 : Int32))]))
  refine hG _ (T1.setTop (mkF m 5 #[oR a1, oJ q, oS] [(.ref a1), (.int (0 : Int32))])) (fun t₀ k₀ => ?_) ?_
  · show Steps p.tables e below (T1.setTop (mkF m 4 #[oR a1, oJ q, oS] [(.int (0 : Int32))])) t₀
    refine XS.aloadN X1.here hx rfl (hb hby d8_4) rfl rfl ?_
    exact k₀
  obtain ⟨T2, X2, e2, st2⟩ := getF X1 hx hZ hown (host := "") (Or.inl (hw _ (List.mem_of_getElem? (i := 21) rfl))) Via.refl e1 F_last (g := (mkF m 5 #[oR a1, oJ q, oS] [(.ref a1), (.int (0 : Int32))])) rfl rfl (hb hby d8_5)
  refine hG _ _ (fun t₀ k₀ => st2 _ k₀) ?_
  show G (T2.setTop (mkF m 8 #[oR a1, oJ q, oS] [(.int (2 : Int32)), (.int (0 : Int32))]))
  refine hG _ (T2.setTop (mkF m 12 #[oR a1, oJ q, oS] [(.ref a1)])) (fun t₀ k₀ => ?_) ?_
  · show Steps p.tables e below (T2.setTop (mkF m 8 #[oR a1, oJ q, oS] [(.int (2 : Int32)), (.int (0 : Int32))])) t₀
    refine XS.icmpNo X2.here hx rfl (hb hby d8_8) rfl (flt (by decide : ¬ ((2 : Int32) < (0 : Int32)))).2.2.1 ?_
    show Steps p.tables e below (T2.setTop (mkF m 11 #[oR a1, oJ q, oS] [])) t₀
    refine XS.aloadN X2.here hx rfl (hb hby d8_11) rfl rfl ?_
    exact k₀
  obtain ⟨T3, X3, e3, st3⟩ := getF X2 hx hZ hown (host := "") (Or.inl (hw _ (List.mem_of_getElem? (i := 15) rfl))) Via.refl e2 F_seqNos (g := (mkF m 12 #[oR a1, oJ q, oS] [(.ref a1)])) rfl rfl (hb hby d8_12)
  refine hG _ _ (fun t₀ k₀ => st3 _ k₀) ?_
  show G (T3.setTop (mkF m 15 #[oR a1, oJ q, oS] [(.ref wS)]))
  refine hG _ (T3.setTop (mkF m 16 #[oR a1, oJ q, oS] [(.ref a1), (.ref wS)])) (fun t₀ k₀ => ?_) ?_
  · show Steps p.tables e below (T3.setTop (mkF m 15 #[oR a1, oJ q, oS] [(.ref wS)])) t₀
    refine XS.aloadN X3.here hx rfl (hb hby d8_15) rfl rfl ?_
    exact k₀
  obtain ⟨T4, X4, e4, st4⟩ := getF X3 hx hZ hown (host := "") (Or.inl (hw _ (List.mem_of_getElem? (i := 33) rfl))) Via.refl e3 F_first (g := (mkF m 16 #[oR a1, oJ q, oS] [(.ref a1), (.ref wS)])) rfl rfl (hb hby d8_16)
  refine hG _ _ (fun t₀ k₀ => st4 _ k₀) ?_
  show G (T4.setTop (mkF m 19 #[oR a1, oJ q, oS] [(.int (0 : Int32)), (.ref wS)]))
  have ov5 := V_wS
  obtain ⟨cl5, Ar5, q5, S5, N_5, H_5, G_5⟩ := ov5
  have hin5 : ¬ ((0 : Int32) < 0 ∨ cl5.slots.size ≤ ((0 : Int32)).toNatClampNeg) := inb_of S5 ⟨by decide, by decide⟩
  have hat5 : cl5.slots[((0 : Int32)).toNatClampNeg]? = some (.long x0) := H_5.at hin5 rfl
  refine hG _ (T4.setTop (mkF m 27 #[oR a1, oJ q, oS] [(.ref a1), (.ref a1)])) (fun t₀ k₀ => ?_) ?_
  · show Steps p.tables e below (T4.setTop (mkF m 19 #[oR a1, oJ q, oS] [(.int (0 : Int32)), (.ref wS)])) t₀
    refine X4.laload hx (j := (0 : Int32)) (v := (.long x0)) (by rw [e4]; exact Ar5.1) (State.isArrayOf_alike hZ.alike Ar5.2.1) Ar5.2.2 hin5 hat5 (g := (mkF m 19 #[oR a1, oJ q, oS] [(.int (0 : Int32)), (.ref wS)])) rfl rfl (hb hby d8_19) _ ?_
    show Steps p.tables e below (T4.setTop (mkF m 20 #[oR a1, oJ q, oS] [(.long x0)])) t₀
    refine XS.lloadN X4.here hx rfl (hb hby d8_20) rfl ?_
    show Steps p.tables e below (T4.setTop (mkF m 21 #[oR a1, oJ q, oS] [(.long q), (.long x0)])) t₀
    refine XS.lcmp X4.here hx rfl (hb hby d8_21) rfl ?_
    show Steps p.tables e below (T4.setTop (mkF m 22 #[oR a1, oJ q, oS] [(.int (lcmpW x0 q))])) t₀
    refine XS.ifNo X4.here hx rfl (hb hby d8_22) rfl ((if0 _ _).trans (flt (fun z => hq0 ((lw_gt x0 q).mp z))).2.2.1) ?_
    show Steps p.tables e below (T4.setTop (mkF m 25 #[oR a1, oJ q, oS] [])) t₀
    refine XS.aloadN X4.here hx rfl (hb hby d8_25) rfl rfl ?_
    show Steps p.tables e below (T4.setTop (mkF m 26 #[oR a1, oJ q, oS] [(.ref a1)])) t₀
    refine XS.dup X4.here hx rfl (hb hby d8_26) rfl rfl ?_
    exact k₀
  obtain ⟨T6, X6, e6, st6⟩ := getF X4 hx hZ hown (host := "") (Or.inl (hw _ (List.mem_of_getElem? (i := 33) rfl))) Via.refl e4 F_first (g := (mkF m 27 #[oR a1, oJ q, oS] [(.ref a1), (.ref a1)])) rfl rfl (hb hby d8_27)
  refine hG _ _ (fun t₀ k₀ => st6 _ k₀) ?_
  show G (T6.setTop (mkF m 30 #[oR a1, oJ q, oS] [(.int (0 : Int32)), (.ref a1)]))
  refine hG _ (T6.setTop (mkF m 32 #[oR a1, oJ q, oS] [(.int (1 : Int32)), (.ref a1)])) (fun t₀ k₀ => ?_) ?_
  · show Steps p.tables e below (T6.setTop (mkF m 30 #[oR a1, oJ q, oS] [(.int (0 : Int32)), (.ref a1)])) t₀
    refine XS.iconst X6.here hx rfl (hb hby d8_30) ?_
    show Steps p.tables e below (T6.setTop (mkF m 31 #[oR a1, oJ q, oS] [(.int (1 : Int32)), (.int (0 : Int32)), (.ref a1)])) t₀
    refine XS.iadd X6.here hx rfl (hb hby d8_31) rfl ?_
    exact k₀
  obtain ⟨T7, h7, X7, e7, W7, st7⟩ := putF X6 hx hZ hown (host := "") (Or.inl (hw _ (List.mem_of_getElem? (i := 33) rfl))) Via.refl e6 F_first E1 (Or.inl (hw _ (List.mem_of_getElem? (i := 34) rfl))) (hw _ (List.mem_of_getElem? (i := 5) rfl)) (ty := .int) (by decide) rfl rfl (g := (mkF m 32 #[oR a1, oJ q, oS] [(.int (1 : Int32)), (.ref a1)])) rfl rfl (hb hby d8_32)
  refine hG _ _ (fun t₀ k₀ => st7 _ k₀) ?_
  have N7 := Fr.snoc X7 N0 g_a1
  have o_x7 := O0.wr W7 g_a1
  have ea1_x7 := E1.wr W7
  have fa1_seqNos_x7 := F_seqNos.other W7 (Or.inr (slot_ne (Or.inl (hw _ (List.mem_of_getElem? (i := 16) rfl))) (Or.inl (hw _ (List.mem_of_getElem? (i := 34) rfl))) (by decide) (t := (.array .long)) (t' := .int) (by decide) (by decide)))
  have fa1_starts_x7 := F_starts.other W7 (Or.inr (slot_ne (Or.inl (hw _ (List.mem_of_getElem? (i := 18) rfl))) (Or.inl (hw _ (List.mem_of_getElem? (i := 34) rfl))) (by decide) (t := (.array .long)) (t' := .int) (by decide) (by decide)))
  have fa1_ends_x7 := F_ends.other W7 (Or.inr (slot_ne (Or.inl (hw _ (List.mem_of_getElem? (i := 20) rfl))) (Or.inl (hw _ (List.mem_of_getElem? (i := 34) rfl))) (by decide) (t := (.array .long)) (t' := .int) (by decide) (by decide)))
  have fa1_last_x7 := F_last.other W7 (Or.inr (slot_ne (Or.inl (hw _ (List.mem_of_getElem? (i := 22) rfl))) (Or.inl (hw _ (List.mem_of_getElem? (i := 34) rfl))) (by decide) (t := .int) (t' := .int) (by decide) (by decide)))
  have fa1_maxSeqNo_x7 := F_maxSeqNo.other W7 (Or.inr (slot_ne (Or.inl (hw _ (List.mem_of_getElem? (i := 25) rfl))) (Or.inl (hw _ (List.mem_of_getElem? (i := 34) rfl))) (by decide) (t := .long) (t' := .int) (by decide) (by decide)))
  have fa1_mergeAt_x7 := F_mergeAt.other W7 (Or.inr (slot_ne (Or.inl (hw _ (List.mem_of_getElem? (i := 27) rfl))) (Or.inl (hw _ (List.mem_of_getElem? (i := 34) rfl))) (by decide) (t := .int) (t' := .int) (by decide) (by decide)))
  have vwS_x7 := V_wS.other W7 (Ne.symm ne_a1_wS)
  have vwT_x7 := V_wT.other W7 (Ne.symm ne_a1_wT)
  have vwE_x7 := V_wE.other W7 (Ne.symm ne_a1_wE)
  have k_x7 := (Keep.refl h0 [a1]).wr W7 (Or.inl (List.mem_of_getElem? (i := 0) rfl))
  have z_7 : n0 ≤ h7.size := Nat.le_trans Z0 (Keep.of_wr W7).1
  have F7_first := F_first.same W7
  show G (T7.setTop (mkF m 35 #[oR a1, oJ q, oS] []))
  refine hG _ (T7.setTop (mkF m 1 #[oR a1, oJ q, oS] [(.ref a1)])) (fun t₀ k₀ => ?_) ?_
  · show Steps p.tables e below (T7.setTop (mkF m 35 #[oR a1, oJ q, oS] [])) t₀
    refine XS.goto X7.here hx rfl (pc0 := 35) (pc' := 0) rfl (hb hby d8_35) (by decide) (by decide) ?_
    show Steps p.tables e below (T7.setTop (mkF m 0 #[oR a1, oJ q, oS] [])) t₀
    refine XS.aloadN X7.here hx rfl (hb hby d8_0) rfl rfl ?_
    exact k₀
  obtain ⟨T8, X8, e8, st8⟩ := getF X7 hx hZ hown (host := "") (Or.inl (hw _ (List.mem_of_getElem? (i := 33) rfl))) Via.refl e7 F7_first (g := (mkF m 1 #[oR a1, oJ q, oS] [(.ref a1)])) rfl rfl (hb hby d8_1)
  refine hG _ _ (fun t₀ k₀ => st8 _ k₀) ?_
  show G (T8.setTop (mkF m 4 #[oR a1, oJ q, oS] [(.int (1 : Int32))]))
  refine hG _ (T8.setTop (mkF m 5 #[oR a1, oJ q, oS] [(.ref a1), (.int (1 : Int32))])) (fun t₀ k₀ => ?_) ?_
  · show Steps p.tables e below (T8.setTop (mkF m 4 #[oR a1, oJ q, oS] [(.int (1 : Int32))])) t₀
    refine XS.aloadN X8.here hx rfl (hb hby d8_4) rfl rfl ?_
    exact k₀
  obtain ⟨T9, X9, e9, st9⟩ := getF X8 hx hZ hown (host := "") (Or.inl (hw _ (List.mem_of_getElem? (i := 21) rfl))) Via.refl e8 fa1_last_x7 (g := (mkF m 5 #[oR a1, oJ q, oS] [(.ref a1), (.int (1 : Int32))])) rfl rfl (hb hby d8_5)
  refine hG _ _ (fun t₀ k₀ => st9 _ k₀) ?_
  show G (T9.setTop (mkF m 8 #[oR a1, oJ q, oS] [(.int (2 : Int32)), (.int (1 : Int32))]))
  refine hG _ (T9.setTop (mkF m 12 #[oR a1, oJ q, oS] [(.ref a1)])) (fun t₀ k₀ => ?_) ?_
  · show Steps p.tables e below (T9.setTop (mkF m 8 #[oR a1, oJ q, oS] [(.int (2 : Int32)), (.int (1 : Int32))])) t₀
    refine XS.icmpNo X9.here hx rfl (hb hby d8_8) rfl (flt (by decide : ¬ ((2 : Int32) < (1 : Int32)))).2.2.1 ?_
    show Steps p.tables e below (T9.setTop (mkF m 11 #[oR a1, oJ q, oS] [])) t₀
    refine XS.aloadN X9.here hx rfl (hb hby d8_11) rfl rfl ?_
    exact k₀
  obtain ⟨T10, X10, e10, st10⟩ := getF X9 hx hZ hown (host := "") (Or.inl (hw _ (List.mem_of_getElem? (i := 15) rfl))) Via.refl e9 fa1_seqNos_x7 (g := (mkF m 12 #[oR a1, oJ q, oS] [(.ref a1)])) rfl rfl (hb hby d8_12)
  refine hG _ _ (fun t₀ k₀ => st10 _ k₀) ?_
  show G (T10.setTop (mkF m 15 #[oR a1, oJ q, oS] [(.ref wS)]))
  refine hG _ (T10.setTop (mkF m 16 #[oR a1, oJ q, oS] [(.ref a1), (.ref wS)])) (fun t₀ k₀ => ?_) ?_
  · show Steps p.tables e below (T10.setTop (mkF m 15 #[oR a1, oJ q, oS] [(.ref wS)])) t₀
    refine XS.aloadN X10.here hx rfl (hb hby d8_15) rfl rfl ?_
    exact k₀
  obtain ⟨T11, X11, e11, st11⟩ := getF X10 hx hZ hown (host := "") (Or.inl (hw _ (List.mem_of_getElem? (i := 33) rfl))) Via.refl e10 F7_first (g := (mkF m 16 #[oR a1, oJ q, oS] [(.ref a1), (.ref wS)])) rfl rfl (hb hby d8_16)
  refine hG _ _ (fun t₀ k₀ => st11 _ k₀) ?_
  show G (T11.setTop (mkF m 19 #[oR a1, oJ q, oS] [(.int (1 : Int32)), (.ref wS)]))
  have ov12 := vwS_x7
  obtain ⟨cl12, Ar12, q12, S12, N_12, H_12, G_12⟩ := ov12
  have hin12 : ¬ ((1 : Int32) < 0 ∨ cl12.slots.size ≤ ((1 : Int32)).toNatClampNeg) := inb_of S12 ⟨by decide, by decide⟩
  have hat12 : cl12.slots[((1 : Int32)).toNatClampNeg]? = some (.long x1) := H_12.at hin12 rfl
  refine hG _ (T11.setTop (mkF m 39 #[oR a1, oJ q, oS] [(.ref a1)])) (fun t₀ k₀ => ?_) ?_
  · show Steps p.tables e below (T11.setTop (mkF m 19 #[oR a1, oJ q, oS] [(.int (1 : Int32)), (.ref wS)])) t₀
    refine X11.laload hx (j := (1 : Int32)) (v := (.long x1)) (by rw [e11]; exact Ar12.1) (State.isArrayOf_alike hZ.alike Ar12.2.1) Ar12.2.2 hin12 hat12 (g := (mkF m 19 #[oR a1, oJ q, oS] [(.int (1 : Int32)), (.ref wS)])) rfl rfl (hb hby d8_19) _ ?_
    show Steps p.tables e below (T11.setTop (mkF m 20 #[oR a1, oJ q, oS] [(.long x1)])) t₀
    refine XS.lloadN X11.here hx rfl (hb hby d8_20) rfl ?_
    show Steps p.tables e below (T11.setTop (mkF m 21 #[oR a1, oJ q, oS] [(.long q), (.long x1)])) t₀
    refine XS.lcmp X11.here hx rfl (hb hby d8_21) rfl ?_
    show Steps p.tables e below (T11.setTop (mkF m 22 #[oR a1, oJ q, oS] [(.int (lcmpW x1 q))])) t₀
    refine XS.ifYes X11.here hx rfl (pc0 := 22) (pc' := 38) rfl (hb hby d8_22) rfl ((if0 _ _).trans (tlt ((lw_gt x1 q).mpr hq1)).2.2.1) (by decide) (by decide) ?_
    show Steps p.tables e below (T11.setTop (mkF m 38 #[oR a1, oJ q, oS] [])) t₀
    refine XS.aloadN X11.here hx rfl (hb hby d8_38) rfl rfl ?_
    exact k₀
  obtain ⟨T13, X13, e13, st13⟩ := getF X11 hx hZ hown (host := "") (Or.inl (hw _ (List.mem_of_getElem? (i := 33) rfl))) Via.refl e11 F7_first (g := (mkF m 39 #[oR a1, oJ q, oS] [(.ref a1)])) rfl rfl (hb hby d8_39)
  refine hG _ _ (fun t₀ k₀ => st13 _ k₀) ?_
  show G (T13.setTop (mkF m 42 #[oR a1, oJ q, oS] [(.int (1 : Int32))]))
  refine hG _ (T13.setTop (mkF m 43 #[oR a1, oJ q, oS] [(.ref a1), (.int (1 : Int32))])) (fun t₀ k₀ => ?_) ?_
  · show Steps p.tables e below (T13.setTop (mkF m 42 #[oR a1, oJ q, oS] [(.int (1 : Int32))])) t₀
    refine XS.aloadN X13.here hx rfl (hb hby d8_42) rfl rfl ?_
    exact k₀
  obtain ⟨T14, X14, e14, st14⟩ := getF X13 hx hZ hown (host := "") (Or.inl (hw _ (List.mem_of_getElem? (i := 21) rfl))) Via.refl e13 fa1_last_x7 (g := (mkF m 43 #[oR a1, oJ q, oS] [(.ref a1), (.int (1 : Int32))])) rfl rfl (hb hby d8_43)
  refine hG _ _ (fun t₀ k₀ => st14 _ k₀) ?_
  show G (T14.setTop (mkF m 46 #[oR a1, oJ q, oS] [(.int (2 : Int32)), (.int (1 : Int32))]))
  refine hG _ (T14.setTop (mkF m 86 #[oR a1, oJ q, oS] [])) (fun t₀ k₀ => ?_) ?_
  · show Steps p.tables e below (T14.setTop (mkF m 46 #[oR a1, oJ q, oS] [(.int (2 : Int32)), (.int (1 : Int32))])) t₀
    refine XS.icmpYes X14.here hx rfl (pc0 := 46) (pc' := 86) rfl (hb hby d8_46) rfl (flt (by decide : ¬ ((2 : Int32) < (1 : Int32)))).2.2.2 (by decide) (by decide) ?_
    exact k₀
  refine hF _ T14 _ _ _ none _ X14 e14 (fun _ => rfl) (by decide) (by decide) ?_ (fun fs hr => X14.returnOut hx hrt (hb hby d8_86) hr)
  exact ⟨rfl, N7, k_x7, fa1_seqNos_x7, fa1_starts_x7, fa1_ends_x7, F7_first, fa1_last_x7, fa1_maxSeqNo_x7, fa1_mergeAt_x7, vwS_x7, vwT_x7, vwE_x7⟩
theorem ef_rmF2 (m : MethodId) (x0 : Addr) (x1 : Int64) : entryFrame m #[(.ref x0), (.long x1)] 3 = mkF m 0 #[oR x0, oJ x1, oS] [] := by first | (simp [entryFrame, mkF, argsToLocals, Value.category]; done) | rfl
def Q_rmF2 (Z : State) (a1 : Addr) (q : Int64) (wN : Addr) (kN : ClassId) (wS wT wE : Addr) (kS kT kE : ClassId) (mx : Int64) (x0 y0 z0 x1 y1 z1 x2 y2 z2 x3 y3 z3 x4 y4 z4 x5 y5 z5 x6 y6 z6 x7 y7 z7 : Int64) (h0 : Heap) (n0 : Nat) (v : Option Value) (h : Heap) (L : List Loc) : Prop := v = none ∧ Fr n0 L ∧ Keep h0 h [a1] ∧ Fld Z h a1 "com/example/opledger/opledger/AppendTimes" "seqNos" "[J" (.ref wS) ∧ Fld Z h a1 "com/example/opledger/opledger/AppendTimes" "starts" "[J" (.ref wT) ∧ Fld Z h a1 "com/example/opledger/opledger/AppendTimes" "ends" "[J" (.ref wE) ∧ Fld Z h a1 "com/example/opledger/opledger/AppendTimes" "first" "I" (.int (2 : Int32)) ∧ Fld Z h a1 "com/example/opledger/opledger/AppendTimes" "last" "I" (.int (2 : Int32)) ∧ Fld Z h a1 "com/example/opledger/opledger/AppendTimes" "maxSeqNo" "J" (.long mx) ∧ Fld Z h a1 "com/example/opledger/opledger/AppendTimes" "mergeAt" "I" (.int (64 : Int32)) ∧ Arv Z h wS kS .long (8 : Int32) [(.long x0), (.long x1), (.long x2), (.long x3), (.long x4), (.long x5), (.long x6), (.long x7)] (.long (0 : Int64)) ∧ Arv Z h wT kT .long (8 : Int32) [(.long y0), (.long y1), (.long y2), (.long y3), (.long y4), (.long y5), (.long y6), (.long y7)] (.long (0 : Int64)) ∧ Arv Z h wE kE .long (8 : Int32) [(.long z0), (.long z1), (.long z2), (.long z3), (.long z4), (.long z5), (.long z6), (.long z7)] (.long (0 : Int64))
set_option maxRecDepth 65536 in
set_option maxHeartbeats 40000000 in
theorem rmF2 (l : Launch) (Z : State) (a0 : Array Value) (hw : ∀ d ∈ tables_1, d.before a0 Z = true) (ws : List Jvm.Cond) (a1 : Addr) (q : Int64) (wN : Addr) (kN : ClassId) (wS wT wE : Addr) (kS kT kE : ClassId) (mx : Int64) (x0 y0 z0 x1 y1 z1 x2 y2 z2 x3 y3 z3 x4 y4 z4 x5 y5 z5 x6 y6 z6 x7 y7 z7 : Int64) (h0 : Heap) (n0 : Nat) (Z0 : n0 ≤ h0.size) (O0 : Old Z n0 h0) (S_NO : Sta Z Z.heap "com/example/opledger/opledger/AppendTimes" "NO_ENTRIES" "[J" (.ref wN)) (VN : Arv Z Z.heap wN kN .long (0 : Int32) [] (.long (0 : Int64))) (E1 : Exa Z h0 a1 "com/example/opledger/opledger/AppendTimes") (F_seqNos : Fld Z h0 a1 "com/example/opledger/opledger/AppendTimes" "seqNos" "[J" (.ref wS)) (F_starts : Fld Z h0 a1 "com/example/opledger/opledger/AppendTimes" "starts" "[J" (.ref wT)) (F_ends : Fld Z h0 a1 "com/example/opledger/opledger/AppendTimes" "ends" "[J" (.ref wE)) (F_first : Fld Z h0 a1 "com/example/opledger/opledger/AppendTimes" "first" "I" (.int (0 : Int32))) (F_last : Fld Z h0 a1 "com/example/opledger/opledger/AppendTimes" "last" "I" (.int (2 : Int32))) (F_maxSeqNo : Fld Z h0 a1 "com/example/opledger/opledger/AppendTimes" "maxSeqNo" "J" (.long mx)) (F_mergeAt : Fld Z h0 a1 "com/example/opledger/opledger/AppendTimes" "mergeAt" "I" (.int (64 : Int32))) (V_wS : Arv Z h0 wS kS .long (8 : Int32) [(.long x0), (.long x1), (.long x2), (.long x3), (.long x4), (.long x5), (.long x6), (.long x7)] (.long (0 : Int64))) (V_wT : Arv Z h0 wT kT .long (8 : Int32) [(.long y0), (.long y1), (.long y2), (.long y3), (.long y4), (.long y5), (.long y6), (.long y7)] (.long (0 : Int64))) (V_wE : Arv Z h0 wE kE .long (8 : Int32) [(.long z0), (.long z1), (.long z2), (.long z3), (.long z4), (.long z5), (.long z6), (.long z7)] (.long (0 : Int64))) (g_a1 : n0 ≤ a1) (g_wS : n0 ≤ wS) (g_wT : n0 ≤ wT) (g_wE : n0 ≤ wE) (ne_a1_wS : a1 ≠ wS) (ne_a1_wT : a1 ≠ wT) (ne_a1_wE : a1 ≠ wE) (ne_wS_wT : wS ≠ wT) (ne_wS_wE : wS ≠ wE) (ne_wT_wE : wT ≠ wE) (hq0 : ¬ q < x0) (hq1 : ¬ q < x1) (hq2 : q < x2) :
    MetFree l (⟨"com/example/opledger/opledger/AppendTimes", "forgetUpTo", "(J)V"⟩ : MethodName) (head1 (Jvm.Cond.code (⟨"com/example/opledger/opledger/AppendTimes", "forgetUpTo", "(J)V"⟩ : MethodName) prog_1_method_7_code 3 none :: ws) ({ frames := 0, cells := 0, slots := 0, locals := 0 } : Room)) (fun a U => a = #[(.ref a1), (.long q)] ∧ Z.Warmed39 U.vm ∧ U.heap = h0) (fun _ _ _ _ _ => True) (fun _ U o U' => ∃ v L, o = .returned v ∧ Q_rmF2 Z a1 q wN kN wS wT wE kS kT kE mx x0 y0 z0 x1 y1 z1 x2 y2 z2 x3 y3 z3 x4 y4 z4 x5 y5 z5 x6 y6 z6 x7 y7 z7 h0 n0 v U'.heap L ∧ FrameEnd U o U' L ({ frames := 0, cells := 0, slots := 0, locals := 0 } : Room).cells ({ frames := 0, cells := 0, slots := 0, locals := 0 } : Room).slots) := by
  refine own_body (Q := fun v h L => Q_rmF2 Z a1 q wN kN wS wT wE kS kT kE mx x0 y0 z0 x1 y1 z1 x2 y2 z2 x3 y3 z3 x4 y4 z4 x5 y5 z5 x6 y6 z6 x7 y7 z7 h0 n0 v h L) pn_8 ?_
  intro p e s m below meth c s₁ G X0 hx hZ hby hml hown hnm hrt e0 hG hF
  have hown : s.vm.findClass "com/example/opledger/opledger/AppendTimes" = some m.cls := hown
  have N0 := Fr.nil n0
  rw [ef_rmF2 m a1 q]
  show G (s₁.setTop (mkF m 0 #[oR a1, oJ q, oS] []))
  refine hG _ (s₁.setTop (mkF m 1 #[oR a1, oJ q, oS] [(.ref a1)])) (fun t₀ k₀ => ?_) ?_
  · show Steps p.tables e below (s₁.setTop (mkF m 0 #[oR a1, oJ q, oS] [])) t₀
    refine XS.aloadN X0.here hx rfl (hb hby d8_0) rfl rfl ?_
    exact k₀
  obtain ⟨T1, X1, e1, st1⟩ := getF X0 hx hZ hown (host := "") (Or.inl (hw _ (List.mem_of_getElem? (i := 33) rfl))) Via.refl e0 F_first (g := (mkF m 1 #[oR a1, oJ q, oS] [(.ref a1)])) rfl rfl (hb hby d8_1)
  refine hG _ _ (fun t₀ k₀ => st1 _ k₀) ?_
  show G (T1.setTop (mkF m 4 #[oR a1, oJ q, oS] [(.int (0 : Int32))]))
  refine hG _ (T1.setTop (mkF m 5 #[oR a1, oJ q, oS] [(.ref a1), (.int (0 : Int32))])) (fun t₀ k₀ => ?_) ?_
  · show Steps p.tables e below (T1.setTop (mkF m 4 #[oR a1, oJ q, oS] [(.int (0 : Int32))])) t₀
    refine XS.aloadN X1.here hx rfl (hb hby d8_4) rfl rfl ?_
    exact k₀
  obtain ⟨T2, X2, e2, st2⟩ := getF X1 hx hZ hown (host := "") (Or.inl (hw _ (List.mem_of_getElem? (i := 21) rfl))) Via.refl e1 F_last (g := (mkF m 5 #[oR a1, oJ q, oS] [(.ref a1), (.int (0 : Int32))])) rfl rfl (hb hby d8_5)
  refine hG _ _ (fun t₀ k₀ => st2 _ k₀) ?_
  show G (T2.setTop (mkF m 8 #[oR a1, oJ q, oS] [(.int (2 : Int32)), (.int (0 : Int32))]))
  refine hG _ (T2.setTop (mkF m 12 #[oR a1, oJ q, oS] [(.ref a1)])) (fun t₀ k₀ => ?_) ?_
  · show Steps p.tables e below (T2.setTop (mkF m 8 #[oR a1, oJ q, oS] [(.int (2 : Int32)), (.int (0 : Int32))])) t₀
    refine XS.icmpNo X2.here hx rfl (hb hby d8_8) rfl (flt (by decide : ¬ ((2 : Int32) < (0 : Int32)))).2.2.1 ?_
    show Steps p.tables e below (T2.setTop (mkF m 11 #[oR a1, oJ q, oS] [])) t₀
    refine XS.aloadN X2.here hx rfl (hb hby d8_11) rfl rfl ?_
    exact k₀
  obtain ⟨T3, X3, e3, st3⟩ := getF X2 hx hZ hown (host := "") (Or.inl (hw _ (List.mem_of_getElem? (i := 15) rfl))) Via.refl e2 F_seqNos (g := (mkF m 12 #[oR a1, oJ q, oS] [(.ref a1)])) rfl rfl (hb hby d8_12)
  refine hG _ _ (fun t₀ k₀ => st3 _ k₀) ?_
  show G (T3.setTop (mkF m 15 #[oR a1, oJ q, oS] [(.ref wS)]))
  refine hG _ (T3.setTop (mkF m 16 #[oR a1, oJ q, oS] [(.ref a1), (.ref wS)])) (fun t₀ k₀ => ?_) ?_
  · show Steps p.tables e below (T3.setTop (mkF m 15 #[oR a1, oJ q, oS] [(.ref wS)])) t₀
    refine XS.aloadN X3.here hx rfl (hb hby d8_15) rfl rfl ?_
    exact k₀
  obtain ⟨T4, X4, e4, st4⟩ := getF X3 hx hZ hown (host := "") (Or.inl (hw _ (List.mem_of_getElem? (i := 33) rfl))) Via.refl e3 F_first (g := (mkF m 16 #[oR a1, oJ q, oS] [(.ref a1), (.ref wS)])) rfl rfl (hb hby d8_16)
  refine hG _ _ (fun t₀ k₀ => st4 _ k₀) ?_
  show G (T4.setTop (mkF m 19 #[oR a1, oJ q, oS] [(.int (0 : Int32)), (.ref wS)]))
  have ov5 := V_wS
  obtain ⟨cl5, Ar5, q5, S5, N_5, H_5, G_5⟩ := ov5
  have hin5 : ¬ ((0 : Int32) < 0 ∨ cl5.slots.size ≤ ((0 : Int32)).toNatClampNeg) := inb_of S5 ⟨by decide, by decide⟩
  have hat5 : cl5.slots[((0 : Int32)).toNatClampNeg]? = some (.long x0) := H_5.at hin5 rfl
  refine hG _ (T4.setTop (mkF m 27 #[oR a1, oJ q, oS] [(.ref a1), (.ref a1)])) (fun t₀ k₀ => ?_) ?_
  · show Steps p.tables e below (T4.setTop (mkF m 19 #[oR a1, oJ q, oS] [(.int (0 : Int32)), (.ref wS)])) t₀
    refine X4.laload hx (j := (0 : Int32)) (v := (.long x0)) (by rw [e4]; exact Ar5.1) (State.isArrayOf_alike hZ.alike Ar5.2.1) Ar5.2.2 hin5 hat5 (g := (mkF m 19 #[oR a1, oJ q, oS] [(.int (0 : Int32)), (.ref wS)])) rfl rfl (hb hby d8_19) _ ?_
    show Steps p.tables e below (T4.setTop (mkF m 20 #[oR a1, oJ q, oS] [(.long x0)])) t₀
    refine XS.lloadN X4.here hx rfl (hb hby d8_20) rfl ?_
    show Steps p.tables e below (T4.setTop (mkF m 21 #[oR a1, oJ q, oS] [(.long q), (.long x0)])) t₀
    refine XS.lcmp X4.here hx rfl (hb hby d8_21) rfl ?_
    show Steps p.tables e below (T4.setTop (mkF m 22 #[oR a1, oJ q, oS] [(.int (lcmpW x0 q))])) t₀
    refine XS.ifNo X4.here hx rfl (hb hby d8_22) rfl ((if0 _ _).trans (flt (fun z => hq0 ((lw_gt x0 q).mp z))).2.2.1) ?_
    show Steps p.tables e below (T4.setTop (mkF m 25 #[oR a1, oJ q, oS] [])) t₀
    refine XS.aloadN X4.here hx rfl (hb hby d8_25) rfl rfl ?_
    show Steps p.tables e below (T4.setTop (mkF m 26 #[oR a1, oJ q, oS] [(.ref a1)])) t₀
    refine XS.dup X4.here hx rfl (hb hby d8_26) rfl rfl ?_
    exact k₀
  obtain ⟨T6, X6, e6, st6⟩ := getF X4 hx hZ hown (host := "") (Or.inl (hw _ (List.mem_of_getElem? (i := 33) rfl))) Via.refl e4 F_first (g := (mkF m 27 #[oR a1, oJ q, oS] [(.ref a1), (.ref a1)])) rfl rfl (hb hby d8_27)
  refine hG _ _ (fun t₀ k₀ => st6 _ k₀) ?_
  show G (T6.setTop (mkF m 30 #[oR a1, oJ q, oS] [(.int (0 : Int32)), (.ref a1)]))
  refine hG _ (T6.setTop (mkF m 32 #[oR a1, oJ q, oS] [(.int (1 : Int32)), (.ref a1)])) (fun t₀ k₀ => ?_) ?_
  · show Steps p.tables e below (T6.setTop (mkF m 30 #[oR a1, oJ q, oS] [(.int (0 : Int32)), (.ref a1)])) t₀
    refine XS.iconst X6.here hx rfl (hb hby d8_30) ?_
    show Steps p.tables e below (T6.setTop (mkF m 31 #[oR a1, oJ q, oS] [(.int (1 : Int32)), (.int (0 : Int32)), (.ref a1)])) t₀
    refine XS.iadd X6.here hx rfl (hb hby d8_31) rfl ?_
    exact k₀
  obtain ⟨T7, h7, X7, e7, W7, st7⟩ := putF X6 hx hZ hown (host := "") (Or.inl (hw _ (List.mem_of_getElem? (i := 33) rfl))) Via.refl e6 F_first E1 (Or.inl (hw _ (List.mem_of_getElem? (i := 34) rfl))) (hw _ (List.mem_of_getElem? (i := 5) rfl)) (ty := .int) (by decide) rfl rfl (g := (mkF m 32 #[oR a1, oJ q, oS] [(.int (1 : Int32)), (.ref a1)])) rfl rfl (hb hby d8_32)
  refine hG _ _ (fun t₀ k₀ => st7 _ k₀) ?_
  have N7 := Fr.snoc X7 N0 g_a1
  have o_x7 := O0.wr W7 g_a1
  have ea1_x7 := E1.wr W7
  have fa1_seqNos_x7 := F_seqNos.other W7 (Or.inr (slot_ne (Or.inl (hw _ (List.mem_of_getElem? (i := 16) rfl))) (Or.inl (hw _ (List.mem_of_getElem? (i := 34) rfl))) (by decide) (t := (.array .long)) (t' := .int) (by decide) (by decide)))
  have fa1_starts_x7 := F_starts.other W7 (Or.inr (slot_ne (Or.inl (hw _ (List.mem_of_getElem? (i := 18) rfl))) (Or.inl (hw _ (List.mem_of_getElem? (i := 34) rfl))) (by decide) (t := (.array .long)) (t' := .int) (by decide) (by decide)))
  have fa1_ends_x7 := F_ends.other W7 (Or.inr (slot_ne (Or.inl (hw _ (List.mem_of_getElem? (i := 20) rfl))) (Or.inl (hw _ (List.mem_of_getElem? (i := 34) rfl))) (by decide) (t := (.array .long)) (t' := .int) (by decide) (by decide)))
  have fa1_last_x7 := F_last.other W7 (Or.inr (slot_ne (Or.inl (hw _ (List.mem_of_getElem? (i := 22) rfl))) (Or.inl (hw _ (List.mem_of_getElem? (i := 34) rfl))) (by decide) (t := .int) (t' := .int) (by decide) (by decide)))
  have fa1_maxSeqNo_x7 := F_maxSeqNo.other W7 (Or.inr (slot_ne (Or.inl (hw _ (List.mem_of_getElem? (i := 25) rfl))) (Or.inl (hw _ (List.mem_of_getElem? (i := 34) rfl))) (by decide) (t := .long) (t' := .int) (by decide) (by decide)))
  have fa1_mergeAt_x7 := F_mergeAt.other W7 (Or.inr (slot_ne (Or.inl (hw _ (List.mem_of_getElem? (i := 27) rfl))) (Or.inl (hw _ (List.mem_of_getElem? (i := 34) rfl))) (by decide) (t := .int) (t' := .int) (by decide) (by decide)))
  have vwS_x7 := V_wS.other W7 (Ne.symm ne_a1_wS)
  have vwT_x7 := V_wT.other W7 (Ne.symm ne_a1_wT)
  have vwE_x7 := V_wE.other W7 (Ne.symm ne_a1_wE)
  have k_x7 := (Keep.refl h0 [a1]).wr W7 (Or.inl (List.mem_of_getElem? (i := 0) rfl))
  have z_7 : n0 ≤ h7.size := Nat.le_trans Z0 (Keep.of_wr W7).1
  have F7_first := F_first.same W7
  show G (T7.setTop (mkF m 35 #[oR a1, oJ q, oS] []))
  refine hG _ (T7.setTop (mkF m 1 #[oR a1, oJ q, oS] [(.ref a1)])) (fun t₀ k₀ => ?_) ?_
  · show Steps p.tables e below (T7.setTop (mkF m 35 #[oR a1, oJ q, oS] [])) t₀
    refine XS.goto X7.here hx rfl (pc0 := 35) (pc' := 0) rfl (hb hby d8_35) (by decide) (by decide) ?_
    show Steps p.tables e below (T7.setTop (mkF m 0 #[oR a1, oJ q, oS] [])) t₀
    refine XS.aloadN X7.here hx rfl (hb hby d8_0) rfl rfl ?_
    exact k₀
  obtain ⟨T8, X8, e8, st8⟩ := getF X7 hx hZ hown (host := "") (Or.inl (hw _ (List.mem_of_getElem? (i := 33) rfl))) Via.refl e7 F7_first (g := (mkF m 1 #[oR a1, oJ q, oS] [(.ref a1)])) rfl rfl (hb hby d8_1)
  refine hG _ _ (fun t₀ k₀ => st8 _ k₀) ?_
  show G (T8.setTop (mkF m 4 #[oR a1, oJ q, oS] [(.int (1 : Int32))]))
  refine hG _ (T8.setTop (mkF m 5 #[oR a1, oJ q, oS] [(.ref a1), (.int (1 : Int32))])) (fun t₀ k₀ => ?_) ?_
  · show Steps p.tables e below (T8.setTop (mkF m 4 #[oR a1, oJ q, oS] [(.int (1 : Int32))])) t₀
    refine XS.aloadN X8.here hx rfl (hb hby d8_4) rfl rfl ?_
    exact k₀
  obtain ⟨T9, X9, e9, st9⟩ := getF X8 hx hZ hown (host := "") (Or.inl (hw _ (List.mem_of_getElem? (i := 21) rfl))) Via.refl e8 fa1_last_x7 (g := (mkF m 5 #[oR a1, oJ q, oS] [(.ref a1), (.int (1 : Int32))])) rfl rfl (hb hby d8_5)
  refine hG _ _ (fun t₀ k₀ => st9 _ k₀) ?_
  show G (T9.setTop (mkF m 8 #[oR a1, oJ q, oS] [(.int (2 : Int32)), (.int (1 : Int32))]))
  refine hG _ (T9.setTop (mkF m 12 #[oR a1, oJ q, oS] [(.ref a1)])) (fun t₀ k₀ => ?_) ?_
  · show Steps p.tables e below (T9.setTop (mkF m 8 #[oR a1, oJ q, oS] [(.int (2 : Int32)), (.int (1 : Int32))])) t₀
    refine XS.icmpNo X9.here hx rfl (hb hby d8_8) rfl (flt (by decide : ¬ ((2 : Int32) < (1 : Int32)))).2.2.1 ?_
    show Steps p.tables e below (T9.setTop (mkF m 11 #[oR a1, oJ q, oS] [])) t₀
    refine XS.aloadN X9.here hx rfl (hb hby d8_11) rfl rfl ?_
    exact k₀
  obtain ⟨T10, X10, e10, st10⟩ := getF X9 hx hZ hown (host := "") (Or.inl (hw _ (List.mem_of_getElem? (i := 15) rfl))) Via.refl e9 fa1_seqNos_x7 (g := (mkF m 12 #[oR a1, oJ q, oS] [(.ref a1)])) rfl rfl (hb hby d8_12)
  refine hG _ _ (fun t₀ k₀ => st10 _ k₀) ?_
  show G (T10.setTop (mkF m 15 #[oR a1, oJ q, oS] [(.ref wS)]))
  refine hG _ (T10.setTop (mkF m 16 #[oR a1, oJ q, oS] [(.ref a1), (.ref wS)])) (fun t₀ k₀ => ?_) ?_
  · show Steps p.tables e below (T10.setTop (mkF m 15 #[oR a1, oJ q, oS] [(.ref wS)])) t₀
    refine XS.aloadN X10.here hx rfl (hb hby d8_15) rfl rfl ?_
    exact k₀
  obtain ⟨T11, X11, e11, st11⟩ := getF X10 hx hZ hown (host := "") (Or.inl (hw _ (List.mem_of_getElem? (i := 33) rfl))) Via.refl e10 F7_first (g := (mkF m 16 #[oR a1, oJ q, oS] [(.ref a1), (.ref wS)])) rfl rfl (hb hby d8_16)
  refine hG _ _ (fun t₀ k₀ => st11 _ k₀) ?_
  show G (T11.setTop (mkF m 19 #[oR a1, oJ q, oS] [(.int (1 : Int32)), (.ref wS)]))
  have ov12 := vwS_x7
  obtain ⟨cl12, Ar12, q12, S12, N_12, H_12, G_12⟩ := ov12
  have hin12 : ¬ ((1 : Int32) < 0 ∨ cl12.slots.size ≤ ((1 : Int32)).toNatClampNeg) := inb_of S12 ⟨by decide, by decide⟩
  have hat12 : cl12.slots[((1 : Int32)).toNatClampNeg]? = some (.long x1) := H_12.at hin12 rfl
  refine hG _ (T11.setTop (mkF m 27 #[oR a1, oJ q, oS] [(.ref a1), (.ref a1)])) (fun t₀ k₀ => ?_) ?_
  · show Steps p.tables e below (T11.setTop (mkF m 19 #[oR a1, oJ q, oS] [(.int (1 : Int32)), (.ref wS)])) t₀
    refine X11.laload hx (j := (1 : Int32)) (v := (.long x1)) (by rw [e11]; exact Ar12.1) (State.isArrayOf_alike hZ.alike Ar12.2.1) Ar12.2.2 hin12 hat12 (g := (mkF m 19 #[oR a1, oJ q, oS] [(.int (1 : Int32)), (.ref wS)])) rfl rfl (hb hby d8_19) _ ?_
    show Steps p.tables e below (T11.setTop (mkF m 20 #[oR a1, oJ q, oS] [(.long x1)])) t₀
    refine XS.lloadN X11.here hx rfl (hb hby d8_20) rfl ?_
    show Steps p.tables e below (T11.setTop (mkF m 21 #[oR a1, oJ q, oS] [(.long q), (.long x1)])) t₀
    refine XS.lcmp X11.here hx rfl (hb hby d8_21) rfl ?_
    show Steps p.tables e below (T11.setTop (mkF m 22 #[oR a1, oJ q, oS] [(.int (lcmpW x1 q))])) t₀
    refine XS.ifNo X11.here hx rfl (hb hby d8_22) rfl ((if0 _ _).trans (flt (fun z => hq1 ((lw_gt x1 q).mp z))).2.2.1) ?_
    show Steps p.tables e below (T11.setTop (mkF m 25 #[oR a1, oJ q, oS] [])) t₀
    refine XS.aloadN X11.here hx rfl (hb hby d8_25) rfl rfl ?_
    show Steps p.tables e below (T11.setTop (mkF m 26 #[oR a1, oJ q, oS] [(.ref a1)])) t₀
    refine XS.dup X11.here hx rfl (hb hby d8_26) rfl rfl ?_
    exact k₀
  obtain ⟨T13, X13, e13, st13⟩ := getF X11 hx hZ hown (host := "") (Or.inl (hw _ (List.mem_of_getElem? (i := 33) rfl))) Via.refl e11 F7_first (g := (mkF m 27 #[oR a1, oJ q, oS] [(.ref a1), (.ref a1)])) rfl rfl (hb hby d8_27)
  refine hG _ _ (fun t₀ k₀ => st13 _ k₀) ?_
  show G (T13.setTop (mkF m 30 #[oR a1, oJ q, oS] [(.int (1 : Int32)), (.ref a1)]))
  refine hG _ (T13.setTop (mkF m 32 #[oR a1, oJ q, oS] [(.int (2 : Int32)), (.ref a1)])) (fun t₀ k₀ => ?_) ?_
  · show Steps p.tables e below (T13.setTop (mkF m 30 #[oR a1, oJ q, oS] [(.int (1 : Int32)), (.ref a1)])) t₀
    refine XS.iconst X13.here hx rfl (hb hby d8_30) ?_
    show Steps p.tables e below (T13.setTop (mkF m 31 #[oR a1, oJ q, oS] [(.int (1 : Int32)), (.int (1 : Int32)), (.ref a1)])) t₀
    refine XS.iadd X13.here hx rfl (hb hby d8_31) rfl ?_
    exact k₀
  obtain ⟨T14, h14, X14, e14, W14, st14⟩ := putF X13 hx hZ hown (host := "") (Or.inl (hw _ (List.mem_of_getElem? (i := 33) rfl))) Via.refl e13 F7_first ea1_x7 (Or.inl (hw _ (List.mem_of_getElem? (i := 34) rfl))) (hw _ (List.mem_of_getElem? (i := 5) rfl)) (ty := .int) (by decide) rfl rfl (g := (mkF m 32 #[oR a1, oJ q, oS] [(.int (2 : Int32)), (.ref a1)])) rfl rfl (hb hby d8_32)
  refine hG _ _ (fun t₀ k₀ => st14 _ k₀) ?_
  have N14 := Fr.snoc X14 N7 g_a1
  have o_x14 := o_x7.wr W14 g_a1
  have ea1_x14 := ea1_x7.wr W14
  have fa1_seqNos_x14 := fa1_seqNos_x7.other W14 (Or.inr (slot_ne (Or.inl (hw _ (List.mem_of_getElem? (i := 16) rfl))) (Or.inl (hw _ (List.mem_of_getElem? (i := 34) rfl))) (by decide) (t := (.array .long)) (t' := .int) (by decide) (by decide)))
  have fa1_starts_x14 := fa1_starts_x7.other W14 (Or.inr (slot_ne (Or.inl (hw _ (List.mem_of_getElem? (i := 18) rfl))) (Or.inl (hw _ (List.mem_of_getElem? (i := 34) rfl))) (by decide) (t := (.array .long)) (t' := .int) (by decide) (by decide)))
  have fa1_ends_x14 := fa1_ends_x7.other W14 (Or.inr (slot_ne (Or.inl (hw _ (List.mem_of_getElem? (i := 20) rfl))) (Or.inl (hw _ (List.mem_of_getElem? (i := 34) rfl))) (by decide) (t := (.array .long)) (t' := .int) (by decide) (by decide)))
  have fa1_last_x14 := fa1_last_x7.other W14 (Or.inr (slot_ne (Or.inl (hw _ (List.mem_of_getElem? (i := 22) rfl))) (Or.inl (hw _ (List.mem_of_getElem? (i := 34) rfl))) (by decide) (t := .int) (t' := .int) (by decide) (by decide)))
  have fa1_maxSeqNo_x14 := fa1_maxSeqNo_x7.other W14 (Or.inr (slot_ne (Or.inl (hw _ (List.mem_of_getElem? (i := 25) rfl))) (Or.inl (hw _ (List.mem_of_getElem? (i := 34) rfl))) (by decide) (t := .long) (t' := .int) (by decide) (by decide)))
  have fa1_mergeAt_x14 := fa1_mergeAt_x7.other W14 (Or.inr (slot_ne (Or.inl (hw _ (List.mem_of_getElem? (i := 27) rfl))) (Or.inl (hw _ (List.mem_of_getElem? (i := 34) rfl))) (by decide) (t := .int) (t' := .int) (by decide) (by decide)))
  have vwS_x14 := vwS_x7.other W14 (Ne.symm ne_a1_wS)
  have vwT_x14 := vwT_x7.other W14 (Ne.symm ne_a1_wT)
  have vwE_x14 := vwE_x7.other W14 (Ne.symm ne_a1_wE)
  have k_x14 := k_x7.wr W14 (Or.inl (List.mem_of_getElem? (i := 0) rfl))
  have z_14 : n0 ≤ h14.size := Nat.le_trans z_7 (Keep.of_wr W14).1
  have F14_first := F7_first.same W14
  show G (T14.setTop (mkF m 35 #[oR a1, oJ q, oS] []))
  refine hG _ (T14.setTop (mkF m 1 #[oR a1, oJ q, oS] [(.ref a1)])) (fun t₀ k₀ => ?_) ?_
  · show Steps p.tables e below (T14.setTop (mkF m 35 #[oR a1, oJ q, oS] [])) t₀
    refine XS.goto X14.here hx rfl (pc0 := 35) (pc' := 0) rfl (hb hby d8_35) (by decide) (by decide) ?_
    show Steps p.tables e below (T14.setTop (mkF m 0 #[oR a1, oJ q, oS] [])) t₀
    refine XS.aloadN X14.here hx rfl (hb hby d8_0) rfl rfl ?_
    exact k₀
  obtain ⟨T15, X15, e15, st15⟩ := getF X14 hx hZ hown (host := "") (Or.inl (hw _ (List.mem_of_getElem? (i := 33) rfl))) Via.refl e14 F14_first (g := (mkF m 1 #[oR a1, oJ q, oS] [(.ref a1)])) rfl rfl (hb hby d8_1)
  refine hG _ _ (fun t₀ k₀ => st15 _ k₀) ?_
  show G (T15.setTop (mkF m 4 #[oR a1, oJ q, oS] [(.int (2 : Int32))]))
  refine hG _ (T15.setTop (mkF m 5 #[oR a1, oJ q, oS] [(.ref a1), (.int (2 : Int32))])) (fun t₀ k₀ => ?_) ?_
  · show Steps p.tables e below (T15.setTop (mkF m 4 #[oR a1, oJ q, oS] [(.int (2 : Int32))])) t₀
    refine XS.aloadN X15.here hx rfl (hb hby d8_4) rfl rfl ?_
    exact k₀
  obtain ⟨T16, X16, e16, st16⟩ := getF X15 hx hZ hown (host := "") (Or.inl (hw _ (List.mem_of_getElem? (i := 21) rfl))) Via.refl e15 fa1_last_x14 (g := (mkF m 5 #[oR a1, oJ q, oS] [(.ref a1), (.int (2 : Int32))])) rfl rfl (hb hby d8_5)
  refine hG _ _ (fun t₀ k₀ => st16 _ k₀) ?_
  show G (T16.setTop (mkF m 8 #[oR a1, oJ q, oS] [(.int (2 : Int32)), (.int (2 : Int32))]))
  refine hG _ (T16.setTop (mkF m 12 #[oR a1, oJ q, oS] [(.ref a1)])) (fun t₀ k₀ => ?_) ?_
  · show Steps p.tables e below (T16.setTop (mkF m 8 #[oR a1, oJ q, oS] [(.int (2 : Int32)), (.int (2 : Int32))])) t₀
    refine XS.icmpNo X16.here hx rfl (hb hby d8_8) rfl (flt (by decide : ¬ ((2 : Int32) < (2 : Int32)))).2.2.1 ?_
    show Steps p.tables e below (T16.setTop (mkF m 11 #[oR a1, oJ q, oS] [])) t₀
    refine XS.aloadN X16.here hx rfl (hb hby d8_11) rfl rfl ?_
    exact k₀
  obtain ⟨T17, X17, e17, st17⟩ := getF X16 hx hZ hown (host := "") (Or.inl (hw _ (List.mem_of_getElem? (i := 15) rfl))) Via.refl e16 fa1_seqNos_x14 (g := (mkF m 12 #[oR a1, oJ q, oS] [(.ref a1)])) rfl rfl (hb hby d8_12)
  refine hG _ _ (fun t₀ k₀ => st17 _ k₀) ?_
  show G (T17.setTop (mkF m 15 #[oR a1, oJ q, oS] [(.ref wS)]))
  refine hG _ (T17.setTop (mkF m 16 #[oR a1, oJ q, oS] [(.ref a1), (.ref wS)])) (fun t₀ k₀ => ?_) ?_
  · show Steps p.tables e below (T17.setTop (mkF m 15 #[oR a1, oJ q, oS] [(.ref wS)])) t₀
    refine XS.aloadN X17.here hx rfl (hb hby d8_15) rfl rfl ?_
    exact k₀
  obtain ⟨T18, X18, e18, st18⟩ := getF X17 hx hZ hown (host := "") (Or.inl (hw _ (List.mem_of_getElem? (i := 33) rfl))) Via.refl e17 F14_first (g := (mkF m 16 #[oR a1, oJ q, oS] [(.ref a1), (.ref wS)])) rfl rfl (hb hby d8_16)
  refine hG _ _ (fun t₀ k₀ => st18 _ k₀) ?_
  show G (T18.setTop (mkF m 19 #[oR a1, oJ q, oS] [(.int (2 : Int32)), (.ref wS)]))
  have ov19 := vwS_x14
  obtain ⟨cl19, Ar19, q19, S19, N_19, H_19, G_19⟩ := ov19
  have hin19 : ¬ ((2 : Int32) < 0 ∨ cl19.slots.size ≤ ((2 : Int32)).toNatClampNeg) := inb_of S19 ⟨by decide, by decide⟩
  have hat19 : cl19.slots[((2 : Int32)).toNatClampNeg]? = some (.long x2) := H_19.at hin19 rfl
  refine hG _ (T18.setTop (mkF m 39 #[oR a1, oJ q, oS] [(.ref a1)])) (fun t₀ k₀ => ?_) ?_
  · show Steps p.tables e below (T18.setTop (mkF m 19 #[oR a1, oJ q, oS] [(.int (2 : Int32)), (.ref wS)])) t₀
    refine X18.laload hx (j := (2 : Int32)) (v := (.long x2)) (by rw [e18]; exact Ar19.1) (State.isArrayOf_alike hZ.alike Ar19.2.1) Ar19.2.2 hin19 hat19 (g := (mkF m 19 #[oR a1, oJ q, oS] [(.int (2 : Int32)), (.ref wS)])) rfl rfl (hb hby d8_19) _ ?_
    show Steps p.tables e below (T18.setTop (mkF m 20 #[oR a1, oJ q, oS] [(.long x2)])) t₀
    refine XS.lloadN X18.here hx rfl (hb hby d8_20) rfl ?_
    show Steps p.tables e below (T18.setTop (mkF m 21 #[oR a1, oJ q, oS] [(.long q), (.long x2)])) t₀
    refine XS.lcmp X18.here hx rfl (hb hby d8_21) rfl ?_
    show Steps p.tables e below (T18.setTop (mkF m 22 #[oR a1, oJ q, oS] [(.int (lcmpW x2 q))])) t₀
    refine XS.ifYes X18.here hx rfl (pc0 := 22) (pc' := 38) rfl (hb hby d8_22) rfl ((if0 _ _).trans (tlt ((lw_gt x2 q).mpr hq2)).2.2.1) (by decide) (by decide) ?_
    show Steps p.tables e below (T18.setTop (mkF m 38 #[oR a1, oJ q, oS] [])) t₀
    refine XS.aloadN X18.here hx rfl (hb hby d8_38) rfl rfl ?_
    exact k₀
  obtain ⟨T20, X20, e20, st20⟩ := getF X18 hx hZ hown (host := "") (Or.inl (hw _ (List.mem_of_getElem? (i := 33) rfl))) Via.refl e18 F14_first (g := (mkF m 39 #[oR a1, oJ q, oS] [(.ref a1)])) rfl rfl (hb hby d8_39)
  refine hG _ _ (fun t₀ k₀ => st20 _ k₀) ?_
  show G (T20.setTop (mkF m 42 #[oR a1, oJ q, oS] [(.int (2 : Int32))]))
  refine hG _ (T20.setTop (mkF m 43 #[oR a1, oJ q, oS] [(.ref a1), (.int (2 : Int32))])) (fun t₀ k₀ => ?_) ?_
  · show Steps p.tables e below (T20.setTop (mkF m 42 #[oR a1, oJ q, oS] [(.int (2 : Int32))])) t₀
    refine XS.aloadN X20.here hx rfl (hb hby d8_42) rfl rfl ?_
    exact k₀
  obtain ⟨T21, X21, e21, st21⟩ := getF X20 hx hZ hown (host := "") (Or.inl (hw _ (List.mem_of_getElem? (i := 21) rfl))) Via.refl e20 fa1_last_x14 (g := (mkF m 43 #[oR a1, oJ q, oS] [(.ref a1), (.int (2 : Int32))])) rfl rfl (hb hby d8_43)
  refine hG _ _ (fun t₀ k₀ => st21 _ k₀) ?_
  show G (T21.setTop (mkF m 46 #[oR a1, oJ q, oS] [(.int (2 : Int32)), (.int (2 : Int32))]))
  refine hG _ (T21.setTop (mkF m 86 #[oR a1, oJ q, oS] [])) (fun t₀ k₀ => ?_) ?_
  · show Steps p.tables e below (T21.setTop (mkF m 46 #[oR a1, oJ q, oS] [(.int (2 : Int32)), (.int (2 : Int32))])) t₀
    refine XS.icmpYes X21.here hx rfl (pc0 := 46) (pc' := 86) rfl (hb hby d8_46) rfl (flt (by decide : ¬ ((2 : Int32) < (2 : Int32)))).2.2.2 (by decide) (by decide) ?_
    exact k₀
  refine hF _ T21 _ _ _ none _ X21 e21 (fun _ => rfl) (by decide) (by decide) ?_ (fun fs hr => X21.returnOut hx hrt (hb hby d8_86) hr)
  exact ⟨rfl, N14, k_x14, fa1_seqNos_x14, fa1_starts_x14, fa1_ends_x14, F14_first, fa1_last_x14, fa1_maxSeqNo_x14, fa1_mergeAt_x14, vwS_x14, vwT_x14, vwE_x14⟩
theorem ef_rmF3 (m : MethodId) (x0 : Addr) (x1 : Int64) : entryFrame m #[(.ref x0), (.long x1)] 3 = mkF m 0 #[oR x0, oJ x1, oS] [] := by first | (simp [entryFrame, mkF, argsToLocals, Value.category]; done) | rfl
def Q_rmF3 (Z : State) (a1 : Addr) (q : Int64) (wN : Addr) (kN : ClassId) (wS wT wE : Addr) (kS kT kE : ClassId) (mx : Int64) (x0 y0 z0 x1 y1 z1 x2 y2 z2 x3 y3 z3 x4 y4 z4 x5 y5 z5 x6 y6 z6 x7 y7 z7 : Int64) (h0 : Heap) (n0 : Nat) (v : Option Value) (h : Heap) (L : List Loc) : Prop := v = none ∧ Fr n0 L ∧ Keep h0 h [a1] ∧ Fld Z h a1 "com/example/opledger/opledger/AppendTimes" "seqNos" "[J" (.ref wN) ∧ Fld Z h a1 "com/example/opledger/opledger/AppendTimes" "starts" "[J" (.ref wN) ∧ Fld Z h a1 "com/example/opledger/opledger/AppendTimes" "ends" "[J" (.ref wN) ∧ Fld Z h a1 "com/example/opledger/opledger/AppendTimes" "first" "I" (.int (0 : Int32)) ∧ Fld Z h a1 "com/example/opledger/opledger/AppendTimes" "last" "I" (.int (-1 : Int32)) ∧ Fld Z h a1 "com/example/opledger/opledger/AppendTimes" "maxSeqNo" "J" (.long mx) ∧ Fld Z h a1 "com/example/opledger/opledger/AppendTimes" "mergeAt" "I" (.int (64 : Int32))
set_option maxRecDepth 65536 in
set_option maxHeartbeats 40000000 in
theorem rmF3 (l : Launch) (Z : State) (a0 : Array Value) (hw : ∀ d ∈ tables_1, d.before a0 Z = true) (ws : List Jvm.Cond) (a1 : Addr) (q : Int64) (wN : Addr) (kN : ClassId) (wS wT wE : Addr) (kS kT kE : ClassId) (mx : Int64) (x0 y0 z0 x1 y1 z1 x2 y2 z2 x3 y3 z3 x4 y4 z4 x5 y5 z5 x6 y6 z6 x7 y7 z7 : Int64) (h0 : Heap) (n0 : Nat) (Z0 : n0 ≤ h0.size) (O0 : Old Z n0 h0) (S_NO : Sta Z Z.heap "com/example/opledger/opledger/AppendTimes" "NO_ENTRIES" "[J" (.ref wN)) (VN : Arv Z Z.heap wN kN .long (0 : Int32) [] (.long (0 : Int64))) (E1 : Exa Z h0 a1 "com/example/opledger/opledger/AppendTimes") (F_seqNos : Fld Z h0 a1 "com/example/opledger/opledger/AppendTimes" "seqNos" "[J" (.ref wS)) (F_starts : Fld Z h0 a1 "com/example/opledger/opledger/AppendTimes" "starts" "[J" (.ref wT)) (F_ends : Fld Z h0 a1 "com/example/opledger/opledger/AppendTimes" "ends" "[J" (.ref wE)) (F_first : Fld Z h0 a1 "com/example/opledger/opledger/AppendTimes" "first" "I" (.int (0 : Int32))) (F_last : Fld Z h0 a1 "com/example/opledger/opledger/AppendTimes" "last" "I" (.int (2 : Int32))) (F_maxSeqNo : Fld Z h0 a1 "com/example/opledger/opledger/AppendTimes" "maxSeqNo" "J" (.long mx)) (F_mergeAt : Fld Z h0 a1 "com/example/opledger/opledger/AppendTimes" "mergeAt" "I" (.int (64 : Int32))) (V_wS : Arv Z h0 wS kS .long (8 : Int32) [(.long x0), (.long x1), (.long x2), (.long x3), (.long x4), (.long x5), (.long x6), (.long x7)] (.long (0 : Int64))) (V_wT : Arv Z h0 wT kT .long (8 : Int32) [(.long y0), (.long y1), (.long y2), (.long y3), (.long y4), (.long y5), (.long y6), (.long y7)] (.long (0 : Int64))) (V_wE : Arv Z h0 wE kE .long (8 : Int32) [(.long z0), (.long z1), (.long z2), (.long z3), (.long z4), (.long z5), (.long z6), (.long z7)] (.long (0 : Int64))) (g_a1 : n0 ≤ a1) (g_wS : n0 ≤ wS) (g_wT : n0 ≤ wT) (g_wE : n0 ≤ wE) (ne_a1_wS : a1 ≠ wS) (ne_a1_wT : a1 ≠ wT) (ne_a1_wE : a1 ≠ wE) (ne_wS_wT : wS ≠ wT) (ne_wS_wE : wS ≠ wE) (ne_wT_wE : wT ≠ wE) (hq0 : ¬ q < x0) (hq1 : ¬ q < x1) (hq2 : ¬ q < x2) :
    MetFree l (⟨"com/example/opledger/opledger/AppendTimes", "forgetUpTo", "(J)V"⟩ : MethodName) (head1 (Jvm.Cond.code (⟨"com/example/opledger/opledger/AppendTimes", "forgetUpTo", "(J)V"⟩ : MethodName) prog_1_method_7_code 3 none :: ws) ({ frames := 0, cells := 0, slots := 0, locals := 0 } : Room)) (fun a U => a = #[(.ref a1), (.long q)] ∧ Z.Warmed39 U.vm ∧ U.heap = h0) (fun _ _ _ _ _ => True) (fun _ U o U' => ∃ v L, o = .returned v ∧ Q_rmF3 Z a1 q wN kN wS wT wE kS kT kE mx x0 y0 z0 x1 y1 z1 x2 y2 z2 x3 y3 z3 x4 y4 z4 x5 y5 z5 x6 y6 z6 x7 y7 z7 h0 n0 v U'.heap L ∧ FrameEnd U o U' L ({ frames := 0, cells := 0, slots := 0, locals := 0 } : Room).cells ({ frames := 0, cells := 0, slots := 0, locals := 0 } : Room).slots) := by
  refine own_body (Q := fun v h L => Q_rmF3 Z a1 q wN kN wS wT wE kS kT kE mx x0 y0 z0 x1 y1 z1 x2 y2 z2 x3 y3 z3 x4 y4 z4 x5 y5 z5 x6 y6 z6 x7 y7 z7 h0 n0 v h L) pn_8 ?_
  intro p e s m below meth c s₁ G X0 hx hZ hby hml hown hnm hrt e0 hG hF
  have hown : s.vm.findClass "com/example/opledger/opledger/AppendTimes" = some m.cls := hown
  have N0 := Fr.nil n0
  rw [ef_rmF3 m a1 q]
  show G (s₁.setTop (mkF m 0 #[oR a1, oJ q, oS] []))
  refine hG _ (s₁.setTop (mkF m 1 #[oR a1, oJ q, oS] [(.ref a1)])) (fun t₀ k₀ => ?_) ?_
  · show Steps p.tables e below (s₁.setTop (mkF m 0 #[oR a1, oJ q, oS] [])) t₀
    refine XS.aloadN X0.here hx rfl (hb hby d8_0) rfl rfl ?_
    exact k₀
  obtain ⟨T1, X1, e1, st1⟩ := getF X0 hx hZ hown (host := "") (Or.inl (hw _ (List.mem_of_getElem? (i := 33) rfl))) Via.refl e0 F_first (g := (mkF m 1 #[oR a1, oJ q, oS] [(.ref a1)])) rfl rfl (hb hby d8_1)
  refine hG _ _ (fun t₀ k₀ => st1 _ k₀) ?_
  show G (T1.setTop (mkF m 4 #[oR a1, oJ q, oS] [(.int (0 : Int32))]))
  refine hG _ (T1.setTop (mkF m 5 #[oR a1, oJ q, oS] [(.ref a1), (.int (0 : Int32))])) (fun t₀ k₀ => ?_) ?_
  · show Steps p.tables e below (T1.setTop (mkF m 4 #[oR a1, oJ q, oS] [(.int (0 : Int32))])) t₀
    refine XS.aloadN X1.here hx rfl (hb hby d8_4) rfl rfl ?_
    exact k₀
  obtain ⟨T2, X2, e2, st2⟩ := getF X1 hx hZ hown (host := "") (Or.inl (hw _ (List.mem_of_getElem? (i := 21) rfl))) Via.refl e1 F_last (g := (mkF m 5 #[oR a1, oJ q, oS] [(.ref a1), (.int (0 : Int32))])) rfl rfl (hb hby d8_5)
  refine hG _ _ (fun t₀ k₀ => st2 _ k₀) ?_
  show G (T2.setTop (mkF m 8 #[oR a1, oJ q, oS] [(.int (2 : Int32)), (.int (0 : Int32))]))
  refine hG _ (T2.setTop (mkF m 12 #[oR a1, oJ q, oS] [(.ref a1)])) (fun t₀ k₀ => ?_) ?_
  · show Steps p.tables e below (T2.setTop (mkF m 8 #[oR a1, oJ q, oS] [(.int (2 : Int32)), (.int (0 : Int32))])) t₀
    refine XS.icmpNo X2.here hx rfl (hb hby d8_8) rfl (flt (by decide : ¬ ((2 : Int32) < (0 : Int32)))).2.2.1 ?_
    show Steps p.tables e below (T2.setTop (mkF m 11 #[oR a1, oJ q, oS] [])) t₀
    refine XS.aloadN X2.here hx rfl (hb hby d8_11) rfl rfl ?_
    exact k₀
  obtain ⟨T3, X3, e3, st3⟩ := getF X2 hx hZ hown (host := "") (Or.inl (hw _ (List.mem_of_getElem? (i := 15) rfl))) Via.refl e2 F_seqNos (g := (mkF m 12 #[oR a1, oJ q, oS] [(.ref a1)])) rfl rfl (hb hby d8_12)
  refine hG _ _ (fun t₀ k₀ => st3 _ k₀) ?_
  show G (T3.setTop (mkF m 15 #[oR a1, oJ q, oS] [(.ref wS)]))
  refine hG _ (T3.setTop (mkF m 16 #[oR a1, oJ q, oS] [(.ref a1), (.ref wS)])) (fun t₀ k₀ => ?_) ?_
  · show Steps p.tables e below (T3.setTop (mkF m 15 #[oR a1, oJ q, oS] [(.ref wS)])) t₀
    refine XS.aloadN X3.here hx rfl (hb hby d8_15) rfl rfl ?_
    exact k₀
  obtain ⟨T4, X4, e4, st4⟩ := getF X3 hx hZ hown (host := "") (Or.inl (hw _ (List.mem_of_getElem? (i := 33) rfl))) Via.refl e3 F_first (g := (mkF m 16 #[oR a1, oJ q, oS] [(.ref a1), (.ref wS)])) rfl rfl (hb hby d8_16)
  refine hG _ _ (fun t₀ k₀ => st4 _ k₀) ?_
  show G (T4.setTop (mkF m 19 #[oR a1, oJ q, oS] [(.int (0 : Int32)), (.ref wS)]))
  have ov5 := V_wS
  obtain ⟨cl5, Ar5, q5, S5, N_5, H_5, G_5⟩ := ov5
  have hin5 : ¬ ((0 : Int32) < 0 ∨ cl5.slots.size ≤ ((0 : Int32)).toNatClampNeg) := inb_of S5 ⟨by decide, by decide⟩
  have hat5 : cl5.slots[((0 : Int32)).toNatClampNeg]? = some (.long x0) := H_5.at hin5 rfl
  refine hG _ (T4.setTop (mkF m 27 #[oR a1, oJ q, oS] [(.ref a1), (.ref a1)])) (fun t₀ k₀ => ?_) ?_
  · show Steps p.tables e below (T4.setTop (mkF m 19 #[oR a1, oJ q, oS] [(.int (0 : Int32)), (.ref wS)])) t₀
    refine X4.laload hx (j := (0 : Int32)) (v := (.long x0)) (by rw [e4]; exact Ar5.1) (State.isArrayOf_alike hZ.alike Ar5.2.1) Ar5.2.2 hin5 hat5 (g := (mkF m 19 #[oR a1, oJ q, oS] [(.int (0 : Int32)), (.ref wS)])) rfl rfl (hb hby d8_19) _ ?_
    show Steps p.tables e below (T4.setTop (mkF m 20 #[oR a1, oJ q, oS] [(.long x0)])) t₀
    refine XS.lloadN X4.here hx rfl (hb hby d8_20) rfl ?_
    show Steps p.tables e below (T4.setTop (mkF m 21 #[oR a1, oJ q, oS] [(.long q), (.long x0)])) t₀
    refine XS.lcmp X4.here hx rfl (hb hby d8_21) rfl ?_
    show Steps p.tables e below (T4.setTop (mkF m 22 #[oR a1, oJ q, oS] [(.int (lcmpW x0 q))])) t₀
    refine XS.ifNo X4.here hx rfl (hb hby d8_22) rfl ((if0 _ _).trans (flt (fun z => hq0 ((lw_gt x0 q).mp z))).2.2.1) ?_
    show Steps p.tables e below (T4.setTop (mkF m 25 #[oR a1, oJ q, oS] [])) t₀
    refine XS.aloadN X4.here hx rfl (hb hby d8_25) rfl rfl ?_
    show Steps p.tables e below (T4.setTop (mkF m 26 #[oR a1, oJ q, oS] [(.ref a1)])) t₀
    refine XS.dup X4.here hx rfl (hb hby d8_26) rfl rfl ?_
    exact k₀
  obtain ⟨T6, X6, e6, st6⟩ := getF X4 hx hZ hown (host := "") (Or.inl (hw _ (List.mem_of_getElem? (i := 33) rfl))) Via.refl e4 F_first (g := (mkF m 27 #[oR a1, oJ q, oS] [(.ref a1), (.ref a1)])) rfl rfl (hb hby d8_27)
  refine hG _ _ (fun t₀ k₀ => st6 _ k₀) ?_
  show G (T6.setTop (mkF m 30 #[oR a1, oJ q, oS] [(.int (0 : Int32)), (.ref a1)]))
  refine hG _ (T6.setTop (mkF m 32 #[oR a1, oJ q, oS] [(.int (1 : Int32)), (.ref a1)])) (fun t₀ k₀ => ?_) ?_
  · show Steps p.tables e below (T6.setTop (mkF m 30 #[oR a1, oJ q, oS] [(.int (0 : Int32)), (.ref a1)])) t₀
    refine XS.iconst X6.here hx rfl (hb hby d8_30) ?_
    show Steps p.tables e below (T6.setTop (mkF m 31 #[oR a1, oJ q, oS] [(.int (1 : Int32)), (.int (0 : Int32)), (.ref a1)])) t₀
    refine XS.iadd X6.here hx rfl (hb hby d8_31) rfl ?_
    exact k₀
  obtain ⟨T7, h7, X7, e7, W7, st7⟩ := putF X6 hx hZ hown (host := "") (Or.inl (hw _ (List.mem_of_getElem? (i := 33) rfl))) Via.refl e6 F_first E1 (Or.inl (hw _ (List.mem_of_getElem? (i := 34) rfl))) (hw _ (List.mem_of_getElem? (i := 5) rfl)) (ty := .int) (by decide) rfl rfl (g := (mkF m 32 #[oR a1, oJ q, oS] [(.int (1 : Int32)), (.ref a1)])) rfl rfl (hb hby d8_32)
  refine hG _ _ (fun t₀ k₀ => st7 _ k₀) ?_
  have N7 := Fr.snoc X7 N0 g_a1
  have o_x7 := O0.wr W7 g_a1
  have ea1_x7 := E1.wr W7
  have fa1_seqNos_x7 := F_seqNos.other W7 (Or.inr (slot_ne (Or.inl (hw _ (List.mem_of_getElem? (i := 16) rfl))) (Or.inl (hw _ (List.mem_of_getElem? (i := 34) rfl))) (by decide) (t := (.array .long)) (t' := .int) (by decide) (by decide)))
  have fa1_starts_x7 := F_starts.other W7 (Or.inr (slot_ne (Or.inl (hw _ (List.mem_of_getElem? (i := 18) rfl))) (Or.inl (hw _ (List.mem_of_getElem? (i := 34) rfl))) (by decide) (t := (.array .long)) (t' := .int) (by decide) (by decide)))
  have fa1_ends_x7 := F_ends.other W7 (Or.inr (slot_ne (Or.inl (hw _ (List.mem_of_getElem? (i := 20) rfl))) (Or.inl (hw _ (List.mem_of_getElem? (i := 34) rfl))) (by decide) (t := (.array .long)) (t' := .int) (by decide) (by decide)))
  have fa1_last_x7 := F_last.other W7 (Or.inr (slot_ne (Or.inl (hw _ (List.mem_of_getElem? (i := 22) rfl))) (Or.inl (hw _ (List.mem_of_getElem? (i := 34) rfl))) (by decide) (t := .int) (t' := .int) (by decide) (by decide)))
  have fa1_maxSeqNo_x7 := F_maxSeqNo.other W7 (Or.inr (slot_ne (Or.inl (hw _ (List.mem_of_getElem? (i := 25) rfl))) (Or.inl (hw _ (List.mem_of_getElem? (i := 34) rfl))) (by decide) (t := .long) (t' := .int) (by decide) (by decide)))
  have fa1_mergeAt_x7 := F_mergeAt.other W7 (Or.inr (slot_ne (Or.inl (hw _ (List.mem_of_getElem? (i := 27) rfl))) (Or.inl (hw _ (List.mem_of_getElem? (i := 34) rfl))) (by decide) (t := .int) (t' := .int) (by decide) (by decide)))
  have vwS_x7 := V_wS.other W7 (Ne.symm ne_a1_wS)
  have vwT_x7 := V_wT.other W7 (Ne.symm ne_a1_wT)
  have vwE_x7 := V_wE.other W7 (Ne.symm ne_a1_wE)
  have k_x7 := (Keep.refl h0 [a1]).wr W7 (Or.inl (List.mem_of_getElem? (i := 0) rfl))
  have z_7 : n0 ≤ h7.size := Nat.le_trans Z0 (Keep.of_wr W7).1
  have F7_first := F_first.same W7
  show G (T7.setTop (mkF m 35 #[oR a1, oJ q, oS] []))
  refine hG _ (T7.setTop (mkF m 1 #[oR a1, oJ q, oS] [(.ref a1)])) (fun t₀ k₀ => ?_) ?_
  · show Steps p.tables e below (T7.setTop (mkF m 35 #[oR a1, oJ q, oS] [])) t₀
    refine XS.goto X7.here hx rfl (pc0 := 35) (pc' := 0) rfl (hb hby d8_35) (by decide) (by decide) ?_
    show Steps p.tables e below (T7.setTop (mkF m 0 #[oR a1, oJ q, oS] [])) t₀
    refine XS.aloadN X7.here hx rfl (hb hby d8_0) rfl rfl ?_
    exact k₀
  obtain ⟨T8, X8, e8, st8⟩ := getF X7 hx hZ hown (host := "") (Or.inl (hw _ (List.mem_of_getElem? (i := 33) rfl))) Via.refl e7 F7_first (g := (mkF m 1 #[oR a1, oJ q, oS] [(.ref a1)])) rfl rfl (hb hby d8_1)
  refine hG _ _ (fun t₀ k₀ => st8 _ k₀) ?_
  show G (T8.setTop (mkF m 4 #[oR a1, oJ q, oS] [(.int (1 : Int32))]))
  refine hG _ (T8.setTop (mkF m 5 #[oR a1, oJ q, oS] [(.ref a1), (.int (1 : Int32))])) (fun t₀ k₀ => ?_) ?_
  · show Steps p.tables e below (T8.setTop (mkF m 4 #[oR a1, oJ q, oS] [(.int (1 : Int32))])) t₀
    refine XS.aloadN X8.here hx rfl (hb hby d8_4) rfl rfl ?_
    exact k₀
  obtain ⟨T9, X9, e9, st9⟩ := getF X8 hx hZ hown (host := "") (Or.inl (hw _ (List.mem_of_getElem? (i := 21) rfl))) Via.refl e8 fa1_last_x7 (g := (mkF m 5 #[oR a1, oJ q, oS] [(.ref a1), (.int (1 : Int32))])) rfl rfl (hb hby d8_5)
  refine hG _ _ (fun t₀ k₀ => st9 _ k₀) ?_
  show G (T9.setTop (mkF m 8 #[oR a1, oJ q, oS] [(.int (2 : Int32)), (.int (1 : Int32))]))
  refine hG _ (T9.setTop (mkF m 12 #[oR a1, oJ q, oS] [(.ref a1)])) (fun t₀ k₀ => ?_) ?_
  · show Steps p.tables e below (T9.setTop (mkF m 8 #[oR a1, oJ q, oS] [(.int (2 : Int32)), (.int (1 : Int32))])) t₀
    refine XS.icmpNo X9.here hx rfl (hb hby d8_8) rfl (flt (by decide : ¬ ((2 : Int32) < (1 : Int32)))).2.2.1 ?_
    show Steps p.tables e below (T9.setTop (mkF m 11 #[oR a1, oJ q, oS] [])) t₀
    refine XS.aloadN X9.here hx rfl (hb hby d8_11) rfl rfl ?_
    exact k₀
  obtain ⟨T10, X10, e10, st10⟩ := getF X9 hx hZ hown (host := "") (Or.inl (hw _ (List.mem_of_getElem? (i := 15) rfl))) Via.refl e9 fa1_seqNos_x7 (g := (mkF m 12 #[oR a1, oJ q, oS] [(.ref a1)])) rfl rfl (hb hby d8_12)
  refine hG _ _ (fun t₀ k₀ => st10 _ k₀) ?_
  show G (T10.setTop (mkF m 15 #[oR a1, oJ q, oS] [(.ref wS)]))
  refine hG _ (T10.setTop (mkF m 16 #[oR a1, oJ q, oS] [(.ref a1), (.ref wS)])) (fun t₀ k₀ => ?_) ?_
  · show Steps p.tables e below (T10.setTop (mkF m 15 #[oR a1, oJ q, oS] [(.ref wS)])) t₀
    refine XS.aloadN X10.here hx rfl (hb hby d8_15) rfl rfl ?_
    exact k₀
  obtain ⟨T11, X11, e11, st11⟩ := getF X10 hx hZ hown (host := "") (Or.inl (hw _ (List.mem_of_getElem? (i := 33) rfl))) Via.refl e10 F7_first (g := (mkF m 16 #[oR a1, oJ q, oS] [(.ref a1), (.ref wS)])) rfl rfl (hb hby d8_16)
  refine hG _ _ (fun t₀ k₀ => st11 _ k₀) ?_
  show G (T11.setTop (mkF m 19 #[oR a1, oJ q, oS] [(.int (1 : Int32)), (.ref wS)]))
  have ov12 := vwS_x7
  obtain ⟨cl12, Ar12, q12, S12, N_12, H_12, G_12⟩ := ov12
  have hin12 : ¬ ((1 : Int32) < 0 ∨ cl12.slots.size ≤ ((1 : Int32)).toNatClampNeg) := inb_of S12 ⟨by decide, by decide⟩
  have hat12 : cl12.slots[((1 : Int32)).toNatClampNeg]? = some (.long x1) := H_12.at hin12 rfl
  refine hG _ (T11.setTop (mkF m 27 #[oR a1, oJ q, oS] [(.ref a1), (.ref a1)])) (fun t₀ k₀ => ?_) ?_
  · show Steps p.tables e below (T11.setTop (mkF m 19 #[oR a1, oJ q, oS] [(.int (1 : Int32)), (.ref wS)])) t₀
    refine X11.laload hx (j := (1 : Int32)) (v := (.long x1)) (by rw [e11]; exact Ar12.1) (State.isArrayOf_alike hZ.alike Ar12.2.1) Ar12.2.2 hin12 hat12 (g := (mkF m 19 #[oR a1, oJ q, oS] [(.int (1 : Int32)), (.ref wS)])) rfl rfl (hb hby d8_19) _ ?_
    show Steps p.tables e below (T11.setTop (mkF m 20 #[oR a1, oJ q, oS] [(.long x1)])) t₀
    refine XS.lloadN X11.here hx rfl (hb hby d8_20) rfl ?_
    show Steps p.tables e below (T11.setTop (mkF m 21 #[oR a1, oJ q, oS] [(.long q), (.long x1)])) t₀
    refine XS.lcmp X11.here hx rfl (hb hby d8_21) rfl ?_
    show Steps p.tables e below (T11.setTop (mkF m 22 #[oR a1, oJ q, oS] [(.int (lcmpW x1 q))])) t₀
    refine XS.ifNo X11.here hx rfl (hb hby d8_22) rfl ((if0 _ _).trans (flt (fun z => hq1 ((lw_gt x1 q).mp z))).2.2.1) ?_
    show Steps p.tables e below (T11.setTop (mkF m 25 #[oR a1, oJ q, oS] [])) t₀
    refine XS.aloadN X11.here hx rfl (hb hby d8_25) rfl rfl ?_
    show Steps p.tables e below (T11.setTop (mkF m 26 #[oR a1, oJ q, oS] [(.ref a1)])) t₀
    refine XS.dup X11.here hx rfl (hb hby d8_26) rfl rfl ?_
    exact k₀
  obtain ⟨T13, X13, e13, st13⟩ := getF X11 hx hZ hown (host := "") (Or.inl (hw _ (List.mem_of_getElem? (i := 33) rfl))) Via.refl e11 F7_first (g := (mkF m 27 #[oR a1, oJ q, oS] [(.ref a1), (.ref a1)])) rfl rfl (hb hby d8_27)
  refine hG _ _ (fun t₀ k₀ => st13 _ k₀) ?_
  show G (T13.setTop (mkF m 30 #[oR a1, oJ q, oS] [(.int (1 : Int32)), (.ref a1)]))
  refine hG _ (T13.setTop (mkF m 32 #[oR a1, oJ q, oS] [(.int (2 : Int32)), (.ref a1)])) (fun t₀ k₀ => ?_) ?_
  · show Steps p.tables e below (T13.setTop (mkF m 30 #[oR a1, oJ q, oS] [(.int (1 : Int32)), (.ref a1)])) t₀
    refine XS.iconst X13.here hx rfl (hb hby d8_30) ?_
    show Steps p.tables e below (T13.setTop (mkF m 31 #[oR a1, oJ q, oS] [(.int (1 : Int32)), (.int (1 : Int32)), (.ref a1)])) t₀
    refine XS.iadd X13.here hx rfl (hb hby d8_31) rfl ?_
    exact k₀
  obtain ⟨T14, h14, X14, e14, W14, st14⟩ := putF X13 hx hZ hown (host := "") (Or.inl (hw _ (List.mem_of_getElem? (i := 33) rfl))) Via.refl e13 F7_first ea1_x7 (Or.inl (hw _ (List.mem_of_getElem? (i := 34) rfl))) (hw _ (List.mem_of_getElem? (i := 5) rfl)) (ty := .int) (by decide) rfl rfl (g := (mkF m 32 #[oR a1, oJ q, oS] [(.int (2 : Int32)), (.ref a1)])) rfl rfl (hb hby d8_32)
  refine hG _ _ (fun t₀ k₀ => st14 _ k₀) ?_
  have N14 := Fr.snoc X14 N7 g_a1
  have o_x14 := o_x7.wr W14 g_a1
  have ea1_x14 := ea1_x7.wr W14
  have fa1_seqNos_x14 := fa1_seqNos_x7.other W14 (Or.inr (slot_ne (Or.inl (hw _ (List.mem_of_getElem? (i := 16) rfl))) (Or.inl (hw _ (List.mem_of_getElem? (i := 34) rfl))) (by decide) (t := (.array .long)) (t' := .int) (by decide) (by decide)))
  have fa1_starts_x14 := fa1_starts_x7.other W14 (Or.inr (slot_ne (Or.inl (hw _ (List.mem_of_getElem? (i := 18) rfl))) (Or.inl (hw _ (List.mem_of_getElem? (i := 34) rfl))) (by decide) (t := (.array .long)) (t' := .int) (by decide) (by decide)))
  have fa1_ends_x14 := fa1_ends_x7.other W14 (Or.inr (slot_ne (Or.inl (hw _ (List.mem_of_getElem? (i := 20) rfl))) (Or.inl (hw _ (List.mem_of_getElem? (i := 34) rfl))) (by decide) (t := (.array .long)) (t' := .int) (by decide) (by decide)))
  have fa1_last_x14 := fa1_last_x7.other W14 (Or.inr (slot_ne (Or.inl (hw _ (List.mem_of_getElem? (i := 22) rfl))) (Or.inl (hw _ (List.mem_of_getElem? (i := 34) rfl))) (by decide) (t := .int) (t' := .int) (by decide) (by decide)))
  have fa1_maxSeqNo_x14 := fa1_maxSeqNo_x7.other W14 (Or.inr (slot_ne (Or.inl (hw _ (List.mem_of_getElem? (i := 25) rfl))) (Or.inl (hw _ (List.mem_of_getElem? (i := 34) rfl))) (by decide) (t := .long) (t' := .int) (by decide) (by decide)))
  have fa1_mergeAt_x14 := fa1_mergeAt_x7.other W14 (Or.inr (slot_ne (Or.inl (hw _ (List.mem_of_getElem? (i := 27) rfl))) (Or.inl (hw _ (List.mem_of_getElem? (i := 34) rfl))) (by decide) (t := .int) (t' := .int) (by decide) (by decide)))
  have vwS_x14 := vwS_x7.other W14 (Ne.symm ne_a1_wS)
  have vwT_x14 := vwT_x7.other W14 (Ne.symm ne_a1_wT)
  have vwE_x14 := vwE_x7.other W14 (Ne.symm ne_a1_wE)
  have k_x14 := k_x7.wr W14 (Or.inl (List.mem_of_getElem? (i := 0) rfl))
  have z_14 : n0 ≤ h14.size := Nat.le_trans z_7 (Keep.of_wr W14).1
  have F14_first := F7_first.same W14
  show G (T14.setTop (mkF m 35 #[oR a1, oJ q, oS] []))
  refine hG _ (T14.setTop (mkF m 1 #[oR a1, oJ q, oS] [(.ref a1)])) (fun t₀ k₀ => ?_) ?_
  · show Steps p.tables e below (T14.setTop (mkF m 35 #[oR a1, oJ q, oS] [])) t₀
    refine XS.goto X14.here hx rfl (pc0 := 35) (pc' := 0) rfl (hb hby d8_35) (by decide) (by decide) ?_
    show Steps p.tables e below (T14.setTop (mkF m 0 #[oR a1, oJ q, oS] [])) t₀
    refine XS.aloadN X14.here hx rfl (hb hby d8_0) rfl rfl ?_
    exact k₀
  obtain ⟨T15, X15, e15, st15⟩ := getF X14 hx hZ hown (host := "") (Or.inl (hw _ (List.mem_of_getElem? (i := 33) rfl))) Via.refl e14 F14_first (g := (mkF m 1 #[oR a1, oJ q, oS] [(.ref a1)])) rfl rfl (hb hby d8_1)
  refine hG _ _ (fun t₀ k₀ => st15 _ k₀) ?_
  show G (T15.setTop (mkF m 4 #[oR a1, oJ q, oS] [(.int (2 : Int32))]))
  refine hG _ (T15.setTop (mkF m 5 #[oR a1, oJ q, oS] [(.ref a1), (.int (2 : Int32))])) (fun t₀ k₀ => ?_) ?_
  · show Steps p.tables e below (T15.setTop (mkF m 4 #[oR a1, oJ q, oS] [(.int (2 : Int32))])) t₀
    refine XS.aloadN X15.here hx rfl (hb hby d8_4) rfl rfl ?_
    exact k₀
  obtain ⟨T16, X16, e16, st16⟩ := getF X15 hx hZ hown (host := "") (Or.inl (hw _ (List.mem_of_getElem? (i := 21) rfl))) Via.refl e15 fa1_last_x14 (g := (mkF m 5 #[oR a1, oJ q, oS] [(.ref a1), (.int (2 : Int32))])) rfl rfl (hb hby d8_5)
  refine hG _ _ (fun t₀ k₀ => st16 _ k₀) ?_
  show G (T16.setTop (mkF m 8 #[oR a1, oJ q, oS] [(.int (2 : Int32)), (.int (2 : Int32))]))
  refine hG _ (T16.setTop (mkF m 12 #[oR a1, oJ q, oS] [(.ref a1)])) (fun t₀ k₀ => ?_) ?_
  · show Steps p.tables e below (T16.setTop (mkF m 8 #[oR a1, oJ q, oS] [(.int (2 : Int32)), (.int (2 : Int32))])) t₀
    refine XS.icmpNo X16.here hx rfl (hb hby d8_8) rfl (flt (by decide : ¬ ((2 : Int32) < (2 : Int32)))).2.2.1 ?_
    show Steps p.tables e below (T16.setTop (mkF m 11 #[oR a1, oJ q, oS] [])) t₀
    refine XS.aloadN X16.here hx rfl (hb hby d8_11) rfl rfl ?_
    exact k₀
  obtain ⟨T17, X17, e17, st17⟩ := getF X16 hx hZ hown (host := "") (Or.inl (hw _ (List.mem_of_getElem? (i := 15) rfl))) Via.refl e16 fa1_seqNos_x14 (g := (mkF m 12 #[oR a1, oJ q, oS] [(.ref a1)])) rfl rfl (hb hby d8_12)
  refine hG _ _ (fun t₀ k₀ => st17 _ k₀) ?_
  show G (T17.setTop (mkF m 15 #[oR a1, oJ q, oS] [(.ref wS)]))
  refine hG _ (T17.setTop (mkF m 16 #[oR a1, oJ q, oS] [(.ref a1), (.ref wS)])) (fun t₀ k₀ => ?_) ?_
  · show Steps p.tables e below (T17.setTop (mkF m 15 #[oR a1, oJ q, oS] [(.ref wS)])) t₀
    refine XS.aloadN X17.here hx rfl (hb hby d8_15) rfl rfl ?_
    exact k₀
  obtain ⟨T18, X18, e18, st18⟩ := getF X17 hx hZ hown (host := "") (Or.inl (hw _ (List.mem_of_getElem? (i := 33) rfl))) Via.refl e17 F14_first (g := (mkF m 16 #[oR a1, oJ q, oS] [(.ref a1), (.ref wS)])) rfl rfl (hb hby d8_16)
  refine hG _ _ (fun t₀ k₀ => st18 _ k₀) ?_
  show G (T18.setTop (mkF m 19 #[oR a1, oJ q, oS] [(.int (2 : Int32)), (.ref wS)]))
  have ov19 := vwS_x14
  obtain ⟨cl19, Ar19, q19, S19, N_19, H_19, G_19⟩ := ov19
  have hin19 : ¬ ((2 : Int32) < 0 ∨ cl19.slots.size ≤ ((2 : Int32)).toNatClampNeg) := inb_of S19 ⟨by decide, by decide⟩
  have hat19 : cl19.slots[((2 : Int32)).toNatClampNeg]? = some (.long x2) := H_19.at hin19 rfl
  refine hG _ (T18.setTop (mkF m 27 #[oR a1, oJ q, oS] [(.ref a1), (.ref a1)])) (fun t₀ k₀ => ?_) ?_
  · show Steps p.tables e below (T18.setTop (mkF m 19 #[oR a1, oJ q, oS] [(.int (2 : Int32)), (.ref wS)])) t₀
    refine X18.laload hx (j := (2 : Int32)) (v := (.long x2)) (by rw [e18]; exact Ar19.1) (State.isArrayOf_alike hZ.alike Ar19.2.1) Ar19.2.2 hin19 hat19 (g := (mkF m 19 #[oR a1, oJ q, oS] [(.int (2 : Int32)), (.ref wS)])) rfl rfl (hb hby d8_19) _ ?_
    show Steps p.tables e below (T18.setTop (mkF m 20 #[oR a1, oJ q, oS] [(.long x2)])) t₀
    refine XS.lloadN X18.here hx rfl (hb hby d8_20) rfl ?_
    show Steps p.tables e below (T18.setTop (mkF m 21 #[oR a1, oJ q, oS] [(.long q), (.long x2)])) t₀
    refine XS.lcmp X18.here hx rfl (hb hby d8_21) rfl ?_
    show Steps p.tables e below (T18.setTop (mkF m 22 #[oR a1, oJ q, oS] [(.int (lcmpW x2 q))])) t₀
    refine XS.ifNo X18.here hx rfl (hb hby d8_22) rfl ((if0 _ _).trans (flt (fun z => hq2 ((lw_gt x2 q).mp z))).2.2.1) ?_
    show Steps p.tables e below (T18.setTop (mkF m 25 #[oR a1, oJ q, oS] [])) t₀
    refine XS.aloadN X18.here hx rfl (hb hby d8_25) rfl rfl ?_
    show Steps p.tables e below (T18.setTop (mkF m 26 #[oR a1, oJ q, oS] [(.ref a1)])) t₀
    refine XS.dup X18.here hx rfl (hb hby d8_26) rfl rfl ?_
    exact k₀
  obtain ⟨T20, X20, e20, st20⟩ := getF X18 hx hZ hown (host := "") (Or.inl (hw _ (List.mem_of_getElem? (i := 33) rfl))) Via.refl e18 F14_first (g := (mkF m 27 #[oR a1, oJ q, oS] [(.ref a1), (.ref a1)])) rfl rfl (hb hby d8_27)
  refine hG _ _ (fun t₀ k₀ => st20 _ k₀) ?_
  show G (T20.setTop (mkF m 30 #[oR a1, oJ q, oS] [(.int (2 : Int32)), (.ref a1)]))
  refine hG _ (T20.setTop (mkF m 32 #[oR a1, oJ q, oS] [(.int (3 : Int32)), (.ref a1)])) (fun t₀ k₀ => ?_) ?_
  · show Steps p.tables e below (T20.setTop (mkF m 30 #[oR a1, oJ q, oS] [(.int (2 : Int32)), (.ref a1)])) t₀
    refine XS.iconst X20.here hx rfl (hb hby d8_30) ?_
    show Steps p.tables e below (T20.setTop (mkF m 31 #[oR a1, oJ q, oS] [(.int (1 : Int32)), (.int (2 : Int32)), (.ref a1)])) t₀
    refine XS.iadd X20.here hx rfl (hb hby d8_31) rfl ?_
    exact k₀
  obtain ⟨T21, h21, X21, e21, W21, st21⟩ := putF X20 hx hZ hown (host := "") (Or.inl (hw _ (List.mem_of_getElem? (i := 33) rfl))) Via.refl e20 F14_first ea1_x14 (Or.inl (hw _ (List.mem_of_getElem? (i := 34) rfl))) (hw _ (List.mem_of_getElem? (i := 5) rfl)) (ty := .int) (by decide) rfl rfl (g := (mkF m 32 #[oR a1, oJ q, oS] [(.int (3 : Int32)), (.ref a1)])) rfl rfl (hb hby d8_32)
  refine hG _ _ (fun t₀ k₀ => st21 _ k₀) ?_
  have N21 := Fr.snoc X21 N14 g_a1
  have o_x21 := o_x14.wr W21 g_a1
  have ea1_x21 := ea1_x14.wr W21
  have fa1_seqNos_x21 := fa1_seqNos_x14.other W21 (Or.inr (slot_ne (Or.inl (hw _ (List.mem_of_getElem? (i := 16) rfl))) (Or.inl (hw _ (List.mem_of_getElem? (i := 34) rfl))) (by decide) (t := (.array .long)) (t' := .int) (by decide) (by decide)))
  have fa1_starts_x21 := fa1_starts_x14.other W21 (Or.inr (slot_ne (Or.inl (hw _ (List.mem_of_getElem? (i := 18) rfl))) (Or.inl (hw _ (List.mem_of_getElem? (i := 34) rfl))) (by decide) (t := (.array .long)) (t' := .int) (by decide) (by decide)))
  have fa1_ends_x21 := fa1_ends_x14.other W21 (Or.inr (slot_ne (Or.inl (hw _ (List.mem_of_getElem? (i := 20) rfl))) (Or.inl (hw _ (List.mem_of_getElem? (i := 34) rfl))) (by decide) (t := (.array .long)) (t' := .int) (by decide) (by decide)))
  have fa1_last_x21 := fa1_last_x14.other W21 (Or.inr (slot_ne (Or.inl (hw _ (List.mem_of_getElem? (i := 22) rfl))) (Or.inl (hw _ (List.mem_of_getElem? (i := 34) rfl))) (by decide) (t := .int) (t' := .int) (by decide) (by decide)))
  have fa1_maxSeqNo_x21 := fa1_maxSeqNo_x14.other W21 (Or.inr (slot_ne (Or.inl (hw _ (List.mem_of_getElem? (i := 25) rfl))) (Or.inl (hw _ (List.mem_of_getElem? (i := 34) rfl))) (by decide) (t := .long) (t' := .int) (by decide) (by decide)))
  have fa1_mergeAt_x21 := fa1_mergeAt_x14.other W21 (Or.inr (slot_ne (Or.inl (hw _ (List.mem_of_getElem? (i := 27) rfl))) (Or.inl (hw _ (List.mem_of_getElem? (i := 34) rfl))) (by decide) (t := .int) (t' := .int) (by decide) (by decide)))
  have vwS_x21 := vwS_x14.other W21 (Ne.symm ne_a1_wS)
  have vwT_x21 := vwT_x14.other W21 (Ne.symm ne_a1_wT)
  have vwE_x21 := vwE_x14.other W21 (Ne.symm ne_a1_wE)
  have k_x21 := k_x14.wr W21 (Or.inl (List.mem_of_getElem? (i := 0) rfl))
  have z_21 : n0 ≤ h21.size := Nat.le_trans z_14 (Keep.of_wr W21).1
  have F21_first := F14_first.same W21
  show G (T21.setTop (mkF m 35 #[oR a1, oJ q, oS] []))
  refine hG _ (T21.setTop (mkF m 1 #[oR a1, oJ q, oS] [(.ref a1)])) (fun t₀ k₀ => ?_) ?_
  · show Steps p.tables e below (T21.setTop (mkF m 35 #[oR a1, oJ q, oS] [])) t₀
    refine XS.goto X21.here hx rfl (pc0 := 35) (pc' := 0) rfl (hb hby d8_35) (by decide) (by decide) ?_
    show Steps p.tables e below (T21.setTop (mkF m 0 #[oR a1, oJ q, oS] [])) t₀
    refine XS.aloadN X21.here hx rfl (hb hby d8_0) rfl rfl ?_
    exact k₀
  obtain ⟨T22, X22, e22, st22⟩ := getF X21 hx hZ hown (host := "") (Or.inl (hw _ (List.mem_of_getElem? (i := 33) rfl))) Via.refl e21 F21_first (g := (mkF m 1 #[oR a1, oJ q, oS] [(.ref a1)])) rfl rfl (hb hby d8_1)
  refine hG _ _ (fun t₀ k₀ => st22 _ k₀) ?_
  show G (T22.setTop (mkF m 4 #[oR a1, oJ q, oS] [(.int (3 : Int32))]))
  refine hG _ (T22.setTop (mkF m 5 #[oR a1, oJ q, oS] [(.ref a1), (.int (3 : Int32))])) (fun t₀ k₀ => ?_) ?_
  · show Steps p.tables e below (T22.setTop (mkF m 4 #[oR a1, oJ q, oS] [(.int (3 : Int32))])) t₀
    refine XS.aloadN X22.here hx rfl (hb hby d8_4) rfl rfl ?_
    exact k₀
  obtain ⟨T23, X23, e23, st23⟩ := getF X22 hx hZ hown (host := "") (Or.inl (hw _ (List.mem_of_getElem? (i := 21) rfl))) Via.refl e22 fa1_last_x21 (g := (mkF m 5 #[oR a1, oJ q, oS] [(.ref a1), (.int (3 : Int32))])) rfl rfl (hb hby d8_5)
  refine hG _ _ (fun t₀ k₀ => st23 _ k₀) ?_
  show G (T23.setTop (mkF m 8 #[oR a1, oJ q, oS] [(.int (2 : Int32)), (.int (3 : Int32))]))
  refine hG _ (T23.setTop (mkF m 39 #[oR a1, oJ q, oS] [(.ref a1)])) (fun t₀ k₀ => ?_) ?_
  · show Steps p.tables e below (T23.setTop (mkF m 8 #[oR a1, oJ q, oS] [(.int (2 : Int32)), (.int (3 : Int32))])) t₀
    refine XS.icmpYes X23.here hx rfl (pc0 := 8) (pc' := 38) rfl (hb hby d8_8) rfl (tlt (by decide : ((2 : Int32) < (3 : Int32)))).2.2.1 (by decide) (by decide) ?_
    show Steps p.tables e below (T23.setTop (mkF m 38 #[oR a1, oJ q, oS] [])) t₀
    refine XS.aloadN X23.here hx rfl (hb hby d8_38) rfl rfl ?_
    exact k₀
  obtain ⟨T24, X24, e24, st24⟩ := getF X23 hx hZ hown (host := "") (Or.inl (hw _ (List.mem_of_getElem? (i := 33) rfl))) Via.refl e23 F21_first (g := (mkF m 39 #[oR a1, oJ q, oS] [(.ref a1)])) rfl rfl (hb hby d8_39)
  refine hG _ _ (fun t₀ k₀ => st24 _ k₀) ?_
  show G (T24.setTop (mkF m 42 #[oR a1, oJ q, oS] [(.int (3 : Int32))]))
  refine hG _ (T24.setTop (mkF m 43 #[oR a1, oJ q, oS] [(.ref a1), (.int (3 : Int32))])) (fun t₀ k₀ => ?_) ?_
  · show Steps p.tables e below (T24.setTop (mkF m 42 #[oR a1, oJ q, oS] [(.int (3 : Int32))])) t₀
    refine XS.aloadN X24.here hx rfl (hb hby d8_42) rfl rfl ?_
    exact k₀
  obtain ⟨T25, X25, e25, st25⟩ := getF X24 hx hZ hown (host := "") (Or.inl (hw _ (List.mem_of_getElem? (i := 21) rfl))) Via.refl e24 fa1_last_x21 (g := (mkF m 43 #[oR a1, oJ q, oS] [(.ref a1), (.int (3 : Int32))])) rfl rfl (hb hby d8_43)
  refine hG _ _ (fun t₀ k₀ => st25 _ k₀) ?_
  show G (T25.setTop (mkF m 46 #[oR a1, oJ q, oS] [(.int (2 : Int32)), (.int (3 : Int32))]))
  refine hG _ (T25.setTop (mkF m 50 #[oR a1, oJ q, oS] [(.ref a1)])) (fun t₀ k₀ => ?_) ?_
  · show Steps p.tables e below (T25.setTop (mkF m 46 #[oR a1, oJ q, oS] [(.int (2 : Int32)), (.int (3 : Int32))])) t₀
    refine XS.icmpNo X25.here hx rfl (hb hby d8_46) rfl (tlt (by decide : ((2 : Int32) < (3 : Int32)))).2.2.2 ?_
    show Steps p.tables e below (T25.setTop (mkF m 49 #[oR a1, oJ q, oS] [])) t₀
    refine XS.aloadN X25.here hx rfl (hb hby d8_49) rfl rfl ?_
    exact k₀
  obtain ⟨T26, X26, e26, st26⟩ := getS2 X25 hx hZ hown (host := "") (Or.inl (hw _ (List.mem_of_getElem? (i := 13) rfl))) Via.refl e25 (S_NO.ext o_x21.2) (g := (mkF m 50 #[oR a1, oJ q, oS] [(.ref a1)])) rfl (hb hby d8_50)
  refine hG _ _ (fun t₀ k₀ => st26 _ k₀) ?_
  show G (T26.setTop (mkF m 53 #[oR a1, oJ q, oS] [(.ref wN), (.ref a1)]))
  obtain ⟨T27, h27, X27, e27, W27, st27⟩ := putF X26 hx hZ hown (host := "") (Or.inl (hw _ (List.mem_of_getElem? (i := 15) rfl))) Via.refl e26 fa1_seqNos_x21 ea1_x21 (Or.inl (hw _ (List.mem_of_getElem? (i := 16) rfl))) (hw _ (List.mem_of_getElem? (i := 5) rfl)) (ty := (.array .long)) (by decide) rfl rfl (g := (mkF m 53 #[oR a1, oJ q, oS] [(.ref wN), (.ref a1)])) rfl rfl (hb hby d8_53)
  refine hG _ _ (fun t₀ k₀ => st27 _ k₀) ?_
  have N27 := Fr.snoc X27 N21 g_a1
  have o_x27 := o_x21.wr W27 g_a1
  have ea1_x27 := ea1_x21.wr W27
  have fa1_starts_x27 := fa1_starts_x21.other W27 (Or.inr (slot_ne (Or.inl (hw _ (List.mem_of_getElem? (i := 18) rfl))) (Or.inl (hw _ (List.mem_of_getElem? (i := 16) rfl))) (by decide) (t := (.array .long)) (t' := (.array .long)) (by decide) (by decide)))
  have fa1_ends_x27 := fa1_ends_x21.other W27 (Or.inr (slot_ne (Or.inl (hw _ (List.mem_of_getElem? (i := 20) rfl))) (Or.inl (hw _ (List.mem_of_getElem? (i := 16) rfl))) (by decide) (t := (.array .long)) (t' := (.array .long)) (by decide) (by decide)))
  have fa1_first_x27 := F21_first.other W27 (Or.inr (slot_ne (Or.inl (hw _ (List.mem_of_getElem? (i := 34) rfl))) (Or.inl (hw _ (List.mem_of_getElem? (i := 16) rfl))) (by decide) (t := .int) (t' := (.array .long)) (by decide) (by decide)))
  have fa1_last_x27 := fa1_last_x21.other W27 (Or.inr (slot_ne (Or.inl (hw _ (List.mem_of_getElem? (i := 22) rfl))) (Or.inl (hw _ (List.mem_of_getElem? (i := 16) rfl))) (by decide) (t := .int) (t' := (.array .long)) (by decide) (by decide)))
  have fa1_maxSeqNo_x27 := fa1_maxSeqNo_x21.other W27 (Or.inr (slot_ne (Or.inl (hw _ (List.mem_of_getElem? (i := 25) rfl))) (Or.inl (hw _ (List.mem_of_getElem? (i := 16) rfl))) (by decide) (t := .long) (t' := (.array .long)) (by decide) (by decide)))
  have fa1_mergeAt_x27 := fa1_mergeAt_x21.other W27 (Or.inr (slot_ne (Or.inl (hw _ (List.mem_of_getElem? (i := 27) rfl))) (Or.inl (hw _ (List.mem_of_getElem? (i := 16) rfl))) (by decide) (t := .int) (t' := (.array .long)) (by decide) (by decide)))
  have vwS_x27 := vwS_x21.other W27 (Ne.symm ne_a1_wS)
  have vwT_x27 := vwT_x21.other W27 (Ne.symm ne_a1_wT)
  have vwE_x27 := vwE_x21.other W27 (Ne.symm ne_a1_wE)
  have k_x27 := k_x21.wr W27 (Or.inl (List.mem_of_getElem? (i := 0) rfl))
  have z_27 : n0 ≤ h27.size := Nat.le_trans z_21 (Keep.of_wr W27).1
  have F27_seqNos := fa1_seqNos_x21.same W27
  show G (T27.setTop (mkF m 56 #[oR a1, oJ q, oS] []))
  refine hG _ (T27.setTop (mkF m 57 #[oR a1, oJ q, oS] [(.ref a1)])) (fun t₀ k₀ => ?_) ?_
  · show Steps p.tables e below (T27.setTop (mkF m 56 #[oR a1, oJ q, oS] [])) t₀
    refine XS.aloadN X27.here hx rfl (hb hby d8_56) rfl rfl ?_
    exact k₀
  obtain ⟨T28, X28, e28, st28⟩ := getS2 X27 hx hZ hown (host := "") (Or.inl (hw _ (List.mem_of_getElem? (i := 13) rfl))) Via.refl e27 (S_NO.ext o_x27.2) (g := (mkF m 57 #[oR a1, oJ q, oS] [(.ref a1)])) rfl (hb hby d8_57)
  refine hG _ _ (fun t₀ k₀ => st28 _ k₀) ?_
  show G (T28.setTop (mkF m 60 #[oR a1, oJ q, oS] [(.ref wN), (.ref a1)]))
  obtain ⟨T29, h29, X29, e29, W29, st29⟩ := putF X28 hx hZ hown (host := "") (Or.inl (hw _ (List.mem_of_getElem? (i := 17) rfl))) Via.refl e28 fa1_starts_x27 ea1_x27 (Or.inl (hw _ (List.mem_of_getElem? (i := 18) rfl))) (hw _ (List.mem_of_getElem? (i := 5) rfl)) (ty := (.array .long)) (by decide) rfl rfl (g := (mkF m 60 #[oR a1, oJ q, oS] [(.ref wN), (.ref a1)])) rfl rfl (hb hby d8_60)
  refine hG _ _ (fun t₀ k₀ => st29 _ k₀) ?_
  have N29 := Fr.snoc X29 N27 g_a1
  have o_x29 := o_x27.wr W29 g_a1
  have ea1_x29 := ea1_x27.wr W29
  have fa1_seqNos_x29 := F27_seqNos.other W29 (Or.inr (slot_ne (Or.inl (hw _ (List.mem_of_getElem? (i := 16) rfl))) (Or.inl (hw _ (List.mem_of_getElem? (i := 18) rfl))) (by decide) (t := (.array .long)) (t' := (.array .long)) (by decide) (by decide)))
  have fa1_ends_x29 := fa1_ends_x27.other W29 (Or.inr (slot_ne (Or.inl (hw _ (List.mem_of_getElem? (i := 20) rfl))) (Or.inl (hw _ (List.mem_of_getElem? (i := 18) rfl))) (by decide) (t := (.array .long)) (t' := (.array .long)) (by decide) (by decide)))
  have fa1_first_x29 := fa1_first_x27.other W29 (Or.inr (slot_ne (Or.inl (hw _ (List.mem_of_getElem? (i := 34) rfl))) (Or.inl (hw _ (List.mem_of_getElem? (i := 18) rfl))) (by decide) (t := .int) (t' := (.array .long)) (by decide) (by decide)))
  have fa1_last_x29 := fa1_last_x27.other W29 (Or.inr (slot_ne (Or.inl (hw _ (List.mem_of_getElem? (i := 22) rfl))) (Or.inl (hw _ (List.mem_of_getElem? (i := 18) rfl))) (by decide) (t := .int) (t' := (.array .long)) (by decide) (by decide)))
  have fa1_maxSeqNo_x29 := fa1_maxSeqNo_x27.other W29 (Or.inr (slot_ne (Or.inl (hw _ (List.mem_of_getElem? (i := 25) rfl))) (Or.inl (hw _ (List.mem_of_getElem? (i := 18) rfl))) (by decide) (t := .long) (t' := (.array .long)) (by decide) (by decide)))
  have fa1_mergeAt_x29 := fa1_mergeAt_x27.other W29 (Or.inr (slot_ne (Or.inl (hw _ (List.mem_of_getElem? (i := 27) rfl))) (Or.inl (hw _ (List.mem_of_getElem? (i := 18) rfl))) (by decide) (t := .int) (t' := (.array .long)) (by decide) (by decide)))
  have vwS_x29 := vwS_x27.other W29 (Ne.symm ne_a1_wS)
  have vwT_x29 := vwT_x27.other W29 (Ne.symm ne_a1_wT)
  have vwE_x29 := vwE_x27.other W29 (Ne.symm ne_a1_wE)
  have k_x29 := k_x27.wr W29 (Or.inl (List.mem_of_getElem? (i := 0) rfl))
  have z_29 : n0 ≤ h29.size := Nat.le_trans z_27 (Keep.of_wr W29).1
  have F29_starts := fa1_starts_x27.same W29
  show G (T29.setTop (mkF m 63 #[oR a1, oJ q, oS] []))
  refine hG _ (T29.setTop (mkF m 64 #[oR a1, oJ q, oS] [(.ref a1)])) (fun t₀ k₀ => ?_) ?_
  · show Steps p.tables e below (T29.setTop (mkF m 63 #[oR a1, oJ q, oS] [])) t₀
    refine XS.aloadN X29.here hx rfl (hb hby d8_63) rfl rfl ?_
    exact k₀
  obtain ⟨T30, X30, e30, st30⟩ := getS2 X29 hx hZ hown (host := "") (Or.inl (hw _ (List.mem_of_getElem? (i := 13) rfl))) Via.refl e29 (S_NO.ext o_x29.2) (g := (mkF m 64 #[oR a1, oJ q, oS] [(.ref a1)])) rfl (hb hby d8_64)
  refine hG _ _ (fun t₀ k₀ => st30 _ k₀) ?_
  show G (T30.setTop (mkF m 67 #[oR a1, oJ q, oS] [(.ref wN), (.ref a1)]))
  obtain ⟨T31, h31, X31, e31, W31, st31⟩ := putF X30 hx hZ hown (host := "") (Or.inl (hw _ (List.mem_of_getElem? (i := 19) rfl))) Via.refl e30 fa1_ends_x29 ea1_x29 (Or.inl (hw _ (List.mem_of_getElem? (i := 20) rfl))) (hw _ (List.mem_of_getElem? (i := 5) rfl)) (ty := (.array .long)) (by decide) rfl rfl (g := (mkF m 67 #[oR a1, oJ q, oS] [(.ref wN), (.ref a1)])) rfl rfl (hb hby d8_67)
  refine hG _ _ (fun t₀ k₀ => st31 _ k₀) ?_
  have N31 := Fr.snoc X31 N29 g_a1
  have o_x31 := o_x29.wr W31 g_a1
  have ea1_x31 := ea1_x29.wr W31
  have fa1_seqNos_x31 := fa1_seqNos_x29.other W31 (Or.inr (slot_ne (Or.inl (hw _ (List.mem_of_getElem? (i := 16) rfl))) (Or.inl (hw _ (List.mem_of_getElem? (i := 20) rfl))) (by decide) (t := (.array .long)) (t' := (.array .long)) (by decide) (by decide)))
  have fa1_starts_x31 := F29_starts.other W31 (Or.inr (slot_ne (Or.inl (hw _ (List.mem_of_getElem? (i := 18) rfl))) (Or.inl (hw _ (List.mem_of_getElem? (i := 20) rfl))) (by decide) (t := (.array .long)) (t' := (.array .long)) (by decide) (by decide)))
  have fa1_first_x31 := fa1_first_x29.other W31 (Or.inr (slot_ne (Or.inl (hw _ (List.mem_of_getElem? (i := 34) rfl))) (Or.inl (hw _ (List.mem_of_getElem? (i := 20) rfl))) (by decide) (t := .int) (t' := (.array .long)) (by decide) (by decide)))
  have fa1_last_x31 := fa1_last_x29.other W31 (Or.inr (slot_ne (Or.inl (hw _ (List.mem_of_getElem? (i := 22) rfl))) (Or.inl (hw _ (List.mem_of_getElem? (i := 20) rfl))) (by decide) (t := .int) (t' := (.array .long)) (by decide) (by decide)))
  have fa1_maxSeqNo_x31 := fa1_maxSeqNo_x29.other W31 (Or.inr (slot_ne (Or.inl (hw _ (List.mem_of_getElem? (i := 25) rfl))) (Or.inl (hw _ (List.mem_of_getElem? (i := 20) rfl))) (by decide) (t := .long) (t' := (.array .long)) (by decide) (by decide)))
  have fa1_mergeAt_x31 := fa1_mergeAt_x29.other W31 (Or.inr (slot_ne (Or.inl (hw _ (List.mem_of_getElem? (i := 27) rfl))) (Or.inl (hw _ (List.mem_of_getElem? (i := 20) rfl))) (by decide) (t := .int) (t' := (.array .long)) (by decide) (by decide)))
  have vwS_x31 := vwS_x29.other W31 (Ne.symm ne_a1_wS)
  have vwT_x31 := vwT_x29.other W31 (Ne.symm ne_a1_wT)
  have vwE_x31 := vwE_x29.other W31 (Ne.symm ne_a1_wE)
  have k_x31 := k_x29.wr W31 (Or.inl (List.mem_of_getElem? (i := 0) rfl))
  have z_31 : n0 ≤ h31.size := Nat.le_trans z_29 (Keep.of_wr W31).1
  have F31_ends := fa1_ends_x29.same W31
  show G (T31.setTop (mkF m 70 #[oR a1, oJ q, oS] []))
  refine hG _ (T31.setTop (mkF m 72 #[oR a1, oJ q, oS] [(.int (0 : Int32)), (.ref a1)])) (fun t₀ k₀ => ?_) ?_
  · show Steps p.tables e below (T31.setTop (mkF m 70 #[oR a1, oJ q, oS] [])) t₀
    refine XS.aloadN X31.here hx rfl (hb hby d8_70) rfl rfl ?_
    show Steps p.tables e below (T31.setTop (mkF m 71 #[oR a1, oJ q, oS] [(.ref a1)])) t₀
    refine XS.iconst X31.here hx rfl (hb hby d8_71) ?_
    exact k₀
  obtain ⟨T32, h32, X32, e32, W32, st32⟩ := putF X31 hx hZ hown (host := "") (Or.inl (hw _ (List.mem_of_getElem? (i := 33) rfl))) Via.refl e31 fa1_first_x31 ea1_x31 (Or.inl (hw _ (List.mem_of_getElem? (i := 34) rfl))) (hw _ (List.mem_of_getElem? (i := 5) rfl)) (ty := .int) (by decide) rfl rfl (g := (mkF m 72 #[oR a1, oJ q, oS] [(.int (0 : Int32)), (.ref a1)])) rfl rfl (hb hby d8_72)
  refine hG _ _ (fun t₀ k₀ => st32 _ k₀) ?_
  have N32 := Fr.snoc X32 N31 g_a1
  have o_x32 := o_x31.wr W32 g_a1
  have ea1_x32 := ea1_x31.wr W32
  have fa1_seqNos_x32 := fa1_seqNos_x31.other W32 (Or.inr (slot_ne (Or.inl (hw _ (List.mem_of_getElem? (i := 16) rfl))) (Or.inl (hw _ (List.mem_of_getElem? (i := 34) rfl))) (by decide) (t := (.array .long)) (t' := .int) (by decide) (by decide)))
  have fa1_starts_x32 := fa1_starts_x31.other W32 (Or.inr (slot_ne (Or.inl (hw _ (List.mem_of_getElem? (i := 18) rfl))) (Or.inl (hw _ (List.mem_of_getElem? (i := 34) rfl))) (by decide) (t := (.array .long)) (t' := .int) (by decide) (by decide)))
  have fa1_ends_x32 := F31_ends.other W32 (Or.inr (slot_ne (Or.inl (hw _ (List.mem_of_getElem? (i := 20) rfl))) (Or.inl (hw _ (List.mem_of_getElem? (i := 34) rfl))) (by decide) (t := (.array .long)) (t' := .int) (by decide) (by decide)))
  have fa1_last_x32 := fa1_last_x31.other W32 (Or.inr (slot_ne (Or.inl (hw _ (List.mem_of_getElem? (i := 22) rfl))) (Or.inl (hw _ (List.mem_of_getElem? (i := 34) rfl))) (by decide) (t := .int) (t' := .int) (by decide) (by decide)))
  have fa1_maxSeqNo_x32 := fa1_maxSeqNo_x31.other W32 (Or.inr (slot_ne (Or.inl (hw _ (List.mem_of_getElem? (i := 25) rfl))) (Or.inl (hw _ (List.mem_of_getElem? (i := 34) rfl))) (by decide) (t := .long) (t' := .int) (by decide) (by decide)))
  have fa1_mergeAt_x32 := fa1_mergeAt_x31.other W32 (Or.inr (slot_ne (Or.inl (hw _ (List.mem_of_getElem? (i := 27) rfl))) (Or.inl (hw _ (List.mem_of_getElem? (i := 34) rfl))) (by decide) (t := .int) (t' := .int) (by decide) (by decide)))
  have vwS_x32 := vwS_x31.other W32 (Ne.symm ne_a1_wS)
  have vwT_x32 := vwT_x31.other W32 (Ne.symm ne_a1_wT)
  have vwE_x32 := vwE_x31.other W32 (Ne.symm ne_a1_wE)
  have k_x32 := k_x31.wr W32 (Or.inl (List.mem_of_getElem? (i := 0) rfl))
  have z_32 : n0 ≤ h32.size := Nat.le_trans z_31 (Keep.of_wr W32).1
  have F32_first := fa1_first_x31.same W32
  show G (T32.setTop (mkF m 75 #[oR a1, oJ q, oS] []))
  refine hG _ (T32.setTop (mkF m 77 #[oR a1, oJ q, oS] [(.int (-1 : Int32)), (.ref a1)])) (fun t₀ k₀ => ?_) ?_
  · show Steps p.tables e below (T32.setTop (mkF m 75 #[oR a1, oJ q, oS] [])) t₀
    refine XS.aloadN X32.here hx rfl (hb hby d8_75) rfl rfl ?_
    show Steps p.tables e below (T32.setTop (mkF m 76 #[oR a1, oJ q, oS] [(.ref a1)])) t₀
    refine XS.iconst X32.here hx rfl (hb hby d8_76) ?_
    exact k₀
  obtain ⟨T33, h33, X33, e33, W33, st33⟩ := putF X32 hx hZ hown (host := "") (Or.inl (hw _ (List.mem_of_getElem? (i := 21) rfl))) Via.refl e32 fa1_last_x32 ea1_x32 (Or.inl (hw _ (List.mem_of_getElem? (i := 22) rfl))) (hw _ (List.mem_of_getElem? (i := 5) rfl)) (ty := .int) (by decide) rfl rfl (g := (mkF m 77 #[oR a1, oJ q, oS] [(.int (-1 : Int32)), (.ref a1)])) rfl rfl (hb hby d8_77)
  refine hG _ _ (fun t₀ k₀ => st33 _ k₀) ?_
  have N33 := Fr.snoc X33 N32 g_a1
  have o_x33 := o_x32.wr W33 g_a1
  have ea1_x33 := ea1_x32.wr W33
  have fa1_seqNos_x33 := fa1_seqNos_x32.other W33 (Or.inr (slot_ne (Or.inl (hw _ (List.mem_of_getElem? (i := 16) rfl))) (Or.inl (hw _ (List.mem_of_getElem? (i := 22) rfl))) (by decide) (t := (.array .long)) (t' := .int) (by decide) (by decide)))
  have fa1_starts_x33 := fa1_starts_x32.other W33 (Or.inr (slot_ne (Or.inl (hw _ (List.mem_of_getElem? (i := 18) rfl))) (Or.inl (hw _ (List.mem_of_getElem? (i := 22) rfl))) (by decide) (t := (.array .long)) (t' := .int) (by decide) (by decide)))
  have fa1_ends_x33 := fa1_ends_x32.other W33 (Or.inr (slot_ne (Or.inl (hw _ (List.mem_of_getElem? (i := 20) rfl))) (Or.inl (hw _ (List.mem_of_getElem? (i := 22) rfl))) (by decide) (t := (.array .long)) (t' := .int) (by decide) (by decide)))
  have fa1_first_x33 := F32_first.other W33 (Or.inr (slot_ne (Or.inl (hw _ (List.mem_of_getElem? (i := 34) rfl))) (Or.inl (hw _ (List.mem_of_getElem? (i := 22) rfl))) (by decide) (t := .int) (t' := .int) (by decide) (by decide)))
  have fa1_maxSeqNo_x33 := fa1_maxSeqNo_x32.other W33 (Or.inr (slot_ne (Or.inl (hw _ (List.mem_of_getElem? (i := 25) rfl))) (Or.inl (hw _ (List.mem_of_getElem? (i := 22) rfl))) (by decide) (t := .long) (t' := .int) (by decide) (by decide)))
  have fa1_mergeAt_x33 := fa1_mergeAt_x32.other W33 (Or.inr (slot_ne (Or.inl (hw _ (List.mem_of_getElem? (i := 27) rfl))) (Or.inl (hw _ (List.mem_of_getElem? (i := 22) rfl))) (by decide) (t := .int) (t' := .int) (by decide) (by decide)))
  have vwS_x33 := vwS_x32.other W33 (Ne.symm ne_a1_wS)
  have vwT_x33 := vwT_x32.other W33 (Ne.symm ne_a1_wT)
  have vwE_x33 := vwE_x32.other W33 (Ne.symm ne_a1_wE)
  have k_x33 := k_x32.wr W33 (Or.inl (List.mem_of_getElem? (i := 0) rfl))
  have z_33 : n0 ≤ h33.size := Nat.le_trans z_32 (Keep.of_wr W33).1
  have F33_last := fa1_last_x32.same W33
  show G (T33.setTop (mkF m 80 #[oR a1, oJ q, oS] []))
  refine hG _ (T33.setTop (mkF m 83 #[oR a1, oJ q, oS] [(.int (64 : Int32)), (.ref a1)])) (fun t₀ k₀ => ?_) ?_
  · show Steps p.tables e below (T33.setTop (mkF m 80 #[oR a1, oJ q, oS] [])) t₀
    refine XS.aloadN X33.here hx rfl (hb hby d8_80) rfl rfl ?_
    show Steps p.tables e below (T33.setTop (mkF m 81 #[oR a1, oJ q, oS] [(.ref a1)])) t₀
    refine XS.bipush X33.here hx rfl (hb hby d8_81) ?_
    exact k₀
  obtain ⟨T34, h34, X34, e34, W34, st34⟩ := putF X33 hx hZ hown (host := "") (Or.inl (hw _ (List.mem_of_getElem? (i := 26) rfl))) Via.refl e33 fa1_mergeAt_x33 ea1_x33 (Or.inl (hw _ (List.mem_of_getElem? (i := 27) rfl))) (hw _ (List.mem_of_getElem? (i := 5) rfl)) (ty := .int) (by decide) rfl rfl (g := (mkF m 83 #[oR a1, oJ q, oS] [(.int (64 : Int32)), (.ref a1)])) rfl rfl (hb hby d8_83)
  refine hG _ _ (fun t₀ k₀ => st34 _ k₀) ?_
  have N34 := Fr.snoc X34 N33 g_a1
  have o_x34 := o_x33.wr W34 g_a1
  have ea1_x34 := ea1_x33.wr W34
  have fa1_seqNos_x34 := fa1_seqNos_x33.other W34 (Or.inr (slot_ne (Or.inl (hw _ (List.mem_of_getElem? (i := 16) rfl))) (Or.inl (hw _ (List.mem_of_getElem? (i := 27) rfl))) (by decide) (t := (.array .long)) (t' := .int) (by decide) (by decide)))
  have fa1_starts_x34 := fa1_starts_x33.other W34 (Or.inr (slot_ne (Or.inl (hw _ (List.mem_of_getElem? (i := 18) rfl))) (Or.inl (hw _ (List.mem_of_getElem? (i := 27) rfl))) (by decide) (t := (.array .long)) (t' := .int) (by decide) (by decide)))
  have fa1_ends_x34 := fa1_ends_x33.other W34 (Or.inr (slot_ne (Or.inl (hw _ (List.mem_of_getElem? (i := 20) rfl))) (Or.inl (hw _ (List.mem_of_getElem? (i := 27) rfl))) (by decide) (t := (.array .long)) (t' := .int) (by decide) (by decide)))
  have fa1_first_x34 := fa1_first_x33.other W34 (Or.inr (slot_ne (Or.inl (hw _ (List.mem_of_getElem? (i := 34) rfl))) (Or.inl (hw _ (List.mem_of_getElem? (i := 27) rfl))) (by decide) (t := .int) (t' := .int) (by decide) (by decide)))
  have fa1_last_x34 := F33_last.other W34 (Or.inr (slot_ne (Or.inl (hw _ (List.mem_of_getElem? (i := 22) rfl))) (Or.inl (hw _ (List.mem_of_getElem? (i := 27) rfl))) (by decide) (t := .int) (t' := .int) (by decide) (by decide)))
  have fa1_maxSeqNo_x34 := fa1_maxSeqNo_x33.other W34 (Or.inr (slot_ne (Or.inl (hw _ (List.mem_of_getElem? (i := 25) rfl))) (Or.inl (hw _ (List.mem_of_getElem? (i := 27) rfl))) (by decide) (t := .long) (t' := .int) (by decide) (by decide)))
  have vwS_x34 := vwS_x33.other W34 (Ne.symm ne_a1_wS)
  have vwT_x34 := vwT_x33.other W34 (Ne.symm ne_a1_wT)
  have vwE_x34 := vwE_x33.other W34 (Ne.symm ne_a1_wE)
  have k_x34 := k_x33.wr W34 (Or.inl (List.mem_of_getElem? (i := 0) rfl))
  have z_34 : n0 ≤ h34.size := Nat.le_trans z_33 (Keep.of_wr W34).1
  have F34_mergeAt := fa1_mergeAt_x33.same W34
  show G (T34.setTop (mkF m 86 #[oR a1, oJ q, oS] []))
  refine hF _ T34 _ _ _ none _ X34 e34 (fun _ => rfl) (by decide) (by decide) ?_ (fun fs hr => X34.returnOut hx hrt (hb hby d8_86) hr)
  exact ⟨rfl, N34, k_x34, fa1_seqNos_x34, fa1_starts_x34, fa1_ends_x34, fa1_first_x34, fa1_last_x34, fa1_maxSeqNo_x34, F34_mergeAt⟩
theorem d9_0 : decode prog_1_method_6_code 0 = .ok (.aload_n 0, 1) := by decide +kernel
theorem d9_1 : decode prog_1_method_6_code 1 = .ok (.getfield 37, 3) := by decide +kernel
theorem d9_4 : decode prog_1_method_6_code 4 = .ok (.istore_n 3, 1) := by decide +kernel
theorem d9_5 : decode prog_1_method_6_code 5 = .ok (.aload_n 0, 1) := by decide +kernel
theorem d9_6 : decode prog_1_method_6_code 6 = .ok (.getfield 22, 3) := by decide +kernel
theorem d9_9 : decode prog_1_method_6_code 9 = .ok (.istore 4, 2) := by decide +kernel
theorem d9_11 : decode prog_1_method_6_code 11 = .ok (.iload_n 3, 1) := by decide +kernel
theorem d9_12 : decode prog_1_method_6_code 12 = .ok (.iload 4, 2) := by decide +kernel
theorem d9_14 : decode prog_1_method_6_code 14 = .ok (.if_icmp .ge 38, 3) := by decide +kernel
theorem d9_17 : decode prog_1_method_6_code 17 = .ok (.iload_n 3, 1) := by decide +kernel
theorem d9_18 : decode prog_1_method_6_code 18 = .ok (.iload 4, 2) := by decide +kernel
theorem d9_20 : decode prog_1_method_6_code 20 = .ok (.iadd, 1) := by decide +kernel
theorem d9_21 : decode prog_1_method_6_code 21 = .ok (.iconst 1, 1) := by decide +kernel
theorem d9_22 : decode prog_1_method_6_code 22 = .ok (.iushr, 1) := by decide +kernel
theorem d9_23 : decode prog_1_method_6_code 23 = .ok (.istore 5, 2) := by decide +kernel
theorem d9_25 : decode prog_1_method_6_code 25 = .ok (.aload_n 0, 1) := by decide +kernel
theorem d9_26 : decode prog_1_method_6_code 26 = .ok (.getfield 13, 3) := by decide +kernel
theorem d9_29 : decode prog_1_method_6_code 29 = .ok (.iload 5, 2) := by decide +kernel
theorem d9_31 : decode prog_1_method_6_code 31 = .ok (.laload, 1) := by decide +kernel
theorem d9_32 : decode prog_1_method_6_code 32 = .ok (.lload_n 1, 1) := by decide +kernel
theorem d9_33 : decode prog_1_method_6_code 33 = .ok (.lcmp, 1) := by decide +kernel
theorem d9_34 : decode prog_1_method_6_code 34 = .ok (.ifCond .le 10, 3) := by decide +kernel
theorem d9_37 : decode prog_1_method_6_code 37 = .ok (.iload 5, 2) := by decide +kernel
theorem d9_39 : decode prog_1_method_6_code 39 = .ok (.istore 4, 2) := by decide +kernel
theorem d9_41 : decode prog_1_method_6_code 41 = .ok (.goto 8, 3) := by decide +kernel
theorem d9_44 : decode prog_1_method_6_code 44 = .ok (.iload 5, 2) := by decide +kernel
theorem d9_46 : decode prog_1_method_6_code 46 = .ok (.iconst 1, 1) := by decide +kernel
theorem d9_47 : decode prog_1_method_6_code 47 = .ok (.iadd, 1) := by decide +kernel
theorem d9_48 : decode prog_1_method_6_code 48 = .ok (.istore_n 3, 1) := by decide +kernel
theorem d9_49 : decode prog_1_method_6_code 49 = .ok (.goto (-38), 3) := by decide +kernel
theorem d9_52 : decode prog_1_method_6_code 52 = .ok (.aload_n 0, 1) := by decide +kernel
theorem d9_53 : decode prog_1_method_6_code 53 = .ok (.getfield 16, 3) := by decide +kernel
theorem d9_56 : decode prog_1_method_6_code 56 = .ok (.iload_n 3, 1) := by decide +kernel
theorem d9_57 : decode prog_1_method_6_code 57 = .ok (.laload, 1) := by decide +kernel
theorem d9_58 : decode prog_1_method_6_code 58 = .ok (.lreturn, 1) := by decide +kernel
theorem pn_9 : plainFor (⟨"com/example/opledger/opledger/AppendTimes", "earliestAbove", "(J)J"⟩ : MethodName) = true := plainFor_of_name (by first | (simp [plainName, overriddenIn]; done) | decide +kernel)
theorem ef_rmE10 (m : MethodId) (x0 : Addr) (x1 : Int64) : entryFrame m #[(.ref x0), (.long x1)] 6 = mkF m 0 #[oR x0, oJ x1, oS, oU, oU, oU] [] := by first | (simp [entryFrame, mkF, argsToLocals, Value.category]; done) | rfl
def Q_rmE10 (Z : State) (a1 : Addr) (q : Int64) (wS wT : Addr) (kS kT : ClassId) (x0 y0 x1 y1 x2 y2 x3 y3 x4 y4 x5 y5 x6 y6 x7 y7 : Int64) (h0 : Heap) (n0 : Nat) (v : Option Value) (h : Heap) (L : List Loc) : Prop := v = some (.long y0) ∧ Fr n0 L ∧ h = h0
set_option maxRecDepth 65536 in
set_option maxHeartbeats 40000000 in
theorem rmE10 (l : Launch) (Z : State) (a0 : Array Value) (hw : ∀ d ∈ tables_1, d.before a0 Z = true) (ws : List Jvm.Cond) (a1 : Addr) (q : Int64) (wS wT : Addr) (kS kT : ClassId) (x0 y0 x1 y1 x2 y2 x3 y3 x4 y4 x5 y5 x6 y6 x7 y7 : Int64) (h0 : Heap) (n0 : Nat) (Z0 : n0 ≤ h0.size) (F_seqNos : Fld Z h0 a1 "com/example/opledger/opledger/AppendTimes" "seqNos" "[J" (.ref wS)) (F_starts : Fld Z h0 a1 "com/example/opledger/opledger/AppendTimes" "starts" "[J" (.ref wT)) (F_first : Fld Z h0 a1 "com/example/opledger/opledger/AppendTimes" "first" "I" (.int (0 : Int32))) (F_last : Fld Z h0 a1 "com/example/opledger/opledger/AppendTimes" "last" "I" (.int (2 : Int32))) (V_wS : Arv Z h0 wS kS .long (8 : Int32) [(.long x0), (.long x1), (.long x2), (.long x3), (.long x4), (.long x5), (.long x6), (.long x7)] (.long (0 : Int64))) (V_wT : Arv Z h0 wT kT .long (8 : Int32) [(.long y0), (.long y1), (.long y2), (.long y3), (.long y4), (.long y5), (.long y6), (.long y7)] (.long (0 : Int64))) (hq1 : q < x1) (hq0 : q < x0) :
    MetFree l (⟨"com/example/opledger/opledger/AppendTimes", "earliestAbove", "(J)J"⟩ : MethodName) (head1 (Jvm.Cond.code (⟨"com/example/opledger/opledger/AppendTimes", "earliestAbove", "(J)J"⟩ : MethodName) prog_1_method_6_code 6 (some .long) :: ws) ({ frames := 0, cells := 0, slots := 0, locals := 0 } : Room)) (fun a U => a = #[(.ref a1), (.long q)] ∧ Z.Warmed39 U.vm ∧ U.heap = h0) (fun _ _ _ _ _ => True) (fun _ U o U' => ∃ v L, o = .returned v ∧ Q_rmE10 Z a1 q wS wT kS kT x0 y0 x1 y1 x2 y2 x3 y3 x4 y4 x5 y5 x6 y6 x7 y7 h0 n0 v U'.heap L ∧ FrameEnd U o U' L ({ frames := 0, cells := 0, slots := 0, locals := 0 } : Room).cells ({ frames := 0, cells := 0, slots := 0, locals := 0 } : Room).slots) := by
  refine own_body (Q := fun v h L => Q_rmE10 Z a1 q wS wT kS kT x0 y0 x1 y1 x2 y2 x3 y3 x4 y4 x5 y5 x6 y6 x7 y7 h0 n0 v h L) pn_9 ?_
  intro p e s m below meth c s₁ G X0 hx hZ hby hml hown hnm hrt e0 hG hF
  have hown : s.vm.findClass "com/example/opledger/opledger/AppendTimes" = some m.cls := hown
  have N0 := Fr.nil n0
  rw [ef_rmE10 m a1 q]
  show G (s₁.setTop (mkF m 0 #[oR a1, oJ q, oS, oU, oU, oU] []))
  refine hG _ (s₁.setTop (mkF m 1 #[oR a1, oJ q, oS, oU, oU, oU] [(.ref a1)])) (fun t₀ k₀ => ?_) ?_
  · show Steps p.tables e below (s₁.setTop (mkF m 0 #[oR a1, oJ q, oS, oU, oU, oU] [])) t₀
    refine XS.aloadN X0.here hx rfl (hb hby d9_0) rfl rfl ?_
    exact k₀
  obtain ⟨T1, X1, e1, st1⟩ := getF X0 hx hZ hown (host := "") (Or.inl (hw _ (List.mem_of_getElem? (i := 33) rfl))) Via.refl e0 F_first (g := (mkF m 1 #[oR a1, oJ q, oS, oU, oU, oU] [(.ref a1)])) rfl rfl (hb hby d9_1)
  refine hG _ _ (fun t₀ k₀ => st1 _ k₀) ?_
  show G (T1.setTop (mkF m 4 #[oR a1, oJ q, oS, oU, oU, oU] [(.int (0 : Int32))]))
  refine hG _ (T1.setTop (mkF m 6 #[oR a1, oJ q, oS, oI (0 : Int32), oU, oU] [(.ref a1)])) (fun t₀ k₀ => ?_) ?_
  · show Steps p.tables e below (T1.setTop (mkF m 4 #[oR a1, oJ q, oS, oU, oU, oU] [(.int (0 : Int32))])) t₀
    refine XS.istoreN X1.here hx rfl (hb hby d9_4) rfl (l' := #[oR a1, oJ q, oS, oI (0 : Int32), oU, oU]) rfl ?_
    show Steps p.tables e below (T1.setTop (mkF m 5 #[oR a1, oJ q, oS, oI (0 : Int32), oU, oU] [])) t₀
    refine XS.aloadN X1.here hx rfl (hb hby d9_5) rfl rfl ?_
    exact k₀
  obtain ⟨T2, X2, e2, st2⟩ := getF X1 hx hZ hown (host := "") (Or.inl (hw _ (List.mem_of_getElem? (i := 21) rfl))) Via.refl e1 F_last (g := (mkF m 6 #[oR a1, oJ q, oS, oI (0 : Int32), oU, oU] [(.ref a1)])) rfl rfl (hb hby d9_6)
  refine hG _ _ (fun t₀ k₀ => st2 _ k₀) ?_
  show G (T2.setTop (mkF m 9 #[oR a1, oJ q, oS, oI (0 : Int32), oU, oU] [(.int (2 : Int32))]))
  refine hG _ (T2.setTop (mkF m 26 #[oR a1, oJ q, oS, oI (0 : Int32), oI (2 : Int32), oI (1 : Int32)] [(.ref a1)])) (fun t₀ k₀ => ?_) ?_
  · show Steps p.tables e below (T2.setTop (mkF m 9 #[oR a1, oJ q, oS, oI (0 : Int32), oU, oU] [(.int (2 : Int32))])) t₀
    refine XS.istore X2.here hx rfl (hb hby d9_9) rfl (l' := #[oR a1, oJ q, oS, oI (0 : Int32), oI (2 : Int32), oU]) rfl ?_
    show Steps p.tables e below (T2.setTop (mkF m 11 #[oR a1, oJ q, oS, oI (0 : Int32), oI (2 : Int32), oU] [])) t₀
    refine XS.iloadN X2.here hx rfl (hb hby d9_11) rfl ?_
    show Steps p.tables e below (T2.setTop (mkF m 12 #[oR a1, oJ q, oS, oI (0 : Int32), oI (2 : Int32), oU] [(.int (0 : Int32))])) t₀
    refine XS.iload X2.here hx rfl (hb hby d9_12) rfl ?_
    show Steps p.tables e below (T2.setTop (mkF m 14 #[oR a1, oJ q, oS, oI (0 : Int32), oI (2 : Int32), oU] [(.int (2 : Int32)), (.int (0 : Int32))])) t₀
    refine XS.icmpNo X2.here hx rfl (hb hby d9_14) rfl (tlt (by decide : ((0 : Int32) < (2 : Int32)))).2.1 ?_
    show Steps p.tables e below (T2.setTop (mkF m 17 #[oR a1, oJ q, oS, oI (0 : Int32), oI (2 : Int32), oU] [])) t₀
    refine XS.iloadN X2.here hx rfl (hb hby d9_17) rfl ?_
    show Steps p.tables e below (T2.setTop (mkF m 18 #[oR a1, oJ q, oS, oI (0 : Int32), oI (2 : Int32), oU] [(.int (0 : Int32))])) t₀
    refine XS.iload X2.here hx rfl (hb hby d9_18) rfl ?_
    show Steps p.tables e below (T2.setTop (mkF m 20 #[oR a1, oJ q, oS, oI (0 : Int32), oI (2 : Int32), oU] [(.int (2 : Int32)), (.int (0 : Int32))])) t₀
    refine XS.iadd X2.here hx rfl (hb hby d9_20) rfl ?_
    show Steps p.tables e below (T2.setTop (mkF m 21 #[oR a1, oJ q, oS, oI (0 : Int32), oI (2 : Int32), oU] [(.int (2 : Int32))])) t₀
    refine XS.iconst X2.here hx rfl (hb hby d9_21) ?_
    show Steps p.tables e below (T2.setTop (mkF m 22 #[oR a1, oJ q, oS, oI (0 : Int32), oI (2 : Int32), oU] [(.int (1 : Int32)), (.int (2 : Int32))])) t₀
    refine XS.iushr X2.here hx rfl (hb hby d9_22) rfl ?_
    show Steps p.tables e below (T2.setTop (mkF m 23 #[oR a1, oJ q, oS, oI (0 : Int32), oI (2 : Int32), oU] [(.int (1 : Int32))])) t₀
    refine XS.istore X2.here hx rfl (hb hby d9_23) rfl (l' := #[oR a1, oJ q, oS, oI (0 : Int32), oI (2 : Int32), oI (1 : Int32)]) rfl ?_
    show Steps p.tables e below (T2.setTop (mkF m 25 #[oR a1, oJ q, oS, oI (0 : Int32), oI (2 : Int32), oI (1 : Int32)] [])) t₀
    refine XS.aloadN X2.here hx rfl (hb hby d9_25) rfl rfl ?_
    exact k₀
  obtain ⟨T3, X3, e3, st3⟩ := getF X2 hx hZ hown (host := "") (Or.inl (hw _ (List.mem_of_getElem? (i := 15) rfl))) Via.refl e2 F_seqNos (g := (mkF m 26 #[oR a1, oJ q, oS, oI (0 : Int32), oI (2 : Int32), oI (1 : Int32)] [(.ref a1)])) rfl rfl (hb hby d9_26)
  refine hG _ _ (fun t₀ k₀ => st3 _ k₀) ?_
  show G (T3.setTop (mkF m 29 #[oR a1, oJ q, oS, oI (0 : Int32), oI (2 : Int32), oI (1 : Int32)] [(.ref wS)]))
  refine hG _ (T3.setTop (mkF m 31 #[oR a1, oJ q, oS, oI (0 : Int32), oI (2 : Int32), oI (1 : Int32)] [(.int (1 : Int32)), (.ref wS)])) (fun t₀ k₀ => ?_) ?_
  · show Steps p.tables e below (T3.setTop (mkF m 29 #[oR a1, oJ q, oS, oI (0 : Int32), oI (2 : Int32), oI (1 : Int32)] [(.ref wS)])) t₀
    refine XS.iload X3.here hx rfl (hb hby d9_29) rfl ?_
    exact k₀
  have ov4 := V_wS
  obtain ⟨cl4, Ar4, q4, S4, N_4, H_4, G_4⟩ := ov4
  have hin4 : ¬ ((1 : Int32) < 0 ∨ cl4.slots.size ≤ ((1 : Int32)).toNatClampNeg) := inb_of S4 ⟨by decide, by decide⟩
  have hat4 : cl4.slots[((1 : Int32)).toNatClampNeg]? = some (.long x1) := H_4.at hin4 rfl
  refine hG _ (T3.setTop (mkF m 26 #[oR a1, oJ q, oS, oI (0 : Int32), oI (1 : Int32), oI (0 : Int32)] [(.ref a1)])) (fun t₀ k₀ => ?_) ?_
  · show Steps p.tables e below (T3.setTop (mkF m 31 #[oR a1, oJ q, oS, oI (0 : Int32), oI (2 : Int32), oI (1 : Int32)] [(.int (1 : Int32)), (.ref wS)])) t₀
    refine X3.laload hx (j := (1 : Int32)) (v := (.long x1)) (by rw [e3]; exact Ar4.1) (State.isArrayOf_alike hZ.alike Ar4.2.1) Ar4.2.2 hin4 hat4 (g := (mkF m 31 #[oR a1, oJ q, oS, oI (0 : Int32), oI (2 : Int32), oI (1 : Int32)] [(.int (1 : Int32)), (.ref wS)])) rfl rfl (hb hby d9_31) _ ?_
    show Steps p.tables e below (T3.setTop (mkF m 32 #[oR a1, oJ q, oS, oI (0 : Int32), oI (2 : Int32), oI (1 : Int32)] [(.long x1)])) t₀
    refine XS.lloadN X3.here hx rfl (hb hby d9_32) rfl ?_
    show Steps p.tables e below (T3.setTop (mkF m 33 #[oR a1, oJ q, oS, oI (0 : Int32), oI (2 : Int32), oI (1 : Int32)] [(.long q), (.long x1)])) t₀
    refine XS.lcmp X3.here hx rfl (hb hby d9_33) rfl ?_
    show Steps p.tables e below (T3.setTop (mkF m 34 #[oR a1, oJ q, oS, oI (0 : Int32), oI (2 : Int32), oI (1 : Int32)] [(.int (lcmpW x1 q))])) t₀
    refine XS.ifNo X3.here hx rfl (hb hby d9_34) rfl ((if0 _ _).trans (tlt ((lw_gt x1 q).mpr hq1)).2.2.2) ?_
    show Steps p.tables e below (T3.setTop (mkF m 37 #[oR a1, oJ q, oS, oI (0 : Int32), oI (2 : Int32), oI (1 : Int32)] [])) t₀
    refine XS.iload X3.here hx rfl (hb hby d9_37) rfl ?_
    show Steps p.tables e below (T3.setTop (mkF m 39 #[oR a1, oJ q, oS, oI (0 : Int32), oI (2 : Int32), oI (1 : Int32)] [(.int (1 : Int32))])) t₀
    refine XS.istore X3.here hx rfl (hb hby d9_39) rfl (l' := #[oR a1, oJ q, oS, oI (0 : Int32), oI (1 : Int32), oI (1 : Int32)]) rfl ?_
    show Steps p.tables e below (T3.setTop (mkF m 41 #[oR a1, oJ q, oS, oI (0 : Int32), oI (1 : Int32), oI (1 : Int32)] [])) t₀
    refine XS.goto X3.here hx rfl (pc0 := 41) (pc' := 49) rfl (hb hby d9_41) (by decide) (by decide) ?_
    show Steps p.tables e below (T3.setTop (mkF m 49 #[oR a1, oJ q, oS, oI (0 : Int32), oI (1 : Int32), oI (1 : Int32)] [])) t₀
    refine XS.goto X3.here hx rfl (pc0 := 49) (pc' := 11) rfl (hb hby d9_49) (by decide) (by decide) ?_
    show Steps p.tables e below (T3.setTop (mkF m 11 #[oR a1, oJ q, oS, oI (0 : Int32), oI (1 : Int32), oI (1 : Int32)] [])) t₀
    refine XS.iloadN X3.here hx rfl (hb hby d9_11) rfl ?_
    show Steps p.tables e below (T3.setTop (mkF m 12 #[oR a1, oJ q, oS, oI (0 : Int32), oI (1 : Int32), oI (1 : Int32)] [(.int (0 : Int32))])) t₀
    refine XS.iload X3.here hx rfl (hb hby d9_12) rfl ?_
    show Steps p.tables e below (T3.setTop (mkF m 14 #[oR a1, oJ q, oS, oI (0 : Int32), oI (1 : Int32), oI (1 : Int32)] [(.int (1 : Int32)), (.int (0 : Int32))])) t₀
    refine XS.icmpNo X3.here hx rfl (hb hby d9_14) rfl (tlt (by decide : ((0 : Int32) < (1 : Int32)))).2.1 ?_
    show Steps p.tables e below (T3.setTop (mkF m 17 #[oR a1, oJ q, oS, oI (0 : Int32), oI (1 : Int32), oI (1 : Int32)] [])) t₀
    refine XS.iloadN X3.here hx rfl (hb hby d9_17) rfl ?_
    show Steps p.tables e below (T3.setTop (mkF m 18 #[oR a1, oJ q, oS, oI (0 : Int32), oI (1 : Int32), oI (1 : Int32)] [(.int (0 : Int32))])) t₀
    refine XS.iload X3.here hx rfl (hb hby d9_18) rfl ?_
    show Steps p.tables e below (T3.setTop (mkF m 20 #[oR a1, oJ q, oS, oI (0 : Int32), oI (1 : Int32), oI (1 : Int32)] [(.int (1 : Int32)), (.int (0 : Int32))])) t₀
    refine XS.iadd X3.here hx rfl (hb hby d9_20) rfl ?_
    show Steps p.tables e below (T3.setTop (mkF m 21 #[oR a1, oJ q, oS, oI (0 : Int32), oI (1 : Int32), oI (1 : Int32)] [(.int (1 : Int32))])) t₀
    refine XS.iconst X3.here hx rfl (hb hby d9_21) ?_
    show Steps p.tables e below (T3.setTop (mkF m 22 #[oR a1, oJ q, oS, oI (0 : Int32), oI (1 : Int32), oI (1 : Int32)] [(.int (1 : Int32)), (.int (1 : Int32))])) t₀
    refine XS.iushr X3.here hx rfl (hb hby d9_22) rfl ?_
    show Steps p.tables e below (T3.setTop (mkF m 23 #[oR a1, oJ q, oS, oI (0 : Int32), oI (1 : Int32), oI (1 : Int32)] [(.int (0 : Int32))])) t₀
    refine XS.istore X3.here hx rfl (hb hby d9_23) rfl (l' := #[oR a1, oJ q, oS, oI (0 : Int32), oI (1 : Int32), oI (0 : Int32)]) rfl ?_
    show Steps p.tables e below (T3.setTop (mkF m 25 #[oR a1, oJ q, oS, oI (0 : Int32), oI (1 : Int32), oI (0 : Int32)] [])) t₀
    refine XS.aloadN X3.here hx rfl (hb hby d9_25) rfl rfl ?_
    exact k₀
  obtain ⟨T5, X5, e5, st5⟩ := getF X3 hx hZ hown (host := "") (Or.inl (hw _ (List.mem_of_getElem? (i := 15) rfl))) Via.refl e3 F_seqNos (g := (mkF m 26 #[oR a1, oJ q, oS, oI (0 : Int32), oI (1 : Int32), oI (0 : Int32)] [(.ref a1)])) rfl rfl (hb hby d9_26)
  refine hG _ _ (fun t₀ k₀ => st5 _ k₀) ?_
  show G (T5.setTop (mkF m 29 #[oR a1, oJ q, oS, oI (0 : Int32), oI (1 : Int32), oI (0 : Int32)] [(.ref wS)]))
  refine hG _ (T5.setTop (mkF m 31 #[oR a1, oJ q, oS, oI (0 : Int32), oI (1 : Int32), oI (0 : Int32)] [(.int (0 : Int32)), (.ref wS)])) (fun t₀ k₀ => ?_) ?_
  · show Steps p.tables e below (T5.setTop (mkF m 29 #[oR a1, oJ q, oS, oI (0 : Int32), oI (1 : Int32), oI (0 : Int32)] [(.ref wS)])) t₀
    refine XS.iload X5.here hx rfl (hb hby d9_29) rfl ?_
    exact k₀
  have ov6 := V_wS
  obtain ⟨cl6, Ar6, q6, S6, N_6, H_6, G_6⟩ := ov6
  have hin6 : ¬ ((0 : Int32) < 0 ∨ cl6.slots.size ≤ ((0 : Int32)).toNatClampNeg) := inb_of S6 ⟨by decide, by decide⟩
  have hat6 : cl6.slots[((0 : Int32)).toNatClampNeg]? = some (.long x0) := H_6.at hin6 rfl
  refine hG _ (T5.setTop (mkF m 53 #[oR a1, oJ q, oS, oI (0 : Int32), oI (0 : Int32), oI (0 : Int32)] [(.ref a1)])) (fun t₀ k₀ => ?_) ?_
  · show Steps p.tables e below (T5.setTop (mkF m 31 #[oR a1, oJ q, oS, oI (0 : Int32), oI (1 : Int32), oI (0 : Int32)] [(.int (0 : Int32)), (.ref wS)])) t₀
    refine X5.laload hx (j := (0 : Int32)) (v := (.long x0)) (by rw [e5]; exact Ar6.1) (State.isArrayOf_alike hZ.alike Ar6.2.1) Ar6.2.2 hin6 hat6 (g := (mkF m 31 #[oR a1, oJ q, oS, oI (0 : Int32), oI (1 : Int32), oI (0 : Int32)] [(.int (0 : Int32)), (.ref wS)])) rfl rfl (hb hby d9_31) _ ?_
    show Steps p.tables e below (T5.setTop (mkF m 32 #[oR a1, oJ q, oS, oI (0 : Int32), oI (1 : Int32), oI (0 : Int32)] [(.long x0)])) t₀
    refine XS.lloadN X5.here hx rfl (hb hby d9_32) rfl ?_
    show Steps p.tables e below (T5.setTop (mkF m 33 #[oR a1, oJ q, oS, oI (0 : Int32), oI (1 : Int32), oI (0 : Int32)] [(.long q), (.long x0)])) t₀
    refine XS.lcmp X5.here hx rfl (hb hby d9_33) rfl ?_
    show Steps p.tables e below (T5.setTop (mkF m 34 #[oR a1, oJ q, oS, oI (0 : Int32), oI (1 : Int32), oI (0 : Int32)] [(.int (lcmpW x0 q))])) t₀
    refine XS.ifNo X5.here hx rfl (hb hby d9_34) rfl ((if0 _ _).trans (tlt ((lw_gt x0 q).mpr hq0)).2.2.2) ?_
    show Steps p.tables e below (T5.setTop (mkF m 37 #[oR a1, oJ q, oS, oI (0 : Int32), oI (1 : Int32), oI (0 : Int32)] [])) t₀
    refine XS.iload X5.here hx rfl (hb hby d9_37) rfl ?_
    show Steps p.tables e below (T5.setTop (mkF m 39 #[oR a1, oJ q, oS, oI (0 : Int32), oI (1 : Int32), oI (0 : Int32)] [(.int (0 : Int32))])) t₀
    refine XS.istore X5.here hx rfl (hb hby d9_39) rfl (l' := #[oR a1, oJ q, oS, oI (0 : Int32), oI (0 : Int32), oI (0 : Int32)]) rfl ?_
    show Steps p.tables e below (T5.setTop (mkF m 41 #[oR a1, oJ q, oS, oI (0 : Int32), oI (0 : Int32), oI (0 : Int32)] [])) t₀
    refine XS.goto X5.here hx rfl (pc0 := 41) (pc' := 49) rfl (hb hby d9_41) (by decide) (by decide) ?_
    show Steps p.tables e below (T5.setTop (mkF m 49 #[oR a1, oJ q, oS, oI (0 : Int32), oI (0 : Int32), oI (0 : Int32)] [])) t₀
    refine XS.goto X5.here hx rfl (pc0 := 49) (pc' := 11) rfl (hb hby d9_49) (by decide) (by decide) ?_
    show Steps p.tables e below (T5.setTop (mkF m 11 #[oR a1, oJ q, oS, oI (0 : Int32), oI (0 : Int32), oI (0 : Int32)] [])) t₀
    refine XS.iloadN X5.here hx rfl (hb hby d9_11) rfl ?_
    show Steps p.tables e below (T5.setTop (mkF m 12 #[oR a1, oJ q, oS, oI (0 : Int32), oI (0 : Int32), oI (0 : Int32)] [(.int (0 : Int32))])) t₀
    refine XS.iload X5.here hx rfl (hb hby d9_12) rfl ?_
    show Steps p.tables e below (T5.setTop (mkF m 14 #[oR a1, oJ q, oS, oI (0 : Int32), oI (0 : Int32), oI (0 : Int32)] [(.int (0 : Int32)), (.int (0 : Int32))])) t₀
    refine XS.icmpYes X5.here hx rfl (pc0 := 14) (pc' := 52) rfl (hb hby d9_14) rfl (flt (by decide : ¬ ((0 : Int32) < (0 : Int32)))).2.1 (by decide) (by decide) ?_
    show Steps p.tables e below (T5.setTop (mkF m 52 #[oR a1, oJ q, oS, oI (0 : Int32), oI (0 : Int32), oI (0 : Int32)] [])) t₀
    refine XS.aloadN X5.here hx rfl (hb hby d9_52) rfl rfl ?_
    exact k₀
  obtain ⟨T7, X7, e7, st7⟩ := getF X5 hx hZ hown (host := "") (Or.inl (hw _ (List.mem_of_getElem? (i := 17) rfl))) Via.refl e5 F_starts (g := (mkF m 53 #[oR a1, oJ q, oS, oI (0 : Int32), oI (0 : Int32), oI (0 : Int32)] [(.ref a1)])) rfl rfl (hb hby d9_53)
  refine hG _ _ (fun t₀ k₀ => st7 _ k₀) ?_
  show G (T7.setTop (mkF m 56 #[oR a1, oJ q, oS, oI (0 : Int32), oI (0 : Int32), oI (0 : Int32)] [(.ref wT)]))
  refine hG _ (T7.setTop (mkF m 57 #[oR a1, oJ q, oS, oI (0 : Int32), oI (0 : Int32), oI (0 : Int32)] [(.int (0 : Int32)), (.ref wT)])) (fun t₀ k₀ => ?_) ?_
  · show Steps p.tables e below (T7.setTop (mkF m 56 #[oR a1, oJ q, oS, oI (0 : Int32), oI (0 : Int32), oI (0 : Int32)] [(.ref wT)])) t₀
    refine XS.iloadN X7.here hx rfl (hb hby d9_56) rfl ?_
    exact k₀
  have ov8 := V_wT
  obtain ⟨cl8, Ar8, q8, S8, N_8, H_8, G_8⟩ := ov8
  have hin8 : ¬ ((0 : Int32) < 0 ∨ cl8.slots.size ≤ ((0 : Int32)).toNatClampNeg) := inb_of S8 ⟨by decide, by decide⟩
  have hat8 : cl8.slots[((0 : Int32)).toNatClampNeg]? = some (.long y0) := H_8.at hin8 rfl
  refine hG _ (T7.setTop (mkF m 58 #[oR a1, oJ q, oS, oI (0 : Int32), oI (0 : Int32), oI (0 : Int32)] [(.long y0)])) (fun t₀ k₀ => ?_) ?_
  · show Steps p.tables e below (T7.setTop (mkF m 57 #[oR a1, oJ q, oS, oI (0 : Int32), oI (0 : Int32), oI (0 : Int32)] [(.int (0 : Int32)), (.ref wT)])) t₀
    refine X7.laload hx (j := (0 : Int32)) (v := (.long y0)) (by rw [e7]; exact Ar8.1) (State.isArrayOf_alike hZ.alike Ar8.2.1) Ar8.2.2 hin8 hat8 (g := (mkF m 57 #[oR a1, oJ q, oS, oI (0 : Int32), oI (0 : Int32), oI (0 : Int32)] [(.int (0 : Int32)), (.ref wT)])) rfl rfl (hb hby d9_57) _ ?_
    exact k₀
  refine hF _ T7 _ _ _ (some (.long y0)) _ X7 e7 (fun h => by rw [hrt] at h; cases h) (by decide) (by decide) ?_ (fun fs hr => own_retJ X7 hx hrt (hb hby d9_58) hr)
  exact ⟨rfl, N0, rfl⟩
theorem ef_rmE11 (m : MethodId) (x0 : Addr) (x1 : Int64) : entryFrame m #[(.ref x0), (.long x1)] 6 = mkF m 0 #[oR x0, oJ x1, oS, oU, oU, oU] [] := by first | (simp [entryFrame, mkF, argsToLocals, Value.category]; done) | rfl
def Q_rmE11 (Z : State) (a1 : Addr) (q : Int64) (wS wT : Addr) (kS kT : ClassId) (x0 y0 x1 y1 x2 y2 x3 y3 x4 y4 x5 y5 x6 y6 x7 y7 : Int64) (h0 : Heap) (n0 : Nat) (v : Option Value) (h : Heap) (L : List Loc) : Prop := v = some (.long y1) ∧ Fr n0 L ∧ h = h0
set_option maxRecDepth 65536 in
set_option maxHeartbeats 40000000 in
theorem rmE11 (l : Launch) (Z : State) (a0 : Array Value) (hw : ∀ d ∈ tables_1, d.before a0 Z = true) (ws : List Jvm.Cond) (a1 : Addr) (q : Int64) (wS wT : Addr) (kS kT : ClassId) (x0 y0 x1 y1 x2 y2 x3 y3 x4 y4 x5 y5 x6 y6 x7 y7 : Int64) (h0 : Heap) (n0 : Nat) (Z0 : n0 ≤ h0.size) (F_seqNos : Fld Z h0 a1 "com/example/opledger/opledger/AppendTimes" "seqNos" "[J" (.ref wS)) (F_starts : Fld Z h0 a1 "com/example/opledger/opledger/AppendTimes" "starts" "[J" (.ref wT)) (F_first : Fld Z h0 a1 "com/example/opledger/opledger/AppendTimes" "first" "I" (.int (1 : Int32))) (F_last : Fld Z h0 a1 "com/example/opledger/opledger/AppendTimes" "last" "I" (.int (2 : Int32))) (V_wS : Arv Z h0 wS kS .long (8 : Int32) [(.long x0), (.long x1), (.long x2), (.long x3), (.long x4), (.long x5), (.long x6), (.long x7)] (.long (0 : Int64))) (V_wT : Arv Z h0 wT kT .long (8 : Int32) [(.long y0), (.long y1), (.long y2), (.long y3), (.long y4), (.long y5), (.long y6), (.long y7)] (.long (0 : Int64))) (hq1 : q < x1) :
    MetFree l (⟨"com/example/opledger/opledger/AppendTimes", "earliestAbove", "(J)J"⟩ : MethodName) (head1 (Jvm.Cond.code (⟨"com/example/opledger/opledger/AppendTimes", "earliestAbove", "(J)J"⟩ : MethodName) prog_1_method_6_code 6 (some .long) :: ws) ({ frames := 0, cells := 0, slots := 0, locals := 0 } : Room)) (fun a U => a = #[(.ref a1), (.long q)] ∧ Z.Warmed39 U.vm ∧ U.heap = h0) (fun _ _ _ _ _ => True) (fun _ U o U' => ∃ v L, o = .returned v ∧ Q_rmE11 Z a1 q wS wT kS kT x0 y0 x1 y1 x2 y2 x3 y3 x4 y4 x5 y5 x6 y6 x7 y7 h0 n0 v U'.heap L ∧ FrameEnd U o U' L ({ frames := 0, cells := 0, slots := 0, locals := 0 } : Room).cells ({ frames := 0, cells := 0, slots := 0, locals := 0 } : Room).slots) := by
  refine own_body (Q := fun v h L => Q_rmE11 Z a1 q wS wT kS kT x0 y0 x1 y1 x2 y2 x3 y3 x4 y4 x5 y5 x6 y6 x7 y7 h0 n0 v h L) pn_9 ?_
  intro p e s m below meth c s₁ G X0 hx hZ hby hml hown hnm hrt e0 hG hF
  have hown : s.vm.findClass "com/example/opledger/opledger/AppendTimes" = some m.cls := hown
  have N0 := Fr.nil n0
  rw [ef_rmE11 m a1 q]
  show G (s₁.setTop (mkF m 0 #[oR a1, oJ q, oS, oU, oU, oU] []))
  refine hG _ (s₁.setTop (mkF m 1 #[oR a1, oJ q, oS, oU, oU, oU] [(.ref a1)])) (fun t₀ k₀ => ?_) ?_
  · show Steps p.tables e below (s₁.setTop (mkF m 0 #[oR a1, oJ q, oS, oU, oU, oU] [])) t₀
    refine XS.aloadN X0.here hx rfl (hb hby d9_0) rfl rfl ?_
    exact k₀
  obtain ⟨T1, X1, e1, st1⟩ := getF X0 hx hZ hown (host := "") (Or.inl (hw _ (List.mem_of_getElem? (i := 33) rfl))) Via.refl e0 F_first (g := (mkF m 1 #[oR a1, oJ q, oS, oU, oU, oU] [(.ref a1)])) rfl rfl (hb hby d9_1)
  refine hG _ _ (fun t₀ k₀ => st1 _ k₀) ?_
  show G (T1.setTop (mkF m 4 #[oR a1, oJ q, oS, oU, oU, oU] [(.int (1 : Int32))]))
  refine hG _ (T1.setTop (mkF m 6 #[oR a1, oJ q, oS, oI (1 : Int32), oU, oU] [(.ref a1)])) (fun t₀ k₀ => ?_) ?_
  · show Steps p.tables e below (T1.setTop (mkF m 4 #[oR a1, oJ q, oS, oU, oU, oU] [(.int (1 : Int32))])) t₀
    refine XS.istoreN X1.here hx rfl (hb hby d9_4) rfl (l' := #[oR a1, oJ q, oS, oI (1 : Int32), oU, oU]) rfl ?_
    show Steps p.tables e below (T1.setTop (mkF m 5 #[oR a1, oJ q, oS, oI (1 : Int32), oU, oU] [])) t₀
    refine XS.aloadN X1.here hx rfl (hb hby d9_5) rfl rfl ?_
    exact k₀
  obtain ⟨T2, X2, e2, st2⟩ := getF X1 hx hZ hown (host := "") (Or.inl (hw _ (List.mem_of_getElem? (i := 21) rfl))) Via.refl e1 F_last (g := (mkF m 6 #[oR a1, oJ q, oS, oI (1 : Int32), oU, oU] [(.ref a1)])) rfl rfl (hb hby d9_6)
  refine hG _ _ (fun t₀ k₀ => st2 _ k₀) ?_
  show G (T2.setTop (mkF m 9 #[oR a1, oJ q, oS, oI (1 : Int32), oU, oU] [(.int (2 : Int32))]))
  refine hG _ (T2.setTop (mkF m 26 #[oR a1, oJ q, oS, oI (1 : Int32), oI (2 : Int32), oI (1 : Int32)] [(.ref a1)])) (fun t₀ k₀ => ?_) ?_
  · show Steps p.tables e below (T2.setTop (mkF m 9 #[oR a1, oJ q, oS, oI (1 : Int32), oU, oU] [(.int (2 : Int32))])) t₀
    refine XS.istore X2.here hx rfl (hb hby d9_9) rfl (l' := #[oR a1, oJ q, oS, oI (1 : Int32), oI (2 : Int32), oU]) rfl ?_
    show Steps p.tables e below (T2.setTop (mkF m 11 #[oR a1, oJ q, oS, oI (1 : Int32), oI (2 : Int32), oU] [])) t₀
    refine XS.iloadN X2.here hx rfl (hb hby d9_11) rfl ?_
    show Steps p.tables e below (T2.setTop (mkF m 12 #[oR a1, oJ q, oS, oI (1 : Int32), oI (2 : Int32), oU] [(.int (1 : Int32))])) t₀
    refine XS.iload X2.here hx rfl (hb hby d9_12) rfl ?_
    show Steps p.tables e below (T2.setTop (mkF m 14 #[oR a1, oJ q, oS, oI (1 : Int32), oI (2 : Int32), oU] [(.int (2 : Int32)), (.int (1 : Int32))])) t₀
    refine XS.icmpNo X2.here hx rfl (hb hby d9_14) rfl (tlt (by decide : ((1 : Int32) < (2 : Int32)))).2.1 ?_
    show Steps p.tables e below (T2.setTop (mkF m 17 #[oR a1, oJ q, oS, oI (1 : Int32), oI (2 : Int32), oU] [])) t₀
    refine XS.iloadN X2.here hx rfl (hb hby d9_17) rfl ?_
    show Steps p.tables e below (T2.setTop (mkF m 18 #[oR a1, oJ q, oS, oI (1 : Int32), oI (2 : Int32), oU] [(.int (1 : Int32))])) t₀
    refine XS.iload X2.here hx rfl (hb hby d9_18) rfl ?_
    show Steps p.tables e below (T2.setTop (mkF m 20 #[oR a1, oJ q, oS, oI (1 : Int32), oI (2 : Int32), oU] [(.int (2 : Int32)), (.int (1 : Int32))])) t₀
    refine XS.iadd X2.here hx rfl (hb hby d9_20) rfl ?_
    show Steps p.tables e below (T2.setTop (mkF m 21 #[oR a1, oJ q, oS, oI (1 : Int32), oI (2 : Int32), oU] [(.int (3 : Int32))])) t₀
    refine XS.iconst X2.here hx rfl (hb hby d9_21) ?_
    show Steps p.tables e below (T2.setTop (mkF m 22 #[oR a1, oJ q, oS, oI (1 : Int32), oI (2 : Int32), oU] [(.int (1 : Int32)), (.int (3 : Int32))])) t₀
    refine XS.iushr X2.here hx rfl (hb hby d9_22) rfl ?_
    show Steps p.tables e below (T2.setTop (mkF m 23 #[oR a1, oJ q, oS, oI (1 : Int32), oI (2 : Int32), oU] [(.int (1 : Int32))])) t₀
    refine XS.istore X2.here hx rfl (hb hby d9_23) rfl (l' := #[oR a1, oJ q, oS, oI (1 : Int32), oI (2 : Int32), oI (1 : Int32)]) rfl ?_
    show Steps p.tables e below (T2.setTop (mkF m 25 #[oR a1, oJ q, oS, oI (1 : Int32), oI (2 : Int32), oI (1 : Int32)] [])) t₀
    refine XS.aloadN X2.here hx rfl (hb hby d9_25) rfl rfl ?_
    exact k₀
  obtain ⟨T3, X3, e3, st3⟩ := getF X2 hx hZ hown (host := "") (Or.inl (hw _ (List.mem_of_getElem? (i := 15) rfl))) Via.refl e2 F_seqNos (g := (mkF m 26 #[oR a1, oJ q, oS, oI (1 : Int32), oI (2 : Int32), oI (1 : Int32)] [(.ref a1)])) rfl rfl (hb hby d9_26)
  refine hG _ _ (fun t₀ k₀ => st3 _ k₀) ?_
  show G (T3.setTop (mkF m 29 #[oR a1, oJ q, oS, oI (1 : Int32), oI (2 : Int32), oI (1 : Int32)] [(.ref wS)]))
  refine hG _ (T3.setTop (mkF m 31 #[oR a1, oJ q, oS, oI (1 : Int32), oI (2 : Int32), oI (1 : Int32)] [(.int (1 : Int32)), (.ref wS)])) (fun t₀ k₀ => ?_) ?_
  · show Steps p.tables e below (T3.setTop (mkF m 29 #[oR a1, oJ q, oS, oI (1 : Int32), oI (2 : Int32), oI (1 : Int32)] [(.ref wS)])) t₀
    refine XS.iload X3.here hx rfl (hb hby d9_29) rfl ?_
    exact k₀
  have ov4 := V_wS
  obtain ⟨cl4, Ar4, q4, S4, N_4, H_4, G_4⟩ := ov4
  have hin4 : ¬ ((1 : Int32) < 0 ∨ cl4.slots.size ≤ ((1 : Int32)).toNatClampNeg) := inb_of S4 ⟨by decide, by decide⟩
  have hat4 : cl4.slots[((1 : Int32)).toNatClampNeg]? = some (.long x1) := H_4.at hin4 rfl
  refine hG _ (T3.setTop (mkF m 53 #[oR a1, oJ q, oS, oI (1 : Int32), oI (1 : Int32), oI (1 : Int32)] [(.ref a1)])) (fun t₀ k₀ => ?_) ?_
  · show Steps p.tables e below (T3.setTop (mkF m 31 #[oR a1, oJ q, oS, oI (1 : Int32), oI (2 : Int32), oI (1 : Int32)] [(.int (1 : Int32)), (.ref wS)])) t₀
    refine X3.laload hx (j := (1 : Int32)) (v := (.long x1)) (by rw [e3]; exact Ar4.1) (State.isArrayOf_alike hZ.alike Ar4.2.1) Ar4.2.2 hin4 hat4 (g := (mkF m 31 #[oR a1, oJ q, oS, oI (1 : Int32), oI (2 : Int32), oI (1 : Int32)] [(.int (1 : Int32)), (.ref wS)])) rfl rfl (hb hby d9_31) _ ?_
    show Steps p.tables e below (T3.setTop (mkF m 32 #[oR a1, oJ q, oS, oI (1 : Int32), oI (2 : Int32), oI (1 : Int32)] [(.long x1)])) t₀
    refine XS.lloadN X3.here hx rfl (hb hby d9_32) rfl ?_
    show Steps p.tables e below (T3.setTop (mkF m 33 #[oR a1, oJ q, oS, oI (1 : Int32), oI (2 : Int32), oI (1 : Int32)] [(.long q), (.long x1)])) t₀
    refine XS.lcmp X3.here hx rfl (hb hby d9_33) rfl ?_
    show Steps p.tables e below (T3.setTop (mkF m 34 #[oR a1, oJ q, oS, oI (1 : Int32), oI (2 : Int32), oI (1 : Int32)] [(.int (lcmpW x1 q))])) t₀
    refine XS.ifNo X3.here hx rfl (hb hby d9_34) rfl ((if0 _ _).trans (tlt ((lw_gt x1 q).mpr hq1)).2.2.2) ?_
    show Steps p.tables e below (T3.setTop (mkF m 37 #[oR a1, oJ q, oS, oI (1 : Int32), oI (2 : Int32), oI (1 : Int32)] [])) t₀
    refine XS.iload X3.here hx rfl (hb hby d9_37) rfl ?_
    show Steps p.tables e below (T3.setTop (mkF m 39 #[oR a1, oJ q, oS, oI (1 : Int32), oI (2 : Int32), oI (1 : Int32)] [(.int (1 : Int32))])) t₀
    refine XS.istore X3.here hx rfl (hb hby d9_39) rfl (l' := #[oR a1, oJ q, oS, oI (1 : Int32), oI (1 : Int32), oI (1 : Int32)]) rfl ?_
    show Steps p.tables e below (T3.setTop (mkF m 41 #[oR a1, oJ q, oS, oI (1 : Int32), oI (1 : Int32), oI (1 : Int32)] [])) t₀
    refine XS.goto X3.here hx rfl (pc0 := 41) (pc' := 49) rfl (hb hby d9_41) (by decide) (by decide) ?_
    show Steps p.tables e below (T3.setTop (mkF m 49 #[oR a1, oJ q, oS, oI (1 : Int32), oI (1 : Int32), oI (1 : Int32)] [])) t₀
    refine XS.goto X3.here hx rfl (pc0 := 49) (pc' := 11) rfl (hb hby d9_49) (by decide) (by decide) ?_
    show Steps p.tables e below (T3.setTop (mkF m 11 #[oR a1, oJ q, oS, oI (1 : Int32), oI (1 : Int32), oI (1 : Int32)] [])) t₀
    refine XS.iloadN X3.here hx rfl (hb hby d9_11) rfl ?_
    show Steps p.tables e below (T3.setTop (mkF m 12 #[oR a1, oJ q, oS, oI (1 : Int32), oI (1 : Int32), oI (1 : Int32)] [(.int (1 : Int32))])) t₀
    refine XS.iload X3.here hx rfl (hb hby d9_12) rfl ?_
    show Steps p.tables e below (T3.setTop (mkF m 14 #[oR a1, oJ q, oS, oI (1 : Int32), oI (1 : Int32), oI (1 : Int32)] [(.int (1 : Int32)), (.int (1 : Int32))])) t₀
    refine XS.icmpYes X3.here hx rfl (pc0 := 14) (pc' := 52) rfl (hb hby d9_14) rfl (flt (by decide : ¬ ((1 : Int32) < (1 : Int32)))).2.1 (by decide) (by decide) ?_
    show Steps p.tables e below (T3.setTop (mkF m 52 #[oR a1, oJ q, oS, oI (1 : Int32), oI (1 : Int32), oI (1 : Int32)] [])) t₀
    refine XS.aloadN X3.here hx rfl (hb hby d9_52) rfl rfl ?_
    exact k₀
  obtain ⟨T5, X5, e5, st5⟩ := getF X3 hx hZ hown (host := "") (Or.inl (hw _ (List.mem_of_getElem? (i := 17) rfl))) Via.refl e3 F_starts (g := (mkF m 53 #[oR a1, oJ q, oS, oI (1 : Int32), oI (1 : Int32), oI (1 : Int32)] [(.ref a1)])) rfl rfl (hb hby d9_53)
  refine hG _ _ (fun t₀ k₀ => st5 _ k₀) ?_
  show G (T5.setTop (mkF m 56 #[oR a1, oJ q, oS, oI (1 : Int32), oI (1 : Int32), oI (1 : Int32)] [(.ref wT)]))
  refine hG _ (T5.setTop (mkF m 57 #[oR a1, oJ q, oS, oI (1 : Int32), oI (1 : Int32), oI (1 : Int32)] [(.int (1 : Int32)), (.ref wT)])) (fun t₀ k₀ => ?_) ?_
  · show Steps p.tables e below (T5.setTop (mkF m 56 #[oR a1, oJ q, oS, oI (1 : Int32), oI (1 : Int32), oI (1 : Int32)] [(.ref wT)])) t₀
    refine XS.iloadN X5.here hx rfl (hb hby d9_56) rfl ?_
    exact k₀
  have ov6 := V_wT
  obtain ⟨cl6, Ar6, q6, S6, N_6, H_6, G_6⟩ := ov6
  have hin6 : ¬ ((1 : Int32) < 0 ∨ cl6.slots.size ≤ ((1 : Int32)).toNatClampNeg) := inb_of S6 ⟨by decide, by decide⟩
  have hat6 : cl6.slots[((1 : Int32)).toNatClampNeg]? = some (.long y1) := H_6.at hin6 rfl
  refine hG _ (T5.setTop (mkF m 58 #[oR a1, oJ q, oS, oI (1 : Int32), oI (1 : Int32), oI (1 : Int32)] [(.long y1)])) (fun t₀ k₀ => ?_) ?_
  · show Steps p.tables e below (T5.setTop (mkF m 57 #[oR a1, oJ q, oS, oI (1 : Int32), oI (1 : Int32), oI (1 : Int32)] [(.int (1 : Int32)), (.ref wT)])) t₀
    refine X5.laload hx (j := (1 : Int32)) (v := (.long y1)) (by rw [e5]; exact Ar6.1) (State.isArrayOf_alike hZ.alike Ar6.2.1) Ar6.2.2 hin6 hat6 (g := (mkF m 57 #[oR a1, oJ q, oS, oI (1 : Int32), oI (1 : Int32), oI (1 : Int32)] [(.int (1 : Int32)), (.ref wT)])) rfl rfl (hb hby d9_57) _ ?_
    exact k₀
  refine hF _ T5 _ _ _ (some (.long y1)) _ X5 e5 (fun h => by rw [hrt] at h; cases h) (by decide) (by decide) ?_ (fun fs hr => own_retJ X5 hx hrt (hb hby d9_58) hr)
  exact ⟨rfl, N0, rfl⟩
theorem ef_rmE12 (m : MethodId) (x0 : Addr) (x1 : Int64) : entryFrame m #[(.ref x0), (.long x1)] 6 = mkF m 0 #[oR x0, oJ x1, oS, oU, oU, oU] [] := by first | (simp [entryFrame, mkF, argsToLocals, Value.category]; done) | rfl
def Q_rmE12 (Z : State) (a1 : Addr) (q : Int64) (wS wT : Addr) (kS kT : ClassId) (x0 y0 x1 y1 x2 y2 x3 y3 x4 y4 x5 y5 x6 y6 x7 y7 : Int64) (h0 : Heap) (n0 : Nat) (v : Option Value) (h : Heap) (L : List Loc) : Prop := v = some (.long y2) ∧ Fr n0 L ∧ h = h0
set_option maxRecDepth 65536 in
set_option maxHeartbeats 40000000 in
theorem rmE12 (l : Launch) (Z : State) (a0 : Array Value) (hw : ∀ d ∈ tables_1, d.before a0 Z = true) (ws : List Jvm.Cond) (a1 : Addr) (q : Int64) (wS wT : Addr) (kS kT : ClassId) (x0 y0 x1 y1 x2 y2 x3 y3 x4 y4 x5 y5 x6 y6 x7 y7 : Int64) (h0 : Heap) (n0 : Nat) (Z0 : n0 ≤ h0.size) (F_seqNos : Fld Z h0 a1 "com/example/opledger/opledger/AppendTimes" "seqNos" "[J" (.ref wS)) (F_starts : Fld Z h0 a1 "com/example/opledger/opledger/AppendTimes" "starts" "[J" (.ref wT)) (F_first : Fld Z h0 a1 "com/example/opledger/opledger/AppendTimes" "first" "I" (.int (2 : Int32))) (F_last : Fld Z h0 a1 "com/example/opledger/opledger/AppendTimes" "last" "I" (.int (2 : Int32))) (V_wS : Arv Z h0 wS kS .long (8 : Int32) [(.long x0), (.long x1), (.long x2), (.long x3), (.long x4), (.long x5), (.long x6), (.long x7)] (.long (0 : Int64))) (V_wT : Arv Z h0 wT kT .long (8 : Int32) [(.long y0), (.long y1), (.long y2), (.long y3), (.long y4), (.long y5), (.long y6), (.long y7)] (.long (0 : Int64)))  :
    MetFree l (⟨"com/example/opledger/opledger/AppendTimes", "earliestAbove", "(J)J"⟩ : MethodName) (head1 (Jvm.Cond.code (⟨"com/example/opledger/opledger/AppendTimes", "earliestAbove", "(J)J"⟩ : MethodName) prog_1_method_6_code 6 (some .long) :: ws) ({ frames := 0, cells := 0, slots := 0, locals := 0 } : Room)) (fun a U => a = #[(.ref a1), (.long q)] ∧ Z.Warmed39 U.vm ∧ U.heap = h0) (fun _ _ _ _ _ => True) (fun _ U o U' => ∃ v L, o = .returned v ∧ Q_rmE12 Z a1 q wS wT kS kT x0 y0 x1 y1 x2 y2 x3 y3 x4 y4 x5 y5 x6 y6 x7 y7 h0 n0 v U'.heap L ∧ FrameEnd U o U' L ({ frames := 0, cells := 0, slots := 0, locals := 0 } : Room).cells ({ frames := 0, cells := 0, slots := 0, locals := 0 } : Room).slots) := by
  refine own_body (Q := fun v h L => Q_rmE12 Z a1 q wS wT kS kT x0 y0 x1 y1 x2 y2 x3 y3 x4 y4 x5 y5 x6 y6 x7 y7 h0 n0 v h L) pn_9 ?_
  intro p e s m below meth c s₁ G X0 hx hZ hby hml hown hnm hrt e0 hG hF
  have hown : s.vm.findClass "com/example/opledger/opledger/AppendTimes" = some m.cls := hown
  have N0 := Fr.nil n0
  rw [ef_rmE12 m a1 q]
  show G (s₁.setTop (mkF m 0 #[oR a1, oJ q, oS, oU, oU, oU] []))
  refine hG _ (s₁.setTop (mkF m 1 #[oR a1, oJ q, oS, oU, oU, oU] [(.ref a1)])) (fun t₀ k₀ => ?_) ?_
  · show Steps p.tables e below (s₁.setTop (mkF m 0 #[oR a1, oJ q, oS, oU, oU, oU] [])) t₀
    refine XS.aloadN X0.here hx rfl (hb hby d9_0) rfl rfl ?_
    exact k₀
  obtain ⟨T1, X1, e1, st1⟩ := getF X0 hx hZ hown (host := "") (Or.inl (hw _ (List.mem_of_getElem? (i := 33) rfl))) Via.refl e0 F_first (g := (mkF m 1 #[oR a1, oJ q, oS, oU, oU, oU] [(.ref a1)])) rfl rfl (hb hby d9_1)
  refine hG _ _ (fun t₀ k₀ => st1 _ k₀) ?_
  show G (T1.setTop (mkF m 4 #[oR a1, oJ q, oS, oU, oU, oU] [(.int (2 : Int32))]))
  refine hG _ (T1.setTop (mkF m 6 #[oR a1, oJ q, oS, oI (2 : Int32), oU, oU] [(.ref a1)])) (fun t₀ k₀ => ?_) ?_
  · show Steps p.tables e below (T1.setTop (mkF m 4 #[oR a1, oJ q, oS, oU, oU, oU] [(.int (2 : Int32))])) t₀
    refine XS.istoreN X1.here hx rfl (hb hby d9_4) rfl (l' := #[oR a1, oJ q, oS, oI (2 : Int32), oU, oU]) rfl ?_
    show Steps p.tables e below (T1.setTop (mkF m 5 #[oR a1, oJ q, oS, oI (2 : Int32), oU, oU] [])) t₀
    refine XS.aloadN X1.here hx rfl (hb hby d9_5) rfl rfl ?_
    exact k₀
  obtain ⟨T2, X2, e2, st2⟩ := getF X1 hx hZ hown (host := "") (Or.inl (hw _ (List.mem_of_getElem? (i := 21) rfl))) Via.refl e1 F_last (g := (mkF m 6 #[oR a1, oJ q, oS, oI (2 : Int32), oU, oU] [(.ref a1)])) rfl rfl (hb hby d9_6)
  refine hG _ _ (fun t₀ k₀ => st2 _ k₀) ?_
  show G (T2.setTop (mkF m 9 #[oR a1, oJ q, oS, oI (2 : Int32), oU, oU] [(.int (2 : Int32))]))
  refine hG _ (T2.setTop (mkF m 53 #[oR a1, oJ q, oS, oI (2 : Int32), oI (2 : Int32), oU] [(.ref a1)])) (fun t₀ k₀ => ?_) ?_
  · show Steps p.tables e below (T2.setTop (mkF m 9 #[oR a1, oJ q, oS, oI (2 : Int32), oU, oU] [(.int (2 : Int32))])) t₀
    refine XS.istore X2.here hx rfl (hb hby d9_9) rfl (l' := #[oR a1, oJ q, oS, oI (2 : Int32), oI (2 : Int32), oU]) rfl ?_
    show Steps p.tables e below (T2.setTop (mkF m 11 #[oR a1, oJ q, oS, oI (2 : Int32), oI (2 : Int32), oU] [])) t₀
    refine XS.iloadN X2.here hx rfl (hb hby d9_11) rfl ?_
    show Steps p.tables e below (T2.setTop (mkF m 12 #[oR a1, oJ q, oS, oI (2 : Int32), oI (2 : Int32), oU] [(.int (2 : Int32))])) t₀
    refine XS.iload X2.here hx rfl (hb hby d9_12) rfl ?_
    show Steps p.tables e below (T2.setTop (mkF m 14 #[oR a1, oJ q, oS, oI (2 : Int32), oI (2 : Int32), oU] [(.int (2 : Int32)), (.int (2 : Int32))])) t₀
    refine XS.icmpYes X2.here hx rfl (pc0 := 14) (pc' := 52) rfl (hb hby d9_14) rfl (flt (by decide : ¬ ((2 : Int32) < (2 : Int32)))).2.1 (by decide) (by decide) ?_
    show Steps p.tables e below (T2.setTop (mkF m 52 #[oR a1, oJ q, oS, oI (2 : Int32), oI (2 : Int32), oU] [])) t₀
    refine XS.aloadN X2.here hx rfl (hb hby d9_52) rfl rfl ?_
    exact k₀
  obtain ⟨T3, X3, e3, st3⟩ := getF X2 hx hZ hown (host := "") (Or.inl (hw _ (List.mem_of_getElem? (i := 17) rfl))) Via.refl e2 F_starts (g := (mkF m 53 #[oR a1, oJ q, oS, oI (2 : Int32), oI (2 : Int32), oU] [(.ref a1)])) rfl rfl (hb hby d9_53)
  refine hG _ _ (fun t₀ k₀ => st3 _ k₀) ?_
  show G (T3.setTop (mkF m 56 #[oR a1, oJ q, oS, oI (2 : Int32), oI (2 : Int32), oU] [(.ref wT)]))
  refine hG _ (T3.setTop (mkF m 57 #[oR a1, oJ q, oS, oI (2 : Int32), oI (2 : Int32), oU] [(.int (2 : Int32)), (.ref wT)])) (fun t₀ k₀ => ?_) ?_
  · show Steps p.tables e below (T3.setTop (mkF m 56 #[oR a1, oJ q, oS, oI (2 : Int32), oI (2 : Int32), oU] [(.ref wT)])) t₀
    refine XS.iloadN X3.here hx rfl (hb hby d9_56) rfl ?_
    exact k₀
  have ov4 := V_wT
  obtain ⟨cl4, Ar4, q4, S4, N_4, H_4, G_4⟩ := ov4
  have hin4 : ¬ ((2 : Int32) < 0 ∨ cl4.slots.size ≤ ((2 : Int32)).toNatClampNeg) := inb_of S4 ⟨by decide, by decide⟩
  have hat4 : cl4.slots[((2 : Int32)).toNatClampNeg]? = some (.long y2) := H_4.at hin4 rfl
  refine hG _ (T3.setTop (mkF m 58 #[oR a1, oJ q, oS, oI (2 : Int32), oI (2 : Int32), oU] [(.long y2)])) (fun t₀ k₀ => ?_) ?_
  · show Steps p.tables e below (T3.setTop (mkF m 57 #[oR a1, oJ q, oS, oI (2 : Int32), oI (2 : Int32), oU] [(.int (2 : Int32)), (.ref wT)])) t₀
    refine X3.laload hx (j := (2 : Int32)) (v := (.long y2)) (by rw [e3]; exact Ar4.1) (State.isArrayOf_alike hZ.alike Ar4.2.1) Ar4.2.2 hin4 hat4 (g := (mkF m 57 #[oR a1, oJ q, oS, oI (2 : Int32), oI (2 : Int32), oU] [(.int (2 : Int32)), (.ref wT)])) rfl rfl (hb hby d9_57) _ ?_
    exact k₀
  refine hF _ T3 _ _ _ (some (.long y2)) _ X3 e3 (fun h => by rw [hrt] at h; cases h) (by decide) (by decide) ?_ (fun fs hr => own_retJ X3 hx hrt (hb hby d9_58) hr)
  exact ⟨rfl, N0, rfl⟩
theorem ef_rmE20 (m : MethodId) (x0 : Addr) (x1 : Int64) : entryFrame m #[(.ref x0), (.long x1)] 6 = mkF m 0 #[oR x0, oJ x1, oS, oU, oU, oU] [] := by first | (simp [entryFrame, mkF, argsToLocals, Value.category]; done) | rfl
def Q_rmE20 (Z : State) (a1 : Addr) (q : Int64) (wS wT : Addr) (kS kT : ClassId) (x0 y0 x1 y1 x2 y2 x3 y3 x4 y4 x5 y5 x6 y6 x7 y7 : Int64) (h0 : Heap) (n0 : Nat) (v : Option Value) (h : Heap) (L : List Loc) : Prop := v = some (.long y2) ∧ Fr n0 L ∧ h = h0
set_option maxRecDepth 65536 in
set_option maxHeartbeats 40000000 in
theorem rmE20 (l : Launch) (Z : State) (a0 : Array Value) (hw : ∀ d ∈ tables_1, d.before a0 Z = true) (ws : List Jvm.Cond) (a1 : Addr) (q : Int64) (wS wT : Addr) (kS kT : ClassId) (x0 y0 x1 y1 x2 y2 x3 y3 x4 y4 x5 y5 x6 y6 x7 y7 : Int64) (h0 : Heap) (n0 : Nat) (Z0 : n0 ≤ h0.size) (F_seqNos : Fld Z h0 a1 "com/example/opledger/opledger/AppendTimes" "seqNos" "[J" (.ref wS)) (F_starts : Fld Z h0 a1 "com/example/opledger/opledger/AppendTimes" "starts" "[J" (.ref wT)) (F_first : Fld Z h0 a1 "com/example/opledger/opledger/AppendTimes" "first" "I" (.int (0 : Int32))) (F_last : Fld Z h0 a1 "com/example/opledger/opledger/AppendTimes" "last" "I" (.int (2 : Int32))) (V_wS : Arv Z h0 wS kS .long (8 : Int32) [(.long x0), (.long x1), (.long x2), (.long x3), (.long x4), (.long x5), (.long x6), (.long x7)] (.long (0 : Int64))) (V_wT : Arv Z h0 wT kT .long (8 : Int32) [(.long y0), (.long y1), (.long y2), (.long y3), (.long y4), (.long y5), (.long y6), (.long y7)] (.long (0 : Int64))) (hq1 : ¬ q < x1) :
    MetFree l (⟨"com/example/opledger/opledger/AppendTimes", "earliestAbove", "(J)J"⟩ : MethodName) (head1 (Jvm.Cond.code (⟨"com/example/opledger/opledger/AppendTimes", "earliestAbove", "(J)J"⟩ : MethodName) prog_1_method_6_code 6 (some .long) :: ws) ({ frames := 0, cells := 0, slots := 0, locals := 0 } : Room)) (fun a U => a = #[(.ref a1), (.long q)] ∧ Z.Warmed39 U.vm ∧ U.heap = h0) (fun _ _ _ _ _ => True) (fun _ U o U' => ∃ v L, o = .returned v ∧ Q_rmE20 Z a1 q wS wT kS kT x0 y0 x1 y1 x2 y2 x3 y3 x4 y4 x5 y5 x6 y6 x7 y7 h0 n0 v U'.heap L ∧ FrameEnd U o U' L ({ frames := 0, cells := 0, slots := 0, locals := 0 } : Room).cells ({ frames := 0, cells := 0, slots := 0, locals := 0 } : Room).slots) := by
  refine own_body (Q := fun v h L => Q_rmE20 Z a1 q wS wT kS kT x0 y0 x1 y1 x2 y2 x3 y3 x4 y4 x5 y5 x6 y6 x7 y7 h0 n0 v h L) pn_9 ?_
  intro p e s m below meth c s₁ G X0 hx hZ hby hml hown hnm hrt e0 hG hF
  have hown : s.vm.findClass "com/example/opledger/opledger/AppendTimes" = some m.cls := hown
  have N0 := Fr.nil n0
  rw [ef_rmE20 m a1 q]
  show G (s₁.setTop (mkF m 0 #[oR a1, oJ q, oS, oU, oU, oU] []))
  refine hG _ (s₁.setTop (mkF m 1 #[oR a1, oJ q, oS, oU, oU, oU] [(.ref a1)])) (fun t₀ k₀ => ?_) ?_
  · show Steps p.tables e below (s₁.setTop (mkF m 0 #[oR a1, oJ q, oS, oU, oU, oU] [])) t₀
    refine XS.aloadN X0.here hx rfl (hb hby d9_0) rfl rfl ?_
    exact k₀
  obtain ⟨T1, X1, e1, st1⟩ := getF X0 hx hZ hown (host := "") (Or.inl (hw _ (List.mem_of_getElem? (i := 33) rfl))) Via.refl e0 F_first (g := (mkF m 1 #[oR a1, oJ q, oS, oU, oU, oU] [(.ref a1)])) rfl rfl (hb hby d9_1)
  refine hG _ _ (fun t₀ k₀ => st1 _ k₀) ?_
  show G (T1.setTop (mkF m 4 #[oR a1, oJ q, oS, oU, oU, oU] [(.int (0 : Int32))]))
  refine hG _ (T1.setTop (mkF m 6 #[oR a1, oJ q, oS, oI (0 : Int32), oU, oU] [(.ref a1)])) (fun t₀ k₀ => ?_) ?_
  · show Steps p.tables e below (T1.setTop (mkF m 4 #[oR a1, oJ q, oS, oU, oU, oU] [(.int (0 : Int32))])) t₀
    refine XS.istoreN X1.here hx rfl (hb hby d9_4) rfl (l' := #[oR a1, oJ q, oS, oI (0 : Int32), oU, oU]) rfl ?_
    show Steps p.tables e below (T1.setTop (mkF m 5 #[oR a1, oJ q, oS, oI (0 : Int32), oU, oU] [])) t₀
    refine XS.aloadN X1.here hx rfl (hb hby d9_5) rfl rfl ?_
    exact k₀
  obtain ⟨T2, X2, e2, st2⟩ := getF X1 hx hZ hown (host := "") (Or.inl (hw _ (List.mem_of_getElem? (i := 21) rfl))) Via.refl e1 F_last (g := (mkF m 6 #[oR a1, oJ q, oS, oI (0 : Int32), oU, oU] [(.ref a1)])) rfl rfl (hb hby d9_6)
  refine hG _ _ (fun t₀ k₀ => st2 _ k₀) ?_
  show G (T2.setTop (mkF m 9 #[oR a1, oJ q, oS, oI (0 : Int32), oU, oU] [(.int (2 : Int32))]))
  refine hG _ (T2.setTop (mkF m 26 #[oR a1, oJ q, oS, oI (0 : Int32), oI (2 : Int32), oI (1 : Int32)] [(.ref a1)])) (fun t₀ k₀ => ?_) ?_
  · show Steps p.tables e below (T2.setTop (mkF m 9 #[oR a1, oJ q, oS, oI (0 : Int32), oU, oU] [(.int (2 : Int32))])) t₀
    refine XS.istore X2.here hx rfl (hb hby d9_9) rfl (l' := #[oR a1, oJ q, oS, oI (0 : Int32), oI (2 : Int32), oU]) rfl ?_
    show Steps p.tables e below (T2.setTop (mkF m 11 #[oR a1, oJ q, oS, oI (0 : Int32), oI (2 : Int32), oU] [])) t₀
    refine XS.iloadN X2.here hx rfl (hb hby d9_11) rfl ?_
    show Steps p.tables e below (T2.setTop (mkF m 12 #[oR a1, oJ q, oS, oI (0 : Int32), oI (2 : Int32), oU] [(.int (0 : Int32))])) t₀
    refine XS.iload X2.here hx rfl (hb hby d9_12) rfl ?_
    show Steps p.tables e below (T2.setTop (mkF m 14 #[oR a1, oJ q, oS, oI (0 : Int32), oI (2 : Int32), oU] [(.int (2 : Int32)), (.int (0 : Int32))])) t₀
    refine XS.icmpNo X2.here hx rfl (hb hby d9_14) rfl (tlt (by decide : ((0 : Int32) < (2 : Int32)))).2.1 ?_
    show Steps p.tables e below (T2.setTop (mkF m 17 #[oR a1, oJ q, oS, oI (0 : Int32), oI (2 : Int32), oU] [])) t₀
    refine XS.iloadN X2.here hx rfl (hb hby d9_17) rfl ?_
    show Steps p.tables e below (T2.setTop (mkF m 18 #[oR a1, oJ q, oS, oI (0 : Int32), oI (2 : Int32), oU] [(.int (0 : Int32))])) t₀
    refine XS.iload X2.here hx rfl (hb hby d9_18) rfl ?_
    show Steps p.tables e below (T2.setTop (mkF m 20 #[oR a1, oJ q, oS, oI (0 : Int32), oI (2 : Int32), oU] [(.int (2 : Int32)), (.int (0 : Int32))])) t₀
    refine XS.iadd X2.here hx rfl (hb hby d9_20) rfl ?_
    show Steps p.tables e below (T2.setTop (mkF m 21 #[oR a1, oJ q, oS, oI (0 : Int32), oI (2 : Int32), oU] [(.int (2 : Int32))])) t₀
    refine XS.iconst X2.here hx rfl (hb hby d9_21) ?_
    show Steps p.tables e below (T2.setTop (mkF m 22 #[oR a1, oJ q, oS, oI (0 : Int32), oI (2 : Int32), oU] [(.int (1 : Int32)), (.int (2 : Int32))])) t₀
    refine XS.iushr X2.here hx rfl (hb hby d9_22) rfl ?_
    show Steps p.tables e below (T2.setTop (mkF m 23 #[oR a1, oJ q, oS, oI (0 : Int32), oI (2 : Int32), oU] [(.int (1 : Int32))])) t₀
    refine XS.istore X2.here hx rfl (hb hby d9_23) rfl (l' := #[oR a1, oJ q, oS, oI (0 : Int32), oI (2 : Int32), oI (1 : Int32)]) rfl ?_
    show Steps p.tables e below (T2.setTop (mkF m 25 #[oR a1, oJ q, oS, oI (0 : Int32), oI (2 : Int32), oI (1 : Int32)] [])) t₀
    refine XS.aloadN X2.here hx rfl (hb hby d9_25) rfl rfl ?_
    exact k₀
  obtain ⟨T3, X3, e3, st3⟩ := getF X2 hx hZ hown (host := "") (Or.inl (hw _ (List.mem_of_getElem? (i := 15) rfl))) Via.refl e2 F_seqNos (g := (mkF m 26 #[oR a1, oJ q, oS, oI (0 : Int32), oI (2 : Int32), oI (1 : Int32)] [(.ref a1)])) rfl rfl (hb hby d9_26)
  refine hG _ _ (fun t₀ k₀ => st3 _ k₀) ?_
  show G (T3.setTop (mkF m 29 #[oR a1, oJ q, oS, oI (0 : Int32), oI (2 : Int32), oI (1 : Int32)] [(.ref wS)]))
  refine hG _ (T3.setTop (mkF m 31 #[oR a1, oJ q, oS, oI (0 : Int32), oI (2 : Int32), oI (1 : Int32)] [(.int (1 : Int32)), (.ref wS)])) (fun t₀ k₀ => ?_) ?_
  · show Steps p.tables e below (T3.setTop (mkF m 29 #[oR a1, oJ q, oS, oI (0 : Int32), oI (2 : Int32), oI (1 : Int32)] [(.ref wS)])) t₀
    refine XS.iload X3.here hx rfl (hb hby d9_29) rfl ?_
    exact k₀
  have ov4 := V_wS
  obtain ⟨cl4, Ar4, q4, S4, N_4, H_4, G_4⟩ := ov4
  have hin4 : ¬ ((1 : Int32) < 0 ∨ cl4.slots.size ≤ ((1 : Int32)).toNatClampNeg) := inb_of S4 ⟨by decide, by decide⟩
  have hat4 : cl4.slots[((1 : Int32)).toNatClampNeg]? = some (.long x1) := H_4.at hin4 rfl
  refine hG _ (T3.setTop (mkF m 53 #[oR a1, oJ q, oS, oI (2 : Int32), oI (2 : Int32), oI (1 : Int32)] [(.ref a1)])) (fun t₀ k₀ => ?_) ?_
  · show Steps p.tables e below (T3.setTop (mkF m 31 #[oR a1, oJ q, oS, oI (0 : Int32), oI (2 : Int32), oI (1 : Int32)] [(.int (1 : Int32)), (.ref wS)])) t₀
    refine X3.laload hx (j := (1 : Int32)) (v := (.long x1)) (by rw [e3]; exact Ar4.1) (State.isArrayOf_alike hZ.alike Ar4.2.1) Ar4.2.2 hin4 hat4 (g := (mkF m 31 #[oR a1, oJ q, oS, oI (0 : Int32), oI (2 : Int32), oI (1 : Int32)] [(.int (1 : Int32)), (.ref wS)])) rfl rfl (hb hby d9_31) _ ?_
    show Steps p.tables e below (T3.setTop (mkF m 32 #[oR a1, oJ q, oS, oI (0 : Int32), oI (2 : Int32), oI (1 : Int32)] [(.long x1)])) t₀
    refine XS.lloadN X3.here hx rfl (hb hby d9_32) rfl ?_
    show Steps p.tables e below (T3.setTop (mkF m 33 #[oR a1, oJ q, oS, oI (0 : Int32), oI (2 : Int32), oI (1 : Int32)] [(.long q), (.long x1)])) t₀
    refine XS.lcmp X3.here hx rfl (hb hby d9_33) rfl ?_
    show Steps p.tables e below (T3.setTop (mkF m 34 #[oR a1, oJ q, oS, oI (0 : Int32), oI (2 : Int32), oI (1 : Int32)] [(.int (lcmpW x1 q))])) t₀
    refine XS.ifYes X3.here hx rfl (pc0 := 34) (pc' := 44) rfl (hb hby d9_34) rfl ((if0 _ _).trans (flt (fun z => hq1 ((lw_gt x1 q).mp z))).2.2.2) (by decide) (by decide) ?_
    show Steps p.tables e below (T3.setTop (mkF m 44 #[oR a1, oJ q, oS, oI (0 : Int32), oI (2 : Int32), oI (1 : Int32)] [])) t₀
    refine XS.iload X3.here hx rfl (hb hby d9_44) rfl ?_
    show Steps p.tables e below (T3.setTop (mkF m 46 #[oR a1, oJ q, oS, oI (0 : Int32), oI (2 : Int32), oI (1 : Int32)] [(.int (1 : Int32))])) t₀
    refine XS.iconst X3.here hx rfl (hb hby d9_46) ?_
    show Steps p.tables e below (T3.setTop (mkF m 47 #[oR a1, oJ q, oS, oI (0 : Int32), oI (2 : Int32), oI (1 : Int32)] [(.int (1 : Int32)), (.int (1 : Int32))])) t₀
    refine XS.iadd X3.here hx rfl (hb hby d9_47) rfl ?_
    show Steps p.tables e below (T3.setTop (mkF m 48 #[oR a1, oJ q, oS, oI (0 : Int32), oI (2 : Int32), oI (1 : Int32)] [(.int (2 : Int32))])) t₀
    refine XS.istoreN X3.here hx rfl (hb hby d9_48) rfl (l' := #[oR a1, oJ q, oS, oI (2 : Int32), oI (2 : Int32), oI (1 : Int32)]) rfl ?_
    show Steps p.tables e below (T3.setTop (mkF m 49 #[oR a1, oJ q, oS, oI (2 : Int32), oI (2 : Int32), oI (1 : Int32)] [])) t₀
    refine XS.goto X3.here hx rfl (pc0 := 49) (pc' := 11) rfl (hb hby d9_49) (by decide) (by decide) ?_
    show Steps p.tables e below (T3.setTop (mkF m 11 #[oR a1, oJ q, oS, oI (2 : Int32), oI (2 : Int32), oI (1 : Int32)] [])) t₀
    refine XS.iloadN X3.here hx rfl (hb hby d9_11) rfl ?_
    show Steps p.tables e below (T3.setTop (mkF m 12 #[oR a1, oJ q, oS, oI (2 : Int32), oI (2 : Int32), oI (1 : Int32)] [(.int (2 : Int32))])) t₀
    refine XS.iload X3.here hx rfl (hb hby d9_12) rfl ?_
    show Steps p.tables e below (T3.setTop (mkF m 14 #[oR a1, oJ q, oS, oI (2 : Int32), oI (2 : Int32), oI (1 : Int32)] [(.int (2 : Int32)), (.int (2 : Int32))])) t₀
    refine XS.icmpYes X3.here hx rfl (pc0 := 14) (pc' := 52) rfl (hb hby d9_14) rfl (flt (by decide : ¬ ((2 : Int32) < (2 : Int32)))).2.1 (by decide) (by decide) ?_
    show Steps p.tables e below (T3.setTop (mkF m 52 #[oR a1, oJ q, oS, oI (2 : Int32), oI (2 : Int32), oI (1 : Int32)] [])) t₀
    refine XS.aloadN X3.here hx rfl (hb hby d9_52) rfl rfl ?_
    exact k₀
  obtain ⟨T5, X5, e5, st5⟩ := getF X3 hx hZ hown (host := "") (Or.inl (hw _ (List.mem_of_getElem? (i := 17) rfl))) Via.refl e3 F_starts (g := (mkF m 53 #[oR a1, oJ q, oS, oI (2 : Int32), oI (2 : Int32), oI (1 : Int32)] [(.ref a1)])) rfl rfl (hb hby d9_53)
  refine hG _ _ (fun t₀ k₀ => st5 _ k₀) ?_
  show G (T5.setTop (mkF m 56 #[oR a1, oJ q, oS, oI (2 : Int32), oI (2 : Int32), oI (1 : Int32)] [(.ref wT)]))
  refine hG _ (T5.setTop (mkF m 57 #[oR a1, oJ q, oS, oI (2 : Int32), oI (2 : Int32), oI (1 : Int32)] [(.int (2 : Int32)), (.ref wT)])) (fun t₀ k₀ => ?_) ?_
  · show Steps p.tables e below (T5.setTop (mkF m 56 #[oR a1, oJ q, oS, oI (2 : Int32), oI (2 : Int32), oI (1 : Int32)] [(.ref wT)])) t₀
    refine XS.iloadN X5.here hx rfl (hb hby d9_56) rfl ?_
    exact k₀
  have ov6 := V_wT
  obtain ⟨cl6, Ar6, q6, S6, N_6, H_6, G_6⟩ := ov6
  have hin6 : ¬ ((2 : Int32) < 0 ∨ cl6.slots.size ≤ ((2 : Int32)).toNatClampNeg) := inb_of S6 ⟨by decide, by decide⟩
  have hat6 : cl6.slots[((2 : Int32)).toNatClampNeg]? = some (.long y2) := H_6.at hin6 rfl
  refine hG _ (T5.setTop (mkF m 58 #[oR a1, oJ q, oS, oI (2 : Int32), oI (2 : Int32), oI (1 : Int32)] [(.long y2)])) (fun t₀ k₀ => ?_) ?_
  · show Steps p.tables e below (T5.setTop (mkF m 57 #[oR a1, oJ q, oS, oI (2 : Int32), oI (2 : Int32), oI (1 : Int32)] [(.int (2 : Int32)), (.ref wT)])) t₀
    refine X5.laload hx (j := (2 : Int32)) (v := (.long y2)) (by rw [e5]; exact Ar6.1) (State.isArrayOf_alike hZ.alike Ar6.2.1) Ar6.2.2 hin6 hat6 (g := (mkF m 57 #[oR a1, oJ q, oS, oI (2 : Int32), oI (2 : Int32), oI (1 : Int32)] [(.int (2 : Int32)), (.ref wT)])) rfl rfl (hb hby d9_57) _ ?_
    exact k₀
  refine hF _ T5 _ _ _ (some (.long y2)) _ X5 e5 (fun h => by rw [hrt] at h; cases h) (by decide) (by decide) ?_ (fun fs hr => own_retJ X5 hx hrt (hb hby d9_58) hr)
  exact ⟨rfl, N0, rfl⟩
theorem ef_rmE21 (m : MethodId) (x0 : Addr) (x1 : Int64) : entryFrame m #[(.ref x0), (.long x1)] 6 = mkF m 0 #[oR x0, oJ x1, oS, oU, oU, oU] [] := by first | (simp [entryFrame, mkF, argsToLocals, Value.category]; done) | rfl
def Q_rmE21 (Z : State) (a1 : Addr) (q : Int64) (wS wT : Addr) (kS kT : ClassId) (x0 y0 x1 y1 x2 y2 x3 y3 x4 y4 x5 y5 x6 y6 x7 y7 : Int64) (h0 : Heap) (n0 : Nat) (v : Option Value) (h : Heap) (L : List Loc) : Prop := v = some (.long y2) ∧ Fr n0 L ∧ h = h0
set_option maxRecDepth 65536 in
set_option maxHeartbeats 40000000 in
theorem rmE21 (l : Launch) (Z : State) (a0 : Array Value) (hw : ∀ d ∈ tables_1, d.before a0 Z = true) (ws : List Jvm.Cond) (a1 : Addr) (q : Int64) (wS wT : Addr) (kS kT : ClassId) (x0 y0 x1 y1 x2 y2 x3 y3 x4 y4 x5 y5 x6 y6 x7 y7 : Int64) (h0 : Heap) (n0 : Nat) (Z0 : n0 ≤ h0.size) (F_seqNos : Fld Z h0 a1 "com/example/opledger/opledger/AppendTimes" "seqNos" "[J" (.ref wS)) (F_starts : Fld Z h0 a1 "com/example/opledger/opledger/AppendTimes" "starts" "[J" (.ref wT)) (F_first : Fld Z h0 a1 "com/example/opledger/opledger/AppendTimes" "first" "I" (.int (1 : Int32))) (F_last : Fld Z h0 a1 "com/example/opledger/opledger/AppendTimes" "last" "I" (.int (2 : Int32))) (V_wS : Arv Z h0 wS kS .long (8 : Int32) [(.long x0), (.long x1), (.long x2), (.long x3), (.long x4), (.long x5), (.long x6), (.long x7)] (.long (0 : Int64))) (V_wT : Arv Z h0 wT kT .long (8 : Int32) [(.long y0), (.long y1), (.long y2), (.long y3), (.long y4), (.long y5), (.long y6), (.long y7)] (.long (0 : Int64))) (hq1 : ¬ q < x1) :
    MetFree l (⟨"com/example/opledger/opledger/AppendTimes", "earliestAbove", "(J)J"⟩ : MethodName) (head1 (Jvm.Cond.code (⟨"com/example/opledger/opledger/AppendTimes", "earliestAbove", "(J)J"⟩ : MethodName) prog_1_method_6_code 6 (some .long) :: ws) ({ frames := 0, cells := 0, slots := 0, locals := 0 } : Room)) (fun a U => a = #[(.ref a1), (.long q)] ∧ Z.Warmed39 U.vm ∧ U.heap = h0) (fun _ _ _ _ _ => True) (fun _ U o U' => ∃ v L, o = .returned v ∧ Q_rmE21 Z a1 q wS wT kS kT x0 y0 x1 y1 x2 y2 x3 y3 x4 y4 x5 y5 x6 y6 x7 y7 h0 n0 v U'.heap L ∧ FrameEnd U o U' L ({ frames := 0, cells := 0, slots := 0, locals := 0 } : Room).cells ({ frames := 0, cells := 0, slots := 0, locals := 0 } : Room).slots) := by
  refine own_body (Q := fun v h L => Q_rmE21 Z a1 q wS wT kS kT x0 y0 x1 y1 x2 y2 x3 y3 x4 y4 x5 y5 x6 y6 x7 y7 h0 n0 v h L) pn_9 ?_
  intro p e s m below meth c s₁ G X0 hx hZ hby hml hown hnm hrt e0 hG hF
  have hown : s.vm.findClass "com/example/opledger/opledger/AppendTimes" = some m.cls := hown
  have N0 := Fr.nil n0
  rw [ef_rmE21 m a1 q]
  show G (s₁.setTop (mkF m 0 #[oR a1, oJ q, oS, oU, oU, oU] []))
  refine hG _ (s₁.setTop (mkF m 1 #[oR a1, oJ q, oS, oU, oU, oU] [(.ref a1)])) (fun t₀ k₀ => ?_) ?_
  · show Steps p.tables e below (s₁.setTop (mkF m 0 #[oR a1, oJ q, oS, oU, oU, oU] [])) t₀
    refine XS.aloadN X0.here hx rfl (hb hby d9_0) rfl rfl ?_
    exact k₀
  obtain ⟨T1, X1, e1, st1⟩ := getF X0 hx hZ hown (host := "") (Or.inl (hw _ (List.mem_of_getElem? (i := 33) rfl))) Via.refl e0 F_first (g := (mkF m 1 #[oR a1, oJ q, oS, oU, oU, oU] [(.ref a1)])) rfl rfl (hb hby d9_1)
  refine hG _ _ (fun t₀ k₀ => st1 _ k₀) ?_
  show G (T1.setTop (mkF m 4 #[oR a1, oJ q, oS, oU, oU, oU] [(.int (1 : Int32))]))
  refine hG _ (T1.setTop (mkF m 6 #[oR a1, oJ q, oS, oI (1 : Int32), oU, oU] [(.ref a1)])) (fun t₀ k₀ => ?_) ?_
  · show Steps p.tables e below (T1.setTop (mkF m 4 #[oR a1, oJ q, oS, oU, oU, oU] [(.int (1 : Int32))])) t₀
    refine XS.istoreN X1.here hx rfl (hb hby d9_4) rfl (l' := #[oR a1, oJ q, oS, oI (1 : Int32), oU, oU]) rfl ?_
    show Steps p.tables e below (T1.setTop (mkF m 5 #[oR a1, oJ q, oS, oI (1 : Int32), oU, oU] [])) t₀
    refine XS.aloadN X1.here hx rfl (hb hby d9_5) rfl rfl ?_
    exact k₀
  obtain ⟨T2, X2, e2, st2⟩ := getF X1 hx hZ hown (host := "") (Or.inl (hw _ (List.mem_of_getElem? (i := 21) rfl))) Via.refl e1 F_last (g := (mkF m 6 #[oR a1, oJ q, oS, oI (1 : Int32), oU, oU] [(.ref a1)])) rfl rfl (hb hby d9_6)
  refine hG _ _ (fun t₀ k₀ => st2 _ k₀) ?_
  show G (T2.setTop (mkF m 9 #[oR a1, oJ q, oS, oI (1 : Int32), oU, oU] [(.int (2 : Int32))]))
  refine hG _ (T2.setTop (mkF m 26 #[oR a1, oJ q, oS, oI (1 : Int32), oI (2 : Int32), oI (1 : Int32)] [(.ref a1)])) (fun t₀ k₀ => ?_) ?_
  · show Steps p.tables e below (T2.setTop (mkF m 9 #[oR a1, oJ q, oS, oI (1 : Int32), oU, oU] [(.int (2 : Int32))])) t₀
    refine XS.istore X2.here hx rfl (hb hby d9_9) rfl (l' := #[oR a1, oJ q, oS, oI (1 : Int32), oI (2 : Int32), oU]) rfl ?_
    show Steps p.tables e below (T2.setTop (mkF m 11 #[oR a1, oJ q, oS, oI (1 : Int32), oI (2 : Int32), oU] [])) t₀
    refine XS.iloadN X2.here hx rfl (hb hby d9_11) rfl ?_
    show Steps p.tables e below (T2.setTop (mkF m 12 #[oR a1, oJ q, oS, oI (1 : Int32), oI (2 : Int32), oU] [(.int (1 : Int32))])) t₀
    refine XS.iload X2.here hx rfl (hb hby d9_12) rfl ?_
    show Steps p.tables e below (T2.setTop (mkF m 14 #[oR a1, oJ q, oS, oI (1 : Int32), oI (2 : Int32), oU] [(.int (2 : Int32)), (.int (1 : Int32))])) t₀
    refine XS.icmpNo X2.here hx rfl (hb hby d9_14) rfl (tlt (by decide : ((1 : Int32) < (2 : Int32)))).2.1 ?_
    show Steps p.tables e below (T2.setTop (mkF m 17 #[oR a1, oJ q, oS, oI (1 : Int32), oI (2 : Int32), oU] [])) t₀
    refine XS.iloadN X2.here hx rfl (hb hby d9_17) rfl ?_
    show Steps p.tables e below (T2.setTop (mkF m 18 #[oR a1, oJ q, oS, oI (1 : Int32), oI (2 : Int32), oU] [(.int (1 : Int32))])) t₀
    refine XS.iload X2.here hx rfl (hb hby d9_18) rfl ?_
    show Steps p.tables e below (T2.setTop (mkF m 20 #[oR a1, oJ q, oS, oI (1 : Int32), oI (2 : Int32), oU] [(.int (2 : Int32)), (.int (1 : Int32))])) t₀
    refine XS.iadd X2.here hx rfl (hb hby d9_20) rfl ?_
    show Steps p.tables e below (T2.setTop (mkF m 21 #[oR a1, oJ q, oS, oI (1 : Int32), oI (2 : Int32), oU] [(.int (3 : Int32))])) t₀
    refine XS.iconst X2.here hx rfl (hb hby d9_21) ?_
    show Steps p.tables e below (T2.setTop (mkF m 22 #[oR a1, oJ q, oS, oI (1 : Int32), oI (2 : Int32), oU] [(.int (1 : Int32)), (.int (3 : Int32))])) t₀
    refine XS.iushr X2.here hx rfl (hb hby d9_22) rfl ?_
    show Steps p.tables e below (T2.setTop (mkF m 23 #[oR a1, oJ q, oS, oI (1 : Int32), oI (2 : Int32), oU] [(.int (1 : Int32))])) t₀
    refine XS.istore X2.here hx rfl (hb hby d9_23) rfl (l' := #[oR a1, oJ q, oS, oI (1 : Int32), oI (2 : Int32), oI (1 : Int32)]) rfl ?_
    show Steps p.tables e below (T2.setTop (mkF m 25 #[oR a1, oJ q, oS, oI (1 : Int32), oI (2 : Int32), oI (1 : Int32)] [])) t₀
    refine XS.aloadN X2.here hx rfl (hb hby d9_25) rfl rfl ?_
    exact k₀
  obtain ⟨T3, X3, e3, st3⟩ := getF X2 hx hZ hown (host := "") (Or.inl (hw _ (List.mem_of_getElem? (i := 15) rfl))) Via.refl e2 F_seqNos (g := (mkF m 26 #[oR a1, oJ q, oS, oI (1 : Int32), oI (2 : Int32), oI (1 : Int32)] [(.ref a1)])) rfl rfl (hb hby d9_26)
  refine hG _ _ (fun t₀ k₀ => st3 _ k₀) ?_
  show G (T3.setTop (mkF m 29 #[oR a1, oJ q, oS, oI (1 : Int32), oI (2 : Int32), oI (1 : Int32)] [(.ref wS)]))
  refine hG _ (T3.setTop (mkF m 31 #[oR a1, oJ q, oS, oI (1 : Int32), oI (2 : Int32), oI (1 : Int32)] [(.int (1 : Int32)), (.ref wS)])) (fun t₀ k₀ => ?_) ?_
  · show Steps p.tables e below (T3.setTop (mkF m 29 #[oR a1, oJ q, oS, oI (1 : Int32), oI (2 : Int32), oI (1 : Int32)] [(.ref wS)])) t₀
    refine XS.iload X3.here hx rfl (hb hby d9_29) rfl ?_
    exact k₀
  have ov4 := V_wS
  obtain ⟨cl4, Ar4, q4, S4, N_4, H_4, G_4⟩ := ov4
  have hin4 : ¬ ((1 : Int32) < 0 ∨ cl4.slots.size ≤ ((1 : Int32)).toNatClampNeg) := inb_of S4 ⟨by decide, by decide⟩
  have hat4 : cl4.slots[((1 : Int32)).toNatClampNeg]? = some (.long x1) := H_4.at hin4 rfl
  refine hG _ (T3.setTop (mkF m 53 #[oR a1, oJ q, oS, oI (2 : Int32), oI (2 : Int32), oI (1 : Int32)] [(.ref a1)])) (fun t₀ k₀ => ?_) ?_
  · show Steps p.tables e below (T3.setTop (mkF m 31 #[oR a1, oJ q, oS, oI (1 : Int32), oI (2 : Int32), oI (1 : Int32)] [(.int (1 : Int32)), (.ref wS)])) t₀
    refine X3.laload hx (j := (1 : Int32)) (v := (.long x1)) (by rw [e3]; exact Ar4.1) (State.isArrayOf_alike hZ.alike Ar4.2.1) Ar4.2.2 hin4 hat4 (g := (mkF m 31 #[oR a1, oJ q, oS, oI (1 : Int32), oI (2 : Int32), oI (1 : Int32)] [(.int (1 : Int32)), (.ref wS)])) rfl rfl (hb hby d9_31) _ ?_
    show Steps p.tables e below (T3.setTop (mkF m 32 #[oR a1, oJ q, oS, oI (1 : Int32), oI (2 : Int32), oI (1 : Int32)] [(.long x1)])) t₀
    refine XS.lloadN X3.here hx rfl (hb hby d9_32) rfl ?_
    show Steps p.tables e below (T3.setTop (mkF m 33 #[oR a1, oJ q, oS, oI (1 : Int32), oI (2 : Int32), oI (1 : Int32)] [(.long q), (.long x1)])) t₀
    refine XS.lcmp X3.here hx rfl (hb hby d9_33) rfl ?_
    show Steps p.tables e below (T3.setTop (mkF m 34 #[oR a1, oJ q, oS, oI (1 : Int32), oI (2 : Int32), oI (1 : Int32)] [(.int (lcmpW x1 q))])) t₀
    refine XS.ifYes X3.here hx rfl (pc0 := 34) (pc' := 44) rfl (hb hby d9_34) rfl ((if0 _ _).trans (flt (fun z => hq1 ((lw_gt x1 q).mp z))).2.2.2) (by decide) (by decide) ?_
    show Steps p.tables e below (T3.setTop (mkF m 44 #[oR a1, oJ q, oS, oI (1 : Int32), oI (2 : Int32), oI (1 : Int32)] [])) t₀
    refine XS.iload X3.here hx rfl (hb hby d9_44) rfl ?_
    show Steps p.tables e below (T3.setTop (mkF m 46 #[oR a1, oJ q, oS, oI (1 : Int32), oI (2 : Int32), oI (1 : Int32)] [(.int (1 : Int32))])) t₀
    refine XS.iconst X3.here hx rfl (hb hby d9_46) ?_
    show Steps p.tables e below (T3.setTop (mkF m 47 #[oR a1, oJ q, oS, oI (1 : Int32), oI (2 : Int32), oI (1 : Int32)] [(.int (1 : Int32)), (.int (1 : Int32))])) t₀
    refine XS.iadd X3.here hx rfl (hb hby d9_47) rfl ?_
    show Steps p.tables e below (T3.setTop (mkF m 48 #[oR a1, oJ q, oS, oI (1 : Int32), oI (2 : Int32), oI (1 : Int32)] [(.int (2 : Int32))])) t₀
    refine XS.istoreN X3.here hx rfl (hb hby d9_48) rfl (l' := #[oR a1, oJ q, oS, oI (2 : Int32), oI (2 : Int32), oI (1 : Int32)]) rfl ?_
    show Steps p.tables e below (T3.setTop (mkF m 49 #[oR a1, oJ q, oS, oI (2 : Int32), oI (2 : Int32), oI (1 : Int32)] [])) t₀
    refine XS.goto X3.here hx rfl (pc0 := 49) (pc' := 11) rfl (hb hby d9_49) (by decide) (by decide) ?_
    show Steps p.tables e below (T3.setTop (mkF m 11 #[oR a1, oJ q, oS, oI (2 : Int32), oI (2 : Int32), oI (1 : Int32)] [])) t₀
    refine XS.iloadN X3.here hx rfl (hb hby d9_11) rfl ?_
    show Steps p.tables e below (T3.setTop (mkF m 12 #[oR a1, oJ q, oS, oI (2 : Int32), oI (2 : Int32), oI (1 : Int32)] [(.int (2 : Int32))])) t₀
    refine XS.iload X3.here hx rfl (hb hby d9_12) rfl ?_
    show Steps p.tables e below (T3.setTop (mkF m 14 #[oR a1, oJ q, oS, oI (2 : Int32), oI (2 : Int32), oI (1 : Int32)] [(.int (2 : Int32)), (.int (2 : Int32))])) t₀
    refine XS.icmpYes X3.here hx rfl (pc0 := 14) (pc' := 52) rfl (hb hby d9_14) rfl (flt (by decide : ¬ ((2 : Int32) < (2 : Int32)))).2.1 (by decide) (by decide) ?_
    show Steps p.tables e below (T3.setTop (mkF m 52 #[oR a1, oJ q, oS, oI (2 : Int32), oI (2 : Int32), oI (1 : Int32)] [])) t₀
    refine XS.aloadN X3.here hx rfl (hb hby d9_52) rfl rfl ?_
    exact k₀
  obtain ⟨T5, X5, e5, st5⟩ := getF X3 hx hZ hown (host := "") (Or.inl (hw _ (List.mem_of_getElem? (i := 17) rfl))) Via.refl e3 F_starts (g := (mkF m 53 #[oR a1, oJ q, oS, oI (2 : Int32), oI (2 : Int32), oI (1 : Int32)] [(.ref a1)])) rfl rfl (hb hby d9_53)
  refine hG _ _ (fun t₀ k₀ => st5 _ k₀) ?_
  show G (T5.setTop (mkF m 56 #[oR a1, oJ q, oS, oI (2 : Int32), oI (2 : Int32), oI (1 : Int32)] [(.ref wT)]))
  refine hG _ (T5.setTop (mkF m 57 #[oR a1, oJ q, oS, oI (2 : Int32), oI (2 : Int32), oI (1 : Int32)] [(.int (2 : Int32)), (.ref wT)])) (fun t₀ k₀ => ?_) ?_
  · show Steps p.tables e below (T5.setTop (mkF m 56 #[oR a1, oJ q, oS, oI (2 : Int32), oI (2 : Int32), oI (1 : Int32)] [(.ref wT)])) t₀
    refine XS.iloadN X5.here hx rfl (hb hby d9_56) rfl ?_
    exact k₀
  have ov6 := V_wT
  obtain ⟨cl6, Ar6, q6, S6, N_6, H_6, G_6⟩ := ov6
  have hin6 : ¬ ((2 : Int32) < 0 ∨ cl6.slots.size ≤ ((2 : Int32)).toNatClampNeg) := inb_of S6 ⟨by decide, by decide⟩
  have hat6 : cl6.slots[((2 : Int32)).toNatClampNeg]? = some (.long y2) := H_6.at hin6 rfl
  refine hG _ (T5.setTop (mkF m 58 #[oR a1, oJ q, oS, oI (2 : Int32), oI (2 : Int32), oI (1 : Int32)] [(.long y2)])) (fun t₀ k₀ => ?_) ?_
  · show Steps p.tables e below (T5.setTop (mkF m 57 #[oR a1, oJ q, oS, oI (2 : Int32), oI (2 : Int32), oI (1 : Int32)] [(.int (2 : Int32)), (.ref wT)])) t₀
    refine X5.laload hx (j := (2 : Int32)) (v := (.long y2)) (by rw [e5]; exact Ar6.1) (State.isArrayOf_alike hZ.alike Ar6.2.1) Ar6.2.2 hin6 hat6 (g := (mkF m 57 #[oR a1, oJ q, oS, oI (2 : Int32), oI (2 : Int32), oI (1 : Int32)] [(.int (2 : Int32)), (.ref wT)])) rfl rfl (hb hby d9_57) _ ?_
    exact k₀
  refine hF _ T5 _ _ _ (some (.long y2)) _ X5 e5 (fun h => by rw [hrt] at h; cases h) (by decide) (by decide) ?_ (fun fs hr => own_retJ X5 hx hrt (hb hby d9_58) hr)
  exact ⟨rfl, N0, rfl⟩
theorem ef_rmE30 (m : MethodId) (x0 : Addr) (x1 : Int64) : entryFrame m #[(.ref x0), (.long x1)] 6 = mkF m 0 #[oR x0, oJ x1, oS, oU, oU, oU] [] := by first | (simp [entryFrame, mkF, argsToLocals, Value.category]; done) | rfl
def Q_rmE30 (Z : State) (a1 : Addr) (q : Int64) (wS wT : Addr) (kS kT : ClassId) (x0 y0 x1 y1 x2 y2 x3 y3 x4 y4 x5 y5 x6 y6 x7 y7 : Int64) (h0 : Heap) (n0 : Nat) (v : Option Value) (h : Heap) (L : List Loc) : Prop := v = some (.long y3) ∧ Fr n0 L ∧ h = h0
set_option maxRecDepth 65536 in
set_option maxHeartbeats 40000000 in
theorem rmE30 (l : Launch) (Z : State) (a0 : Array Value) (hw : ∀ d ∈ tables_1, d.before a0 Z = true) (ws : List Jvm.Cond) (a1 : Addr) (q : Int64) (wS wT : Addr) (kS kT : ClassId) (x0 y0 x1 y1 x2 y2 x3 y3 x4 y4 x5 y5 x6 y6 x7 y7 : Int64) (h0 : Heap) (n0 : Nat) (Z0 : n0 ≤ h0.size) (F_seqNos : Fld Z h0 a1 "com/example/opledger/opledger/AppendTimes" "seqNos" "[J" (.ref wS)) (F_starts : Fld Z h0 a1 "com/example/opledger/opledger/AppendTimes" "starts" "[J" (.ref wT)) (F_first : Fld Z h0 a1 "com/example/opledger/opledger/AppendTimes" "first" "I" (.int (0 : Int32))) (F_last : Fld Z h0 a1 "com/example/opledger/opledger/AppendTimes" "last" "I" (.int (3 : Int32))) (V_wS : Arv Z h0 wS kS .long (8 : Int32) [(.long x0), (.long x1), (.long x2), (.long x3), (.long x4), (.long x5), (.long x6), (.long x7)] (.long (0 : Int64))) (V_wT : Arv Z h0 wT kT .long (8 : Int32) [(.long y0), (.long y1), (.long y2), (.long y3), (.long y4), (.long y5), (.long y6), (.long y7)] (.long (0 : Int64))) (hq1 : ¬ q < x1) (hq2 : ¬ q < x2) :
    MetFree l (⟨"com/example/opledger/opledger/AppendTimes", "earliestAbove", "(J)J"⟩ : MethodName) (head1 (Jvm.Cond.code (⟨"com/example/opledger/opledger/AppendTimes", "earliestAbove", "(J)J"⟩ : MethodName) prog_1_method_6_code 6 (some .long) :: ws) ({ frames := 0, cells := 0, slots := 0, locals := 0 } : Room)) (fun a U => a = #[(.ref a1), (.long q)] ∧ Z.Warmed39 U.vm ∧ U.heap = h0) (fun _ _ _ _ _ => True) (fun _ U o U' => ∃ v L, o = .returned v ∧ Q_rmE30 Z a1 q wS wT kS kT x0 y0 x1 y1 x2 y2 x3 y3 x4 y4 x5 y5 x6 y6 x7 y7 h0 n0 v U'.heap L ∧ FrameEnd U o U' L ({ frames := 0, cells := 0, slots := 0, locals := 0 } : Room).cells ({ frames := 0, cells := 0, slots := 0, locals := 0 } : Room).slots) := by
  refine own_body (Q := fun v h L => Q_rmE30 Z a1 q wS wT kS kT x0 y0 x1 y1 x2 y2 x3 y3 x4 y4 x5 y5 x6 y6 x7 y7 h0 n0 v h L) pn_9 ?_
  intro p e s m below meth c s₁ G X0 hx hZ hby hml hown hnm hrt e0 hG hF
  have hown : s.vm.findClass "com/example/opledger/opledger/AppendTimes" = some m.cls := hown
  have N0 := Fr.nil n0
  rw [ef_rmE30 m a1 q]
  show G (s₁.setTop (mkF m 0 #[oR a1, oJ q, oS, oU, oU, oU] []))
  refine hG _ (s₁.setTop (mkF m 1 #[oR a1, oJ q, oS, oU, oU, oU] [(.ref a1)])) (fun t₀ k₀ => ?_) ?_
  · show Steps p.tables e below (s₁.setTop (mkF m 0 #[oR a1, oJ q, oS, oU, oU, oU] [])) t₀
    refine XS.aloadN X0.here hx rfl (hb hby d9_0) rfl rfl ?_
    exact k₀
  obtain ⟨T1, X1, e1, st1⟩ := getF X0 hx hZ hown (host := "") (Or.inl (hw _ (List.mem_of_getElem? (i := 33) rfl))) Via.refl e0 F_first (g := (mkF m 1 #[oR a1, oJ q, oS, oU, oU, oU] [(.ref a1)])) rfl rfl (hb hby d9_1)
  refine hG _ _ (fun t₀ k₀ => st1 _ k₀) ?_
  show G (T1.setTop (mkF m 4 #[oR a1, oJ q, oS, oU, oU, oU] [(.int (0 : Int32))]))
  refine hG _ (T1.setTop (mkF m 6 #[oR a1, oJ q, oS, oI (0 : Int32), oU, oU] [(.ref a1)])) (fun t₀ k₀ => ?_) ?_
  · show Steps p.tables e below (T1.setTop (mkF m 4 #[oR a1, oJ q, oS, oU, oU, oU] [(.int (0 : Int32))])) t₀
    refine XS.istoreN X1.here hx rfl (hb hby d9_4) rfl (l' := #[oR a1, oJ q, oS, oI (0 : Int32), oU, oU]) rfl ?_
    show Steps p.tables e below (T1.setTop (mkF m 5 #[oR a1, oJ q, oS, oI (0 : Int32), oU, oU] [])) t₀
    refine XS.aloadN X1.here hx rfl (hb hby d9_5) rfl rfl ?_
    exact k₀
  obtain ⟨T2, X2, e2, st2⟩ := getF X1 hx hZ hown (host := "") (Or.inl (hw _ (List.mem_of_getElem? (i := 21) rfl))) Via.refl e1 F_last (g := (mkF m 6 #[oR a1, oJ q, oS, oI (0 : Int32), oU, oU] [(.ref a1)])) rfl rfl (hb hby d9_6)
  refine hG _ _ (fun t₀ k₀ => st2 _ k₀) ?_
  show G (T2.setTop (mkF m 9 #[oR a1, oJ q, oS, oI (0 : Int32), oU, oU] [(.int (3 : Int32))]))
  refine hG _ (T2.setTop (mkF m 26 #[oR a1, oJ q, oS, oI (0 : Int32), oI (3 : Int32), oI (1 : Int32)] [(.ref a1)])) (fun t₀ k₀ => ?_) ?_
  · show Steps p.tables e below (T2.setTop (mkF m 9 #[oR a1, oJ q, oS, oI (0 : Int32), oU, oU] [(.int (3 : Int32))])) t₀
    refine XS.istore X2.here hx rfl (hb hby d9_9) rfl (l' := #[oR a1, oJ q, oS, oI (0 : Int32), oI (3 : Int32), oU]) rfl ?_
    show Steps p.tables e below (T2.setTop (mkF m 11 #[oR a1, oJ q, oS, oI (0 : Int32), oI (3 : Int32), oU] [])) t₀
    refine XS.iloadN X2.here hx rfl (hb hby d9_11) rfl ?_
    show Steps p.tables e below (T2.setTop (mkF m 12 #[oR a1, oJ q, oS, oI (0 : Int32), oI (3 : Int32), oU] [(.int (0 : Int32))])) t₀
    refine XS.iload X2.here hx rfl (hb hby d9_12) rfl ?_
    show Steps p.tables e below (T2.setTop (mkF m 14 #[oR a1, oJ q, oS, oI (0 : Int32), oI (3 : Int32), oU] [(.int (3 : Int32)), (.int (0 : Int32))])) t₀
    refine XS.icmpNo X2.here hx rfl (hb hby d9_14) rfl (tlt (by decide : ((0 : Int32) < (3 : Int32)))).2.1 ?_
    show Steps p.tables e below (T2.setTop (mkF m 17 #[oR a1, oJ q, oS, oI (0 : Int32), oI (3 : Int32), oU] [])) t₀
    refine XS.iloadN X2.here hx rfl (hb hby d9_17) rfl ?_
    show Steps p.tables e below (T2.setTop (mkF m 18 #[oR a1, oJ q, oS, oI (0 : Int32), oI (3 : Int32), oU] [(.int (0 : Int32))])) t₀
    refine XS.iload X2.here hx rfl (hb hby d9_18) rfl ?_
    show Steps p.tables e below (T2.setTop (mkF m 20 #[oR a1, oJ q, oS, oI (0 : Int32), oI (3 : Int32), oU] [(.int (3 : Int32)), (.int (0 : Int32))])) t₀
    refine XS.iadd X2.here hx rfl (hb hby d9_20) rfl ?_
    show Steps p.tables e below (T2.setTop (mkF m 21 #[oR a1, oJ q, oS, oI (0 : Int32), oI (3 : Int32), oU] [(.int (3 : Int32))])) t₀
    refine XS.iconst X2.here hx rfl (hb hby d9_21) ?_
    show Steps p.tables e below (T2.setTop (mkF m 22 #[oR a1, oJ q, oS, oI (0 : Int32), oI (3 : Int32), oU] [(.int (1 : Int32)), (.int (3 : Int32))])) t₀
    refine XS.iushr X2.here hx rfl (hb hby d9_22) rfl ?_
    show Steps p.tables e below (T2.setTop (mkF m 23 #[oR a1, oJ q, oS, oI (0 : Int32), oI (3 : Int32), oU] [(.int (1 : Int32))])) t₀
    refine XS.istore X2.here hx rfl (hb hby d9_23) rfl (l' := #[oR a1, oJ q, oS, oI (0 : Int32), oI (3 : Int32), oI (1 : Int32)]) rfl ?_
    show Steps p.tables e below (T2.setTop (mkF m 25 #[oR a1, oJ q, oS, oI (0 : Int32), oI (3 : Int32), oI (1 : Int32)] [])) t₀
    refine XS.aloadN X2.here hx rfl (hb hby d9_25) rfl rfl ?_
    exact k₀
  obtain ⟨T3, X3, e3, st3⟩ := getF X2 hx hZ hown (host := "") (Or.inl (hw _ (List.mem_of_getElem? (i := 15) rfl))) Via.refl e2 F_seqNos (g := (mkF m 26 #[oR a1, oJ q, oS, oI (0 : Int32), oI (3 : Int32), oI (1 : Int32)] [(.ref a1)])) rfl rfl (hb hby d9_26)
  refine hG _ _ (fun t₀ k₀ => st3 _ k₀) ?_
  show G (T3.setTop (mkF m 29 #[oR a1, oJ q, oS, oI (0 : Int32), oI (3 : Int32), oI (1 : Int32)] [(.ref wS)]))
  refine hG _ (T3.setTop (mkF m 31 #[oR a1, oJ q, oS, oI (0 : Int32), oI (3 : Int32), oI (1 : Int32)] [(.int (1 : Int32)), (.ref wS)])) (fun t₀ k₀ => ?_) ?_
  · show Steps p.tables e below (T3.setTop (mkF m 29 #[oR a1, oJ q, oS, oI (0 : Int32), oI (3 : Int32), oI (1 : Int32)] [(.ref wS)])) t₀
    refine XS.iload X3.here hx rfl (hb hby d9_29) rfl ?_
    exact k₀
  have ov4 := V_wS
  obtain ⟨cl4, Ar4, q4, S4, N_4, H_4, G_4⟩ := ov4
  have hin4 : ¬ ((1 : Int32) < 0 ∨ cl4.slots.size ≤ ((1 : Int32)).toNatClampNeg) := inb_of S4 ⟨by decide, by decide⟩
  have hat4 : cl4.slots[((1 : Int32)).toNatClampNeg]? = some (.long x1) := H_4.at hin4 rfl
  refine hG _ (T3.setTop (mkF m 26 #[oR a1, oJ q, oS, oI (2 : Int32), oI (3 : Int32), oI (2 : Int32)] [(.ref a1)])) (fun t₀ k₀ => ?_) ?_
  · show Steps p.tables e below (T3.setTop (mkF m 31 #[oR a1, oJ q, oS, oI (0 : Int32), oI (3 : Int32), oI (1 : Int32)] [(.int (1 : Int32)), (.ref wS)])) t₀
    refine X3.laload hx (j := (1 : Int32)) (v := (.long x1)) (by rw [e3]; exact Ar4.1) (State.isArrayOf_alike hZ.alike Ar4.2.1) Ar4.2.2 hin4 hat4 (g := (mkF m 31 #[oR a1, oJ q, oS, oI (0 : Int32), oI (3 : Int32), oI (1 : Int32)] [(.int (1 : Int32)), (.ref wS)])) rfl rfl (hb hby d9_31) _ ?_
    show Steps p.tables e below (T3.setTop (mkF m 32 #[oR a1, oJ q, oS, oI (0 : Int32), oI (3 : Int32), oI (1 : Int32)] [(.long x1)])) t₀
    refine XS.lloadN X3.here hx rfl (hb hby d9_32) rfl ?_
    show Steps p.tables e below (T3.setTop (mkF m 33 #[oR a1, oJ q, oS, oI (0 : Int32), oI (3 : Int32), oI (1 : Int32)] [(.long q), (.long x1)])) t₀
    refine XS.lcmp X3.here hx rfl (hb hby d9_33) rfl ?_
    show Steps p.tables e below (T3.setTop (mkF m 34 #[oR a1, oJ q, oS, oI (0 : Int32), oI (3 : Int32), oI (1 : Int32)] [(.int (lcmpW x1 q))])) t₀
    refine XS.ifYes X3.here hx rfl (pc0 := 34) (pc' := 44) rfl (hb hby d9_34) rfl ((if0 _ _).trans (flt (fun z => hq1 ((lw_gt x1 q).mp z))).2.2.2) (by decide) (by decide) ?_
    show Steps p.tables e below (T3.setTop (mkF m 44 #[oR a1, oJ q, oS, oI (0 : Int32), oI (3 : Int32), oI (1 : Int32)] [])) t₀
    refine XS.iload X3.here hx rfl (hb hby d9_44) rfl ?_
    show Steps p.tables e below (T3.setTop (mkF m 46 #[oR a1, oJ q, oS, oI (0 : Int32), oI (3 : Int32), oI (1 : Int32)] [(.int (1 : Int32))])) t₀
    refine XS.iconst X3.here hx rfl (hb hby d9_46) ?_
    show Steps p.tables e below (T3.setTop (mkF m 47 #[oR a1, oJ q, oS, oI (0 : Int32), oI (3 : Int32), oI (1 : Int32)] [(.int (1 : Int32)), (.int (1 : Int32))])) t₀
    refine XS.iadd X3.here hx rfl (hb hby d9_47) rfl ?_
    show Steps p.tables e below (T3.setTop (mkF m 48 #[oR a1, oJ q, oS, oI (0 : Int32), oI (3 : Int32), oI (1 : Int32)] [(.int (2 : Int32))])) t₀
    refine XS.istoreN X3.here hx rfl (hb hby d9_48) rfl (l' := #[oR a1, oJ q, oS, oI (2 : Int32), oI (3 : Int32), oI (1 : Int32)]) rfl ?_
    show Steps p.tables e below (T3.setTop (mkF m 49 #[oR a1, oJ q, oS, oI (2 : Int32), oI (3 : Int32), oI (1 : Int32)] [])) t₀
    refine XS.goto X3.here hx rfl (pc0 := 49) (pc' := 11) rfl (hb hby d9_49) (by decide) (by decide) ?_
    show Steps p.tables e below (T3.setTop (mkF m 11 #[oR a1, oJ q, oS, oI (2 : Int32), oI (3 : Int32), oI (1 : Int32)] [])) t₀
    refine XS.iloadN X3.here hx rfl (hb hby d9_11) rfl ?_
    show Steps p.tables e below (T3.setTop (mkF m 12 #[oR a1, oJ q, oS, oI (2 : Int32), oI (3 : Int32), oI (1 : Int32)] [(.int (2 : Int32))])) t₀
    refine XS.iload X3.here hx rfl (hb hby d9_12) rfl ?_
    show Steps p.tables e below (T3.setTop (mkF m 14 #[oR a1, oJ q, oS, oI (2 : Int32), oI (3 : Int32), oI (1 : Int32)] [(.int (3 : Int32)), (.int (2 : Int32))])) t₀
    refine XS.icmpNo X3.here hx rfl (hb hby d9_14) rfl (tlt (by decide : ((2 : Int32) < (3 : Int32)))).2.1 ?_
    show Steps p.tables e below (T3.setTop (mkF m 17 #[oR a1, oJ q, oS, oI (2 : Int32), oI (3 : Int32), oI (1 : Int32)] [])) t₀
    refine XS.iloadN X3.here hx rfl (hb hby d9_17) rfl ?_
    show Steps p.tables e below (T3.setTop (mkF m 18 #[oR a1, oJ q, oS, oI (2 : Int32), oI (3 : Int32), oI (1 : Int32)] [(.int (2 : Int32))])) t₀
    refine XS.iload X3.here hx rfl (hb hby d9_18) rfl ?_
    show Steps p.tables e below (T3.setTop (mkF m 20 #[oR a1, oJ q, oS, oI (2 : Int32), oI (3 : Int32), oI (1 : Int32)] [(.int (3 : Int32)), (.int (2 : Int32))])) t₀
    refine XS.iadd X3.here hx rfl (hb hby d9_20) rfl ?_
    show Steps p.tables e below (T3.setTop (mkF m 21 #[oR a1, oJ q, oS, oI (2 : Int32), oI (3 : Int32), oI (1 : Int32)] [(.int (5 : Int32))])) t₀
    refine XS.iconst X3.here hx rfl (hb hby d9_21) ?_
    show Steps p.tables e below (T3.setTop (mkF m 22 #[oR a1, oJ q, oS, oI (2 : Int32), oI (3 : Int32), oI (1 : Int32)] [(.int (1 : Int32)), (.int (5 : Int32))])) t₀
    refine XS.iushr X3.here hx rfl (hb hby d9_22) rfl ?_
    show Steps p.tables e below (T3.setTop (mkF m 23 #[oR a1, oJ q, oS, oI (2 : Int32), oI (3 : Int32), oI (1 : Int32)] [(.int (2 : Int32))])) t₀
    refine XS.istore X3.here hx rfl (hb hby d9_23) rfl (l' := #[oR a1, oJ q, oS, oI (2 : Int32), oI (3 : Int32), oI (2 : Int32)]) rfl ?_
    show Steps p.tables e below (T3.setTop (mkF m 25 #[oR a1, oJ q, oS, oI (2 : Int32), oI (3 : Int32), oI (2 : Int32)] [])) t₀
    refine XS.aloadN X3.here hx rfl (hb hby d9_25) rfl rfl ?_
    exact k₀
  obtain ⟨T5, X5, e5, st5⟩ := getF X3 hx hZ hown (host := "") (Or.inl (hw _ (List.mem_of_getElem? (i := 15) rfl))) Via.refl e3 F_seqNos (g := (mkF m 26 #[oR a1, oJ q, oS, oI (2 : Int32), oI (3 : Int32), oI (2 : Int32)] [(.ref a1)])) rfl rfl (hb hby d9_26)
  refine hG _ _ (fun t₀ k₀ => st5 _ k₀) ?_
  show G (T5.setTop (mkF m 29 #[oR a1, oJ q, oS, oI (2 : Int32), oI (3 : Int32), oI (2 : Int32)] [(.ref wS)]))
  refine hG _ (T5.setTop (mkF m 31 #[oR a1, oJ q, oS, oI (2 : Int32), oI (3 : Int32), oI (2 : Int32)] [(.int (2 : Int32)), (.ref wS)])) (fun t₀ k₀ => ?_) ?_
  · show Steps p.tables e below (T5.setTop (mkF m 29 #[oR a1, oJ q, oS, oI (2 : Int32), oI (3 : Int32), oI (2 : Int32)] [(.ref wS)])) t₀
    refine XS.iload X5.here hx rfl (hb hby d9_29) rfl ?_
    exact k₀
  have ov6 := V_wS
  obtain ⟨cl6, Ar6, q6, S6, N_6, H_6, G_6⟩ := ov6
  have hin6 : ¬ ((2 : Int32) < 0 ∨ cl6.slots.size ≤ ((2 : Int32)).toNatClampNeg) := inb_of S6 ⟨by decide, by decide⟩
  have hat6 : cl6.slots[((2 : Int32)).toNatClampNeg]? = some (.long x2) := H_6.at hin6 rfl
  refine hG _ (T5.setTop (mkF m 53 #[oR a1, oJ q, oS, oI (3 : Int32), oI (3 : Int32), oI (2 : Int32)] [(.ref a1)])) (fun t₀ k₀ => ?_) ?_
  · show Steps p.tables e below (T5.setTop (mkF m 31 #[oR a1, oJ q, oS, oI (2 : Int32), oI (3 : Int32), oI (2 : Int32)] [(.int (2 : Int32)), (.ref wS)])) t₀
    refine X5.laload hx (j := (2 : Int32)) (v := (.long x2)) (by rw [e5]; exact Ar6.1) (State.isArrayOf_alike hZ.alike Ar6.2.1) Ar6.2.2 hin6 hat6 (g := (mkF m 31 #[oR a1, oJ q, oS, oI (2 : Int32), oI (3 : Int32), oI (2 : Int32)] [(.int (2 : Int32)), (.ref wS)])) rfl rfl (hb hby d9_31) _ ?_
    show Steps p.tables e below (T5.setTop (mkF m 32 #[oR a1, oJ q, oS, oI (2 : Int32), oI (3 : Int32), oI (2 : Int32)] [(.long x2)])) t₀
    refine XS.lloadN X5.here hx rfl (hb hby d9_32) rfl ?_
    show Steps p.tables e below (T5.setTop (mkF m 33 #[oR a1, oJ q, oS, oI (2 : Int32), oI (3 : Int32), oI (2 : Int32)] [(.long q), (.long x2)])) t₀
    refine XS.lcmp X5.here hx rfl (hb hby d9_33) rfl ?_
    show Steps p.tables e below (T5.setTop (mkF m 34 #[oR a1, oJ q, oS, oI (2 : Int32), oI (3 : Int32), oI (2 : Int32)] [(.int (lcmpW x2 q))])) t₀
    refine XS.ifYes X5.here hx rfl (pc0 := 34) (pc' := 44) rfl (hb hby d9_34) rfl ((if0 _ _).trans (flt (fun z => hq2 ((lw_gt x2 q).mp z))).2.2.2) (by decide) (by decide) ?_
    show Steps p.tables e below (T5.setTop (mkF m 44 #[oR a1, oJ q, oS, oI (2 : Int32), oI (3 : Int32), oI (2 : Int32)] [])) t₀
    refine XS.iload X5.here hx rfl (hb hby d9_44) rfl ?_
    show Steps p.tables e below (T5.setTop (mkF m 46 #[oR a1, oJ q, oS, oI (2 : Int32), oI (3 : Int32), oI (2 : Int32)] [(.int (2 : Int32))])) t₀
    refine XS.iconst X5.here hx rfl (hb hby d9_46) ?_
    show Steps p.tables e below (T5.setTop (mkF m 47 #[oR a1, oJ q, oS, oI (2 : Int32), oI (3 : Int32), oI (2 : Int32)] [(.int (1 : Int32)), (.int (2 : Int32))])) t₀
    refine XS.iadd X5.here hx rfl (hb hby d9_47) rfl ?_
    show Steps p.tables e below (T5.setTop (mkF m 48 #[oR a1, oJ q, oS, oI (2 : Int32), oI (3 : Int32), oI (2 : Int32)] [(.int (3 : Int32))])) t₀
    refine XS.istoreN X5.here hx rfl (hb hby d9_48) rfl (l' := #[oR a1, oJ q, oS, oI (3 : Int32), oI (3 : Int32), oI (2 : Int32)]) rfl ?_
    show Steps p.tables e below (T5.setTop (mkF m 49 #[oR a1, oJ q, oS, oI (3 : Int32), oI (3 : Int32), oI (2 : Int32)] [])) t₀
    refine XS.goto X5.here hx rfl (pc0 := 49) (pc' := 11) rfl (hb hby d9_49) (by decide) (by decide) ?_
    show Steps p.tables e below (T5.setTop (mkF m 11 #[oR a1, oJ q, oS, oI (3 : Int32), oI (3 : Int32), oI (2 : Int32)] [])) t₀
    refine XS.iloadN X5.here hx rfl (hb hby d9_11) rfl ?_
    show Steps p.tables e below (T5.setTop (mkF m 12 #[oR a1, oJ q, oS, oI (3 : Int32), oI (3 : Int32), oI (2 : Int32)] [(.int (3 : Int32))])) t₀
    refine XS.iload X5.here hx rfl (hb hby d9_12) rfl ?_
    show Steps p.tables e below (T5.setTop (mkF m 14 #[oR a1, oJ q, oS, oI (3 : Int32), oI (3 : Int32), oI (2 : Int32)] [(.int (3 : Int32)), (.int (3 : Int32))])) t₀
    refine XS.icmpYes X5.here hx rfl (pc0 := 14) (pc' := 52) rfl (hb hby d9_14) rfl (flt (by decide : ¬ ((3 : Int32) < (3 : Int32)))).2.1 (by decide) (by decide) ?_
    show Steps p.tables e below (T5.setTop (mkF m 52 #[oR a1, oJ q, oS, oI (3 : Int32), oI (3 : Int32), oI (2 : Int32)] [])) t₀
    refine XS.aloadN X5.here hx rfl (hb hby d9_52) rfl rfl ?_
    exact k₀
  obtain ⟨T7, X7, e7, st7⟩ := getF X5 hx hZ hown (host := "") (Or.inl (hw _ (List.mem_of_getElem? (i := 17) rfl))) Via.refl e5 F_starts (g := (mkF m 53 #[oR a1, oJ q, oS, oI (3 : Int32), oI (3 : Int32), oI (2 : Int32)] [(.ref a1)])) rfl rfl (hb hby d9_53)
  refine hG _ _ (fun t₀ k₀ => st7 _ k₀) ?_
  show G (T7.setTop (mkF m 56 #[oR a1, oJ q, oS, oI (3 : Int32), oI (3 : Int32), oI (2 : Int32)] [(.ref wT)]))
  refine hG _ (T7.setTop (mkF m 57 #[oR a1, oJ q, oS, oI (3 : Int32), oI (3 : Int32), oI (2 : Int32)] [(.int (3 : Int32)), (.ref wT)])) (fun t₀ k₀ => ?_) ?_
  · show Steps p.tables e below (T7.setTop (mkF m 56 #[oR a1, oJ q, oS, oI (3 : Int32), oI (3 : Int32), oI (2 : Int32)] [(.ref wT)])) t₀
    refine XS.iloadN X7.here hx rfl (hb hby d9_56) rfl ?_
    exact k₀
  have ov8 := V_wT
  obtain ⟨cl8, Ar8, q8, S8, N_8, H_8, G_8⟩ := ov8
  have hin8 : ¬ ((3 : Int32) < 0 ∨ cl8.slots.size ≤ ((3 : Int32)).toNatClampNeg) := inb_of S8 ⟨by decide, by decide⟩
  have hat8 : cl8.slots[((3 : Int32)).toNatClampNeg]? = some (.long y3) := H_8.at hin8 rfl
  refine hG _ (T7.setTop (mkF m 58 #[oR a1, oJ q, oS, oI (3 : Int32), oI (3 : Int32), oI (2 : Int32)] [(.long y3)])) (fun t₀ k₀ => ?_) ?_
  · show Steps p.tables e below (T7.setTop (mkF m 57 #[oR a1, oJ q, oS, oI (3 : Int32), oI (3 : Int32), oI (2 : Int32)] [(.int (3 : Int32)), (.ref wT)])) t₀
    refine X7.laload hx (j := (3 : Int32)) (v := (.long y3)) (by rw [e7]; exact Ar8.1) (State.isArrayOf_alike hZ.alike Ar8.2.1) Ar8.2.2 hin8 hat8 (g := (mkF m 57 #[oR a1, oJ q, oS, oI (3 : Int32), oI (3 : Int32), oI (2 : Int32)] [(.int (3 : Int32)), (.ref wT)])) rfl rfl (hb hby d9_57) _ ?_
    exact k₀
  refine hF _ T7 _ _ _ (some (.long y3)) _ X7 e7 (fun h => by rw [hrt] at h; cases h) (by decide) (by decide) ?_ (fun fs hr => own_retJ X7 hx hrt (hb hby d9_58) hr)
  exact ⟨rfl, N0, rfl⟩
theorem ef_rmE31 (m : MethodId) (x0 : Addr) (x1 : Int64) : entryFrame m #[(.ref x0), (.long x1)] 6 = mkF m 0 #[oR x0, oJ x1, oS, oU, oU, oU] [] := by first | (simp [entryFrame, mkF, argsToLocals, Value.category]; done) | rfl
def Q_rmE31 (Z : State) (a1 : Addr) (q : Int64) (wS wT : Addr) (kS kT : ClassId) (x0 y0 x1 y1 x2 y2 x3 y3 x4 y4 x5 y5 x6 y6 x7 y7 : Int64) (h0 : Heap) (n0 : Nat) (v : Option Value) (h : Heap) (L : List Loc) : Prop := v = some (.long y3) ∧ Fr n0 L ∧ h = h0
set_option maxRecDepth 65536 in
set_option maxHeartbeats 40000000 in
theorem rmE31 (l : Launch) (Z : State) (a0 : Array Value) (hw : ∀ d ∈ tables_1, d.before a0 Z = true) (ws : List Jvm.Cond) (a1 : Addr) (q : Int64) (wS wT : Addr) (kS kT : ClassId) (x0 y0 x1 y1 x2 y2 x3 y3 x4 y4 x5 y5 x6 y6 x7 y7 : Int64) (h0 : Heap) (n0 : Nat) (Z0 : n0 ≤ h0.size) (F_seqNos : Fld Z h0 a1 "com/example/opledger/opledger/AppendTimes" "seqNos" "[J" (.ref wS)) (F_starts : Fld Z h0 a1 "com/example/opledger/opledger/AppendTimes" "starts" "[J" (.ref wT)) (F_first : Fld Z h0 a1 "com/example/opledger/opledger/AppendTimes" "first" "I" (.int (1 : Int32))) (F_last : Fld Z h0 a1 "com/example/opledger/opledger/AppendTimes" "last" "I" (.int (3 : Int32))) (V_wS : Arv Z h0 wS kS .long (8 : Int32) [(.long x0), (.long x1), (.long x2), (.long x3), (.long x4), (.long x5), (.long x6), (.long x7)] (.long (0 : Int64))) (V_wT : Arv Z h0 wT kT .long (8 : Int32) [(.long y0), (.long y1), (.long y2), (.long y3), (.long y4), (.long y5), (.long y6), (.long y7)] (.long (0 : Int64))) (hq2 : ¬ q < x2) :
    MetFree l (⟨"com/example/opledger/opledger/AppendTimes", "earliestAbove", "(J)J"⟩ : MethodName) (head1 (Jvm.Cond.code (⟨"com/example/opledger/opledger/AppendTimes", "earliestAbove", "(J)J"⟩ : MethodName) prog_1_method_6_code 6 (some .long) :: ws) ({ frames := 0, cells := 0, slots := 0, locals := 0 } : Room)) (fun a U => a = #[(.ref a1), (.long q)] ∧ Z.Warmed39 U.vm ∧ U.heap = h0) (fun _ _ _ _ _ => True) (fun _ U o U' => ∃ v L, o = .returned v ∧ Q_rmE31 Z a1 q wS wT kS kT x0 y0 x1 y1 x2 y2 x3 y3 x4 y4 x5 y5 x6 y6 x7 y7 h0 n0 v U'.heap L ∧ FrameEnd U o U' L ({ frames := 0, cells := 0, slots := 0, locals := 0 } : Room).cells ({ frames := 0, cells := 0, slots := 0, locals := 0 } : Room).slots) := by
  refine own_body (Q := fun v h L => Q_rmE31 Z a1 q wS wT kS kT x0 y0 x1 y1 x2 y2 x3 y3 x4 y4 x5 y5 x6 y6 x7 y7 h0 n0 v h L) pn_9 ?_
  intro p e s m below meth c s₁ G X0 hx hZ hby hml hown hnm hrt e0 hG hF
  have hown : s.vm.findClass "com/example/opledger/opledger/AppendTimes" = some m.cls := hown
  have N0 := Fr.nil n0
  rw [ef_rmE31 m a1 q]
  show G (s₁.setTop (mkF m 0 #[oR a1, oJ q, oS, oU, oU, oU] []))
  refine hG _ (s₁.setTop (mkF m 1 #[oR a1, oJ q, oS, oU, oU, oU] [(.ref a1)])) (fun t₀ k₀ => ?_) ?_
  · show Steps p.tables e below (s₁.setTop (mkF m 0 #[oR a1, oJ q, oS, oU, oU, oU] [])) t₀
    refine XS.aloadN X0.here hx rfl (hb hby d9_0) rfl rfl ?_
    exact k₀
  obtain ⟨T1, X1, e1, st1⟩ := getF X0 hx hZ hown (host := "") (Or.inl (hw _ (List.mem_of_getElem? (i := 33) rfl))) Via.refl e0 F_first (g := (mkF m 1 #[oR a1, oJ q, oS, oU, oU, oU] [(.ref a1)])) rfl rfl (hb hby d9_1)
  refine hG _ _ (fun t₀ k₀ => st1 _ k₀) ?_
  show G (T1.setTop (mkF m 4 #[oR a1, oJ q, oS, oU, oU, oU] [(.int (1 : Int32))]))
  refine hG _ (T1.setTop (mkF m 6 #[oR a1, oJ q, oS, oI (1 : Int32), oU, oU] [(.ref a1)])) (fun t₀ k₀ => ?_) ?_
  · show Steps p.tables e below (T1.setTop (mkF m 4 #[oR a1, oJ q, oS, oU, oU, oU] [(.int (1 : Int32))])) t₀
    refine XS.istoreN X1.here hx rfl (hb hby d9_4) rfl (l' := #[oR a1, oJ q, oS, oI (1 : Int32), oU, oU]) rfl ?_
    show Steps p.tables e below (T1.setTop (mkF m 5 #[oR a1, oJ q, oS, oI (1 : Int32), oU, oU] [])) t₀
    refine XS.aloadN X1.here hx rfl (hb hby d9_5) rfl rfl ?_
    exact k₀
  obtain ⟨T2, X2, e2, st2⟩ := getF X1 hx hZ hown (host := "") (Or.inl (hw _ (List.mem_of_getElem? (i := 21) rfl))) Via.refl e1 F_last (g := (mkF m 6 #[oR a1, oJ q, oS, oI (1 : Int32), oU, oU] [(.ref a1)])) rfl rfl (hb hby d9_6)
  refine hG _ _ (fun t₀ k₀ => st2 _ k₀) ?_
  show G (T2.setTop (mkF m 9 #[oR a1, oJ q, oS, oI (1 : Int32), oU, oU] [(.int (3 : Int32))]))
  refine hG _ (T2.setTop (mkF m 26 #[oR a1, oJ q, oS, oI (1 : Int32), oI (3 : Int32), oI (2 : Int32)] [(.ref a1)])) (fun t₀ k₀ => ?_) ?_
  · show Steps p.tables e below (T2.setTop (mkF m 9 #[oR a1, oJ q, oS, oI (1 : Int32), oU, oU] [(.int (3 : Int32))])) t₀
    refine XS.istore X2.here hx rfl (hb hby d9_9) rfl (l' := #[oR a1, oJ q, oS, oI (1 : Int32), oI (3 : Int32), oU]) rfl ?_
    show Steps p.tables e below (T2.setTop (mkF m 11 #[oR a1, oJ q, oS, oI (1 : Int32), oI (3 : Int32), oU] [])) t₀
    refine XS.iloadN X2.here hx rfl (hb hby d9_11) rfl ?_
    show Steps p.tables e below (T2.setTop (mkF m 12 #[oR a1, oJ q, oS, oI (1 : Int32), oI (3 : Int32), oU] [(.int (1 : Int32))])) t₀
    refine XS.iload X2.here hx rfl (hb hby d9_12) rfl ?_
    show Steps p.tables e below (T2.setTop (mkF m 14 #[oR a1, oJ q, oS, oI (1 : Int32), oI (3 : Int32), oU] [(.int (3 : Int32)), (.int (1 : Int32))])) t₀
    refine XS.icmpNo X2.here hx rfl (hb hby d9_14) rfl (tlt (by decide : ((1 : Int32) < (3 : Int32)))).2.1 ?_
    show Steps p.tables e below (T2.setTop (mkF m 17 #[oR a1, oJ q, oS, oI (1 : Int32), oI (3 : Int32), oU] [])) t₀
    refine XS.iloadN X2.here hx rfl (hb hby d9_17) rfl ?_
    show Steps p.tables e below (T2.setTop (mkF m 18 #[oR a1, oJ q, oS, oI (1 : Int32), oI (3 : Int32), oU] [(.int (1 : Int32))])) t₀
    refine XS.iload X2.here hx rfl (hb hby d9_18) rfl ?_
    show Steps p.tables e below (T2.setTop (mkF m 20 #[oR a1, oJ q, oS, oI (1 : Int32), oI (3 : Int32), oU] [(.int (3 : Int32)), (.int (1 : Int32))])) t₀
    refine XS.iadd X2.here hx rfl (hb hby d9_20) rfl ?_
    show Steps p.tables e below (T2.setTop (mkF m 21 #[oR a1, oJ q, oS, oI (1 : Int32), oI (3 : Int32), oU] [(.int (4 : Int32))])) t₀
    refine XS.iconst X2.here hx rfl (hb hby d9_21) ?_
    show Steps p.tables e below (T2.setTop (mkF m 22 #[oR a1, oJ q, oS, oI (1 : Int32), oI (3 : Int32), oU] [(.int (1 : Int32)), (.int (4 : Int32))])) t₀
    refine XS.iushr X2.here hx rfl (hb hby d9_22) rfl ?_
    show Steps p.tables e below (T2.setTop (mkF m 23 #[oR a1, oJ q, oS, oI (1 : Int32), oI (3 : Int32), oU] [(.int (2 : Int32))])) t₀
    refine XS.istore X2.here hx rfl (hb hby d9_23) rfl (l' := #[oR a1, oJ q, oS, oI (1 : Int32), oI (3 : Int32), oI (2 : Int32)]) rfl ?_
    show Steps p.tables e below (T2.setTop (mkF m 25 #[oR a1, oJ q, oS, oI (1 : Int32), oI (3 : Int32), oI (2 : Int32)] [])) t₀
    refine XS.aloadN X2.here hx rfl (hb hby d9_25) rfl rfl ?_
    exact k₀
  obtain ⟨T3, X3, e3, st3⟩ := getF X2 hx hZ hown (host := "") (Or.inl (hw _ (List.mem_of_getElem? (i := 15) rfl))) Via.refl e2 F_seqNos (g := (mkF m 26 #[oR a1, oJ q, oS, oI (1 : Int32), oI (3 : Int32), oI (2 : Int32)] [(.ref a1)])) rfl rfl (hb hby d9_26)
  refine hG _ _ (fun t₀ k₀ => st3 _ k₀) ?_
  show G (T3.setTop (mkF m 29 #[oR a1, oJ q, oS, oI (1 : Int32), oI (3 : Int32), oI (2 : Int32)] [(.ref wS)]))
  refine hG _ (T3.setTop (mkF m 31 #[oR a1, oJ q, oS, oI (1 : Int32), oI (3 : Int32), oI (2 : Int32)] [(.int (2 : Int32)), (.ref wS)])) (fun t₀ k₀ => ?_) ?_
  · show Steps p.tables e below (T3.setTop (mkF m 29 #[oR a1, oJ q, oS, oI (1 : Int32), oI (3 : Int32), oI (2 : Int32)] [(.ref wS)])) t₀
    refine XS.iload X3.here hx rfl (hb hby d9_29) rfl ?_
    exact k₀
  have ov4 := V_wS
  obtain ⟨cl4, Ar4, q4, S4, N_4, H_4, G_4⟩ := ov4
  have hin4 : ¬ ((2 : Int32) < 0 ∨ cl4.slots.size ≤ ((2 : Int32)).toNatClampNeg) := inb_of S4 ⟨by decide, by decide⟩
  have hat4 : cl4.slots[((2 : Int32)).toNatClampNeg]? = some (.long x2) := H_4.at hin4 rfl
  refine hG _ (T3.setTop (mkF m 53 #[oR a1, oJ q, oS, oI (3 : Int32), oI (3 : Int32), oI (2 : Int32)] [(.ref a1)])) (fun t₀ k₀ => ?_) ?_
  · show Steps p.tables e below (T3.setTop (mkF m 31 #[oR a1, oJ q, oS, oI (1 : Int32), oI (3 : Int32), oI (2 : Int32)] [(.int (2 : Int32)), (.ref wS)])) t₀
    refine X3.laload hx (j := (2 : Int32)) (v := (.long x2)) (by rw [e3]; exact Ar4.1) (State.isArrayOf_alike hZ.alike Ar4.2.1) Ar4.2.2 hin4 hat4 (g := (mkF m 31 #[oR a1, oJ q, oS, oI (1 : Int32), oI (3 : Int32), oI (2 : Int32)] [(.int (2 : Int32)), (.ref wS)])) rfl rfl (hb hby d9_31) _ ?_
    show Steps p.tables e below (T3.setTop (mkF m 32 #[oR a1, oJ q, oS, oI (1 : Int32), oI (3 : Int32), oI (2 : Int32)] [(.long x2)])) t₀
    refine XS.lloadN X3.here hx rfl (hb hby d9_32) rfl ?_
    show Steps p.tables e below (T3.setTop (mkF m 33 #[oR a1, oJ q, oS, oI (1 : Int32), oI (3 : Int32), oI (2 : Int32)] [(.long q), (.long x2)])) t₀
    refine XS.lcmp X3.here hx rfl (hb hby d9_33) rfl ?_
    show Steps p.tables e below (T3.setTop (mkF m 34 #[oR a1, oJ q, oS, oI (1 : Int32), oI (3 : Int32), oI (2 : Int32)] [(.int (lcmpW x2 q))])) t₀
    refine XS.ifYes X3.here hx rfl (pc0 := 34) (pc' := 44) rfl (hb hby d9_34) rfl ((if0 _ _).trans (flt (fun z => hq2 ((lw_gt x2 q).mp z))).2.2.2) (by decide) (by decide) ?_
    show Steps p.tables e below (T3.setTop (mkF m 44 #[oR a1, oJ q, oS, oI (1 : Int32), oI (3 : Int32), oI (2 : Int32)] [])) t₀
    refine XS.iload X3.here hx rfl (hb hby d9_44) rfl ?_
    show Steps p.tables e below (T3.setTop (mkF m 46 #[oR a1, oJ q, oS, oI (1 : Int32), oI (3 : Int32), oI (2 : Int32)] [(.int (2 : Int32))])) t₀
    refine XS.iconst X3.here hx rfl (hb hby d9_46) ?_
    show Steps p.tables e below (T3.setTop (mkF m 47 #[oR a1, oJ q, oS, oI (1 : Int32), oI (3 : Int32), oI (2 : Int32)] [(.int (1 : Int32)), (.int (2 : Int32))])) t₀
    refine XS.iadd X3.here hx rfl (hb hby d9_47) rfl ?_
    show Steps p.tables e below (T3.setTop (mkF m 48 #[oR a1, oJ q, oS, oI (1 : Int32), oI (3 : Int32), oI (2 : Int32)] [(.int (3 : Int32))])) t₀
    refine XS.istoreN X3.here hx rfl (hb hby d9_48) rfl (l' := #[oR a1, oJ q, oS, oI (3 : Int32), oI (3 : Int32), oI (2 : Int32)]) rfl ?_
    show Steps p.tables e below (T3.setTop (mkF m 49 #[oR a1, oJ q, oS, oI (3 : Int32), oI (3 : Int32), oI (2 : Int32)] [])) t₀
    refine XS.goto X3.here hx rfl (pc0 := 49) (pc' := 11) rfl (hb hby d9_49) (by decide) (by decide) ?_
    show Steps p.tables e below (T3.setTop (mkF m 11 #[oR a1, oJ q, oS, oI (3 : Int32), oI (3 : Int32), oI (2 : Int32)] [])) t₀
    refine XS.iloadN X3.here hx rfl (hb hby d9_11) rfl ?_
    show Steps p.tables e below (T3.setTop (mkF m 12 #[oR a1, oJ q, oS, oI (3 : Int32), oI (3 : Int32), oI (2 : Int32)] [(.int (3 : Int32))])) t₀
    refine XS.iload X3.here hx rfl (hb hby d9_12) rfl ?_
    show Steps p.tables e below (T3.setTop (mkF m 14 #[oR a1, oJ q, oS, oI (3 : Int32), oI (3 : Int32), oI (2 : Int32)] [(.int (3 : Int32)), (.int (3 : Int32))])) t₀
    refine XS.icmpYes X3.here hx rfl (pc0 := 14) (pc' := 52) rfl (hb hby d9_14) rfl (flt (by decide : ¬ ((3 : Int32) < (3 : Int32)))).2.1 (by decide) (by decide) ?_
    show Steps p.tables e below (T3.setTop (mkF m 52 #[oR a1, oJ q, oS, oI (3 : Int32), oI (3 : Int32), oI (2 : Int32)] [])) t₀
    refine XS.aloadN X3.here hx rfl (hb hby d9_52) rfl rfl ?_
    exact k₀
  obtain ⟨T5, X5, e5, st5⟩ := getF X3 hx hZ hown (host := "") (Or.inl (hw _ (List.mem_of_getElem? (i := 17) rfl))) Via.refl e3 F_starts (g := (mkF m 53 #[oR a1, oJ q, oS, oI (3 : Int32), oI (3 : Int32), oI (2 : Int32)] [(.ref a1)])) rfl rfl (hb hby d9_53)
  refine hG _ _ (fun t₀ k₀ => st5 _ k₀) ?_
  show G (T5.setTop (mkF m 56 #[oR a1, oJ q, oS, oI (3 : Int32), oI (3 : Int32), oI (2 : Int32)] [(.ref wT)]))
  refine hG _ (T5.setTop (mkF m 57 #[oR a1, oJ q, oS, oI (3 : Int32), oI (3 : Int32), oI (2 : Int32)] [(.int (3 : Int32)), (.ref wT)])) (fun t₀ k₀ => ?_) ?_
  · show Steps p.tables e below (T5.setTop (mkF m 56 #[oR a1, oJ q, oS, oI (3 : Int32), oI (3 : Int32), oI (2 : Int32)] [(.ref wT)])) t₀
    refine XS.iloadN X5.here hx rfl (hb hby d9_56) rfl ?_
    exact k₀
  have ov6 := V_wT
  obtain ⟨cl6, Ar6, q6, S6, N_6, H_6, G_6⟩ := ov6
  have hin6 : ¬ ((3 : Int32) < 0 ∨ cl6.slots.size ≤ ((3 : Int32)).toNatClampNeg) := inb_of S6 ⟨by decide, by decide⟩
  have hat6 : cl6.slots[((3 : Int32)).toNatClampNeg]? = some (.long y3) := H_6.at hin6 rfl
  refine hG _ (T5.setTop (mkF m 58 #[oR a1, oJ q, oS, oI (3 : Int32), oI (3 : Int32), oI (2 : Int32)] [(.long y3)])) (fun t₀ k₀ => ?_) ?_
  · show Steps p.tables e below (T5.setTop (mkF m 57 #[oR a1, oJ q, oS, oI (3 : Int32), oI (3 : Int32), oI (2 : Int32)] [(.int (3 : Int32)), (.ref wT)])) t₀
    refine X5.laload hx (j := (3 : Int32)) (v := (.long y3)) (by rw [e5]; exact Ar6.1) (State.isArrayOf_alike hZ.alike Ar6.2.1) Ar6.2.2 hin6 hat6 (g := (mkF m 57 #[oR a1, oJ q, oS, oI (3 : Int32), oI (3 : Int32), oI (2 : Int32)] [(.int (3 : Int32)), (.ref wT)])) rfl rfl (hb hby d9_57) _ ?_
    exact k₀
  refine hF _ T5 _ _ _ (some (.long y3)) _ X5 e5 (fun h => by rw [hrt] at h; cases h) (by decide) (by decide) ?_ (fun fs hr => own_retJ X5 hx hrt (hb hby d9_58) hr)
  exact ⟨rfl, N0, rfl⟩
theorem ef_rmE32 (m : MethodId) (x0 : Addr) (x1 : Int64) : entryFrame m #[(.ref x0), (.long x1)] 6 = mkF m 0 #[oR x0, oJ x1, oS, oU, oU, oU] [] := by first | (simp [entryFrame, mkF, argsToLocals, Value.category]; done) | rfl
def Q_rmE32 (Z : State) (a1 : Addr) (q : Int64) (wS wT : Addr) (kS kT : ClassId) (x0 y0 x1 y1 x2 y2 x3 y3 x4 y4 x5 y5 x6 y6 x7 y7 : Int64) (h0 : Heap) (n0 : Nat) (v : Option Value) (h : Heap) (L : List Loc) : Prop := v = some (.long y3) ∧ Fr n0 L ∧ h = h0
set_option maxRecDepth 65536 in
set_option maxHeartbeats 40000000 in
theorem rmE32 (l : Launch) (Z : State) (a0 : Array Value) (hw : ∀ d ∈ tables_1, d.before a0 Z = true) (ws : List Jvm.Cond) (a1 : Addr) (q : Int64) (wS wT : Addr) (kS kT : ClassId) (x0 y0 x1 y1 x2 y2 x3 y3 x4 y4 x5 y5 x6 y6 x7 y7 : Int64) (h0 : Heap) (n0 : Nat) (Z0 : n0 ≤ h0.size) (F_seqNos : Fld Z h0 a1 "com/example/opledger/opledger/AppendTimes" "seqNos" "[J" (.ref wS)) (F_starts : Fld Z h0 a1 "com/example/opledger/opledger/AppendTimes" "starts" "[J" (.ref wT)) (F_first : Fld Z h0 a1 "com/example/opledger/opledger/AppendTimes" "first" "I" (.int (2 : Int32))) (F_last : Fld Z h0 a1 "com/example/opledger/opledger/AppendTimes" "last" "I" (.int (3 : Int32))) (V_wS : Arv Z h0 wS kS .long (8 : Int32) [(.long x0), (.long x1), (.long x2), (.long x3), (.long x4), (.long x5), (.long x6), (.long x7)] (.long (0 : Int64))) (V_wT : Arv Z h0 wT kT .long (8 : Int32) [(.long y0), (.long y1), (.long y2), (.long y3), (.long y4), (.long y5), (.long y6), (.long y7)] (.long (0 : Int64))) (hq2 : ¬ q < x2) :
    MetFree l (⟨"com/example/opledger/opledger/AppendTimes", "earliestAbove", "(J)J"⟩ : MethodName) (head1 (Jvm.Cond.code (⟨"com/example/opledger/opledger/AppendTimes", "earliestAbove", "(J)J"⟩ : MethodName) prog_1_method_6_code 6 (some .long) :: ws) ({ frames := 0, cells := 0, slots := 0, locals := 0 } : Room)) (fun a U => a = #[(.ref a1), (.long q)] ∧ Z.Warmed39 U.vm ∧ U.heap = h0) (fun _ _ _ _ _ => True) (fun _ U o U' => ∃ v L, o = .returned v ∧ Q_rmE32 Z a1 q wS wT kS kT x0 y0 x1 y1 x2 y2 x3 y3 x4 y4 x5 y5 x6 y6 x7 y7 h0 n0 v U'.heap L ∧ FrameEnd U o U' L ({ frames := 0, cells := 0, slots := 0, locals := 0 } : Room).cells ({ frames := 0, cells := 0, slots := 0, locals := 0 } : Room).slots) := by
  refine own_body (Q := fun v h L => Q_rmE32 Z a1 q wS wT kS kT x0 y0 x1 y1 x2 y2 x3 y3 x4 y4 x5 y5 x6 y6 x7 y7 h0 n0 v h L) pn_9 ?_
  intro p e s m below meth c s₁ G X0 hx hZ hby hml hown hnm hrt e0 hG hF
  have hown : s.vm.findClass "com/example/opledger/opledger/AppendTimes" = some m.cls := hown
  have N0 := Fr.nil n0
  rw [ef_rmE32 m a1 q]
  show G (s₁.setTop (mkF m 0 #[oR a1, oJ q, oS, oU, oU, oU] []))
  refine hG _ (s₁.setTop (mkF m 1 #[oR a1, oJ q, oS, oU, oU, oU] [(.ref a1)])) (fun t₀ k₀ => ?_) ?_
  · show Steps p.tables e below (s₁.setTop (mkF m 0 #[oR a1, oJ q, oS, oU, oU, oU] [])) t₀
    refine XS.aloadN X0.here hx rfl (hb hby d9_0) rfl rfl ?_
    exact k₀
  obtain ⟨T1, X1, e1, st1⟩ := getF X0 hx hZ hown (host := "") (Or.inl (hw _ (List.mem_of_getElem? (i := 33) rfl))) Via.refl e0 F_first (g := (mkF m 1 #[oR a1, oJ q, oS, oU, oU, oU] [(.ref a1)])) rfl rfl (hb hby d9_1)
  refine hG _ _ (fun t₀ k₀ => st1 _ k₀) ?_
  show G (T1.setTop (mkF m 4 #[oR a1, oJ q, oS, oU, oU, oU] [(.int (2 : Int32))]))
  refine hG _ (T1.setTop (mkF m 6 #[oR a1, oJ q, oS, oI (2 : Int32), oU, oU] [(.ref a1)])) (fun t₀ k₀ => ?_) ?_
  · show Steps p.tables e below (T1.setTop (mkF m 4 #[oR a1, oJ q, oS, oU, oU, oU] [(.int (2 : Int32))])) t₀
    refine XS.istoreN X1.here hx rfl (hb hby d9_4) rfl (l' := #[oR a1, oJ q, oS, oI (2 : Int32), oU, oU]) rfl ?_
    show Steps p.tables e below (T1.setTop (mkF m 5 #[oR a1, oJ q, oS, oI (2 : Int32), oU, oU] [])) t₀
    refine XS.aloadN X1.here hx rfl (hb hby d9_5) rfl rfl ?_
    exact k₀
  obtain ⟨T2, X2, e2, st2⟩ := getF X1 hx hZ hown (host := "") (Or.inl (hw _ (List.mem_of_getElem? (i := 21) rfl))) Via.refl e1 F_last (g := (mkF m 6 #[oR a1, oJ q, oS, oI (2 : Int32), oU, oU] [(.ref a1)])) rfl rfl (hb hby d9_6)
  refine hG _ _ (fun t₀ k₀ => st2 _ k₀) ?_
  show G (T2.setTop (mkF m 9 #[oR a1, oJ q, oS, oI (2 : Int32), oU, oU] [(.int (3 : Int32))]))
  refine hG _ (T2.setTop (mkF m 26 #[oR a1, oJ q, oS, oI (2 : Int32), oI (3 : Int32), oI (2 : Int32)] [(.ref a1)])) (fun t₀ k₀ => ?_) ?_
  · show Steps p.tables e below (T2.setTop (mkF m 9 #[oR a1, oJ q, oS, oI (2 : Int32), oU, oU] [(.int (3 : Int32))])) t₀
    refine XS.istore X2.here hx rfl (hb hby d9_9) rfl (l' := #[oR a1, oJ q, oS, oI (2 : Int32), oI (3 : Int32), oU]) rfl ?_
    show Steps p.tables e below (T2.setTop (mkF m 11 #[oR a1, oJ q, oS, oI (2 : Int32), oI (3 : Int32), oU] [])) t₀
    refine XS.iloadN X2.here hx rfl (hb hby d9_11) rfl ?_
    show Steps p.tables e below (T2.setTop (mkF m 12 #[oR a1, oJ q, oS, oI (2 : Int32), oI (3 : Int32), oU] [(.int (2 : Int32))])) t₀
    refine XS.iload X2.here hx rfl (hb hby d9_12) rfl ?_
    show Steps p.tables e below (T2.setTop (mkF m 14 #[oR a1, oJ q, oS, oI (2 : Int32), oI (3 : Int32), oU] [(.int (3 : Int32)), (.int (2 : Int32))])) t₀
    refine XS.icmpNo X2.here hx rfl (hb hby d9_14) rfl (tlt (by decide : ((2 : Int32) < (3 : Int32)))).2.1 ?_
    show Steps p.tables e below (T2.setTop (mkF m 17 #[oR a1, oJ q, oS, oI (2 : Int32), oI (3 : Int32), oU] [])) t₀
    refine XS.iloadN X2.here hx rfl (hb hby d9_17) rfl ?_
    show Steps p.tables e below (T2.setTop (mkF m 18 #[oR a1, oJ q, oS, oI (2 : Int32), oI (3 : Int32), oU] [(.int (2 : Int32))])) t₀
    refine XS.iload X2.here hx rfl (hb hby d9_18) rfl ?_
    show Steps p.tables e below (T2.setTop (mkF m 20 #[oR a1, oJ q, oS, oI (2 : Int32), oI (3 : Int32), oU] [(.int (3 : Int32)), (.int (2 : Int32))])) t₀
    refine XS.iadd X2.here hx rfl (hb hby d9_20) rfl ?_
    show Steps p.tables e below (T2.setTop (mkF m 21 #[oR a1, oJ q, oS, oI (2 : Int32), oI (3 : Int32), oU] [(.int (5 : Int32))])) t₀
    refine XS.iconst X2.here hx rfl (hb hby d9_21) ?_
    show Steps p.tables e below (T2.setTop (mkF m 22 #[oR a1, oJ q, oS, oI (2 : Int32), oI (3 : Int32), oU] [(.int (1 : Int32)), (.int (5 : Int32))])) t₀
    refine XS.iushr X2.here hx rfl (hb hby d9_22) rfl ?_
    show Steps p.tables e below (T2.setTop (mkF m 23 #[oR a1, oJ q, oS, oI (2 : Int32), oI (3 : Int32), oU] [(.int (2 : Int32))])) t₀
    refine XS.istore X2.here hx rfl (hb hby d9_23) rfl (l' := #[oR a1, oJ q, oS, oI (2 : Int32), oI (3 : Int32), oI (2 : Int32)]) rfl ?_
    show Steps p.tables e below (T2.setTop (mkF m 25 #[oR a1, oJ q, oS, oI (2 : Int32), oI (3 : Int32), oI (2 : Int32)] [])) t₀
    refine XS.aloadN X2.here hx rfl (hb hby d9_25) rfl rfl ?_
    exact k₀
  obtain ⟨T3, X3, e3, st3⟩ := getF X2 hx hZ hown (host := "") (Or.inl (hw _ (List.mem_of_getElem? (i := 15) rfl))) Via.refl e2 F_seqNos (g := (mkF m 26 #[oR a1, oJ q, oS, oI (2 : Int32), oI (3 : Int32), oI (2 : Int32)] [(.ref a1)])) rfl rfl (hb hby d9_26)
  refine hG _ _ (fun t₀ k₀ => st3 _ k₀) ?_
  show G (T3.setTop (mkF m 29 #[oR a1, oJ q, oS, oI (2 : Int32), oI (3 : Int32), oI (2 : Int32)] [(.ref wS)]))
  refine hG _ (T3.setTop (mkF m 31 #[oR a1, oJ q, oS, oI (2 : Int32), oI (3 : Int32), oI (2 : Int32)] [(.int (2 : Int32)), (.ref wS)])) (fun t₀ k₀ => ?_) ?_
  · show Steps p.tables e below (T3.setTop (mkF m 29 #[oR a1, oJ q, oS, oI (2 : Int32), oI (3 : Int32), oI (2 : Int32)] [(.ref wS)])) t₀
    refine XS.iload X3.here hx rfl (hb hby d9_29) rfl ?_
    exact k₀
  have ov4 := V_wS
  obtain ⟨cl4, Ar4, q4, S4, N_4, H_4, G_4⟩ := ov4
  have hin4 : ¬ ((2 : Int32) < 0 ∨ cl4.slots.size ≤ ((2 : Int32)).toNatClampNeg) := inb_of S4 ⟨by decide, by decide⟩
  have hat4 : cl4.slots[((2 : Int32)).toNatClampNeg]? = some (.long x2) := H_4.at hin4 rfl
  refine hG _ (T3.setTop (mkF m 53 #[oR a1, oJ q, oS, oI (3 : Int32), oI (3 : Int32), oI (2 : Int32)] [(.ref a1)])) (fun t₀ k₀ => ?_) ?_
  · show Steps p.tables e below (T3.setTop (mkF m 31 #[oR a1, oJ q, oS, oI (2 : Int32), oI (3 : Int32), oI (2 : Int32)] [(.int (2 : Int32)), (.ref wS)])) t₀
    refine X3.laload hx (j := (2 : Int32)) (v := (.long x2)) (by rw [e3]; exact Ar4.1) (State.isArrayOf_alike hZ.alike Ar4.2.1) Ar4.2.2 hin4 hat4 (g := (mkF m 31 #[oR a1, oJ q, oS, oI (2 : Int32), oI (3 : Int32), oI (2 : Int32)] [(.int (2 : Int32)), (.ref wS)])) rfl rfl (hb hby d9_31) _ ?_
    show Steps p.tables e below (T3.setTop (mkF m 32 #[oR a1, oJ q, oS, oI (2 : Int32), oI (3 : Int32), oI (2 : Int32)] [(.long x2)])) t₀
    refine XS.lloadN X3.here hx rfl (hb hby d9_32) rfl ?_
    show Steps p.tables e below (T3.setTop (mkF m 33 #[oR a1, oJ q, oS, oI (2 : Int32), oI (3 : Int32), oI (2 : Int32)] [(.long q), (.long x2)])) t₀
    refine XS.lcmp X3.here hx rfl (hb hby d9_33) rfl ?_
    show Steps p.tables e below (T3.setTop (mkF m 34 #[oR a1, oJ q, oS, oI (2 : Int32), oI (3 : Int32), oI (2 : Int32)] [(.int (lcmpW x2 q))])) t₀
    refine XS.ifYes X3.here hx rfl (pc0 := 34) (pc' := 44) rfl (hb hby d9_34) rfl ((if0 _ _).trans (flt (fun z => hq2 ((lw_gt x2 q).mp z))).2.2.2) (by decide) (by decide) ?_
    show Steps p.tables e below (T3.setTop (mkF m 44 #[oR a1, oJ q, oS, oI (2 : Int32), oI (3 : Int32), oI (2 : Int32)] [])) t₀
    refine XS.iload X3.here hx rfl (hb hby d9_44) rfl ?_
    show Steps p.tables e below (T3.setTop (mkF m 46 #[oR a1, oJ q, oS, oI (2 : Int32), oI (3 : Int32), oI (2 : Int32)] [(.int (2 : Int32))])) t₀
    refine XS.iconst X3.here hx rfl (hb hby d9_46) ?_
    show Steps p.tables e below (T3.setTop (mkF m 47 #[oR a1, oJ q, oS, oI (2 : Int32), oI (3 : Int32), oI (2 : Int32)] [(.int (1 : Int32)), (.int (2 : Int32))])) t₀
    refine XS.iadd X3.here hx rfl (hb hby d9_47) rfl ?_
    show Steps p.tables e below (T3.setTop (mkF m 48 #[oR a1, oJ q, oS, oI (2 : Int32), oI (3 : Int32), oI (2 : Int32)] [(.int (3 : Int32))])) t₀
    refine XS.istoreN X3.here hx rfl (hb hby d9_48) rfl (l' := #[oR a1, oJ q, oS, oI (3 : Int32), oI (3 : Int32), oI (2 : Int32)]) rfl ?_
    show Steps p.tables e below (T3.setTop (mkF m 49 #[oR a1, oJ q, oS, oI (3 : Int32), oI (3 : Int32), oI (2 : Int32)] [])) t₀
    refine XS.goto X3.here hx rfl (pc0 := 49) (pc' := 11) rfl (hb hby d9_49) (by decide) (by decide) ?_
    show Steps p.tables e below (T3.setTop (mkF m 11 #[oR a1, oJ q, oS, oI (3 : Int32), oI (3 : Int32), oI (2 : Int32)] [])) t₀
    refine XS.iloadN X3.here hx rfl (hb hby d9_11) rfl ?_
    show Steps p.tables e below (T3.setTop (mkF m 12 #[oR a1, oJ q, oS, oI (3 : Int32), oI (3 : Int32), oI (2 : Int32)] [(.int (3 : Int32))])) t₀
    refine XS.iload X3.here hx rfl (hb hby d9_12) rfl ?_
    show Steps p.tables e below (T3.setTop (mkF m 14 #[oR a1, oJ q, oS, oI (3 : Int32), oI (3 : Int32), oI (2 : Int32)] [(.int (3 : Int32)), (.int (3 : Int32))])) t₀
    refine XS.icmpYes X3.here hx rfl (pc0 := 14) (pc' := 52) rfl (hb hby d9_14) rfl (flt (by decide : ¬ ((3 : Int32) < (3 : Int32)))).2.1 (by decide) (by decide) ?_
    show Steps p.tables e below (T3.setTop (mkF m 52 #[oR a1, oJ q, oS, oI (3 : Int32), oI (3 : Int32), oI (2 : Int32)] [])) t₀
    refine XS.aloadN X3.here hx rfl (hb hby d9_52) rfl rfl ?_
    exact k₀
  obtain ⟨T5, X5, e5, st5⟩ := getF X3 hx hZ hown (host := "") (Or.inl (hw _ (List.mem_of_getElem? (i := 17) rfl))) Via.refl e3 F_starts (g := (mkF m 53 #[oR a1, oJ q, oS, oI (3 : Int32), oI (3 : Int32), oI (2 : Int32)] [(.ref a1)])) rfl rfl (hb hby d9_53)
  refine hG _ _ (fun t₀ k₀ => st5 _ k₀) ?_
  show G (T5.setTop (mkF m 56 #[oR a1, oJ q, oS, oI (3 : Int32), oI (3 : Int32), oI (2 : Int32)] [(.ref wT)]))
  refine hG _ (T5.setTop (mkF m 57 #[oR a1, oJ q, oS, oI (3 : Int32), oI (3 : Int32), oI (2 : Int32)] [(.int (3 : Int32)), (.ref wT)])) (fun t₀ k₀ => ?_) ?_
  · show Steps p.tables e below (T5.setTop (mkF m 56 #[oR a1, oJ q, oS, oI (3 : Int32), oI (3 : Int32), oI (2 : Int32)] [(.ref wT)])) t₀
    refine XS.iloadN X5.here hx rfl (hb hby d9_56) rfl ?_
    exact k₀
  have ov6 := V_wT
  obtain ⟨cl6, Ar6, q6, S6, N_6, H_6, G_6⟩ := ov6
  have hin6 : ¬ ((3 : Int32) < 0 ∨ cl6.slots.size ≤ ((3 : Int32)).toNatClampNeg) := inb_of S6 ⟨by decide, by decide⟩
  have hat6 : cl6.slots[((3 : Int32)).toNatClampNeg]? = some (.long y3) := H_6.at hin6 rfl
  refine hG _ (T5.setTop (mkF m 58 #[oR a1, oJ q, oS, oI (3 : Int32), oI (3 : Int32), oI (2 : Int32)] [(.long y3)])) (fun t₀ k₀ => ?_) ?_
  · show Steps p.tables e below (T5.setTop (mkF m 57 #[oR a1, oJ q, oS, oI (3 : Int32), oI (3 : Int32), oI (2 : Int32)] [(.int (3 : Int32)), (.ref wT)])) t₀
    refine X5.laload hx (j := (3 : Int32)) (v := (.long y3)) (by rw [e5]; exact Ar6.1) (State.isArrayOf_alike hZ.alike Ar6.2.1) Ar6.2.2 hin6 hat6 (g := (mkF m 57 #[oR a1, oJ q, oS, oI (3 : Int32), oI (3 : Int32), oI (2 : Int32)] [(.int (3 : Int32)), (.ref wT)])) rfl rfl (hb hby d9_57) _ ?_
    exact k₀
  refine hF _ T5 _ _ _ (some (.long y3)) _ X5 e5 (fun h => by rw [hrt] at h; cases h) (by decide) (by decide) ?_ (fun fs hr => own_retJ X5 hx hrt (hb hby d9_58) hr)
  exact ⟨rfl, N0, rfl⟩
theorem ef_rmE40 (m : MethodId) (x0 : Addr) (x1 : Int64) : entryFrame m #[(.ref x0), (.long x1)] 6 = mkF m 0 #[oR x0, oJ x1, oS, oU, oU, oU] [] := by first | (simp [entryFrame, mkF, argsToLocals, Value.category]; done) | rfl
def Q_rmE40 (Z : State) (a1 : Addr) (q : Int64) (wS wT : Addr) (kS kT : ClassId) (x0 y0 x1 y1 x2 y2 x3 y3 x4 y4 x5 y5 x6 y6 x7 y7 : Int64) (h0 : Heap) (n0 : Nat) (v : Option Value) (h : Heap) (L : List Loc) : Prop := v = some (.long y0) ∧ Fr n0 L ∧ h = h0
set_option maxRecDepth 65536 in
set_option maxHeartbeats 40000000 in
theorem rmE40 (l : Launch) (Z : State) (a0 : Array Value) (hw : ∀ d ∈ tables_1, d.before a0 Z = true) (ws : List Jvm.Cond) (a1 : Addr) (q : Int64) (wS wT : Addr) (kS kT : ClassId) (x0 y0 x1 y1 x2 y2 x3 y3 x4 y4 x5 y5 x6 y6 x7 y7 : Int64) (h0 : Heap) (n0 : Nat) (Z0 : n0 ≤ h0.size) (F_seqNos : Fld Z h0 a1 "com/example/opledger/opledger/AppendTimes" "seqNos" "[J" (.ref wS)) (F_starts : Fld Z h0 a1 "com/example/opledger/opledger/AppendTimes" "starts" "[J" (.ref wT)) (F_first : Fld Z h0 a1 "com/example/opledger/opledger/AppendTimes" "first" "I" (.int (0 : Int32))) (F_last : Fld Z h0 a1 "com/example/opledger/opledger/AppendTimes" "last" "I" (.int (0 : Int32))) (V_wS : Arv Z h0 wS kS .long (8 : Int32) [(.long x0), (.long x1), (.long x2), (.long x3), (.long x4), (.long x5), (.long x6), (.long x7)] (.long (0 : Int64))) (V_wT : Arv Z h0 wT kT .long (8 : Int32) [(.long y0), (.long y1), (.long y2), (.long y3), (.long y4), (.long y5), (.long y6), (.long y7)] (.long (0 : Int64)))  :
    MetFree l (⟨"com/example/opledger/opledger/AppendTimes", "earliestAbove", "(J)J"⟩ : MethodName) (head1 (Jvm.Cond.code (⟨"com/example/opledger/opledger/AppendTimes", "earliestAbove", "(J)J"⟩ : MethodName) prog_1_method_6_code 6 (some .long) :: ws) ({ frames := 0, cells := 0, slots := 0, locals := 0 } : Room)) (fun a U => a = #[(.ref a1), (.long q)] ∧ Z.Warmed39 U.vm ∧ U.heap = h0) (fun _ _ _ _ _ => True) (fun _ U o U' => ∃ v L, o = .returned v ∧ Q_rmE40 Z a1 q wS wT kS kT x0 y0 x1 y1 x2 y2 x3 y3 x4 y4 x5 y5 x6 y6 x7 y7 h0 n0 v U'.heap L ∧ FrameEnd U o U' L ({ frames := 0, cells := 0, slots := 0, locals := 0 } : Room).cells ({ frames := 0, cells := 0, slots := 0, locals := 0 } : Room).slots) := by
  refine own_body (Q := fun v h L => Q_rmE40 Z a1 q wS wT kS kT x0 y0 x1 y1 x2 y2 x3 y3 x4 y4 x5 y5 x6 y6 x7 y7 h0 n0 v h L) pn_9 ?_
  intro p e s m below meth c s₁ G X0 hx hZ hby hml hown hnm hrt e0 hG hF
  have hown : s.vm.findClass "com/example/opledger/opledger/AppendTimes" = some m.cls := hown
  have N0 := Fr.nil n0
  rw [ef_rmE40 m a1 q]
  show G (s₁.setTop (mkF m 0 #[oR a1, oJ q, oS, oU, oU, oU] []))
  refine hG _ (s₁.setTop (mkF m 1 #[oR a1, oJ q, oS, oU, oU, oU] [(.ref a1)])) (fun t₀ k₀ => ?_) ?_
  · show Steps p.tables e below (s₁.setTop (mkF m 0 #[oR a1, oJ q, oS, oU, oU, oU] [])) t₀
    refine XS.aloadN X0.here hx rfl (hb hby d9_0) rfl rfl ?_
    exact k₀
  obtain ⟨T1, X1, e1, st1⟩ := getF X0 hx hZ hown (host := "") (Or.inl (hw _ (List.mem_of_getElem? (i := 33) rfl))) Via.refl e0 F_first (g := (mkF m 1 #[oR a1, oJ q, oS, oU, oU, oU] [(.ref a1)])) rfl rfl (hb hby d9_1)
  refine hG _ _ (fun t₀ k₀ => st1 _ k₀) ?_
  show G (T1.setTop (mkF m 4 #[oR a1, oJ q, oS, oU, oU, oU] [(.int (0 : Int32))]))
  refine hG _ (T1.setTop (mkF m 6 #[oR a1, oJ q, oS, oI (0 : Int32), oU, oU] [(.ref a1)])) (fun t₀ k₀ => ?_) ?_
  · show Steps p.tables e below (T1.setTop (mkF m 4 #[oR a1, oJ q, oS, oU, oU, oU] [(.int (0 : Int32))])) t₀
    refine XS.istoreN X1.here hx rfl (hb hby d9_4) rfl (l' := #[oR a1, oJ q, oS, oI (0 : Int32), oU, oU]) rfl ?_
    show Steps p.tables e below (T1.setTop (mkF m 5 #[oR a1, oJ q, oS, oI (0 : Int32), oU, oU] [])) t₀
    refine XS.aloadN X1.here hx rfl (hb hby d9_5) rfl rfl ?_
    exact k₀
  obtain ⟨T2, X2, e2, st2⟩ := getF X1 hx hZ hown (host := "") (Or.inl (hw _ (List.mem_of_getElem? (i := 21) rfl))) Via.refl e1 F_last (g := (mkF m 6 #[oR a1, oJ q, oS, oI (0 : Int32), oU, oU] [(.ref a1)])) rfl rfl (hb hby d9_6)
  refine hG _ _ (fun t₀ k₀ => st2 _ k₀) ?_
  show G (T2.setTop (mkF m 9 #[oR a1, oJ q, oS, oI (0 : Int32), oU, oU] [(.int (0 : Int32))]))
  refine hG _ (T2.setTop (mkF m 53 #[oR a1, oJ q, oS, oI (0 : Int32), oI (0 : Int32), oU] [(.ref a1)])) (fun t₀ k₀ => ?_) ?_
  · show Steps p.tables e below (T2.setTop (mkF m 9 #[oR a1, oJ q, oS, oI (0 : Int32), oU, oU] [(.int (0 : Int32))])) t₀
    refine XS.istore X2.here hx rfl (hb hby d9_9) rfl (l' := #[oR a1, oJ q, oS, oI (0 : Int32), oI (0 : Int32), oU]) rfl ?_
    show Steps p.tables e below (T2.setTop (mkF m 11 #[oR a1, oJ q, oS, oI (0 : Int32), oI (0 : Int32), oU] [])) t₀
    refine XS.iloadN X2.here hx rfl (hb hby d9_11) rfl ?_
    show Steps p.tables e below (T2.setTop (mkF m 12 #[oR a1, oJ q, oS, oI (0 : Int32), oI (0 : Int32), oU] [(.int (0 : Int32))])) t₀
    refine XS.iload X2.here hx rfl (hb hby d9_12) rfl ?_
    show Steps p.tables e below (T2.setTop (mkF m 14 #[oR a1, oJ q, oS, oI (0 : Int32), oI (0 : Int32), oU] [(.int (0 : Int32)), (.int (0 : Int32))])) t₀
    refine XS.icmpYes X2.here hx rfl (pc0 := 14) (pc' := 52) rfl (hb hby d9_14) rfl (flt (by decide : ¬ ((0 : Int32) < (0 : Int32)))).2.1 (by decide) (by decide) ?_
    show Steps p.tables e below (T2.setTop (mkF m 52 #[oR a1, oJ q, oS, oI (0 : Int32), oI (0 : Int32), oU] [])) t₀
    refine XS.aloadN X2.here hx rfl (hb hby d9_52) rfl rfl ?_
    exact k₀
  obtain ⟨T3, X3, e3, st3⟩ := getF X2 hx hZ hown (host := "") (Or.inl (hw _ (List.mem_of_getElem? (i := 17) rfl))) Via.refl e2 F_starts (g := (mkF m 53 #[oR a1, oJ q, oS, oI (0 : Int32), oI (0 : Int32), oU] [(.ref a1)])) rfl rfl (hb hby d9_53)
  refine hG _ _ (fun t₀ k₀ => st3 _ k₀) ?_
  show G (T3.setTop (mkF m 56 #[oR a1, oJ q, oS, oI (0 : Int32), oI (0 : Int32), oU] [(.ref wT)]))
  refine hG _ (T3.setTop (mkF m 57 #[oR a1, oJ q, oS, oI (0 : Int32), oI (0 : Int32), oU] [(.int (0 : Int32)), (.ref wT)])) (fun t₀ k₀ => ?_) ?_
  · show Steps p.tables e below (T3.setTop (mkF m 56 #[oR a1, oJ q, oS, oI (0 : Int32), oI (0 : Int32), oU] [(.ref wT)])) t₀
    refine XS.iloadN X3.here hx rfl (hb hby d9_56) rfl ?_
    exact k₀
  have ov4 := V_wT
  obtain ⟨cl4, Ar4, q4, S4, N_4, H_4, G_4⟩ := ov4
  have hin4 : ¬ ((0 : Int32) < 0 ∨ cl4.slots.size ≤ ((0 : Int32)).toNatClampNeg) := inb_of S4 ⟨by decide, by decide⟩
  have hat4 : cl4.slots[((0 : Int32)).toNatClampNeg]? = some (.long y0) := H_4.at hin4 rfl
  refine hG _ (T3.setTop (mkF m 58 #[oR a1, oJ q, oS, oI (0 : Int32), oI (0 : Int32), oU] [(.long y0)])) (fun t₀ k₀ => ?_) ?_
  · show Steps p.tables e below (T3.setTop (mkF m 57 #[oR a1, oJ q, oS, oI (0 : Int32), oI (0 : Int32), oU] [(.int (0 : Int32)), (.ref wT)])) t₀
    refine X3.laload hx (j := (0 : Int32)) (v := (.long y0)) (by rw [e3]; exact Ar4.1) (State.isArrayOf_alike hZ.alike Ar4.2.1) Ar4.2.2 hin4 hat4 (g := (mkF m 57 #[oR a1, oJ q, oS, oI (0 : Int32), oI (0 : Int32), oU] [(.int (0 : Int32)), (.ref wT)])) rfl rfl (hb hby d9_57) _ ?_
    exact k₀
  refine hF _ T3 _ _ _ (some (.long y0)) _ X3 e3 (fun h => by rw [hrt] at h; cases h) (by decide) (by decide) ?_ (fun fs hr => own_retJ X3 hx hrt (hb hby d9_58) hr)
  exact ⟨rfl, N0, rfl⟩
theorem own_adv (s : Int64) (y : Int32) (h0 : 0 ≤ s.toInt) (h1 : s.toInt ≤ 4611686018427587903) (y0 : 0 ≤ y.toInt) (y1 : y.toInt ≤ 65535) : ((s + (1 : Int64)) + (y.toInt64)).toInt = s.toInt + 1 + y.toInt := by
  have a1 := c_ladd s (1 : Int64)
  have a2 := c_ladd (s + (1 : Int64)) (y.toInt64)
  have a3 := c_i2l y
  have r1 := rng64 (s + (1 : Int64))
  have r2 := rng64 ((s + (1 : Int64)) + (y.toInt64))
  have e1 : (1 : Int64).toInt = 1 := rfl
  omega
theorem own_tim (s : Int64) (y : Int32) (h0 : -2305843009213693952 ≤ s.toInt) (h1 : s.toInt ≤ 2305843009223693952) (y0 : 0 ≤ y.toInt) (y1 : y.toInt ≤ 32767) : ((s + (1000001 : Int64)) + (y.toInt64)).toInt = s.toInt + 1000001 + y.toInt ∧ (1000000 : Int64) < (((s + (1000001 : Int64)) + (y.toInt64)) - s) := by
  have e1 : (1000001 : Int64).toInt = 1000001 := rfl
  have e2 : (1000000 : Int64).toInt = 1000000 := rfl
  have a1 := c_ladd s (1000001 : Int64)
  rw [e1] at a1
  have r1 := rng64 (s + (1000001 : Int64))
  generalize s + (1000001 : Int64) = u at *
  have a2 := c_ladd u (y.toInt64)
  rw [c_i2l] at a2
  have r2 := rng64 (u + (y.toInt64))
  generalize u + (y.toInt64) = v at *
  have a4 := c_lsub v s
  have r4 := rng64 (v - s)
  rw [Int64.lt_iff_toInt_lt, e2]
  generalize (v - s).toInt = w at *
  generalize v.toInt = v' at *
  generalize u.toInt = u' at *
  generalize s.toInt = s' at *
  generalize y.toInt = y' at *
  constructor <;> omega
theorem own_lt64 {x y : Int64} (h : x.toInt < y.toInt) : x < y := Int64.lt_iff_toInt_lt.mpr h
theorem own_tr {x y z : Int64} (h : x < y) (g : y < z) : x < z := by rw [Int64.lt_iff_toInt_lt] at *; omega
theorem own_as {x y : Int64} (h : x < y) : ¬ y < x := by rw [Int64.lt_iff_toInt_lt] at *; omega
theorem own_ir (x : Int64) : ¬ x < x := by rw [Int64.lt_iff_toInt_lt]; omega
theorem pn_0 : plainFor (⟨"com/example/opledger/opledger/AppendTimesForgetUpToPinLaw", "law", "(JIJJII)Z"⟩ : MethodName) = true := plainFor_of_name (by first | (simp [plainName, overriddenIn]; done) | decide +kernel)
theorem ef_rm0 (m : MethodId) (x0 : Int64) (x1 : Int32) (x2 : Int64) (x3 : Int64) (x4 : Int32) (x5 : Int32) : entryFrame m #[(.long x0), (.int x1), (.long x2), (.long x3), (.int x4), (.int x5)] maxLocals = mkF m 0 #[oJ x0, oS, oI x1, oJ x2, oS, oJ x3, oS, oI x4, oI x5, oU, oU, oU, oU, oU, oU, oU, oU, oU, oU, oU, oU, oU, oU, oU, oU, oU, oU, oU, oU, oU, oU, oU, oU] [] := by first | (simp [entryFrame, mkF, argsToLocals, Value.category, maxLocals]; done) | rfl
def Q_rm0 (Z : State) (p1 : Int64) (p2 : Int32) (p3 p4 : Int64) (p5 p6 : Int32) (wN : Addr) (kN : ClassId) (h0 : Heap) (n0 : Nat) (v : Option Value) (h : Heap) (L : List Loc) : Prop := v = some (.int (1 : Int32)) ∧ Fr n0 L
set_option maxRecDepth 65536 in
set_option maxHeartbeats 40000000 in
theorem rm0 (l : Launch) (Z : State) (a0 : Array Value) (hw : ∀ d ∈ tables_1, d.before a0 Z = true) (ws : List Jvm.Cond) (p1 : Int64) (p2 : Int32) (p3 p4 : Int64) (p5 p6 : Int32) (wN : Addr) (kN : ClassId) (h0 : Heap) (n0 : Nat) (Z0 : n0 ≤ h0.size) (O0 : Old Z n0 h0) (S_NO : Sta Z Z.heap "com/example/opledger/opledger/AppendTimes" "NO_ENTRIES" "[J" (.ref wN)) (VN : Arv Z Z.heap wN kN .long (0 : Int32) [] (.long (0 : Int64)))  :
    MetFree l x (head1 (Jvm.Cond.code x code maxLocals ret :: ws) room_1) (fun a U => a = #[(.long p1), (.int p2), (.long p3), (.long p4), (.int p5), (.int p6)] ∧ Z.Warmed39 U.vm ∧ U.heap = h0) (fun _ _ _ _ _ => True) (fun _ U o U' => ∃ v L, o = .returned v ∧ Q_rm0 Z p1 p2 p3 p4 p5 p6 wN kN h0 n0 v U'.heap L ∧ FrameEnd U o U' L room_1.cells room_1.slots) := by
  refine own_body (Q := fun v h L => Q_rm0 Z p1 p2 p3 p4 p5 p6 wN kN h0 n0 v h L) pn_0 ?_
  intro p e s m below meth c s₁ G X0 hx hZ hby hml hown hnm hrt e0 hG hF
  have hml : c.maxLocals = 33 := hml
  have hrt : meth.sig.returnType = some .boolean := hrt
  have hown : s.vm.findClass "com/example/opledger/opledger/AppendTimesForgetUpToPinLaw" = some m.cls := hown
  have N0 := Fr.nil n0
  rw [ef_rm0 m p1 p2 p3 p4 p5 p6]
  show G (s₁.setTop (mkF m 0 #[oJ p1, oS, oI p2, oJ p3, oS, oJ p4, oS, oI p5, oI p6, oU, oU, oU, oU, oU, oU, oU, oU, oU, oU, oU, oU, oU, oU, oU, oU, oU, oU, oU, oU, oU, oU, oU, oU] []))
  have tlA : ∀  (s1 s2 s3 q t1 t2 t3 tn nn : Int64) (wd : Int32) (h01 : (-1 : Int64) < s1) (h12 : s1 < s2) (h23 : s2 < s3) (h3n : s3 < nn) (g12 : (1000000 : Int64) < (t2 - t1)) (g23 : (1000000 : Int64) < (t3 - t2)), G (s₁.setTop (mkF m 140 #[oJ p1, oS, oI p2, oJ p3, oS, oJ p4, oS, oI p5, oI p6, oJ s1, oS, oJ s2, oS, oJ s3, oS, oI wd, oJ q, oS, oJ t1, oS, oJ t2, oS, oJ t3, oS, oJ tn, oS, oJ nn, oS, oU, oU, oU, oU, oU] [])) := by
    intro s1 s2 s3 q t1 t2 t3 tn nn wd h01 h12 h23 h3n g12 g23
    obtain ⟨T1, h1, X1, e1, E1, A1, D1, -, st1⟩ := newO X0 hx hZ hown (hw _ (List.mem_of_getElem? (i := 4) rfl)) (hw _ (List.mem_of_getElem? (i := 5) rfl)) (hw _ (List.mem_of_getElem? (i := 6) rfl)) e0 (g := (mkF m 140 #[oJ p1, oS, oI p2, oJ p3, oS, oJ p4, oS, oI p5, oI p6, oJ s1, oS, oJ s2, oS, oJ s3, oS, oI wd, oJ q, oS, oJ t1, oS, oJ t2, oS, oJ t3, oS, oJ tn, oS, oJ nn, oS, oU, oU, oU, oU, oU] [])) rfl (hb hby at_140) (by decide) (by decide)
    obtain ⟨ob1, g1⟩ : ∃ z, z = h0.size := ⟨_, rfl⟩
    rw [← g1] at A1 D1 st1
    have g_ob1 : n0 ≤ ob1 := Nat.le_trans Z0 (Nat.le_of_eq g1.symm)
    have ne_wN_ob1 : wN ≠ ob1 := Nat.ne_of_lt (Nat.lt_of_lt_of_le (VN.ext O0.2).lt (Nat.le_of_eq g1.symm))
    have z_1 : n0 ≤ h1.size := Nat.le_trans Z0 E1.1
    have o_x1 := O0.ext E1
    have F_seqNos_ob1 : Fld Z h1 ob1 "com/example/opledger/opledger/AppendTimes" "seqNos" "[J" .null := D1 (Or.inl (hw _ (List.mem_of_getElem? (i := 16) rfl))) (ty := (.array .long)) (by decide)
    have F_starts_ob1 : Fld Z h1 ob1 "com/example/opledger/opledger/AppendTimes" "starts" "[J" .null := D1 (Or.inl (hw _ (List.mem_of_getElem? (i := 18) rfl))) (ty := (.array .long)) (by decide)
    have F_ends_ob1 : Fld Z h1 ob1 "com/example/opledger/opledger/AppendTimes" "ends" "[J" .null := D1 (Or.inl (hw _ (List.mem_of_getElem? (i := 20) rfl))) (ty := (.array .long)) (by decide)
    have F_last_ob1 : Fld Z h1 ob1 "com/example/opledger/opledger/AppendTimes" "last" "I" (.int (0 : Int32)) := D1 (Or.inl (hw _ (List.mem_of_getElem? (i := 22) rfl))) (ty := .int) (by decide)
    have F_maxSeqNo_ob1 : Fld Z h1 ob1 "com/example/opledger/opledger/AppendTimes" "maxSeqNo" "J" (.long (0 : Int64)) := D1 (Or.inl (hw _ (List.mem_of_getElem? (i := 25) rfl))) (ty := .long) (by decide)
    have F_mergeAt_ob1 : Fld Z h1 ob1 "com/example/opledger/opledger/AppendTimes" "mergeAt" "I" (.int (0 : Int32)) := D1 (Or.inl (hw _ (List.mem_of_getElem? (i := 27) rfl))) (ty := .int) (by decide)
    have F_first_ob1 : Fld Z h1 ob1 "com/example/opledger/opledger/AppendTimes" "first" "I" (.int (0 : Int32)) := D1 (Or.inl (hw _ (List.mem_of_getElem? (i := 34) rfl))) (ty := .int) (by decide)
    refine hG _ _ (fun t₀ k₀ => st1 _ k₀) ?_
    show G (T1.setTop (mkF m 143 #[oJ p1, oS, oI p2, oJ p3, oS, oJ p4, oS, oI p5, oI p6, oJ s1, oS, oJ s2, oS, oJ s3, oS, oI wd, oJ q, oS, oJ t1, oS, oJ t2, oS, oJ t3, oS, oJ tn, oS, oJ nn, oS, oU, oU, oU, oU, oU] [(.ref ob1)]))
    refine hG _ (T1.setTop (mkF m 144 #[oJ p1, oS, oI p2, oJ p3, oS, oJ p4, oS, oI p5, oI p6, oJ s1, oS, oJ s2, oS, oJ s3, oS, oI wd, oJ q, oS, oJ t1, oS, oJ t2, oS, oJ t3, oS, oJ tn, oS, oJ nn, oS, oU, oU, oU, oU, oU] [(.ref ob1), (.ref ob1)])) (fun t₀ k₀ => ?_) ?_
    · show Steps p.tables e below (T1.setTop (mkF m 143 #[oJ p1, oS, oI p2, oJ p3, oS, oJ p4, oS, oI p5, oI p6, oJ s1, oS, oJ s2, oS, oJ s3, oS, oI wd, oJ q, oS, oJ t1, oS, oJ t2, oS, oJ t3, oS, oJ tn, oS, oJ nn, oS, oU, oU, oU, oU, oU] [(.ref ob1)])) t₀
      refine XS.dup X1.here hx rfl (hb hby at_143) rfl rfl ?_
      exact k₀
    obtain ⟨_, _, ⟨T2, L2, k2, n2⟩, -, X2, ⟨Lc2, hQ2, l2, y2, z2⟩, st2⟩ := X1.specialBack hx (y := (⟨"com/example/opledger/opledger/AppendTimes", "<init>", "()V"⟩ : MethodName)) rfl hown (mvT hZ (hw _ (List.mem_of_getElem? (i := 7) rfl))) (mvT hZ (hw _ (List.mem_of_getElem? (i := 8) rfl))) (mvT hZ (hw _ (List.mem_of_getElem? (i := 9) rfl))) (by decide) (backOf (W := 1) (rmI l Z a0 hw [] ob1 wN kN h1 n0 z_1 o_x1 S_NO VN A1 g_ob1 F_seqNos_ob1 F_starts_ob1 F_ends_ob1 F_first_ob1 F_last_ob1 F_maxSeqNo_ob1 F_mergeAt_ob1) hZ (hw _ (List.mem_of_getElem? (i := 9) rfl)) (hw _ (List.mem_of_getElem? (i := 6) rfl)) (by decide) (by decide)) (g := (mkF m 144 #[oJ p1, oS, oI p2, oJ p3, oS, oJ p4, oS, oI p5, oI p6, oJ s1, oS, oJ s2, oS, oJ s3, oS, oI wd, oJ q, oS, oJ t1, oS, oJ t2, oS, oJ t3, oS, oJ tn, oS, oJ nn, oS, oU, oU, oU, oU, oU] [(.ref ob1), (.ref ob1)])) rfl (by rw [hml]; rfl) (Steps.refl _) (a := ob1) (argsL := []) (rest := [(.ref ob1)]) (lenOf pd_0 rfl) rfl (by show 2 * 0 + _ ≤ _; exact Nat.le_of_eq rfl) (hb hby at_144) (fun _ _ => ⟨rfl, e1, (by decide : 1 + 0 ≤ _), (by decide : 7 + 0 ≤ _)⟩)
    dsimp only [Pt.U, Pt.locs, Pt.cells, Pt.slots] at X2 l2 y2 z2 st2 hQ2
    subst l2 y2 z2
    obtain ⟨rfl, N2q, K2, f2_0, f2_1, f2_2, f2_3, f2_4, f2_5, f2_6⟩ := hQ2
    have N2 := Fr.app N0 N2q
    refine hG _ _ (fun t₀ k₀ => st2.trans k₀) ?_
    have z_x2 := Nat.le_trans z_1 K2.1
    have o_x2 := o_x1.keep K2 (allS g_ob1 all0)
    have eob1_x2 := A1.keep K2
    show G (T2.setTop (mkF m 147 #[oJ p1, oS, oI p2, oJ p3, oS, oJ p4, oS, oI p5, oI p6, oJ s1, oS, oJ s2, oS, oJ s3, oS, oI wd, oJ q, oS, oJ t1, oS, oJ t2, oS, oJ t3, oS, oJ tn, oS, oJ nn, oS, oU, oU, oU, oU, oU] [(.ref ob1)]))
    refine hG _ (T2.setTop (mkF m 155 #[oJ p1, oS, oI p2, oJ p3, oS, oJ p4, oS, oI p5, oI p6, oJ s1, oS, oJ s2, oS, oJ s3, oS, oI wd, oJ q, oS, oJ t1, oS, oJ t2, oS, oJ t3, oS, oJ tn, oS, oJ nn, oS, oR ob1, oU, oU, oU, oU] [(.long t1), (.long s1), (.ref ob1)])) (fun t₀ k₀ => ?_) ?_
    · show Steps p.tables e below (T2.setTop (mkF m 147 #[oJ p1, oS, oI p2, oJ p3, oS, oJ p4, oS, oI p5, oI p6, oJ s1, oS, oJ s2, oS, oJ s3, oS, oI wd, oJ q, oS, oJ t1, oS, oJ t2, oS, oJ t3, oS, oJ tn, oS, oJ nn, oS, oU, oU, oU, oU, oU] [(.ref ob1)])) t₀
      refine XS.astore X2.here hx rfl (hb hby at_147) rfl rfl (l' := #[oJ p1, oS, oI p2, oJ p3, oS, oJ p4, oS, oI p5, oI p6, oJ s1, oS, oJ s2, oS, oJ s3, oS, oI wd, oJ q, oS, oJ t1, oS, oJ t2, oS, oJ t3, oS, oJ tn, oS, oJ nn, oS, oR ob1, oU, oU, oU, oU]) rfl ?_
      show Steps p.tables e below (T2.setTop (mkF m 149 #[oJ p1, oS, oI p2, oJ p3, oS, oJ p4, oS, oI p5, oI p6, oJ s1, oS, oJ s2, oS, oJ s3, oS, oI wd, oJ q, oS, oJ t1, oS, oJ t2, oS, oJ t3, oS, oJ tn, oS, oJ nn, oS, oR ob1, oU, oU, oU, oU] [])) t₀
      refine XS.aload X2.here hx rfl (hb hby at_149) rfl rfl ?_
      show Steps p.tables e below (T2.setTop (mkF m 151 #[oJ p1, oS, oI p2, oJ p3, oS, oJ p4, oS, oI p5, oI p6, oJ s1, oS, oJ s2, oS, oJ s3, oS, oI wd, oJ q, oS, oJ t1, oS, oJ t2, oS, oJ t3, oS, oJ tn, oS, oJ nn, oS, oR ob1, oU, oU, oU, oU] [(.ref ob1)])) t₀
      refine XS.lload X2.here hx rfl (hb hby at_151) rfl ?_
      show Steps p.tables e below (T2.setTop (mkF m 153 #[oJ p1, oS, oI p2, oJ p3, oS, oJ p4, oS, oI p5, oI p6, oJ s1, oS, oJ s2, oS, oJ s3, oS, oI wd, oJ q, oS, oJ t1, oS, oJ t2, oS, oJ t3, oS, oJ tn, oS, oJ nn, oS, oR ob1, oU, oU, oU, oU] [(.long s1), (.ref ob1)])) t₀
      refine XS.lload X2.here hx rfl (hb hby at_153) rfl ?_
      exact k₀
    obtain ⟨cq3, kq3, q3a, q3b, q3c⟩ := isOf hZ rfl eob1_x2
    obtain ⟨_, _, ⟨T3, L3, k3, n3⟩, -, X3, ⟨Lc3, hQ3, l3, y3, z3⟩, st3⟩ := X2.virtualBack hx (y := (⟨"com/example/opledger/opledger/AppendTimes", "record", "(JJ)V"⟩ : MethodName)) (z := (⟨"com/example/opledger/opledger/AppendTimes", "record", "(JJ)V"⟩ : MethodName)) hown (mvT hZ (hw _ (List.mem_of_getElem? (i := 28) rfl))) (mvT hZ (hw _ (List.mem_of_getElem? (i := 29) rfl))) (notFace_of_selects (args := #[]) (mvT hZ (hw _ (List.mem_of_getElem? (i := 31) rfl)))) (mvT hZ (hw _ (List.mem_of_getElem? (i := 31) rfl))) (mvT hZ (hw _ (List.mem_of_getElem? (i := 30) rfl))) (by decide) (backOf (W := 0) (rmRA l Z a0 hw [] ob1 s1 t1 (-1 : Int64) wN kN T2.heap n0 z_x2 o_x2 S_NO VN eob1_x2 f2_0 f2_1 f2_2 f2_3 f2_4 f2_5 f2_6 g_ob1 h01) hZ (hw _ (List.mem_of_getElem? (i := 32) rfl)) (hw _ (List.mem_of_getElem? (i := 6) rfl)) (by decide) (by decide)) q3a q3c (g := (mkF m 155 #[oJ p1, oS, oI p2, oJ p3, oS, oJ p4, oS, oI p5, oI p6, oJ s1, oS, oJ s2, oS, oJ s3, oS, oI wd, oJ q, oS, oJ t1, oS, oJ t2, oS, oJ t3, oS, oJ tn, oS, oJ nn, oS, oR ob1, oU, oU, oU, oU] [(.long t1), (.long s1), (.ref ob1)])) rfl (by rw [hml]; rfl) (Steps.refl _) (argsL := [(.long s1), (.long t1)]) (rest := []) (lenOf pd_1 rfl) rfl (by show 2 * 0 + _ ≤ _; exact Nat.le_of_eq rfl) (hb hby at_155) (fun _ _ => ⟨rfl, rfl, (by decide : 1 + 3 ≤ _), (by decide : 7 + 24 ≤ _)⟩)
    dsimp only [Pt.U, Pt.locs, Pt.cells, Pt.slots] at X3 l3 y3 z3 st3 hQ3
    subst l3 y3 z3
    obtain ⟨S3, kS3, W3T, kT3, W3E, kE3, rfl, N3q, K3, g3_0, g3_1, g3_2, d3_0, d3_1, d3_2, d3_3, d3_4, d3_5, f3_0, f3_1, f3_2, f3_3, f3_4, f3_5, f3_6, f3_7, f3_8, f3_9⟩ := hQ3
    have N3 := Fr.app N2 N3q
    refine hG _ _ (fun t₀ k₀ => st3.trans k₀) ?_
    have z_x3 := Nat.le_trans z_x2 K3.1
    have o_x3 := o_x2.keep K3 (allS g_ob1 all0)
    have eob1_x3 := eob1_x2.keep K3
    show G (T3.setTop (mkF m 158 #[oJ p1, oS, oI p2, oJ p3, oS, oJ p4, oS, oI p5, oI p6, oJ s1, oS, oJ s2, oS, oJ s3, oS, oI wd, oJ q, oS, oJ t1, oS, oJ t2, oS, oJ t3, oS, oJ tn, oS, oJ nn, oS, oR ob1, oU, oU, oU, oU] []))
    refine hG _ (T3.setTop (mkF m 164 #[oJ p1, oS, oI p2, oJ p3, oS, oJ p4, oS, oI p5, oI p6, oJ s1, oS, oJ s2, oS, oJ s3, oS, oI wd, oJ q, oS, oJ t1, oS, oJ t2, oS, oJ t3, oS, oJ tn, oS, oJ nn, oS, oR ob1, oU, oU, oU, oU] [(.long t2), (.long s2), (.ref ob1)])) (fun t₀ k₀ => ?_) ?_
    · show Steps p.tables e below (T3.setTop (mkF m 158 #[oJ p1, oS, oI p2, oJ p3, oS, oJ p4, oS, oI p5, oI p6, oJ s1, oS, oJ s2, oS, oJ s3, oS, oI wd, oJ q, oS, oJ t1, oS, oJ t2, oS, oJ t3, oS, oJ tn, oS, oJ nn, oS, oR ob1, oU, oU, oU, oU] [])) t₀
      refine XS.aload X3.here hx rfl (hb hby at_158) rfl rfl ?_
      show Steps p.tables e below (T3.setTop (mkF m 160 #[oJ p1, oS, oI p2, oJ p3, oS, oJ p4, oS, oI p5, oI p6, oJ s1, oS, oJ s2, oS, oJ s3, oS, oI wd, oJ q, oS, oJ t1, oS, oJ t2, oS, oJ t3, oS, oJ tn, oS, oJ nn, oS, oR ob1, oU, oU, oU, oU] [(.ref ob1)])) t₀
      refine XS.lload X3.here hx rfl (hb hby at_160) rfl ?_
      show Steps p.tables e below (T3.setTop (mkF m 162 #[oJ p1, oS, oI p2, oJ p3, oS, oJ p4, oS, oI p5, oI p6, oJ s1, oS, oJ s2, oS, oJ s3, oS, oI wd, oJ q, oS, oJ t1, oS, oJ t2, oS, oJ t3, oS, oJ tn, oS, oJ nn, oS, oR ob1, oU, oU, oU, oU] [(.long s2), (.ref ob1)])) t₀
      refine XS.lload X3.here hx rfl (hb hby at_162) rfl ?_
      exact k₀
    obtain ⟨cq4, kq4, q4a, q4b, q4c⟩ := isOf hZ rfl eob1_x3
    obtain ⟨_, _, ⟨T4, L4, k4, n4⟩, -, X4, ⟨Lc4, hQ4, l4, y4, z4⟩, st4⟩ := X3.virtualBack hx (y := (⟨"com/example/opledger/opledger/AppendTimes", "record", "(JJ)V"⟩ : MethodName)) (z := (⟨"com/example/opledger/opledger/AppendTimes", "record", "(JJ)V"⟩ : MethodName)) hown (mvT hZ (hw _ (List.mem_of_getElem? (i := 28) rfl))) (mvT hZ (hw _ (List.mem_of_getElem? (i := 29) rfl))) (notFace_of_selects (args := #[]) (mvT hZ (hw _ (List.mem_of_getElem? (i := 31) rfl)))) (mvT hZ (hw _ (List.mem_of_getElem? (i := 31) rfl))) (mvT hZ (hw _ (List.mem_of_getElem? (i := 30) rfl))) (by decide) (backOf (W := 0) (rmRB0 l Z a0 hw [] ob1 s2 t2 S3 W3T W3E kS3 kT3 kE3 (0 : Int32) s1 s1 t1 t1 (0 : Int64) (0 : Int64) (0 : Int64) (0 : Int64) (0 : Int64) (0 : Int64) (0 : Int64) (0 : Int64) (0 : Int64) (0 : Int64) (0 : Int64) (0 : Int64) (0 : Int64) (0 : Int64) (0 : Int64) (0 : Int64) (0 : Int64) (0 : Int64) (0 : Int64) (0 : Int64) (0 : Int64) T3.heap n0 z_x3 eob1_x3 f3_0 f3_1 f3_2 f3_3 f3_4 f3_5 f3_6 f3_7 f3_8 f3_9 g_ob1 g3_0 g3_1 g3_2 d3_0 d3_1 d3_2 d3_3 d3_4 d3_5 h12 (by decide) g12 (by decide)) hZ (hw _ (List.mem_of_getElem? (i := 32) rfl)) (hw _ (List.mem_of_getElem? (i := 6) rfl)) (by decide) (by decide)) q4a q4c (g := (mkF m 164 #[oJ p1, oS, oI p2, oJ p3, oS, oJ p4, oS, oI p5, oI p6, oJ s1, oS, oJ s2, oS, oJ s3, oS, oI wd, oJ q, oS, oJ t1, oS, oJ t2, oS, oJ t3, oS, oJ tn, oS, oJ nn, oS, oR ob1, oU, oU, oU, oU] [(.long t2), (.long s2), (.ref ob1)])) rfl (by rw [hml]; rfl) (Steps.refl _) (argsL := [(.long s2), (.long t2)]) (rest := []) (lenOf pd_1 rfl) rfl (by show 2 * 0 + _ ≤ _; exact Nat.le_of_eq rfl) (hb hby at_164) (fun _ _ => ⟨rfl, rfl, (by decide : 4 + 0 ≤ _), (by decide : 31 + 0 ≤ _)⟩)
    dsimp only [Pt.U, Pt.locs, Pt.cells, Pt.slots] at X4 l4 y4 z4 st4 hQ4
    subst l4 y4 z4
    obtain ⟨rfl, N4q, K4, f4_0, f4_1, f4_2, f4_3, f4_4, f4_5, f4_6, f4_7, f4_8, f4_9⟩ := hQ4
    have N4 := Fr.app N3 N4q
    refine hG _ _ (fun t₀ k₀ => st4.trans k₀) ?_
    have z_x4 := Nat.le_trans z_x3 K4.1
    have o_x4 := o_x3.keep K4 (allS g_ob1 (allS g3_0 (allS g3_1 (allS g3_2 all0))))
    have eob1_x4 := eob1_x3.keep K4
    show G (T4.setTop (mkF m 167 #[oJ p1, oS, oI p2, oJ p3, oS, oJ p4, oS, oI p5, oI p6, oJ s1, oS, oJ s2, oS, oJ s3, oS, oI wd, oJ q, oS, oJ t1, oS, oJ t2, oS, oJ t3, oS, oJ tn, oS, oJ nn, oS, oR ob1, oU, oU, oU, oU] []))
    refine hG _ (T4.setTop (mkF m 173 #[oJ p1, oS, oI p2, oJ p3, oS, oJ p4, oS, oI p5, oI p6, oJ s1, oS, oJ s2, oS, oJ s3, oS, oI wd, oJ q, oS, oJ t1, oS, oJ t2, oS, oJ t3, oS, oJ tn, oS, oJ nn, oS, oR ob1, oU, oU, oU, oU] [(.long t3), (.long s3), (.ref ob1)])) (fun t₀ k₀ => ?_) ?_
    · show Steps p.tables e below (T4.setTop (mkF m 167 #[oJ p1, oS, oI p2, oJ p3, oS, oJ p4, oS, oI p5, oI p6, oJ s1, oS, oJ s2, oS, oJ s3, oS, oI wd, oJ q, oS, oJ t1, oS, oJ t2, oS, oJ t3, oS, oJ tn, oS, oJ nn, oS, oR ob1, oU, oU, oU, oU] [])) t₀
      refine XS.aload X4.here hx rfl (hb hby at_167) rfl rfl ?_
      show Steps p.tables e below (T4.setTop (mkF m 169 #[oJ p1, oS, oI p2, oJ p3, oS, oJ p4, oS, oI p5, oI p6, oJ s1, oS, oJ s2, oS, oJ s3, oS, oI wd, oJ q, oS, oJ t1, oS, oJ t2, oS, oJ t3, oS, oJ tn, oS, oJ nn, oS, oR ob1, oU, oU, oU, oU] [(.ref ob1)])) t₀
      refine XS.lload X4.here hx rfl (hb hby at_169) rfl ?_
      show Steps p.tables e below (T4.setTop (mkF m 171 #[oJ p1, oS, oI p2, oJ p3, oS, oJ p4, oS, oI p5, oI p6, oJ s1, oS, oJ s2, oS, oJ s3, oS, oI wd, oJ q, oS, oJ t1, oS, oJ t2, oS, oJ t3, oS, oJ tn, oS, oJ nn, oS, oR ob1, oU, oU, oU, oU] [(.long s3), (.ref ob1)])) t₀
      refine XS.lload X4.here hx rfl (hb hby at_171) rfl ?_
      exact k₀
    obtain ⟨cq5, kq5, q5a, q5b, q5c⟩ := isOf hZ rfl eob1_x4
    obtain ⟨_, _, ⟨T5, L5, k5, n5⟩, -, X5, ⟨Lc5, hQ5, l5, y5, z5⟩, st5⟩ := X4.virtualBack hx (y := (⟨"com/example/opledger/opledger/AppendTimes", "record", "(JJ)V"⟩ : MethodName)) (z := (⟨"com/example/opledger/opledger/AppendTimes", "record", "(JJ)V"⟩ : MethodName)) hown (mvT hZ (hw _ (List.mem_of_getElem? (i := 28) rfl))) (mvT hZ (hw _ (List.mem_of_getElem? (i := 29) rfl))) (notFace_of_selects (args := #[]) (mvT hZ (hw _ (List.mem_of_getElem? (i := 31) rfl)))) (mvT hZ (hw _ (List.mem_of_getElem? (i := 31) rfl))) (mvT hZ (hw _ (List.mem_of_getElem? (i := 30) rfl))) (by decide) (backOf (W := 0) (rmRB1 l Z a0 hw [] ob1 s3 t3 S3 W3T W3E kS3 kT3 kE3 (0 : Int32) s2 s1 t1 t1 s2 t2 t2 (0 : Int64) (0 : Int64) (0 : Int64) (0 : Int64) (0 : Int64) (0 : Int64) (0 : Int64) (0 : Int64) (0 : Int64) (0 : Int64) (0 : Int64) (0 : Int64) (0 : Int64) (0 : Int64) (0 : Int64) (0 : Int64) (0 : Int64) (0 : Int64) T4.heap n0 z_x4 eob1_x4 f4_0 f4_1 f4_2 f4_3 f4_4 f4_5 f4_6 f4_7 f4_8 f4_9 g_ob1 g3_0 g3_1 g3_2 d3_0 d3_1 d3_2 d3_3 d3_4 d3_5 h23 (by decide) g23 (by decide)) hZ (hw _ (List.mem_of_getElem? (i := 32) rfl)) (hw _ (List.mem_of_getElem? (i := 6) rfl)) (by decide) (by decide)) q5a q5c (g := (mkF m 173 #[oJ p1, oS, oI p2, oJ p3, oS, oJ p4, oS, oI p5, oI p6, oJ s1, oS, oJ s2, oS, oJ s3, oS, oI wd, oJ q, oS, oJ t1, oS, oJ t2, oS, oJ t3, oS, oJ tn, oS, oJ nn, oS, oR ob1, oU, oU, oU, oU] [(.long t3), (.long s3), (.ref ob1)])) rfl (by rw [hml]; rfl) (Steps.refl _) (argsL := [(.long s3), (.long t3)]) (rest := []) (lenOf pd_1 rfl) rfl (by show 2 * 0 + _ ≤ _; exact Nat.le_of_eq rfl) (hb hby at_173) (fun _ _ => ⟨rfl, rfl, (by decide : 4 + 0 ≤ _), (by decide : 31 + 0 ≤ _)⟩)
    dsimp only [Pt.U, Pt.locs, Pt.cells, Pt.slots] at X5 l5 y5 z5 st5 hQ5
    subst l5 y5 z5
    obtain ⟨rfl, N5q, K5, f5_0, f5_1, f5_2, f5_3, f5_4, f5_5, f5_6, f5_7, f5_8, f5_9⟩ := hQ5
    have N5 := Fr.app N4 N5q
    refine hG _ _ (fun t₀ k₀ => st5.trans k₀) ?_
    have z_x5 := Nat.le_trans z_x4 K5.1
    have o_x5 := o_x4.keep K5 (allS g_ob1 (allS g3_0 (allS g3_1 (allS g3_2 all0))))
    have eob1_x5 := eob1_x4.keep K5
    show G (T5.setTop (mkF m 176 #[oJ p1, oS, oI p2, oJ p3, oS, oJ p4, oS, oI p5, oI p6, oJ s1, oS, oJ s2, oS, oJ s3, oS, oI wd, oJ q, oS, oJ t1, oS, oJ t2, oS, oJ t3, oS, oJ tn, oS, oJ nn, oS, oR ob1, oU, oU, oU, oU] []))
    by_cases hA : q < s1
    ·
      by_cases hGp : (1000000 : Int64) < (tn - t3)
      ·
        refine hG _ (T5.setTop (mkF m 180 #[oJ p1, oS, oI p2, oJ p3, oS, oJ p4, oS, oI p5, oI p6, oJ s1, oS, oJ s2, oS, oJ s3, oS, oI wd, oJ q, oS, oJ t1, oS, oJ t2, oS, oJ t3, oS, oJ tn, oS, oJ nn, oS, oR ob1, oU, oU, oU, oU] [(.long q), (.ref ob1)])) (fun t₀ k₀ => ?_) ?_
        · show Steps p.tables e below (T5.setTop (mkF m 176 #[oJ p1, oS, oI p2, oJ p3, oS, oJ p4, oS, oI p5, oI p6, oJ s1, oS, oJ s2, oS, oJ s3, oS, oI wd, oJ q, oS, oJ t1, oS, oJ t2, oS, oJ t3, oS, oJ tn, oS, oJ nn, oS, oR ob1, oU, oU, oU, oU] [])) t₀
          refine XS.aload X5.here hx rfl (hb hby at_176) rfl rfl ?_
          show Steps p.tables e below (T5.setTop (mkF m 178 #[oJ p1, oS, oI p2, oJ p3, oS, oJ p4, oS, oI p5, oI p6, oJ s1, oS, oJ s2, oS, oJ s3, oS, oI wd, oJ q, oS, oJ t1, oS, oJ t2, oS, oJ t3, oS, oJ tn, oS, oJ nn, oS, oR ob1, oU, oU, oU, oU] [(.ref ob1)])) t₀
          refine XS.lload X5.here hx rfl (hb hby at_178) rfl ?_
          exact k₀
        obtain ⟨cq6, kq6, q6a, q6b, q6c⟩ := isOf hZ rfl eob1_x5
        obtain ⟨_, _, ⟨T6, L6, k6, n6⟩, -, X6, ⟨Lc6, hQ6, l6, y6, z6⟩, st6⟩ := X5.virtualBack hx (y := (⟨"com/example/opledger/opledger/AppendTimes", "forgetUpTo", "(J)V"⟩ : MethodName)) (z := (⟨"com/example/opledger/opledger/AppendTimes", "forgetUpTo", "(J)V"⟩ : MethodName)) hown (mvT hZ (hw _ (List.mem_of_getElem? (i := 56) rfl))) (mvT hZ (hw _ (List.mem_of_getElem? (i := 57) rfl))) (notFace_of_selects (args := #[]) (mvT hZ (hw _ (List.mem_of_getElem? (i := 59) rfl)))) (mvT hZ (hw _ (List.mem_of_getElem? (i := 59) rfl))) (mvT hZ (hw _ (List.mem_of_getElem? (i := 58) rfl))) (by decide) (backOf (W := 0) (rmF0 l Z a0 hw [] ob1 q wN kN S3 W3T W3E kS3 kT3 kE3 s3 s1 t1 t1 s2 t2 t2 s3 t3 t3 (0 : Int64) (0 : Int64) (0 : Int64) (0 : Int64) (0 : Int64) (0 : Int64) (0 : Int64) (0 : Int64) (0 : Int64) (0 : Int64) (0 : Int64) (0 : Int64) (0 : Int64) (0 : Int64) (0 : Int64) T5.heap n0 z_x5 o_x5 S_NO VN eob1_x5 f5_0 f5_1 f5_2 f5_3 f5_4 f5_5 f5_6 f5_7 f5_8 f5_9 g_ob1 g3_0 g3_1 g3_2 d3_0 d3_1 d3_2 d3_3 d3_4 d3_5 hA) hZ (hw _ (List.mem_of_getElem? (i := 60) rfl)) (hw _ (List.mem_of_getElem? (i := 6) rfl)) (by decide) (by decide)) q6a q6c (g := (mkF m 180 #[oJ p1, oS, oI p2, oJ p3, oS, oJ p4, oS, oI p5, oI p6, oJ s1, oS, oJ s2, oS, oJ s3, oS, oI wd, oJ q, oS, oJ t1, oS, oJ t2, oS, oJ t3, oS, oJ tn, oS, oJ nn, oS, oR ob1, oU, oU, oU, oU] [(.long q), (.ref ob1)])) rfl (by rw [hml]; rfl) (Steps.refl _) (argsL := [(.long q)]) (rest := []) (lenOf pd_5 rfl) rfl (by show 2 * 0 + _ ≤ _; exact Nat.le_of_eq rfl) (hb hby at_180) (fun _ _ => ⟨rfl, rfl, (by decide : 4 + 0 ≤ _), (by decide : 31 + 0 ≤ _)⟩)
        dsimp only [Pt.U, Pt.locs, Pt.cells, Pt.slots] at X6 l6 y6 z6 st6 hQ6
        subst l6 y6 z6
        obtain ⟨rfl, N6q, K6, f6_0, f6_1, f6_2, f6_3, f6_4, f6_5, f6_6, f6_7, f6_8, f6_9⟩ := hQ6
        have N6 := Fr.app N5 N6q
        refine hG _ _ (fun t₀ k₀ => st6.trans k₀) ?_
        have z_x6 := Nat.le_trans z_x5 K6.1
        have o_x6 := o_x5.keep K6 (allS g_ob1 all0)
        have eob1_x6 := eob1_x5.keep K6
        have vS3_x6 := f5_7.keep K6 (ninS (Ne.symm d3_0) nin0)
        have vW3T_x6 := f5_8.keep K6 (ninS (Ne.symm d3_1) nin0)
        have vW3E_x6 := f5_9.keep K6 (ninS (Ne.symm d3_2) nin0)
        show G (T6.setTop (mkF m 183 #[oJ p1, oS, oI p2, oJ p3, oS, oJ p4, oS, oI p5, oI p6, oJ s1, oS, oJ s2, oS, oJ s3, oS, oI wd, oJ q, oS, oJ t1, oS, oJ t2, oS, oJ t3, oS, oJ tn, oS, oJ nn, oS, oR ob1, oU, oU, oU, oU] []))
        refine hG _ (T6.setTop (mkF m 228 #[oJ p1, oS, oI p2, oJ p3, oS, oJ p4, oS, oI p5, oI p6, oJ s1, oS, oJ s2, oS, oJ s3, oS, oI wd, oJ q, oS, oJ t1, oS, oJ t2, oS, oJ t3, oS, oJ tn, oS, oJ nn, oS, oR ob1, oI (1 : Int32), oJ t1, oS, oU] [(.long q), (.ref ob1)])) (fun t₀ k₀ => ?_) ?_
        · show Steps p.tables e below (T6.setTop (mkF m 183 #[oJ p1, oS, oI p2, oJ p3, oS, oJ p4, oS, oI p5, oI p6, oJ s1, oS, oJ s2, oS, oJ s3, oS, oI wd, oJ q, oS, oJ t1, oS, oJ t2, oS, oJ t3, oS, oJ tn, oS, oJ nn, oS, oR ob1, oU, oU, oU, oU] [])) t₀
          refine XS.iconst X6.here hx rfl (hb hby at_183) ?_
          show Steps p.tables e below (T6.setTop (mkF m 184 #[oJ p1, oS, oI p2, oJ p3, oS, oJ p4, oS, oI p5, oI p6, oJ s1, oS, oJ s2, oS, oJ s3, oS, oI wd, oJ q, oS, oJ t1, oS, oJ t2, oS, oJ t3, oS, oJ tn, oS, oJ nn, oS, oR ob1, oU, oU, oU, oU] [(.int (1 : Int32))])) t₀
          refine XS.istore X6.here hx rfl (hb hby at_184) rfl (l' := #[oJ p1, oS, oI p2, oJ p3, oS, oJ p4, oS, oI p5, oI p6, oJ s1, oS, oJ s2, oS, oJ s3, oS, oI wd, oJ q, oS, oJ t1, oS, oJ t2, oS, oJ t3, oS, oJ tn, oS, oJ nn, oS, oR ob1, oI (1 : Int32), oU, oU, oU]) rfl ?_
          show Steps p.tables e below (T6.setTop (mkF m 186 #[oJ p1, oS, oI p2, oJ p3, oS, oJ p4, oS, oI p5, oI p6, oJ s1, oS, oJ s2, oS, oJ s3, oS, oI wd, oJ q, oS, oJ t1, oS, oJ t2, oS, oJ t3, oS, oJ tn, oS, oJ nn, oS, oR ob1, oI (1 : Int32), oU, oU, oU] [])) t₀
          refine XS.lload X6.here hx rfl (hb hby at_186) rfl ?_
          show Steps p.tables e below (T6.setTop (mkF m 188 #[oJ p1, oS, oI p2, oJ p3, oS, oJ p4, oS, oI p5, oI p6, oJ s1, oS, oJ s2, oS, oJ s3, oS, oI wd, oJ q, oS, oJ t1, oS, oJ t2, oS, oJ t3, oS, oJ tn, oS, oJ nn, oS, oR ob1, oI (1 : Int32), oU, oU, oU] [(.long q)])) t₀
          refine XS.lload X6.here hx rfl (hb hby at_188) rfl ?_
          show Steps p.tables e below (T6.setTop (mkF m 190 #[oJ p1, oS, oI p2, oJ p3, oS, oJ p4, oS, oI p5, oI p6, oJ s1, oS, oJ s2, oS, oJ s3, oS, oI wd, oJ q, oS, oJ t1, oS, oJ t2, oS, oJ t3, oS, oJ tn, oS, oJ nn, oS, oR ob1, oI (1 : Int32), oU, oU, oU] [(.long s3), (.long q)])) t₀
          refine XS.lcmp X6.here hx rfl (hb hby at_190) rfl ?_
          show Steps p.tables e below (T6.setTop (mkF m 191 #[oJ p1, oS, oI p2, oJ p3, oS, oJ p4, oS, oI p5, oI p6, oJ s1, oS, oJ s2, oS, oJ s3, oS, oI wd, oJ q, oS, oJ t1, oS, oJ t2, oS, oJ t3, oS, oJ tn, oS, oJ nn, oS, oR ob1, oI (1 : Int32), oU, oU, oU] [(.int (lcmpW q s3))])) t₀
          refine XS.ifNo X6.here hx rfl (hb hby at_191) rfl ((if0 _ _).trans (tlt ((lw_lt q s3).mpr (own_tr hA (own_tr h12 h23)))).2.1) ?_
          show Steps p.tables e below (T6.setTop (mkF m 194 #[oJ p1, oS, oI p2, oJ p3, oS, oJ p4, oS, oI p5, oI p6, oJ s1, oS, oJ s2, oS, oJ s3, oS, oI wd, oJ q, oS, oJ t1, oS, oJ t2, oS, oJ t3, oS, oJ tn, oS, oJ nn, oS, oR ob1, oI (1 : Int32), oU, oU, oU] [])) t₀
          refine XS.lload X6.here hx rfl (hb hby at_194) rfl ?_
          show Steps p.tables e below (T6.setTop (mkF m 196 #[oJ p1, oS, oI p2, oJ p3, oS, oJ p4, oS, oI p5, oI p6, oJ s1, oS, oJ s2, oS, oJ s3, oS, oI wd, oJ q, oS, oJ t1, oS, oJ t2, oS, oJ t3, oS, oJ tn, oS, oJ nn, oS, oR ob1, oI (1 : Int32), oU, oU, oU] [(.long q)])) t₀
          refine XS.lload X6.here hx rfl (hb hby at_196) rfl ?_
          show Steps p.tables e below (T6.setTop (mkF m 198 #[oJ p1, oS, oI p2, oJ p3, oS, oJ p4, oS, oI p5, oI p6, oJ s1, oS, oJ s2, oS, oJ s3, oS, oI wd, oJ q, oS, oJ t1, oS, oJ t2, oS, oJ t3, oS, oJ tn, oS, oJ nn, oS, oR ob1, oI (1 : Int32), oU, oU, oU] [(.long s1), (.long q)])) t₀
          refine XS.lcmp X6.here hx rfl (hb hby at_198) rfl ?_
          show Steps p.tables e below (T6.setTop (mkF m 199 #[oJ p1, oS, oI p2, oJ p3, oS, oJ p4, oS, oI p5, oI p6, oJ s1, oS, oJ s2, oS, oJ s3, oS, oI wd, oJ q, oS, oJ t1, oS, oJ t2, oS, oJ t3, oS, oJ tn, oS, oJ nn, oS, oR ob1, oI (1 : Int32), oU, oU, oU] [(.int (lcmpW q s1))])) t₀
          refine XS.ifNo X6.here hx rfl (hb hby at_199) rfl ((if0 _ _).trans (tlt ((lw_lt q s1).mpr hA)).2.1) ?_
          show Steps p.tables e below (T6.setTop (mkF m 202 #[oJ p1, oS, oI p2, oJ p3, oS, oJ p4, oS, oI p5, oI p6, oJ s1, oS, oJ s2, oS, oJ s3, oS, oI wd, oJ q, oS, oJ t1, oS, oJ t2, oS, oJ t3, oS, oJ tn, oS, oJ nn, oS, oR ob1, oI (1 : Int32), oU, oU, oU] [])) t₀
          refine XS.lload X6.here hx rfl (hb hby at_202) rfl ?_
          show Steps p.tables e below (T6.setTop (mkF m 204 #[oJ p1, oS, oI p2, oJ p3, oS, oJ p4, oS, oI p5, oI p6, oJ s1, oS, oJ s2, oS, oJ s3, oS, oI wd, oJ q, oS, oJ t1, oS, oJ t2, oS, oJ t3, oS, oJ tn, oS, oJ nn, oS, oR ob1, oI (1 : Int32), oU, oU, oU] [(.long t1)])) t₀
          refine XS.goto X6.here hx rfl (pc0 := 204) (pc' := 222) rfl (hb hby at_204) (by decide) (by decide) ?_
          show Steps p.tables e below (T6.setTop (mkF m 222 #[oJ p1, oS, oI p2, oJ p3, oS, oJ p4, oS, oI p5, oI p6, oJ s1, oS, oJ s2, oS, oJ s3, oS, oI wd, oJ q, oS, oJ t1, oS, oJ t2, oS, oJ t3, oS, oJ tn, oS, oJ nn, oS, oR ob1, oI (1 : Int32), oU, oU, oU] [(.long t1)])) t₀
          refine XS.lstore X6.here hx rfl (hb hby at_222) rfl (l' := #[oJ p1, oS, oI p2, oJ p3, oS, oJ p4, oS, oI p5, oI p6, oJ s1, oS, oJ s2, oS, oJ s3, oS, oI wd, oJ q, oS, oJ t1, oS, oJ t2, oS, oJ t3, oS, oJ tn, oS, oJ nn, oS, oR ob1, oI (1 : Int32), oJ t1, oS, oU]) rfl ?_
          show Steps p.tables e below (T6.setTop (mkF m 224 #[oJ p1, oS, oI p2, oJ p3, oS, oJ p4, oS, oI p5, oI p6, oJ s1, oS, oJ s2, oS, oJ s3, oS, oI wd, oJ q, oS, oJ t1, oS, oJ t2, oS, oJ t3, oS, oJ tn, oS, oJ nn, oS, oR ob1, oI (1 : Int32), oJ t1, oS, oU] [])) t₀
          refine XS.aload X6.here hx rfl (hb hby at_224) rfl rfl ?_
          show Steps p.tables e below (T6.setTop (mkF m 226 #[oJ p1, oS, oI p2, oJ p3, oS, oJ p4, oS, oI p5, oI p6, oJ s1, oS, oJ s2, oS, oJ s3, oS, oI wd, oJ q, oS, oJ t1, oS, oJ t2, oS, oJ t3, oS, oJ tn, oS, oJ nn, oS, oR ob1, oI (1 : Int32), oJ t1, oS, oU] [(.ref ob1)])) t₀
          refine XS.lload X6.here hx rfl (hb hby at_226) rfl ?_
          exact k₀
        obtain ⟨cq7, kq7, q7a, q7b, q7c⟩ := isOf hZ rfl eob1_x6
        obtain ⟨_, _, ⟨T7, L7, k7, n7⟩, -, X7, ⟨Lc7, hQ7, l7, y7, z7⟩, st7⟩ := X6.virtualBack hx (y := (⟨"com/example/opledger/opledger/AppendTimes", "earliestAbove", "(J)J"⟩ : MethodName)) (z := (⟨"com/example/opledger/opledger/AppendTimes", "earliestAbove", "(J)J"⟩ : MethodName)) hown (mvT hZ (hw _ (List.mem_of_getElem? (i := 61) rfl))) (mvT hZ (hw _ (List.mem_of_getElem? (i := 62) rfl))) (notFace_of_selects (args := #[]) (mvT hZ (hw _ (List.mem_of_getElem? (i := 64) rfl)))) (mvT hZ (hw _ (List.mem_of_getElem? (i := 64) rfl))) (mvT hZ (hw _ (List.mem_of_getElem? (i := 63) rfl))) (by decide) (backOf (W := 0) (rmE10 l Z a0 hw [] ob1 q S3 W3T kS3 kT3 s1 t1 s2 t2 s3 t3 (0 : Int64) (0 : Int64) (0 : Int64) (0 : Int64) (0 : Int64) (0 : Int64) (0 : Int64) (0 : Int64) (0 : Int64) (0 : Int64) T6.heap n0 z_x6 f6_0 f6_1 f6_3 f6_4 f6_7 f6_8 (own_tr hA h12) hA) hZ (hw _ (List.mem_of_getElem? (i := 65) rfl)) (hw _ (List.mem_of_getElem? (i := 6) rfl)) (by decide) (by decide)) q7a q7c (g := (mkF m 228 #[oJ p1, oS, oI p2, oJ p3, oS, oJ p4, oS, oI p5, oI p6, oJ s1, oS, oJ s2, oS, oJ s3, oS, oI wd, oJ q, oS, oJ t1, oS, oJ t2, oS, oJ t3, oS, oJ tn, oS, oJ nn, oS, oR ob1, oI (1 : Int32), oJ t1, oS, oU] [(.long q), (.ref ob1)])) rfl (by rw [hml]; rfl) (Steps.refl _) (argsL := [(.long q)]) (rest := []) (lenOf pd_6 rfl) rfl (by show 2 * 0 + _ ≤ _; exact Nat.le_of_eq rfl) (hb hby at_228) (fun _ _ => ⟨rfl, rfl, (by decide : 4 + 0 ≤ _), (by decide : 31 + 0 ≤ _)⟩)
        dsimp only [Pt.U, Pt.locs, Pt.cells, Pt.slots] at X7 l7 y7 z7 st7 hQ7
        subst l7 y7 z7
        obtain ⟨rfl, N7q, e7⟩ := hQ7
        have N7 := Fr.app N6 N7q
        refine hG _ _ (fun t₀ k₀ => st7.trans k₀) ?_
        show G (T7.setTop (mkF m 231 #[oJ p1, oS, oI p2, oJ p3, oS, oJ p4, oS, oI p5, oI p6, oJ s1, oS, oJ s2, oS, oJ s3, oS, oI wd, oJ q, oS, oJ t1, oS, oJ t2, oS, oJ t3, oS, oJ tn, oS, oJ nn, oS, oR ob1, oI (1 : Int32), oJ t1, oS, oU] [(.long t1)]))
        refine hG _ (T7.setTop (mkF m 250 #[oJ p1, oS, oI p2, oJ p3, oS, oJ p4, oS, oI p5, oI p6, oJ s1, oS, oJ s2, oS, oJ s3, oS, oI wd, oJ q, oS, oJ t1, oS, oJ t2, oS, oJ t3, oS, oJ tn, oS, oJ nn, oS, oR ob1, oI (1 : Int32), oJ t1, oS, oU] [(.long tn), (.long nn), (.ref ob1)])) (fun t₀ k₀ => ?_) ?_
        · show Steps p.tables e below (T7.setTop (mkF m 231 #[oJ p1, oS, oI p2, oJ p3, oS, oJ p4, oS, oI p5, oI p6, oJ s1, oS, oJ s2, oS, oJ s3, oS, oI wd, oJ q, oS, oJ t1, oS, oJ t2, oS, oJ t3, oS, oJ tn, oS, oJ nn, oS, oR ob1, oI (1 : Int32), oJ t1, oS, oU] [(.long t1)])) t₀
          refine XS.lload X7.here hx rfl (hb hby at_231) rfl ?_
          show Steps p.tables e below (T7.setTop (mkF m 233 #[oJ p1, oS, oI p2, oJ p3, oS, oJ p4, oS, oI p5, oI p6, oJ s1, oS, oJ s2, oS, oJ s3, oS, oI wd, oJ q, oS, oJ t1, oS, oJ t2, oS, oJ t3, oS, oJ tn, oS, oJ nn, oS, oR ob1, oI (1 : Int32), oJ t1, oS, oU] [(.long t1), (.long t1)])) t₀
          refine XS.lcmp X7.here hx rfl (hb hby at_233) rfl ?_
          show Steps p.tables e below (T7.setTop (mkF m 234 #[oJ p1, oS, oI p2, oJ p3, oS, oJ p4, oS, oI p5, oI p6, oJ s1, oS, oJ s2, oS, oJ s3, oS, oI wd, oJ q, oS, oJ t1, oS, oJ t2, oS, oJ t3, oS, oJ tn, oS, oJ nn, oS, oR ob1, oI (1 : Int32), oJ t1, oS, oU] [(.int (lcmpW t1 t1))])) t₀
          refine XS.ifNo X7.here hx rfl (hb hby at_234) rfl ((if0 _ _).trans (teq ((lw_eq t1 t1).mpr rfl)).2) ?_
          show Steps p.tables e below (T7.setTop (mkF m 237 #[oJ p1, oS, oI p2, oJ p3, oS, oJ p4, oS, oI p5, oI p6, oJ s1, oS, oJ s2, oS, oJ s3, oS, oI wd, oJ q, oS, oJ t1, oS, oJ t2, oS, oJ t3, oS, oJ tn, oS, oJ nn, oS, oR ob1, oI (1 : Int32), oJ t1, oS, oU] [])) t₀
          refine XS.iconst X7.here hx rfl (hb hby at_237) ?_
          show Steps p.tables e below (T7.setTop (mkF m 238 #[oJ p1, oS, oI p2, oJ p3, oS, oJ p4, oS, oI p5, oI p6, oJ s1, oS, oJ s2, oS, oJ s3, oS, oI wd, oJ q, oS, oJ t1, oS, oJ t2, oS, oJ t3, oS, oJ tn, oS, oJ nn, oS, oR ob1, oI (1 : Int32), oJ t1, oS, oU] [(.int (1 : Int32))])) t₀
          refine XS.goto X7.here hx rfl (pc0 := 238) (pc' := 242) rfl (hb hby at_238) (by decide) (by decide) ?_
          show Steps p.tables e below (T7.setTop (mkF m 242 #[oJ p1, oS, oI p2, oJ p3, oS, oJ p4, oS, oI p5, oI p6, oJ s1, oS, oJ s2, oS, oJ s3, oS, oI wd, oJ q, oS, oJ t1, oS, oJ t2, oS, oJ t3, oS, oJ tn, oS, oJ nn, oS, oR ob1, oI (1 : Int32), oJ t1, oS, oU] [(.int (1 : Int32))])) t₀
          refine XS.istore X7.here hx rfl (hb hby at_242) rfl (l' := #[oJ p1, oS, oI p2, oJ p3, oS, oJ p4, oS, oI p5, oI p6, oJ s1, oS, oJ s2, oS, oJ s3, oS, oI wd, oJ q, oS, oJ t1, oS, oJ t2, oS, oJ t3, oS, oJ tn, oS, oJ nn, oS, oR ob1, oI (1 : Int32), oJ t1, oS, oU]) rfl ?_
          show Steps p.tables e below (T7.setTop (mkF m 244 #[oJ p1, oS, oI p2, oJ p3, oS, oJ p4, oS, oI p5, oI p6, oJ s1, oS, oJ s2, oS, oJ s3, oS, oI wd, oJ q, oS, oJ t1, oS, oJ t2, oS, oJ t3, oS, oJ tn, oS, oJ nn, oS, oR ob1, oI (1 : Int32), oJ t1, oS, oU] [])) t₀
          refine XS.aload X7.here hx rfl (hb hby at_244) rfl rfl ?_
          show Steps p.tables e below (T7.setTop (mkF m 246 #[oJ p1, oS, oI p2, oJ p3, oS, oJ p4, oS, oI p5, oI p6, oJ s1, oS, oJ s2, oS, oJ s3, oS, oI wd, oJ q, oS, oJ t1, oS, oJ t2, oS, oJ t3, oS, oJ tn, oS, oJ nn, oS, oR ob1, oI (1 : Int32), oJ t1, oS, oU] [(.ref ob1)])) t₀
          refine XS.lload X7.here hx rfl (hb hby at_246) rfl ?_
          show Steps p.tables e below (T7.setTop (mkF m 248 #[oJ p1, oS, oI p2, oJ p3, oS, oJ p4, oS, oI p5, oI p6, oJ s1, oS, oJ s2, oS, oJ s3, oS, oI wd, oJ q, oS, oJ t1, oS, oJ t2, oS, oJ t3, oS, oJ tn, oS, oJ nn, oS, oR ob1, oI (1 : Int32), oJ t1, oS, oU] [(.long nn), (.ref ob1)])) t₀
          refine XS.lload X7.here hx rfl (hb hby at_248) rfl ?_
          exact k₀
        obtain ⟨cq8, kq8, q8a, q8b, q8c⟩ := isOf hZ e7 eob1_x6
        obtain ⟨_, _, ⟨T8, L8, k8, n8⟩, -, X8, ⟨Lc8, hQ8, l8, y8, z8⟩, st8⟩ := X7.virtualBack hx (y := (⟨"com/example/opledger/opledger/AppendTimes", "record", "(JJ)V"⟩ : MethodName)) (z := (⟨"com/example/opledger/opledger/AppendTimes", "record", "(JJ)V"⟩ : MethodName)) hown (mvT hZ (hw _ (List.mem_of_getElem? (i := 28) rfl))) (mvT hZ (hw _ (List.mem_of_getElem? (i := 29) rfl))) (notFace_of_selects (args := #[]) (mvT hZ (hw _ (List.mem_of_getElem? (i := 31) rfl)))) (mvT hZ (hw _ (List.mem_of_getElem? (i := 31) rfl))) (mvT hZ (hw _ (List.mem_of_getElem? (i := 30) rfl))) (by decide) (backOf (W := 0) (rmRB2 l Z a0 hw [] ob1 nn tn S3 W3T W3E kS3 kT3 kE3 (0 : Int32) s3 s1 t1 t1 s2 t2 t2 s3 t3 t3 (0 : Int64) (0 : Int64) (0 : Int64) (0 : Int64) (0 : Int64) (0 : Int64) (0 : Int64) (0 : Int64) (0 : Int64) (0 : Int64) (0 : Int64) (0 : Int64) (0 : Int64) (0 : Int64) (0 : Int64) T6.heap n0 z_x6 eob1_x6 f6_0 f6_1 f6_2 f6_3 f6_4 f6_5 f6_6 f6_7 f6_8 f6_9 g_ob1 g3_0 g3_1 g3_2 d3_0 d3_1 d3_2 d3_3 d3_4 d3_5 h3n (by decide) hGp (by decide)) hZ (hw _ (List.mem_of_getElem? (i := 32) rfl)) (hw _ (List.mem_of_getElem? (i := 6) rfl)) (by decide) (by decide)) q8a q8c (g := (mkF m 250 #[oJ p1, oS, oI p2, oJ p3, oS, oJ p4, oS, oI p5, oI p6, oJ s1, oS, oJ s2, oS, oJ s3, oS, oI wd, oJ q, oS, oJ t1, oS, oJ t2, oS, oJ t3, oS, oJ tn, oS, oJ nn, oS, oR ob1, oI (1 : Int32), oJ t1, oS, oU] [(.long tn), (.long nn), (.ref ob1)])) rfl (by rw [hml]; rfl) (Steps.refl _) (argsL := [(.long nn), (.long tn)]) (rest := []) (lenOf pd_1 rfl) rfl (by show 2 * 0 + _ ≤ _; exact Nat.le_of_eq rfl) (hb hby at_250) (fun _ _ => ⟨rfl, e7, (by decide : 4 + 0 ≤ _), (by decide : 31 + 0 ≤ _)⟩)
        dsimp only [Pt.U, Pt.locs, Pt.cells, Pt.slots] at X8 l8 y8 z8 st8 hQ8
        subst l8 y8 z8
        obtain ⟨rfl, N8q, K8, f8_0, f8_1, f8_2, f8_3, f8_4, f8_5, f8_6, f8_7, f8_8, f8_9⟩ := hQ8
        have N8 := Fr.app N7 N8q
        refine hG _ _ (fun t₀ k₀ => st8.trans k₀) ?_
        have z_x8 := Nat.le_trans z_x6 K8.1
        have o_x8 := o_x6.keep K8 (allS g_ob1 (allS g3_0 (allS g3_1 (allS g3_2 all0))))
        have eob1_x8 := eob1_x6.keep K8
        show G (T8.setTop (mkF m 253 #[oJ p1, oS, oI p2, oJ p3, oS, oJ p4, oS, oI p5, oI p6, oJ s1, oS, oJ s2, oS, oJ s3, oS, oI wd, oJ q, oS, oJ t1, oS, oJ t2, oS, oJ t3, oS, oJ tn, oS, oJ nn, oS, oR ob1, oI (1 : Int32), oJ t1, oS, oU] []))
        refine hG _ (T8.setTop (mkF m 288 #[oJ p1, oS, oI p2, oJ p3, oS, oJ p4, oS, oI p5, oI p6, oJ s1, oS, oJ s2, oS, oJ s3, oS, oI wd, oJ q, oS, oJ t1, oS, oJ t2, oS, oJ t3, oS, oJ tn, oS, oJ nn, oS, oR ob1, oI (1 : Int32), oJ tn, oS, oU] [(.long s3), (.ref ob1)])) (fun t₀ k₀ => ?_) ?_
        · show Steps p.tables e below (T8.setTop (mkF m 253 #[oJ p1, oS, oI p2, oJ p3, oS, oJ p4, oS, oI p5, oI p6, oJ s1, oS, oJ s2, oS, oJ s3, oS, oI wd, oJ q, oS, oJ t1, oS, oJ t2, oS, oJ t3, oS, oJ tn, oS, oJ nn, oS, oR ob1, oI (1 : Int32), oJ t1, oS, oU] [])) t₀
          refine XS.lload X8.here hx rfl (hb hby at_253) rfl ?_
          show Steps p.tables e below (T8.setTop (mkF m 255 #[oJ p1, oS, oI p2, oJ p3, oS, oJ p4, oS, oI p5, oI p6, oJ s1, oS, oJ s2, oS, oJ s3, oS, oI wd, oJ q, oS, oJ t1, oS, oJ t2, oS, oJ t3, oS, oJ tn, oS, oJ nn, oS, oR ob1, oI (1 : Int32), oJ t1, oS, oU] [(.long q)])) t₀
          refine XS.lload X8.here hx rfl (hb hby at_255) rfl ?_
          show Steps p.tables e below (T8.setTop (mkF m 257 #[oJ p1, oS, oI p2, oJ p3, oS, oJ p4, oS, oI p5, oI p6, oJ s1, oS, oJ s2, oS, oJ s3, oS, oI wd, oJ q, oS, oJ t1, oS, oJ t2, oS, oJ t3, oS, oJ tn, oS, oJ nn, oS, oR ob1, oI (1 : Int32), oJ t1, oS, oU] [(.long s3), (.long q)])) t₀
          refine XS.lcmp X8.here hx rfl (hb hby at_257) rfl ?_
          show Steps p.tables e below (T8.setTop (mkF m 258 #[oJ p1, oS, oI p2, oJ p3, oS, oJ p4, oS, oI p5, oI p6, oJ s1, oS, oJ s2, oS, oJ s3, oS, oI wd, oJ q, oS, oJ t1, oS, oJ t2, oS, oJ t3, oS, oJ tn, oS, oJ nn, oS, oR ob1, oI (1 : Int32), oJ t1, oS, oU] [(.int (lcmpW q s3))])) t₀
          refine XS.ifNo X8.here hx rfl (hb hby at_258) rfl ((if0 _ _).trans (tlt ((lw_lt q s3).mpr (own_tr hA (own_tr h12 h23)))).2.1) ?_
          show Steps p.tables e below (T8.setTop (mkF m 261 #[oJ p1, oS, oI p2, oJ p3, oS, oJ p4, oS, oI p5, oI p6, oJ s1, oS, oJ s2, oS, oJ s3, oS, oI wd, oJ q, oS, oJ t1, oS, oJ t2, oS, oJ t3, oS, oJ tn, oS, oJ nn, oS, oR ob1, oI (1 : Int32), oJ t1, oS, oU] [])) t₀
          refine XS.lload X8.here hx rfl (hb hby at_261) rfl ?_
          show Steps p.tables e below (T8.setTop (mkF m 263 #[oJ p1, oS, oI p2, oJ p3, oS, oJ p4, oS, oI p5, oI p6, oJ s1, oS, oJ s2, oS, oJ s3, oS, oI wd, oJ q, oS, oJ t1, oS, oJ t2, oS, oJ t3, oS, oJ tn, oS, oJ nn, oS, oR ob1, oI (1 : Int32), oJ t1, oS, oU] [(.long tn)])) t₀
          refine XS.lload X8.here hx rfl (hb hby at_263) rfl ?_
          show Steps p.tables e below (T8.setTop (mkF m 265 #[oJ p1, oS, oI p2, oJ p3, oS, oJ p4, oS, oI p5, oI p6, oJ s1, oS, oJ s2, oS, oJ s3, oS, oI wd, oJ q, oS, oJ t1, oS, oJ t2, oS, oJ t3, oS, oJ tn, oS, oJ nn, oS, oR ob1, oI (1 : Int32), oJ t1, oS, oU] [(.long t3), (.long tn)])) t₀
          refine XS.lsub X8.here hx rfl (hb hby at_265) rfl ?_
          show Steps p.tables e below (T8.setTop (mkF m 266 #[oJ p1, oS, oI p2, oJ p3, oS, oJ p4, oS, oI p5, oI p6, oJ s1, oS, oJ s2, oS, oJ s3, oS, oI wd, oJ q, oS, oJ t1, oS, oJ t2, oS, oJ t3, oS, oJ tn, oS, oJ nn, oS, oR ob1, oI (1 : Int32), oJ t1, oS, oU] [(.long (tn - t3))])) t₀
          refine X8.ldc2Long hx hown (mvT hZ (hw _ (List.mem_of_getElem? (i := 66) rfl))) (g := (mkF m 266 #[oJ p1, oS, oI p2, oJ p3, oS, oJ p4, oS, oI p5, oI p6, oJ s1, oS, oJ s2, oS, oJ s3, oS, oI wd, oJ q, oS, oJ t1, oS, oJ t2, oS, oJ t3, oS, oJ tn, oS, oJ nn, oS, oR ob1, oI (1 : Int32), oJ t1, oS, oU] [(.long (tn - t3))])) rfl (hb hby at_266) _ ?_
          show Steps p.tables e below (T8.setTop (mkF m 269 #[oJ p1, oS, oI p2, oJ p3, oS, oJ p4, oS, oI p5, oI p6, oJ s1, oS, oJ s2, oS, oJ s3, oS, oI wd, oJ q, oS, oJ t1, oS, oJ t2, oS, oJ t3, oS, oJ tn, oS, oJ nn, oS, oR ob1, oI (1 : Int32), oJ t1, oS, oU] [(.long (1000000 : Int64)), (.long (tn - t3))])) t₀
          refine XS.lcmp X8.here hx rfl (hb hby at_269) rfl ?_
          show Steps p.tables e below (T8.setTop (mkF m 270 #[oJ p1, oS, oI p2, oJ p3, oS, oJ p4, oS, oI p5, oI p6, oJ s1, oS, oJ s2, oS, oJ s3, oS, oI wd, oJ q, oS, oJ t1, oS, oJ t2, oS, oJ t3, oS, oJ tn, oS, oJ nn, oS, oR ob1, oI (1 : Int32), oJ t1, oS, oU] [(.int (lcmpW (tn - t3) (1000000 : Int64)))])) t₀
          refine XS.ifYes X8.here hx rfl (pc0 := 270) (pc' := 280) rfl (hb hby at_270) rfl ((if0 _ _).trans (tlt ((lw_gt (tn - t3) (1000000 : Int64)).mpr hGp)).2.2.1) (by decide) (by decide) ?_
          show Steps p.tables e below (T8.setTop (mkF m 280 #[oJ p1, oS, oI p2, oJ p3, oS, oJ p4, oS, oI p5, oI p6, oJ s1, oS, oJ s2, oS, oJ s3, oS, oI wd, oJ q, oS, oJ t1, oS, oJ t2, oS, oJ t3, oS, oJ tn, oS, oJ nn, oS, oR ob1, oI (1 : Int32), oJ t1, oS, oU] [])) t₀
          refine XS.lload X8.here hx rfl (hb hby at_280) rfl ?_
          show Steps p.tables e below (T8.setTop (mkF m 282 #[oJ p1, oS, oI p2, oJ p3, oS, oJ p4, oS, oI p5, oI p6, oJ s1, oS, oJ s2, oS, oJ s3, oS, oI wd, oJ q, oS, oJ t1, oS, oJ t2, oS, oJ t3, oS, oJ tn, oS, oJ nn, oS, oR ob1, oI (1 : Int32), oJ t1, oS, oU] [(.long tn)])) t₀
          refine XS.lstore X8.here hx rfl (hb hby at_282) rfl (l' := #[oJ p1, oS, oI p2, oJ p3, oS, oJ p4, oS, oI p5, oI p6, oJ s1, oS, oJ s2, oS, oJ s3, oS, oI wd, oJ q, oS, oJ t1, oS, oJ t2, oS, oJ t3, oS, oJ tn, oS, oJ nn, oS, oR ob1, oI (1 : Int32), oJ tn, oS, oU]) rfl ?_
          show Steps p.tables e below (T8.setTop (mkF m 284 #[oJ p1, oS, oI p2, oJ p3, oS, oJ p4, oS, oI p5, oI p6, oJ s1, oS, oJ s2, oS, oJ s3, oS, oI wd, oJ q, oS, oJ t1, oS, oJ t2, oS, oJ t3, oS, oJ tn, oS, oJ nn, oS, oR ob1, oI (1 : Int32), oJ tn, oS, oU] [])) t₀
          refine XS.aload X8.here hx rfl (hb hby at_284) rfl rfl ?_
          show Steps p.tables e below (T8.setTop (mkF m 286 #[oJ p1, oS, oI p2, oJ p3, oS, oJ p4, oS, oI p5, oI p6, oJ s1, oS, oJ s2, oS, oJ s3, oS, oI wd, oJ q, oS, oJ t1, oS, oJ t2, oS, oJ t3, oS, oJ tn, oS, oJ nn, oS, oR ob1, oI (1 : Int32), oJ tn, oS, oU] [(.ref ob1)])) t₀
          refine XS.lload X8.here hx rfl (hb hby at_286) rfl ?_
          exact k₀
        obtain ⟨cq9, kq9, q9a, q9b, q9c⟩ := isOf hZ rfl eob1_x8
        obtain ⟨_, _, ⟨T9, L9, k9, n9⟩, -, X9, ⟨Lc9, hQ9, l9, y9, z9⟩, st9⟩ := X8.virtualBack hx (y := (⟨"com/example/opledger/opledger/AppendTimes", "earliestAbove", "(J)J"⟩ : MethodName)) (z := (⟨"com/example/opledger/opledger/AppendTimes", "earliestAbove", "(J)J"⟩ : MethodName)) hown (mvT hZ (hw _ (List.mem_of_getElem? (i := 61) rfl))) (mvT hZ (hw _ (List.mem_of_getElem? (i := 62) rfl))) (notFace_of_selects (args := #[]) (mvT hZ (hw _ (List.mem_of_getElem? (i := 64) rfl)))) (mvT hZ (hw _ (List.mem_of_getElem? (i := 64) rfl))) (mvT hZ (hw _ (List.mem_of_getElem? (i := 63) rfl))) (by decide) (backOf (W := 0) (rmE30 l Z a0 hw [] ob1 s3 S3 W3T kS3 kT3 s1 t1 s2 t2 s3 t3 nn tn (0 : Int64) (0 : Int64) (0 : Int64) (0 : Int64) (0 : Int64) (0 : Int64) (0 : Int64) (0 : Int64) T8.heap n0 z_x8 f8_0 f8_1 f8_3 f8_4 f8_7 f8_8 (own_as h23) (own_ir _)) hZ (hw _ (List.mem_of_getElem? (i := 65) rfl)) (hw _ (List.mem_of_getElem? (i := 6) rfl)) (by decide) (by decide)) q9a q9c (g := (mkF m 288 #[oJ p1, oS, oI p2, oJ p3, oS, oJ p4, oS, oI p5, oI p6, oJ s1, oS, oJ s2, oS, oJ s3, oS, oI wd, oJ q, oS, oJ t1, oS, oJ t2, oS, oJ t3, oS, oJ tn, oS, oJ nn, oS, oR ob1, oI (1 : Int32), oJ tn, oS, oU] [(.long s3), (.ref ob1)])) rfl (by rw [hml]; rfl) (Steps.refl _) (argsL := [(.long s3)]) (rest := []) (lenOf pd_6 rfl) rfl (by show 2 * 0 + _ ≤ _; exact Nat.le_of_eq rfl) (hb hby at_288) (fun _ _ => ⟨rfl, rfl, (by decide : 4 + 0 ≤ _), (by decide : 31 + 0 ≤ _)⟩)
        dsimp only [Pt.U, Pt.locs, Pt.cells, Pt.slots] at X9 l9 y9 z9 st9 hQ9
        subst l9 y9 z9
        obtain ⟨rfl, N9q, e9⟩ := hQ9
        have N9 := Fr.app N8 N9q
        refine hG _ _ (fun t₀ k₀ => st9.trans k₀) ?_
        show G (T9.setTop (mkF m 291 #[oJ p1, oS, oI p2, oJ p3, oS, oJ p4, oS, oI p5, oI p6, oJ s1, oS, oJ s2, oS, oJ s3, oS, oI wd, oJ q, oS, oJ t1, oS, oJ t2, oS, oJ t3, oS, oJ tn, oS, oJ nn, oS, oR ob1, oI (1 : Int32), oJ tn, oS, oU] [(.long tn)]))
        refine hG _ (T9.setTop (mkF m 319 #[oJ p1, oS, oI p2, oJ p3, oS, oJ p4, oS, oI p5, oI p6, oJ s1, oS, oJ s2, oS, oJ s3, oS, oI wd, oJ q, oS, oJ t1, oS, oJ t2, oS, oJ t3, oS, oJ tn, oS, oJ nn, oS, oR ob1, oI (1 : Int32), oJ tn, oS, oI (1 : Int32)] [(.int (1 : Int32))])) (fun t₀ k₀ => ?_) ?_
        · show Steps p.tables e below (T9.setTop (mkF m 291 #[oJ p1, oS, oI p2, oJ p3, oS, oJ p4, oS, oI p5, oI p6, oJ s1, oS, oJ s2, oS, oJ s3, oS, oI wd, oJ q, oS, oJ t1, oS, oJ t2, oS, oJ t3, oS, oJ tn, oS, oJ nn, oS, oR ob1, oI (1 : Int32), oJ tn, oS, oU] [(.long tn)])) t₀
          refine XS.lload X9.here hx rfl (hb hby at_291) rfl ?_
          show Steps p.tables e below (T9.setTop (mkF m 293 #[oJ p1, oS, oI p2, oJ p3, oS, oJ p4, oS, oI p5, oI p6, oJ s1, oS, oJ s2, oS, oJ s3, oS, oI wd, oJ q, oS, oJ t1, oS, oJ t2, oS, oJ t3, oS, oJ tn, oS, oJ nn, oS, oR ob1, oI (1 : Int32), oJ tn, oS, oU] [(.long tn), (.long tn)])) t₀
          refine XS.lcmp X9.here hx rfl (hb hby at_293) rfl ?_
          show Steps p.tables e below (T9.setTop (mkF m 294 #[oJ p1, oS, oI p2, oJ p3, oS, oJ p4, oS, oI p5, oI p6, oJ s1, oS, oJ s2, oS, oJ s3, oS, oI wd, oJ q, oS, oJ t1, oS, oJ t2, oS, oJ t3, oS, oJ tn, oS, oJ nn, oS, oR ob1, oI (1 : Int32), oJ tn, oS, oU] [(.int (lcmpW tn tn))])) t₀
          refine XS.ifNo X9.here hx rfl (hb hby at_294) rfl ((if0 _ _).trans (teq ((lw_eq tn tn).mpr rfl)).2) ?_
          show Steps p.tables e below (T9.setTop (mkF m 297 #[oJ p1, oS, oI p2, oJ p3, oS, oJ p4, oS, oI p5, oI p6, oJ s1, oS, oJ s2, oS, oJ s3, oS, oI wd, oJ q, oS, oJ t1, oS, oJ t2, oS, oJ t3, oS, oJ tn, oS, oJ nn, oS, oR ob1, oI (1 : Int32), oJ tn, oS, oU] [])) t₀
          refine XS.iconst X9.here hx rfl (hb hby at_297) ?_
          show Steps p.tables e below (T9.setTop (mkF m 298 #[oJ p1, oS, oI p2, oJ p3, oS, oJ p4, oS, oI p5, oI p6, oJ s1, oS, oJ s2, oS, oJ s3, oS, oI wd, oJ q, oS, oJ t1, oS, oJ t2, oS, oJ t3, oS, oJ tn, oS, oJ nn, oS, oR ob1, oI (1 : Int32), oJ tn, oS, oU] [(.int (1 : Int32))])) t₀
          refine XS.goto X9.here hx rfl (pc0 := 298) (pc' := 302) rfl (hb hby at_298) (by decide) (by decide) ?_
          show Steps p.tables e below (T9.setTop (mkF m 302 #[oJ p1, oS, oI p2, oJ p3, oS, oJ p4, oS, oI p5, oI p6, oJ s1, oS, oJ s2, oS, oJ s3, oS, oI wd, oJ q, oS, oJ t1, oS, oJ t2, oS, oJ t3, oS, oJ tn, oS, oJ nn, oS, oR ob1, oI (1 : Int32), oJ tn, oS, oU] [(.int (1 : Int32))])) t₀
          refine XS.istore X9.here hx rfl (hb hby at_302) rfl (l' := #[oJ p1, oS, oI p2, oJ p3, oS, oJ p4, oS, oI p5, oI p6, oJ s1, oS, oJ s2, oS, oJ s3, oS, oI wd, oJ q, oS, oJ t1, oS, oJ t2, oS, oJ t3, oS, oJ tn, oS, oJ nn, oS, oR ob1, oI (1 : Int32), oJ tn, oS, oI (1 : Int32)]) rfl ?_
          show Steps p.tables e below (T9.setTop (mkF m 304 #[oJ p1, oS, oI p2, oJ p3, oS, oJ p4, oS, oI p5, oI p6, oJ s1, oS, oJ s2, oS, oJ s3, oS, oI wd, oJ q, oS, oJ t1, oS, oJ t2, oS, oJ t3, oS, oJ tn, oS, oJ nn, oS, oR ob1, oI (1 : Int32), oJ tn, oS, oI (1 : Int32)] [])) t₀
          refine XS.iload X9.here hx rfl (hb hby at_304) rfl ?_
          show Steps p.tables e below (T9.setTop (mkF m 306 #[oJ p1, oS, oI p2, oJ p3, oS, oJ p4, oS, oI p5, oI p6, oJ s1, oS, oJ s2, oS, oJ s3, oS, oI wd, oJ q, oS, oJ t1, oS, oJ t2, oS, oJ t3, oS, oJ tn, oS, oJ nn, oS, oR ob1, oI (1 : Int32), oJ tn, oS, oI (1 : Int32)] [(.int (1 : Int32))])) t₀
          refine XS.ifNo X9.here hx rfl (hb hby at_306) rfl ((if0 _ _).trans (feq (by decide : ¬ ((1 : Int32) = (0 : Int32)))).1) ?_
          show Steps p.tables e below (T9.setTop (mkF m 309 #[oJ p1, oS, oI p2, oJ p3, oS, oJ p4, oS, oI p5, oI p6, oJ s1, oS, oJ s2, oS, oJ s3, oS, oI wd, oJ q, oS, oJ t1, oS, oJ t2, oS, oJ t3, oS, oJ tn, oS, oJ nn, oS, oR ob1, oI (1 : Int32), oJ tn, oS, oI (1 : Int32)] [])) t₀
          refine XS.iload X9.here hx rfl (hb hby at_309) rfl ?_
          show Steps p.tables e below (T9.setTop (mkF m 311 #[oJ p1, oS, oI p2, oJ p3, oS, oJ p4, oS, oI p5, oI p6, oJ s1, oS, oJ s2, oS, oJ s3, oS, oI wd, oJ q, oS, oJ t1, oS, oJ t2, oS, oJ t3, oS, oJ tn, oS, oJ nn, oS, oR ob1, oI (1 : Int32), oJ tn, oS, oI (1 : Int32)] [(.int (1 : Int32))])) t₀
          refine XS.ifNo X9.here hx rfl (hb hby at_311) rfl ((if0 _ _).trans (feq (by decide : ¬ ((1 : Int32) = (0 : Int32)))).1) ?_
          show Steps p.tables e below (T9.setTop (mkF m 314 #[oJ p1, oS, oI p2, oJ p3, oS, oJ p4, oS, oI p5, oI p6, oJ s1, oS, oJ s2, oS, oJ s3, oS, oI wd, oJ q, oS, oJ t1, oS, oJ t2, oS, oJ t3, oS, oJ tn, oS, oJ nn, oS, oR ob1, oI (1 : Int32), oJ tn, oS, oI (1 : Int32)] [])) t₀
          refine XS.iconst X9.here hx rfl (hb hby at_314) ?_
          show Steps p.tables e below (T9.setTop (mkF m 315 #[oJ p1, oS, oI p2, oJ p3, oS, oJ p4, oS, oI p5, oI p6, oJ s1, oS, oJ s2, oS, oJ s3, oS, oI wd, oJ q, oS, oJ t1, oS, oJ t2, oS, oJ t3, oS, oJ tn, oS, oJ nn, oS, oR ob1, oI (1 : Int32), oJ tn, oS, oI (1 : Int32)] [(.int (1 : Int32))])) t₀
          refine XS.goto X9.here hx rfl (pc0 := 315) (pc' := 319) rfl (hb hby at_315) (by decide) (by decide) ?_
          exact k₀
        refine hF _ T9 _ _ _ (some (.int (1 : Int32))) _ X9 e9 (fun h => by rw [hrt] at h; cases h) (by decide) (by decide) ?_ (fun fs hr => retN X9 hx (t := .boolean) hrt (by simp) (hb hby at_319) hr)
        exact ⟨rfl, N9⟩
      ·
        refine hG _ (T5.setTop (mkF m 180 #[oJ p1, oS, oI p2, oJ p3, oS, oJ p4, oS, oI p5, oI p6, oJ s1, oS, oJ s2, oS, oJ s3, oS, oI wd, oJ q, oS, oJ t1, oS, oJ t2, oS, oJ t3, oS, oJ tn, oS, oJ nn, oS, oR ob1, oU, oU, oU, oU] [(.long q), (.ref ob1)])) (fun t₀ k₀ => ?_) ?_
        · show Steps p.tables e below (T5.setTop (mkF m 176 #[oJ p1, oS, oI p2, oJ p3, oS, oJ p4, oS, oI p5, oI p6, oJ s1, oS, oJ s2, oS, oJ s3, oS, oI wd, oJ q, oS, oJ t1, oS, oJ t2, oS, oJ t3, oS, oJ tn, oS, oJ nn, oS, oR ob1, oU, oU, oU, oU] [])) t₀
          refine XS.aload X5.here hx rfl (hb hby at_176) rfl rfl ?_
          show Steps p.tables e below (T5.setTop (mkF m 178 #[oJ p1, oS, oI p2, oJ p3, oS, oJ p4, oS, oI p5, oI p6, oJ s1, oS, oJ s2, oS, oJ s3, oS, oI wd, oJ q, oS, oJ t1, oS, oJ t2, oS, oJ t3, oS, oJ tn, oS, oJ nn, oS, oR ob1, oU, oU, oU, oU] [(.ref ob1)])) t₀
          refine XS.lload X5.here hx rfl (hb hby at_178) rfl ?_
          exact k₀
        obtain ⟨cq10, kq10, q10a, q10b, q10c⟩ := isOf hZ rfl eob1_x5
        obtain ⟨_, _, ⟨T10, L10, k10, n10⟩, -, X10, ⟨Lc10, hQ10, l10, y10, z10⟩, st10⟩ := X5.virtualBack hx (y := (⟨"com/example/opledger/opledger/AppendTimes", "forgetUpTo", "(J)V"⟩ : MethodName)) (z := (⟨"com/example/opledger/opledger/AppendTimes", "forgetUpTo", "(J)V"⟩ : MethodName)) hown (mvT hZ (hw _ (List.mem_of_getElem? (i := 56) rfl))) (mvT hZ (hw _ (List.mem_of_getElem? (i := 57) rfl))) (notFace_of_selects (args := #[]) (mvT hZ (hw _ (List.mem_of_getElem? (i := 59) rfl)))) (mvT hZ (hw _ (List.mem_of_getElem? (i := 59) rfl))) (mvT hZ (hw _ (List.mem_of_getElem? (i := 58) rfl))) (by decide) (backOf (W := 0) (rmF0 l Z a0 hw [] ob1 q wN kN S3 W3T W3E kS3 kT3 kE3 s3 s1 t1 t1 s2 t2 t2 s3 t3 t3 (0 : Int64) (0 : Int64) (0 : Int64) (0 : Int64) (0 : Int64) (0 : Int64) (0 : Int64) (0 : Int64) (0 : Int64) (0 : Int64) (0 : Int64) (0 : Int64) (0 : Int64) (0 : Int64) (0 : Int64) T5.heap n0 z_x5 o_x5 S_NO VN eob1_x5 f5_0 f5_1 f5_2 f5_3 f5_4 f5_5 f5_6 f5_7 f5_8 f5_9 g_ob1 g3_0 g3_1 g3_2 d3_0 d3_1 d3_2 d3_3 d3_4 d3_5 hA) hZ (hw _ (List.mem_of_getElem? (i := 60) rfl)) (hw _ (List.mem_of_getElem? (i := 6) rfl)) (by decide) (by decide)) q10a q10c (g := (mkF m 180 #[oJ p1, oS, oI p2, oJ p3, oS, oJ p4, oS, oI p5, oI p6, oJ s1, oS, oJ s2, oS, oJ s3, oS, oI wd, oJ q, oS, oJ t1, oS, oJ t2, oS, oJ t3, oS, oJ tn, oS, oJ nn, oS, oR ob1, oU, oU, oU, oU] [(.long q), (.ref ob1)])) rfl (by rw [hml]; rfl) (Steps.refl _) (argsL := [(.long q)]) (rest := []) (lenOf pd_5 rfl) rfl (by show 2 * 0 + _ ≤ _; exact Nat.le_of_eq rfl) (hb hby at_180) (fun _ _ => ⟨rfl, rfl, (by decide : 4 + 0 ≤ _), (by decide : 31 + 0 ≤ _)⟩)
        dsimp only [Pt.U, Pt.locs, Pt.cells, Pt.slots] at X10 l10 y10 z10 st10 hQ10
        subst l10 y10 z10
        obtain ⟨rfl, N10q, K10, f10_0, f10_1, f10_2, f10_3, f10_4, f10_5, f10_6, f10_7, f10_8, f10_9⟩ := hQ10
        have N10 := Fr.app N5 N10q
        refine hG _ _ (fun t₀ k₀ => st10.trans k₀) ?_
        have z_x10 := Nat.le_trans z_x5 K10.1
        have o_x10 := o_x5.keep K10 (allS g_ob1 all0)
        have eob1_x10 := eob1_x5.keep K10
        have vS3_x10 := f5_7.keep K10 (ninS (Ne.symm d3_0) nin0)
        have vW3T_x10 := f5_8.keep K10 (ninS (Ne.symm d3_1) nin0)
        have vW3E_x10 := f5_9.keep K10 (ninS (Ne.symm d3_2) nin0)
        show G (T10.setTop (mkF m 183 #[oJ p1, oS, oI p2, oJ p3, oS, oJ p4, oS, oI p5, oI p6, oJ s1, oS, oJ s2, oS, oJ s3, oS, oI wd, oJ q, oS, oJ t1, oS, oJ t2, oS, oJ t3, oS, oJ tn, oS, oJ nn, oS, oR ob1, oU, oU, oU, oU] []))
        refine hG _ (T10.setTop (mkF m 228 #[oJ p1, oS, oI p2, oJ p3, oS, oJ p4, oS, oI p5, oI p6, oJ s1, oS, oJ s2, oS, oJ s3, oS, oI wd, oJ q, oS, oJ t1, oS, oJ t2, oS, oJ t3, oS, oJ tn, oS, oJ nn, oS, oR ob1, oI (1 : Int32), oJ t1, oS, oU] [(.long q), (.ref ob1)])) (fun t₀ k₀ => ?_) ?_
        · show Steps p.tables e below (T10.setTop (mkF m 183 #[oJ p1, oS, oI p2, oJ p3, oS, oJ p4, oS, oI p5, oI p6, oJ s1, oS, oJ s2, oS, oJ s3, oS, oI wd, oJ q, oS, oJ t1, oS, oJ t2, oS, oJ t3, oS, oJ tn, oS, oJ nn, oS, oR ob1, oU, oU, oU, oU] [])) t₀
          refine XS.iconst X10.here hx rfl (hb hby at_183) ?_
          show Steps p.tables e below (T10.setTop (mkF m 184 #[oJ p1, oS, oI p2, oJ p3, oS, oJ p4, oS, oI p5, oI p6, oJ s1, oS, oJ s2, oS, oJ s3, oS, oI wd, oJ q, oS, oJ t1, oS, oJ t2, oS, oJ t3, oS, oJ tn, oS, oJ nn, oS, oR ob1, oU, oU, oU, oU] [(.int (1 : Int32))])) t₀
          refine XS.istore X10.here hx rfl (hb hby at_184) rfl (l' := #[oJ p1, oS, oI p2, oJ p3, oS, oJ p4, oS, oI p5, oI p6, oJ s1, oS, oJ s2, oS, oJ s3, oS, oI wd, oJ q, oS, oJ t1, oS, oJ t2, oS, oJ t3, oS, oJ tn, oS, oJ nn, oS, oR ob1, oI (1 : Int32), oU, oU, oU]) rfl ?_
          show Steps p.tables e below (T10.setTop (mkF m 186 #[oJ p1, oS, oI p2, oJ p3, oS, oJ p4, oS, oI p5, oI p6, oJ s1, oS, oJ s2, oS, oJ s3, oS, oI wd, oJ q, oS, oJ t1, oS, oJ t2, oS, oJ t3, oS, oJ tn, oS, oJ nn, oS, oR ob1, oI (1 : Int32), oU, oU, oU] [])) t₀
          refine XS.lload X10.here hx rfl (hb hby at_186) rfl ?_
          show Steps p.tables e below (T10.setTop (mkF m 188 #[oJ p1, oS, oI p2, oJ p3, oS, oJ p4, oS, oI p5, oI p6, oJ s1, oS, oJ s2, oS, oJ s3, oS, oI wd, oJ q, oS, oJ t1, oS, oJ t2, oS, oJ t3, oS, oJ tn, oS, oJ nn, oS, oR ob1, oI (1 : Int32), oU, oU, oU] [(.long q)])) t₀
          refine XS.lload X10.here hx rfl (hb hby at_188) rfl ?_
          show Steps p.tables e below (T10.setTop (mkF m 190 #[oJ p1, oS, oI p2, oJ p3, oS, oJ p4, oS, oI p5, oI p6, oJ s1, oS, oJ s2, oS, oJ s3, oS, oI wd, oJ q, oS, oJ t1, oS, oJ t2, oS, oJ t3, oS, oJ tn, oS, oJ nn, oS, oR ob1, oI (1 : Int32), oU, oU, oU] [(.long s3), (.long q)])) t₀
          refine XS.lcmp X10.here hx rfl (hb hby at_190) rfl ?_
          show Steps p.tables e below (T10.setTop (mkF m 191 #[oJ p1, oS, oI p2, oJ p3, oS, oJ p4, oS, oI p5, oI p6, oJ s1, oS, oJ s2, oS, oJ s3, oS, oI wd, oJ q, oS, oJ t1, oS, oJ t2, oS, oJ t3, oS, oJ tn, oS, oJ nn, oS, oR ob1, oI (1 : Int32), oU, oU, oU] [(.int (lcmpW q s3))])) t₀
          refine XS.ifNo X10.here hx rfl (hb hby at_191) rfl ((if0 _ _).trans (tlt ((lw_lt q s3).mpr (own_tr hA (own_tr h12 h23)))).2.1) ?_
          show Steps p.tables e below (T10.setTop (mkF m 194 #[oJ p1, oS, oI p2, oJ p3, oS, oJ p4, oS, oI p5, oI p6, oJ s1, oS, oJ s2, oS, oJ s3, oS, oI wd, oJ q, oS, oJ t1, oS, oJ t2, oS, oJ t3, oS, oJ tn, oS, oJ nn, oS, oR ob1, oI (1 : Int32), oU, oU, oU] [])) t₀
          refine XS.lload X10.here hx rfl (hb hby at_194) rfl ?_
          show Steps p.tables e below (T10.setTop (mkF m 196 #[oJ p1, oS, oI p2, oJ p3, oS, oJ p4, oS, oI p5, oI p6, oJ s1, oS, oJ s2, oS, oJ s3, oS, oI wd, oJ q, oS, oJ t1, oS, oJ t2, oS, oJ t3, oS, oJ tn, oS, oJ nn, oS, oR ob1, oI (1 : Int32), oU, oU, oU] [(.long q)])) t₀
          refine XS.lload X10.here hx rfl (hb hby at_196) rfl ?_
          show Steps p.tables e below (T10.setTop (mkF m 198 #[oJ p1, oS, oI p2, oJ p3, oS, oJ p4, oS, oI p5, oI p6, oJ s1, oS, oJ s2, oS, oJ s3, oS, oI wd, oJ q, oS, oJ t1, oS, oJ t2, oS, oJ t3, oS, oJ tn, oS, oJ nn, oS, oR ob1, oI (1 : Int32), oU, oU, oU] [(.long s1), (.long q)])) t₀
          refine XS.lcmp X10.here hx rfl (hb hby at_198) rfl ?_
          show Steps p.tables e below (T10.setTop (mkF m 199 #[oJ p1, oS, oI p2, oJ p3, oS, oJ p4, oS, oI p5, oI p6, oJ s1, oS, oJ s2, oS, oJ s3, oS, oI wd, oJ q, oS, oJ t1, oS, oJ t2, oS, oJ t3, oS, oJ tn, oS, oJ nn, oS, oR ob1, oI (1 : Int32), oU, oU, oU] [(.int (lcmpW q s1))])) t₀
          refine XS.ifNo X10.here hx rfl (hb hby at_199) rfl ((if0 _ _).trans (tlt ((lw_lt q s1).mpr hA)).2.1) ?_
          show Steps p.tables e below (T10.setTop (mkF m 202 #[oJ p1, oS, oI p2, oJ p3, oS, oJ p4, oS, oI p5, oI p6, oJ s1, oS, oJ s2, oS, oJ s3, oS, oI wd, oJ q, oS, oJ t1, oS, oJ t2, oS, oJ t3, oS, oJ tn, oS, oJ nn, oS, oR ob1, oI (1 : Int32), oU, oU, oU] [])) t₀
          refine XS.lload X10.here hx rfl (hb hby at_202) rfl ?_
          show Steps p.tables e below (T10.setTop (mkF m 204 #[oJ p1, oS, oI p2, oJ p3, oS, oJ p4, oS, oI p5, oI p6, oJ s1, oS, oJ s2, oS, oJ s3, oS, oI wd, oJ q, oS, oJ t1, oS, oJ t2, oS, oJ t3, oS, oJ tn, oS, oJ nn, oS, oR ob1, oI (1 : Int32), oU, oU, oU] [(.long t1)])) t₀
          refine XS.goto X10.here hx rfl (pc0 := 204) (pc' := 222) rfl (hb hby at_204) (by decide) (by decide) ?_
          show Steps p.tables e below (T10.setTop (mkF m 222 #[oJ p1, oS, oI p2, oJ p3, oS, oJ p4, oS, oI p5, oI p6, oJ s1, oS, oJ s2, oS, oJ s3, oS, oI wd, oJ q, oS, oJ t1, oS, oJ t2, oS, oJ t3, oS, oJ tn, oS, oJ nn, oS, oR ob1, oI (1 : Int32), oU, oU, oU] [(.long t1)])) t₀
          refine XS.lstore X10.here hx rfl (hb hby at_222) rfl (l' := #[oJ p1, oS, oI p2, oJ p3, oS, oJ p4, oS, oI p5, oI p6, oJ s1, oS, oJ s2, oS, oJ s3, oS, oI wd, oJ q, oS, oJ t1, oS, oJ t2, oS, oJ t3, oS, oJ tn, oS, oJ nn, oS, oR ob1, oI (1 : Int32), oJ t1, oS, oU]) rfl ?_
          show Steps p.tables e below (T10.setTop (mkF m 224 #[oJ p1, oS, oI p2, oJ p3, oS, oJ p4, oS, oI p5, oI p6, oJ s1, oS, oJ s2, oS, oJ s3, oS, oI wd, oJ q, oS, oJ t1, oS, oJ t2, oS, oJ t3, oS, oJ tn, oS, oJ nn, oS, oR ob1, oI (1 : Int32), oJ t1, oS, oU] [])) t₀
          refine XS.aload X10.here hx rfl (hb hby at_224) rfl rfl ?_
          show Steps p.tables e below (T10.setTop (mkF m 226 #[oJ p1, oS, oI p2, oJ p3, oS, oJ p4, oS, oI p5, oI p6, oJ s1, oS, oJ s2, oS, oJ s3, oS, oI wd, oJ q, oS, oJ t1, oS, oJ t2, oS, oJ t3, oS, oJ tn, oS, oJ nn, oS, oR ob1, oI (1 : Int32), oJ t1, oS, oU] [(.ref ob1)])) t₀
          refine XS.lload X10.here hx rfl (hb hby at_226) rfl ?_
          exact k₀
        obtain ⟨cq11, kq11, q11a, q11b, q11c⟩ := isOf hZ rfl eob1_x10
        obtain ⟨_, _, ⟨T11, L11, k11, n11⟩, -, X11, ⟨Lc11, hQ11, l11, y11, z11⟩, st11⟩ := X10.virtualBack hx (y := (⟨"com/example/opledger/opledger/AppendTimes", "earliestAbove", "(J)J"⟩ : MethodName)) (z := (⟨"com/example/opledger/opledger/AppendTimes", "earliestAbove", "(J)J"⟩ : MethodName)) hown (mvT hZ (hw _ (List.mem_of_getElem? (i := 61) rfl))) (mvT hZ (hw _ (List.mem_of_getElem? (i := 62) rfl))) (notFace_of_selects (args := #[]) (mvT hZ (hw _ (List.mem_of_getElem? (i := 64) rfl)))) (mvT hZ (hw _ (List.mem_of_getElem? (i := 64) rfl))) (mvT hZ (hw _ (List.mem_of_getElem? (i := 63) rfl))) (by decide) (backOf (W := 0) (rmE10 l Z a0 hw [] ob1 q S3 W3T kS3 kT3 s1 t1 s2 t2 s3 t3 (0 : Int64) (0 : Int64) (0 : Int64) (0 : Int64) (0 : Int64) (0 : Int64) (0 : Int64) (0 : Int64) (0 : Int64) (0 : Int64) T10.heap n0 z_x10 f10_0 f10_1 f10_3 f10_4 f10_7 f10_8 (own_tr hA h12) hA) hZ (hw _ (List.mem_of_getElem? (i := 65) rfl)) (hw _ (List.mem_of_getElem? (i := 6) rfl)) (by decide) (by decide)) q11a q11c (g := (mkF m 228 #[oJ p1, oS, oI p2, oJ p3, oS, oJ p4, oS, oI p5, oI p6, oJ s1, oS, oJ s2, oS, oJ s3, oS, oI wd, oJ q, oS, oJ t1, oS, oJ t2, oS, oJ t3, oS, oJ tn, oS, oJ nn, oS, oR ob1, oI (1 : Int32), oJ t1, oS, oU] [(.long q), (.ref ob1)])) rfl (by rw [hml]; rfl) (Steps.refl _) (argsL := [(.long q)]) (rest := []) (lenOf pd_6 rfl) rfl (by show 2 * 0 + _ ≤ _; exact Nat.le_of_eq rfl) (hb hby at_228) (fun _ _ => ⟨rfl, rfl, (by decide : 4 + 0 ≤ _), (by decide : 31 + 0 ≤ _)⟩)
        dsimp only [Pt.U, Pt.locs, Pt.cells, Pt.slots] at X11 l11 y11 z11 st11 hQ11
        subst l11 y11 z11
        obtain ⟨rfl, N11q, e11⟩ := hQ11
        have N11 := Fr.app N10 N11q
        refine hG _ _ (fun t₀ k₀ => st11.trans k₀) ?_
        show G (T11.setTop (mkF m 231 #[oJ p1, oS, oI p2, oJ p3, oS, oJ p4, oS, oI p5, oI p6, oJ s1, oS, oJ s2, oS, oJ s3, oS, oI wd, oJ q, oS, oJ t1, oS, oJ t2, oS, oJ t3, oS, oJ tn, oS, oJ nn, oS, oR ob1, oI (1 : Int32), oJ t1, oS, oU] [(.long t1)]))
        refine hG _ (T11.setTop (mkF m 250 #[oJ p1, oS, oI p2, oJ p3, oS, oJ p4, oS, oI p5, oI p6, oJ s1, oS, oJ s2, oS, oJ s3, oS, oI wd, oJ q, oS, oJ t1, oS, oJ t2, oS, oJ t3, oS, oJ tn, oS, oJ nn, oS, oR ob1, oI (1 : Int32), oJ t1, oS, oU] [(.long tn), (.long nn), (.ref ob1)])) (fun t₀ k₀ => ?_) ?_
        · show Steps p.tables e below (T11.setTop (mkF m 231 #[oJ p1, oS, oI p2, oJ p3, oS, oJ p4, oS, oI p5, oI p6, oJ s1, oS, oJ s2, oS, oJ s3, oS, oI wd, oJ q, oS, oJ t1, oS, oJ t2, oS, oJ t3, oS, oJ tn, oS, oJ nn, oS, oR ob1, oI (1 : Int32), oJ t1, oS, oU] [(.long t1)])) t₀
          refine XS.lload X11.here hx rfl (hb hby at_231) rfl ?_
          show Steps p.tables e below (T11.setTop (mkF m 233 #[oJ p1, oS, oI p2, oJ p3, oS, oJ p4, oS, oI p5, oI p6, oJ s1, oS, oJ s2, oS, oJ s3, oS, oI wd, oJ q, oS, oJ t1, oS, oJ t2, oS, oJ t3, oS, oJ tn, oS, oJ nn, oS, oR ob1, oI (1 : Int32), oJ t1, oS, oU] [(.long t1), (.long t1)])) t₀
          refine XS.lcmp X11.here hx rfl (hb hby at_233) rfl ?_
          show Steps p.tables e below (T11.setTop (mkF m 234 #[oJ p1, oS, oI p2, oJ p3, oS, oJ p4, oS, oI p5, oI p6, oJ s1, oS, oJ s2, oS, oJ s3, oS, oI wd, oJ q, oS, oJ t1, oS, oJ t2, oS, oJ t3, oS, oJ tn, oS, oJ nn, oS, oR ob1, oI (1 : Int32), oJ t1, oS, oU] [(.int (lcmpW t1 t1))])) t₀
          refine XS.ifNo X11.here hx rfl (hb hby at_234) rfl ((if0 _ _).trans (teq ((lw_eq t1 t1).mpr rfl)).2) ?_
          show Steps p.tables e below (T11.setTop (mkF m 237 #[oJ p1, oS, oI p2, oJ p3, oS, oJ p4, oS, oI p5, oI p6, oJ s1, oS, oJ s2, oS, oJ s3, oS, oI wd, oJ q, oS, oJ t1, oS, oJ t2, oS, oJ t3, oS, oJ tn, oS, oJ nn, oS, oR ob1, oI (1 : Int32), oJ t1, oS, oU] [])) t₀
          refine XS.iconst X11.here hx rfl (hb hby at_237) ?_
          show Steps p.tables e below (T11.setTop (mkF m 238 #[oJ p1, oS, oI p2, oJ p3, oS, oJ p4, oS, oI p5, oI p6, oJ s1, oS, oJ s2, oS, oJ s3, oS, oI wd, oJ q, oS, oJ t1, oS, oJ t2, oS, oJ t3, oS, oJ tn, oS, oJ nn, oS, oR ob1, oI (1 : Int32), oJ t1, oS, oU] [(.int (1 : Int32))])) t₀
          refine XS.goto X11.here hx rfl (pc0 := 238) (pc' := 242) rfl (hb hby at_238) (by decide) (by decide) ?_
          show Steps p.tables e below (T11.setTop (mkF m 242 #[oJ p1, oS, oI p2, oJ p3, oS, oJ p4, oS, oI p5, oI p6, oJ s1, oS, oJ s2, oS, oJ s3, oS, oI wd, oJ q, oS, oJ t1, oS, oJ t2, oS, oJ t3, oS, oJ tn, oS, oJ nn, oS, oR ob1, oI (1 : Int32), oJ t1, oS, oU] [(.int (1 : Int32))])) t₀
          refine XS.istore X11.here hx rfl (hb hby at_242) rfl (l' := #[oJ p1, oS, oI p2, oJ p3, oS, oJ p4, oS, oI p5, oI p6, oJ s1, oS, oJ s2, oS, oJ s3, oS, oI wd, oJ q, oS, oJ t1, oS, oJ t2, oS, oJ t3, oS, oJ tn, oS, oJ nn, oS, oR ob1, oI (1 : Int32), oJ t1, oS, oU]) rfl ?_
          show Steps p.tables e below (T11.setTop (mkF m 244 #[oJ p1, oS, oI p2, oJ p3, oS, oJ p4, oS, oI p5, oI p6, oJ s1, oS, oJ s2, oS, oJ s3, oS, oI wd, oJ q, oS, oJ t1, oS, oJ t2, oS, oJ t3, oS, oJ tn, oS, oJ nn, oS, oR ob1, oI (1 : Int32), oJ t1, oS, oU] [])) t₀
          refine XS.aload X11.here hx rfl (hb hby at_244) rfl rfl ?_
          show Steps p.tables e below (T11.setTop (mkF m 246 #[oJ p1, oS, oI p2, oJ p3, oS, oJ p4, oS, oI p5, oI p6, oJ s1, oS, oJ s2, oS, oJ s3, oS, oI wd, oJ q, oS, oJ t1, oS, oJ t2, oS, oJ t3, oS, oJ tn, oS, oJ nn, oS, oR ob1, oI (1 : Int32), oJ t1, oS, oU] [(.ref ob1)])) t₀
          refine XS.lload X11.here hx rfl (hb hby at_246) rfl ?_
          show Steps p.tables e below (T11.setTop (mkF m 248 #[oJ p1, oS, oI p2, oJ p3, oS, oJ p4, oS, oI p5, oI p6, oJ s1, oS, oJ s2, oS, oJ s3, oS, oI wd, oJ q, oS, oJ t1, oS, oJ t2, oS, oJ t3, oS, oJ tn, oS, oJ nn, oS, oR ob1, oI (1 : Int32), oJ t1, oS, oU] [(.long nn), (.ref ob1)])) t₀
          refine XS.lload X11.here hx rfl (hb hby at_248) rfl ?_
          exact k₀
        obtain ⟨cq12, kq12, q12a, q12b, q12c⟩ := isOf hZ e11 eob1_x10
        obtain ⟨_, _, ⟨T12, L12, k12, n12⟩, -, X12, ⟨Lc12, hQ12, l12, y12, z12⟩, st12⟩ := X11.virtualBack hx (y := (⟨"com/example/opledger/opledger/AppendTimes", "record", "(JJ)V"⟩ : MethodName)) (z := (⟨"com/example/opledger/opledger/AppendTimes", "record", "(JJ)V"⟩ : MethodName)) hown (mvT hZ (hw _ (List.mem_of_getElem? (i := 28) rfl))) (mvT hZ (hw _ (List.mem_of_getElem? (i := 29) rfl))) (notFace_of_selects (args := #[]) (mvT hZ (hw _ (List.mem_of_getElem? (i := 31) rfl)))) (mvT hZ (hw _ (List.mem_of_getElem? (i := 31) rfl))) (mvT hZ (hw _ (List.mem_of_getElem? (i := 30) rfl))) (by decide) (backOf (W := 0) (rmRM l Z a0 hw [] ob1 nn tn S3 W3T W3E kS3 kT3 kE3 (0 : Int32) s3 s1 t1 t1 s2 t2 t2 s3 t3 t3 (0 : Int64) (0 : Int64) (0 : Int64) (0 : Int64) (0 : Int64) (0 : Int64) (0 : Int64) (0 : Int64) (0 : Int64) (0 : Int64) (0 : Int64) (0 : Int64) (0 : Int64) (0 : Int64) (0 : Int64) T10.heap n0 z_x10 eob1_x10 f10_0 f10_1 f10_2 f10_3 f10_4 f10_5 f10_6 f10_7 f10_8 f10_9 g_ob1 g3_0 g3_1 g3_2 d3_0 d3_1 d3_2 d3_3 d3_4 d3_5 h3n (by decide) hGp) hZ (hw _ (List.mem_of_getElem? (i := 32) rfl)) (hw _ (List.mem_of_getElem? (i := 6) rfl)) (by decide) (by decide)) q12a q12c (g := (mkF m 250 #[oJ p1, oS, oI p2, oJ p3, oS, oJ p4, oS, oI p5, oI p6, oJ s1, oS, oJ s2, oS, oJ s3, oS, oI wd, oJ q, oS, oJ t1, oS, oJ t2, oS, oJ t3, oS, oJ tn, oS, oJ nn, oS, oR ob1, oI (1 : Int32), oJ t1, oS, oU] [(.long tn), (.long nn), (.ref ob1)])) rfl (by rw [hml]; rfl) (Steps.refl _) (argsL := [(.long nn), (.long tn)]) (rest := []) (lenOf pd_1 rfl) rfl (by show 2 * 0 + _ ≤ _; exact Nat.le_of_eq rfl) (hb hby at_250) (fun _ _ => ⟨rfl, e11, (by decide : 4 + 0 ≤ _), (by decide : 31 + 0 ≤ _)⟩)
        dsimp only [Pt.U, Pt.locs, Pt.cells, Pt.slots] at X12 l12 y12 z12 st12 hQ12
        subst l12 y12 z12
        obtain ⟨rfl, N12q, K12, f12_0, f12_1, f12_2, f12_3, f12_4, f12_5, f12_6, f12_7, f12_8, f12_9⟩ := hQ12
        have N12 := Fr.app N11 N12q
        refine hG _ _ (fun t₀ k₀ => st12.trans k₀) ?_
        have z_x12 := Nat.le_trans z_x10 K12.1
        have o_x12 := o_x10.keep K12 (allS g_ob1 (allS g3_0 (allS g3_1 (allS g3_2 all0))))
        have eob1_x12 := eob1_x10.keep K12
        show G (T12.setTop (mkF m 253 #[oJ p1, oS, oI p2, oJ p3, oS, oJ p4, oS, oI p5, oI p6, oJ s1, oS, oJ s2, oS, oJ s3, oS, oI wd, oJ q, oS, oJ t1, oS, oJ t2, oS, oJ t3, oS, oJ tn, oS, oJ nn, oS, oR ob1, oI (1 : Int32), oJ t1, oS, oU] []))
        refine hG _ (T12.setTop (mkF m 288 #[oJ p1, oS, oI p2, oJ p3, oS, oJ p4, oS, oI p5, oI p6, oJ s1, oS, oJ s2, oS, oJ s3, oS, oI wd, oJ q, oS, oJ t1, oS, oJ t2, oS, oJ t3, oS, oJ tn, oS, oJ nn, oS, oR ob1, oI (1 : Int32), oJ t3, oS, oU] [(.long s3), (.ref ob1)])) (fun t₀ k₀ => ?_) ?_
        · show Steps p.tables e below (T12.setTop (mkF m 253 #[oJ p1, oS, oI p2, oJ p3, oS, oJ p4, oS, oI p5, oI p6, oJ s1, oS, oJ s2, oS, oJ s3, oS, oI wd, oJ q, oS, oJ t1, oS, oJ t2, oS, oJ t3, oS, oJ tn, oS, oJ nn, oS, oR ob1, oI (1 : Int32), oJ t1, oS, oU] [])) t₀
          refine XS.lload X12.here hx rfl (hb hby at_253) rfl ?_
          show Steps p.tables e below (T12.setTop (mkF m 255 #[oJ p1, oS, oI p2, oJ p3, oS, oJ p4, oS, oI p5, oI p6, oJ s1, oS, oJ s2, oS, oJ s3, oS, oI wd, oJ q, oS, oJ t1, oS, oJ t2, oS, oJ t3, oS, oJ tn, oS, oJ nn, oS, oR ob1, oI (1 : Int32), oJ t1, oS, oU] [(.long q)])) t₀
          refine XS.lload X12.here hx rfl (hb hby at_255) rfl ?_
          show Steps p.tables e below (T12.setTop (mkF m 257 #[oJ p1, oS, oI p2, oJ p3, oS, oJ p4, oS, oI p5, oI p6, oJ s1, oS, oJ s2, oS, oJ s3, oS, oI wd, oJ q, oS, oJ t1, oS, oJ t2, oS, oJ t3, oS, oJ tn, oS, oJ nn, oS, oR ob1, oI (1 : Int32), oJ t1, oS, oU] [(.long s3), (.long q)])) t₀
          refine XS.lcmp X12.here hx rfl (hb hby at_257) rfl ?_
          show Steps p.tables e below (T12.setTop (mkF m 258 #[oJ p1, oS, oI p2, oJ p3, oS, oJ p4, oS, oI p5, oI p6, oJ s1, oS, oJ s2, oS, oJ s3, oS, oI wd, oJ q, oS, oJ t1, oS, oJ t2, oS, oJ t3, oS, oJ tn, oS, oJ nn, oS, oR ob1, oI (1 : Int32), oJ t1, oS, oU] [(.int (lcmpW q s3))])) t₀
          refine XS.ifNo X12.here hx rfl (hb hby at_258) rfl ((if0 _ _).trans (tlt ((lw_lt q s3).mpr (own_tr hA (own_tr h12 h23)))).2.1) ?_
          show Steps p.tables e below (T12.setTop (mkF m 261 #[oJ p1, oS, oI p2, oJ p3, oS, oJ p4, oS, oI p5, oI p6, oJ s1, oS, oJ s2, oS, oJ s3, oS, oI wd, oJ q, oS, oJ t1, oS, oJ t2, oS, oJ t3, oS, oJ tn, oS, oJ nn, oS, oR ob1, oI (1 : Int32), oJ t1, oS, oU] [])) t₀
          refine XS.lload X12.here hx rfl (hb hby at_261) rfl ?_
          show Steps p.tables e below (T12.setTop (mkF m 263 #[oJ p1, oS, oI p2, oJ p3, oS, oJ p4, oS, oI p5, oI p6, oJ s1, oS, oJ s2, oS, oJ s3, oS, oI wd, oJ q, oS, oJ t1, oS, oJ t2, oS, oJ t3, oS, oJ tn, oS, oJ nn, oS, oR ob1, oI (1 : Int32), oJ t1, oS, oU] [(.long tn)])) t₀
          refine XS.lload X12.here hx rfl (hb hby at_263) rfl ?_
          show Steps p.tables e below (T12.setTop (mkF m 265 #[oJ p1, oS, oI p2, oJ p3, oS, oJ p4, oS, oI p5, oI p6, oJ s1, oS, oJ s2, oS, oJ s3, oS, oI wd, oJ q, oS, oJ t1, oS, oJ t2, oS, oJ t3, oS, oJ tn, oS, oJ nn, oS, oR ob1, oI (1 : Int32), oJ t1, oS, oU] [(.long t3), (.long tn)])) t₀
          refine XS.lsub X12.here hx rfl (hb hby at_265) rfl ?_
          show Steps p.tables e below (T12.setTop (mkF m 266 #[oJ p1, oS, oI p2, oJ p3, oS, oJ p4, oS, oI p5, oI p6, oJ s1, oS, oJ s2, oS, oJ s3, oS, oI wd, oJ q, oS, oJ t1, oS, oJ t2, oS, oJ t3, oS, oJ tn, oS, oJ nn, oS, oR ob1, oI (1 : Int32), oJ t1, oS, oU] [(.long (tn - t3))])) t₀
          refine X12.ldc2Long hx hown (mvT hZ (hw _ (List.mem_of_getElem? (i := 66) rfl))) (g := (mkF m 266 #[oJ p1, oS, oI p2, oJ p3, oS, oJ p4, oS, oI p5, oI p6, oJ s1, oS, oJ s2, oS, oJ s3, oS, oI wd, oJ q, oS, oJ t1, oS, oJ t2, oS, oJ t3, oS, oJ tn, oS, oJ nn, oS, oR ob1, oI (1 : Int32), oJ t1, oS, oU] [(.long (tn - t3))])) rfl (hb hby at_266) _ ?_
          show Steps p.tables e below (T12.setTop (mkF m 269 #[oJ p1, oS, oI p2, oJ p3, oS, oJ p4, oS, oI p5, oI p6, oJ s1, oS, oJ s2, oS, oJ s3, oS, oI wd, oJ q, oS, oJ t1, oS, oJ t2, oS, oJ t3, oS, oJ tn, oS, oJ nn, oS, oR ob1, oI (1 : Int32), oJ t1, oS, oU] [(.long (1000000 : Int64)), (.long (tn - t3))])) t₀
          refine XS.lcmp X12.here hx rfl (hb hby at_269) rfl ?_
          show Steps p.tables e below (T12.setTop (mkF m 270 #[oJ p1, oS, oI p2, oJ p3, oS, oJ p4, oS, oI p5, oI p6, oJ s1, oS, oJ s2, oS, oJ s3, oS, oI wd, oJ q, oS, oJ t1, oS, oJ t2, oS, oJ t3, oS, oJ tn, oS, oJ nn, oS, oR ob1, oI (1 : Int32), oJ t1, oS, oU] [(.int (lcmpW (tn - t3) (1000000 : Int64)))])) t₀
          refine XS.ifNo X12.here hx rfl (hb hby at_270) rfl ((if0 _ _).trans (flt (fun z => hGp ((lw_gt (tn - t3) (1000000 : Int64)).mp z))).2.2.1) ?_
          show Steps p.tables e below (T12.setTop (mkF m 273 #[oJ p1, oS, oI p2, oJ p3, oS, oJ p4, oS, oI p5, oI p6, oJ s1, oS, oJ s2, oS, oJ s3, oS, oI wd, oJ q, oS, oJ t1, oS, oJ t2, oS, oJ t3, oS, oJ tn, oS, oJ nn, oS, oR ob1, oI (1 : Int32), oJ t1, oS, oU] [])) t₀
          refine XS.lload X12.here hx rfl (hb hby at_273) rfl ?_
          show Steps p.tables e below (T12.setTop (mkF m 275 #[oJ p1, oS, oI p2, oJ p3, oS, oJ p4, oS, oI p5, oI p6, oJ s1, oS, oJ s2, oS, oJ s3, oS, oI wd, oJ q, oS, oJ t1, oS, oJ t2, oS, oJ t3, oS, oJ tn, oS, oJ nn, oS, oR ob1, oI (1 : Int32), oJ t1, oS, oU] [(.long t3)])) t₀
          refine XS.lstore X12.here hx rfl (hb hby at_275) rfl (l' := #[oJ p1, oS, oI p2, oJ p3, oS, oJ p4, oS, oI p5, oI p6, oJ s1, oS, oJ s2, oS, oJ s3, oS, oI wd, oJ q, oS, oJ t1, oS, oJ t2, oS, oJ t3, oS, oJ tn, oS, oJ nn, oS, oR ob1, oI (1 : Int32), oJ t3, oS, oU]) rfl ?_
          show Steps p.tables e below (T12.setTop (mkF m 277 #[oJ p1, oS, oI p2, oJ p3, oS, oJ p4, oS, oI p5, oI p6, oJ s1, oS, oJ s2, oS, oJ s3, oS, oI wd, oJ q, oS, oJ t1, oS, oJ t2, oS, oJ t3, oS, oJ tn, oS, oJ nn, oS, oR ob1, oI (1 : Int32), oJ t3, oS, oU] [])) t₀
          refine XS.goto X12.here hx rfl (pc0 := 277) (pc' := 284) rfl (hb hby at_277) (by decide) (by decide) ?_
          show Steps p.tables e below (T12.setTop (mkF m 284 #[oJ p1, oS, oI p2, oJ p3, oS, oJ p4, oS, oI p5, oI p6, oJ s1, oS, oJ s2, oS, oJ s3, oS, oI wd, oJ q, oS, oJ t1, oS, oJ t2, oS, oJ t3, oS, oJ tn, oS, oJ nn, oS, oR ob1, oI (1 : Int32), oJ t3, oS, oU] [])) t₀
          refine XS.aload X12.here hx rfl (hb hby at_284) rfl rfl ?_
          show Steps p.tables e below (T12.setTop (mkF m 286 #[oJ p1, oS, oI p2, oJ p3, oS, oJ p4, oS, oI p5, oI p6, oJ s1, oS, oJ s2, oS, oJ s3, oS, oI wd, oJ q, oS, oJ t1, oS, oJ t2, oS, oJ t3, oS, oJ tn, oS, oJ nn, oS, oR ob1, oI (1 : Int32), oJ t3, oS, oU] [(.ref ob1)])) t₀
          refine XS.lload X12.here hx rfl (hb hby at_286) rfl ?_
          exact k₀
        obtain ⟨cq13, kq13, q13a, q13b, q13c⟩ := isOf hZ rfl eob1_x12
        obtain ⟨_, _, ⟨T13, L13, k13, n13⟩, -, X13, ⟨Lc13, hQ13, l13, y13, z13⟩, st13⟩ := X12.virtualBack hx (y := (⟨"com/example/opledger/opledger/AppendTimes", "earliestAbove", "(J)J"⟩ : MethodName)) (z := (⟨"com/example/opledger/opledger/AppendTimes", "earliestAbove", "(J)J"⟩ : MethodName)) hown (mvT hZ (hw _ (List.mem_of_getElem? (i := 61) rfl))) (mvT hZ (hw _ (List.mem_of_getElem? (i := 62) rfl))) (notFace_of_selects (args := #[]) (mvT hZ (hw _ (List.mem_of_getElem? (i := 64) rfl)))) (mvT hZ (hw _ (List.mem_of_getElem? (i := 64) rfl))) (mvT hZ (hw _ (List.mem_of_getElem? (i := 63) rfl))) (by decide) (backOf (W := 0) (rmE20 l Z a0 hw [] ob1 s3 S3 W3T kS3 kT3 s1 t1 s2 t2 nn t3 (0 : Int64) (0 : Int64) (0 : Int64) (0 : Int64) (0 : Int64) (0 : Int64) (0 : Int64) (0 : Int64) (0 : Int64) (0 : Int64) T12.heap n0 z_x12 f12_0 f12_1 f12_3 f12_4 f12_7 f12_8 (own_as h23)) hZ (hw _ (List.mem_of_getElem? (i := 65) rfl)) (hw _ (List.mem_of_getElem? (i := 6) rfl)) (by decide) (by decide)) q13a q13c (g := (mkF m 288 #[oJ p1, oS, oI p2, oJ p3, oS, oJ p4, oS, oI p5, oI p6, oJ s1, oS, oJ s2, oS, oJ s3, oS, oI wd, oJ q, oS, oJ t1, oS, oJ t2, oS, oJ t3, oS, oJ tn, oS, oJ nn, oS, oR ob1, oI (1 : Int32), oJ t3, oS, oU] [(.long s3), (.ref ob1)])) rfl (by rw [hml]; rfl) (Steps.refl _) (argsL := [(.long s3)]) (rest := []) (lenOf pd_6 rfl) rfl (by show 2 * 0 + _ ≤ _; exact Nat.le_of_eq rfl) (hb hby at_288) (fun _ _ => ⟨rfl, rfl, (by decide : 4 + 0 ≤ _), (by decide : 31 + 0 ≤ _)⟩)
        dsimp only [Pt.U, Pt.locs, Pt.cells, Pt.slots] at X13 l13 y13 z13 st13 hQ13
        subst l13 y13 z13
        obtain ⟨rfl, N13q, e13⟩ := hQ13
        have N13 := Fr.app N12 N13q
        refine hG _ _ (fun t₀ k₀ => st13.trans k₀) ?_
        show G (T13.setTop (mkF m 291 #[oJ p1, oS, oI p2, oJ p3, oS, oJ p4, oS, oI p5, oI p6, oJ s1, oS, oJ s2, oS, oJ s3, oS, oI wd, oJ q, oS, oJ t1, oS, oJ t2, oS, oJ t3, oS, oJ tn, oS, oJ nn, oS, oR ob1, oI (1 : Int32), oJ t3, oS, oU] [(.long t3)]))
        refine hG _ (T13.setTop (mkF m 319 #[oJ p1, oS, oI p2, oJ p3, oS, oJ p4, oS, oI p5, oI p6, oJ s1, oS, oJ s2, oS, oJ s3, oS, oI wd, oJ q, oS, oJ t1, oS, oJ t2, oS, oJ t3, oS, oJ tn, oS, oJ nn, oS, oR ob1, oI (1 : Int32), oJ t3, oS, oI (1 : Int32)] [(.int (1 : Int32))])) (fun t₀ k₀ => ?_) ?_
        · show Steps p.tables e below (T13.setTop (mkF m 291 #[oJ p1, oS, oI p2, oJ p3, oS, oJ p4, oS, oI p5, oI p6, oJ s1, oS, oJ s2, oS, oJ s3, oS, oI wd, oJ q, oS, oJ t1, oS, oJ t2, oS, oJ t3, oS, oJ tn, oS, oJ nn, oS, oR ob1, oI (1 : Int32), oJ t3, oS, oU] [(.long t3)])) t₀
          refine XS.lload X13.here hx rfl (hb hby at_291) rfl ?_
          show Steps p.tables e below (T13.setTop (mkF m 293 #[oJ p1, oS, oI p2, oJ p3, oS, oJ p4, oS, oI p5, oI p6, oJ s1, oS, oJ s2, oS, oJ s3, oS, oI wd, oJ q, oS, oJ t1, oS, oJ t2, oS, oJ t3, oS, oJ tn, oS, oJ nn, oS, oR ob1, oI (1 : Int32), oJ t3, oS, oU] [(.long t3), (.long t3)])) t₀
          refine XS.lcmp X13.here hx rfl (hb hby at_293) rfl ?_
          show Steps p.tables e below (T13.setTop (mkF m 294 #[oJ p1, oS, oI p2, oJ p3, oS, oJ p4, oS, oI p5, oI p6, oJ s1, oS, oJ s2, oS, oJ s3, oS, oI wd, oJ q, oS, oJ t1, oS, oJ t2, oS, oJ t3, oS, oJ tn, oS, oJ nn, oS, oR ob1, oI (1 : Int32), oJ t3, oS, oU] [(.int (lcmpW t3 t3))])) t₀
          refine XS.ifNo X13.here hx rfl (hb hby at_294) rfl ((if0 _ _).trans (teq ((lw_eq t3 t3).mpr rfl)).2) ?_
          show Steps p.tables e below (T13.setTop (mkF m 297 #[oJ p1, oS, oI p2, oJ p3, oS, oJ p4, oS, oI p5, oI p6, oJ s1, oS, oJ s2, oS, oJ s3, oS, oI wd, oJ q, oS, oJ t1, oS, oJ t2, oS, oJ t3, oS, oJ tn, oS, oJ nn, oS, oR ob1, oI (1 : Int32), oJ t3, oS, oU] [])) t₀
          refine XS.iconst X13.here hx rfl (hb hby at_297) ?_
          show Steps p.tables e below (T13.setTop (mkF m 298 #[oJ p1, oS, oI p2, oJ p3, oS, oJ p4, oS, oI p5, oI p6, oJ s1, oS, oJ s2, oS, oJ s3, oS, oI wd, oJ q, oS, oJ t1, oS, oJ t2, oS, oJ t3, oS, oJ tn, oS, oJ nn, oS, oR ob1, oI (1 : Int32), oJ t3, oS, oU] [(.int (1 : Int32))])) t₀
          refine XS.goto X13.here hx rfl (pc0 := 298) (pc' := 302) rfl (hb hby at_298) (by decide) (by decide) ?_
          show Steps p.tables e below (T13.setTop (mkF m 302 #[oJ p1, oS, oI p2, oJ p3, oS, oJ p4, oS, oI p5, oI p6, oJ s1, oS, oJ s2, oS, oJ s3, oS, oI wd, oJ q, oS, oJ t1, oS, oJ t2, oS, oJ t3, oS, oJ tn, oS, oJ nn, oS, oR ob1, oI (1 : Int32), oJ t3, oS, oU] [(.int (1 : Int32))])) t₀
          refine XS.istore X13.here hx rfl (hb hby at_302) rfl (l' := #[oJ p1, oS, oI p2, oJ p3, oS, oJ p4, oS, oI p5, oI p6, oJ s1, oS, oJ s2, oS, oJ s3, oS, oI wd, oJ q, oS, oJ t1, oS, oJ t2, oS, oJ t3, oS, oJ tn, oS, oJ nn, oS, oR ob1, oI (1 : Int32), oJ t3, oS, oI (1 : Int32)]) rfl ?_
          show Steps p.tables e below (T13.setTop (mkF m 304 #[oJ p1, oS, oI p2, oJ p3, oS, oJ p4, oS, oI p5, oI p6, oJ s1, oS, oJ s2, oS, oJ s3, oS, oI wd, oJ q, oS, oJ t1, oS, oJ t2, oS, oJ t3, oS, oJ tn, oS, oJ nn, oS, oR ob1, oI (1 : Int32), oJ t3, oS, oI (1 : Int32)] [])) t₀
          refine XS.iload X13.here hx rfl (hb hby at_304) rfl ?_
          show Steps p.tables e below (T13.setTop (mkF m 306 #[oJ p1, oS, oI p2, oJ p3, oS, oJ p4, oS, oI p5, oI p6, oJ s1, oS, oJ s2, oS, oJ s3, oS, oI wd, oJ q, oS, oJ t1, oS, oJ t2, oS, oJ t3, oS, oJ tn, oS, oJ nn, oS, oR ob1, oI (1 : Int32), oJ t3, oS, oI (1 : Int32)] [(.int (1 : Int32))])) t₀
          refine XS.ifNo X13.here hx rfl (hb hby at_306) rfl ((if0 _ _).trans (feq (by decide : ¬ ((1 : Int32) = (0 : Int32)))).1) ?_
          show Steps p.tables e below (T13.setTop (mkF m 309 #[oJ p1, oS, oI p2, oJ p3, oS, oJ p4, oS, oI p5, oI p6, oJ s1, oS, oJ s2, oS, oJ s3, oS, oI wd, oJ q, oS, oJ t1, oS, oJ t2, oS, oJ t3, oS, oJ tn, oS, oJ nn, oS, oR ob1, oI (1 : Int32), oJ t3, oS, oI (1 : Int32)] [])) t₀
          refine XS.iload X13.here hx rfl (hb hby at_309) rfl ?_
          show Steps p.tables e below (T13.setTop (mkF m 311 #[oJ p1, oS, oI p2, oJ p3, oS, oJ p4, oS, oI p5, oI p6, oJ s1, oS, oJ s2, oS, oJ s3, oS, oI wd, oJ q, oS, oJ t1, oS, oJ t2, oS, oJ t3, oS, oJ tn, oS, oJ nn, oS, oR ob1, oI (1 : Int32), oJ t3, oS, oI (1 : Int32)] [(.int (1 : Int32))])) t₀
          refine XS.ifNo X13.here hx rfl (hb hby at_311) rfl ((if0 _ _).trans (feq (by decide : ¬ ((1 : Int32) = (0 : Int32)))).1) ?_
          show Steps p.tables e below (T13.setTop (mkF m 314 #[oJ p1, oS, oI p2, oJ p3, oS, oJ p4, oS, oI p5, oI p6, oJ s1, oS, oJ s2, oS, oJ s3, oS, oI wd, oJ q, oS, oJ t1, oS, oJ t2, oS, oJ t3, oS, oJ tn, oS, oJ nn, oS, oR ob1, oI (1 : Int32), oJ t3, oS, oI (1 : Int32)] [])) t₀
          refine XS.iconst X13.here hx rfl (hb hby at_314) ?_
          show Steps p.tables e below (T13.setTop (mkF m 315 #[oJ p1, oS, oI p2, oJ p3, oS, oJ p4, oS, oI p5, oI p6, oJ s1, oS, oJ s2, oS, oJ s3, oS, oI wd, oJ q, oS, oJ t1, oS, oJ t2, oS, oJ t3, oS, oJ tn, oS, oJ nn, oS, oR ob1, oI (1 : Int32), oJ t3, oS, oI (1 : Int32)] [(.int (1 : Int32))])) t₀
          refine XS.goto X13.here hx rfl (pc0 := 315) (pc' := 319) rfl (hb hby at_315) (by decide) (by decide) ?_
          exact k₀
        refine hF _ T13 _ _ _ (some (.int (1 : Int32))) _ X13 e13 (fun h => by rw [hrt] at h; cases h) (by decide) (by decide) ?_ (fun fs hr => retN X13 hx (t := .boolean) hrt (by simp) (hb hby at_319) hr)
        exact ⟨rfl, N13⟩
    ·
      by_cases hB : q < s2
      ·
        by_cases hGp : (1000000 : Int64) < (tn - t3)
        ·
          refine hG _ (T5.setTop (mkF m 180 #[oJ p1, oS, oI p2, oJ p3, oS, oJ p4, oS, oI p5, oI p6, oJ s1, oS, oJ s2, oS, oJ s3, oS, oI wd, oJ q, oS, oJ t1, oS, oJ t2, oS, oJ t3, oS, oJ tn, oS, oJ nn, oS, oR ob1, oU, oU, oU, oU] [(.long q), (.ref ob1)])) (fun t₀ k₀ => ?_) ?_
          · show Steps p.tables e below (T5.setTop (mkF m 176 #[oJ p1, oS, oI p2, oJ p3, oS, oJ p4, oS, oI p5, oI p6, oJ s1, oS, oJ s2, oS, oJ s3, oS, oI wd, oJ q, oS, oJ t1, oS, oJ t2, oS, oJ t3, oS, oJ tn, oS, oJ nn, oS, oR ob1, oU, oU, oU, oU] [])) t₀
            refine XS.aload X5.here hx rfl (hb hby at_176) rfl rfl ?_
            show Steps p.tables e below (T5.setTop (mkF m 178 #[oJ p1, oS, oI p2, oJ p3, oS, oJ p4, oS, oI p5, oI p6, oJ s1, oS, oJ s2, oS, oJ s3, oS, oI wd, oJ q, oS, oJ t1, oS, oJ t2, oS, oJ t3, oS, oJ tn, oS, oJ nn, oS, oR ob1, oU, oU, oU, oU] [(.ref ob1)])) t₀
            refine XS.lload X5.here hx rfl (hb hby at_178) rfl ?_
            exact k₀
          obtain ⟨cq14, kq14, q14a, q14b, q14c⟩ := isOf hZ rfl eob1_x5
          obtain ⟨_, _, ⟨T14, L14, k14, n14⟩, -, X14, ⟨Lc14, hQ14, l14, y14, z14⟩, st14⟩ := X5.virtualBack hx (y := (⟨"com/example/opledger/opledger/AppendTimes", "forgetUpTo", "(J)V"⟩ : MethodName)) (z := (⟨"com/example/opledger/opledger/AppendTimes", "forgetUpTo", "(J)V"⟩ : MethodName)) hown (mvT hZ (hw _ (List.mem_of_getElem? (i := 56) rfl))) (mvT hZ (hw _ (List.mem_of_getElem? (i := 57) rfl))) (notFace_of_selects (args := #[]) (mvT hZ (hw _ (List.mem_of_getElem? (i := 59) rfl)))) (mvT hZ (hw _ (List.mem_of_getElem? (i := 59) rfl))) (mvT hZ (hw _ (List.mem_of_getElem? (i := 58) rfl))) (by decide) (backOf (W := 0) (rmF1 l Z a0 hw [] ob1 q wN kN S3 W3T W3E kS3 kT3 kE3 s3 s1 t1 t1 s2 t2 t2 s3 t3 t3 (0 : Int64) (0 : Int64) (0 : Int64) (0 : Int64) (0 : Int64) (0 : Int64) (0 : Int64) (0 : Int64) (0 : Int64) (0 : Int64) (0 : Int64) (0 : Int64) (0 : Int64) (0 : Int64) (0 : Int64) T5.heap n0 z_x5 o_x5 S_NO VN eob1_x5 f5_0 f5_1 f5_2 f5_3 f5_4 f5_5 f5_6 f5_7 f5_8 f5_9 g_ob1 g3_0 g3_1 g3_2 d3_0 d3_1 d3_2 d3_3 d3_4 d3_5 hA hB) hZ (hw _ (List.mem_of_getElem? (i := 60) rfl)) (hw _ (List.mem_of_getElem? (i := 6) rfl)) (by decide) (by decide)) q14a q14c (g := (mkF m 180 #[oJ p1, oS, oI p2, oJ p3, oS, oJ p4, oS, oI p5, oI p6, oJ s1, oS, oJ s2, oS, oJ s3, oS, oI wd, oJ q, oS, oJ t1, oS, oJ t2, oS, oJ t3, oS, oJ tn, oS, oJ nn, oS, oR ob1, oU, oU, oU, oU] [(.long q), (.ref ob1)])) rfl (by rw [hml]; rfl) (Steps.refl _) (argsL := [(.long q)]) (rest := []) (lenOf pd_5 rfl) rfl (by show 2 * 0 + _ ≤ _; exact Nat.le_of_eq rfl) (hb hby at_180) (fun _ _ => ⟨rfl, rfl, (by decide : 4 + 0 ≤ _), (by decide : 31 + 0 ≤ _)⟩)
          dsimp only [Pt.U, Pt.locs, Pt.cells, Pt.slots] at X14 l14 y14 z14 st14 hQ14
          subst l14 y14 z14
          obtain ⟨rfl, N14q, K14, f14_0, f14_1, f14_2, f14_3, f14_4, f14_5, f14_6, f14_7, f14_8, f14_9⟩ := hQ14
          have N14 := Fr.app N5 N14q
          refine hG _ _ (fun t₀ k₀ => st14.trans k₀) ?_
          have z_x14 := Nat.le_trans z_x5 K14.1
          have o_x14 := o_x5.keep K14 (allS g_ob1 all0)
          have eob1_x14 := eob1_x5.keep K14
          have vS3_x14 := f5_7.keep K14 (ninS (Ne.symm d3_0) nin0)
          have vW3T_x14 := f5_8.keep K14 (ninS (Ne.symm d3_1) nin0)
          have vW3E_x14 := f5_9.keep K14 (ninS (Ne.symm d3_2) nin0)
          show G (T14.setTop (mkF m 183 #[oJ p1, oS, oI p2, oJ p3, oS, oJ p4, oS, oI p5, oI p6, oJ s1, oS, oJ s2, oS, oJ s3, oS, oI wd, oJ q, oS, oJ t1, oS, oJ t2, oS, oJ t3, oS, oJ tn, oS, oJ nn, oS, oR ob1, oU, oU, oU, oU] []))
          refine hG _ (T14.setTop (mkF m 228 #[oJ p1, oS, oI p2, oJ p3, oS, oJ p4, oS, oI p5, oI p6, oJ s1, oS, oJ s2, oS, oJ s3, oS, oI wd, oJ q, oS, oJ t1, oS, oJ t2, oS, oJ t3, oS, oJ tn, oS, oJ nn, oS, oR ob1, oI (1 : Int32), oJ t2, oS, oU] [(.long q), (.ref ob1)])) (fun t₀ k₀ => ?_) ?_
          · show Steps p.tables e below (T14.setTop (mkF m 183 #[oJ p1, oS, oI p2, oJ p3, oS, oJ p4, oS, oI p5, oI p6, oJ s1, oS, oJ s2, oS, oJ s3, oS, oI wd, oJ q, oS, oJ t1, oS, oJ t2, oS, oJ t3, oS, oJ tn, oS, oJ nn, oS, oR ob1, oU, oU, oU, oU] [])) t₀
            refine XS.iconst X14.here hx rfl (hb hby at_183) ?_
            show Steps p.tables e below (T14.setTop (mkF m 184 #[oJ p1, oS, oI p2, oJ p3, oS, oJ p4, oS, oI p5, oI p6, oJ s1, oS, oJ s2, oS, oJ s3, oS, oI wd, oJ q, oS, oJ t1, oS, oJ t2, oS, oJ t3, oS, oJ tn, oS, oJ nn, oS, oR ob1, oU, oU, oU, oU] [(.int (1 : Int32))])) t₀
            refine XS.istore X14.here hx rfl (hb hby at_184) rfl (l' := #[oJ p1, oS, oI p2, oJ p3, oS, oJ p4, oS, oI p5, oI p6, oJ s1, oS, oJ s2, oS, oJ s3, oS, oI wd, oJ q, oS, oJ t1, oS, oJ t2, oS, oJ t3, oS, oJ tn, oS, oJ nn, oS, oR ob1, oI (1 : Int32), oU, oU, oU]) rfl ?_
            show Steps p.tables e below (T14.setTop (mkF m 186 #[oJ p1, oS, oI p2, oJ p3, oS, oJ p4, oS, oI p5, oI p6, oJ s1, oS, oJ s2, oS, oJ s3, oS, oI wd, oJ q, oS, oJ t1, oS, oJ t2, oS, oJ t3, oS, oJ tn, oS, oJ nn, oS, oR ob1, oI (1 : Int32), oU, oU, oU] [])) t₀
            refine XS.lload X14.here hx rfl (hb hby at_186) rfl ?_
            show Steps p.tables e below (T14.setTop (mkF m 188 #[oJ p1, oS, oI p2, oJ p3, oS, oJ p4, oS, oI p5, oI p6, oJ s1, oS, oJ s2, oS, oJ s3, oS, oI wd, oJ q, oS, oJ t1, oS, oJ t2, oS, oJ t3, oS, oJ tn, oS, oJ nn, oS, oR ob1, oI (1 : Int32), oU, oU, oU] [(.long q)])) t₀
            refine XS.lload X14.here hx rfl (hb hby at_188) rfl ?_
            show Steps p.tables e below (T14.setTop (mkF m 190 #[oJ p1, oS, oI p2, oJ p3, oS, oJ p4, oS, oI p5, oI p6, oJ s1, oS, oJ s2, oS, oJ s3, oS, oI wd, oJ q, oS, oJ t1, oS, oJ t2, oS, oJ t3, oS, oJ tn, oS, oJ nn, oS, oR ob1, oI (1 : Int32), oU, oU, oU] [(.long s3), (.long q)])) t₀
            refine XS.lcmp X14.here hx rfl (hb hby at_190) rfl ?_
            show Steps p.tables e below (T14.setTop (mkF m 191 #[oJ p1, oS, oI p2, oJ p3, oS, oJ p4, oS, oI p5, oI p6, oJ s1, oS, oJ s2, oS, oJ s3, oS, oI wd, oJ q, oS, oJ t1, oS, oJ t2, oS, oJ t3, oS, oJ tn, oS, oJ nn, oS, oR ob1, oI (1 : Int32), oU, oU, oU] [(.int (lcmpW q s3))])) t₀
            refine XS.ifNo X14.here hx rfl (hb hby at_191) rfl ((if0 _ _).trans (tlt ((lw_lt q s3).mpr (own_tr hB h23))).2.1) ?_
            show Steps p.tables e below (T14.setTop (mkF m 194 #[oJ p1, oS, oI p2, oJ p3, oS, oJ p4, oS, oI p5, oI p6, oJ s1, oS, oJ s2, oS, oJ s3, oS, oI wd, oJ q, oS, oJ t1, oS, oJ t2, oS, oJ t3, oS, oJ tn, oS, oJ nn, oS, oR ob1, oI (1 : Int32), oU, oU, oU] [])) t₀
            refine XS.lload X14.here hx rfl (hb hby at_194) rfl ?_
            show Steps p.tables e below (T14.setTop (mkF m 196 #[oJ p1, oS, oI p2, oJ p3, oS, oJ p4, oS, oI p5, oI p6, oJ s1, oS, oJ s2, oS, oJ s3, oS, oI wd, oJ q, oS, oJ t1, oS, oJ t2, oS, oJ t3, oS, oJ tn, oS, oJ nn, oS, oR ob1, oI (1 : Int32), oU, oU, oU] [(.long q)])) t₀
            refine XS.lload X14.here hx rfl (hb hby at_196) rfl ?_
            show Steps p.tables e below (T14.setTop (mkF m 198 #[oJ p1, oS, oI p2, oJ p3, oS, oJ p4, oS, oI p5, oI p6, oJ s1, oS, oJ s2, oS, oJ s3, oS, oI wd, oJ q, oS, oJ t1, oS, oJ t2, oS, oJ t3, oS, oJ tn, oS, oJ nn, oS, oR ob1, oI (1 : Int32), oU, oU, oU] [(.long s1), (.long q)])) t₀
            refine XS.lcmp X14.here hx rfl (hb hby at_198) rfl ?_
            show Steps p.tables e below (T14.setTop (mkF m 199 #[oJ p1, oS, oI p2, oJ p3, oS, oJ p4, oS, oI p5, oI p6, oJ s1, oS, oJ s2, oS, oJ s3, oS, oI wd, oJ q, oS, oJ t1, oS, oJ t2, oS, oJ t3, oS, oJ tn, oS, oJ nn, oS, oR ob1, oI (1 : Int32), oU, oU, oU] [(.int (lcmpW q s1))])) t₀
            refine XS.ifYes X14.here hx rfl (pc0 := 199) (pc' := 207) rfl (hb hby at_199) rfl ((if0 _ _).trans (flt (fun z => hA ((lw_lt q s1).mp z))).2.1) (by decide) (by decide) ?_
            show Steps p.tables e below (T14.setTop (mkF m 207 #[oJ p1, oS, oI p2, oJ p3, oS, oJ p4, oS, oI p5, oI p6, oJ s1, oS, oJ s2, oS, oJ s3, oS, oI wd, oJ q, oS, oJ t1, oS, oJ t2, oS, oJ t3, oS, oJ tn, oS, oJ nn, oS, oR ob1, oI (1 : Int32), oU, oU, oU] [])) t₀
            refine XS.lload X14.here hx rfl (hb hby at_207) rfl ?_
            show Steps p.tables e below (T14.setTop (mkF m 209 #[oJ p1, oS, oI p2, oJ p3, oS, oJ p4, oS, oI p5, oI p6, oJ s1, oS, oJ s2, oS, oJ s3, oS, oI wd, oJ q, oS, oJ t1, oS, oJ t2, oS, oJ t3, oS, oJ tn, oS, oJ nn, oS, oR ob1, oI (1 : Int32), oU, oU, oU] [(.long q)])) t₀
            refine XS.lload X14.here hx rfl (hb hby at_209) rfl ?_
            show Steps p.tables e below (T14.setTop (mkF m 211 #[oJ p1, oS, oI p2, oJ p3, oS, oJ p4, oS, oI p5, oI p6, oJ s1, oS, oJ s2, oS, oJ s3, oS, oI wd, oJ q, oS, oJ t1, oS, oJ t2, oS, oJ t3, oS, oJ tn, oS, oJ nn, oS, oR ob1, oI (1 : Int32), oU, oU, oU] [(.long s2), (.long q)])) t₀
            refine XS.lcmp X14.here hx rfl (hb hby at_211) rfl ?_
            show Steps p.tables e below (T14.setTop (mkF m 212 #[oJ p1, oS, oI p2, oJ p3, oS, oJ p4, oS, oI p5, oI p6, oJ s1, oS, oJ s2, oS, oJ s3, oS, oI wd, oJ q, oS, oJ t1, oS, oJ t2, oS, oJ t3, oS, oJ tn, oS, oJ nn, oS, oR ob1, oI (1 : Int32), oU, oU, oU] [(.int (lcmpW q s2))])) t₀
            refine XS.ifNo X14.here hx rfl (hb hby at_212) rfl ((if0 _ _).trans (tlt ((lw_lt q s2).mpr hB)).2.1) ?_
            show Steps p.tables e below (T14.setTop (mkF m 215 #[oJ p1, oS, oI p2, oJ p3, oS, oJ p4, oS, oI p5, oI p6, oJ s1, oS, oJ s2, oS, oJ s3, oS, oI wd, oJ q, oS, oJ t1, oS, oJ t2, oS, oJ t3, oS, oJ tn, oS, oJ nn, oS, oR ob1, oI (1 : Int32), oU, oU, oU] [])) t₀
            refine XS.lload X14.here hx rfl (hb hby at_215) rfl ?_
            show Steps p.tables e below (T14.setTop (mkF m 217 #[oJ p1, oS, oI p2, oJ p3, oS, oJ p4, oS, oI p5, oI p6, oJ s1, oS, oJ s2, oS, oJ s3, oS, oI wd, oJ q, oS, oJ t1, oS, oJ t2, oS, oJ t3, oS, oJ tn, oS, oJ nn, oS, oR ob1, oI (1 : Int32), oU, oU, oU] [(.long t2)])) t₀
            refine XS.goto X14.here hx rfl (pc0 := 217) (pc' := 222) rfl (hb hby at_217) (by decide) (by decide) ?_
            show Steps p.tables e below (T14.setTop (mkF m 222 #[oJ p1, oS, oI p2, oJ p3, oS, oJ p4, oS, oI p5, oI p6, oJ s1, oS, oJ s2, oS, oJ s3, oS, oI wd, oJ q, oS, oJ t1, oS, oJ t2, oS, oJ t3, oS, oJ tn, oS, oJ nn, oS, oR ob1, oI (1 : Int32), oU, oU, oU] [(.long t2)])) t₀
            refine XS.lstore X14.here hx rfl (hb hby at_222) rfl (l' := #[oJ p1, oS, oI p2, oJ p3, oS, oJ p4, oS, oI p5, oI p6, oJ s1, oS, oJ s2, oS, oJ s3, oS, oI wd, oJ q, oS, oJ t1, oS, oJ t2, oS, oJ t3, oS, oJ tn, oS, oJ nn, oS, oR ob1, oI (1 : Int32), oJ t2, oS, oU]) rfl ?_
            show Steps p.tables e below (T14.setTop (mkF m 224 #[oJ p1, oS, oI p2, oJ p3, oS, oJ p4, oS, oI p5, oI p6, oJ s1, oS, oJ s2, oS, oJ s3, oS, oI wd, oJ q, oS, oJ t1, oS, oJ t2, oS, oJ t3, oS, oJ tn, oS, oJ nn, oS, oR ob1, oI (1 : Int32), oJ t2, oS, oU] [])) t₀
            refine XS.aload X14.here hx rfl (hb hby at_224) rfl rfl ?_
            show Steps p.tables e below (T14.setTop (mkF m 226 #[oJ p1, oS, oI p2, oJ p3, oS, oJ p4, oS, oI p5, oI p6, oJ s1, oS, oJ s2, oS, oJ s3, oS, oI wd, oJ q, oS, oJ t1, oS, oJ t2, oS, oJ t3, oS, oJ tn, oS, oJ nn, oS, oR ob1, oI (1 : Int32), oJ t2, oS, oU] [(.ref ob1)])) t₀
            refine XS.lload X14.here hx rfl (hb hby at_226) rfl ?_
            exact k₀
          obtain ⟨cq15, kq15, q15a, q15b, q15c⟩ := isOf hZ rfl eob1_x14
          obtain ⟨_, _, ⟨T15, L15, k15, n15⟩, -, X15, ⟨Lc15, hQ15, l15, y15, z15⟩, st15⟩ := X14.virtualBack hx (y := (⟨"com/example/opledger/opledger/AppendTimes", "earliestAbove", "(J)J"⟩ : MethodName)) (z := (⟨"com/example/opledger/opledger/AppendTimes", "earliestAbove", "(J)J"⟩ : MethodName)) hown (mvT hZ (hw _ (List.mem_of_getElem? (i := 61) rfl))) (mvT hZ (hw _ (List.mem_of_getElem? (i := 62) rfl))) (notFace_of_selects (args := #[]) (mvT hZ (hw _ (List.mem_of_getElem? (i := 64) rfl)))) (mvT hZ (hw _ (List.mem_of_getElem? (i := 64) rfl))) (mvT hZ (hw _ (List.mem_of_getElem? (i := 63) rfl))) (by decide) (backOf (W := 0) (rmE11 l Z a0 hw [] ob1 q S3 W3T kS3 kT3 s1 t1 s2 t2 s3 t3 (0 : Int64) (0 : Int64) (0 : Int64) (0 : Int64) (0 : Int64) (0 : Int64) (0 : Int64) (0 : Int64) (0 : Int64) (0 : Int64) T14.heap n0 z_x14 f14_0 f14_1 f14_3 f14_4 f14_7 f14_8 hB) hZ (hw _ (List.mem_of_getElem? (i := 65) rfl)) (hw _ (List.mem_of_getElem? (i := 6) rfl)) (by decide) (by decide)) q15a q15c (g := (mkF m 228 #[oJ p1, oS, oI p2, oJ p3, oS, oJ p4, oS, oI p5, oI p6, oJ s1, oS, oJ s2, oS, oJ s3, oS, oI wd, oJ q, oS, oJ t1, oS, oJ t2, oS, oJ t3, oS, oJ tn, oS, oJ nn, oS, oR ob1, oI (1 : Int32), oJ t2, oS, oU] [(.long q), (.ref ob1)])) rfl (by rw [hml]; rfl) (Steps.refl _) (argsL := [(.long q)]) (rest := []) (lenOf pd_6 rfl) rfl (by show 2 * 0 + _ ≤ _; exact Nat.le_of_eq rfl) (hb hby at_228) (fun _ _ => ⟨rfl, rfl, (by decide : 4 + 0 ≤ _), (by decide : 31 + 0 ≤ _)⟩)
          dsimp only [Pt.U, Pt.locs, Pt.cells, Pt.slots] at X15 l15 y15 z15 st15 hQ15
          subst l15 y15 z15
          obtain ⟨rfl, N15q, e15⟩ := hQ15
          have N15 := Fr.app N14 N15q
          refine hG _ _ (fun t₀ k₀ => st15.trans k₀) ?_
          show G (T15.setTop (mkF m 231 #[oJ p1, oS, oI p2, oJ p3, oS, oJ p4, oS, oI p5, oI p6, oJ s1, oS, oJ s2, oS, oJ s3, oS, oI wd, oJ q, oS, oJ t1, oS, oJ t2, oS, oJ t3, oS, oJ tn, oS, oJ nn, oS, oR ob1, oI (1 : Int32), oJ t2, oS, oU] [(.long t2)]))
          refine hG _ (T15.setTop (mkF m 250 #[oJ p1, oS, oI p2, oJ p3, oS, oJ p4, oS, oI p5, oI p6, oJ s1, oS, oJ s2, oS, oJ s3, oS, oI wd, oJ q, oS, oJ t1, oS, oJ t2, oS, oJ t3, oS, oJ tn, oS, oJ nn, oS, oR ob1, oI (1 : Int32), oJ t2, oS, oU] [(.long tn), (.long nn), (.ref ob1)])) (fun t₀ k₀ => ?_) ?_
          · show Steps p.tables e below (T15.setTop (mkF m 231 #[oJ p1, oS, oI p2, oJ p3, oS, oJ p4, oS, oI p5, oI p6, oJ s1, oS, oJ s2, oS, oJ s3, oS, oI wd, oJ q, oS, oJ t1, oS, oJ t2, oS, oJ t3, oS, oJ tn, oS, oJ nn, oS, oR ob1, oI (1 : Int32), oJ t2, oS, oU] [(.long t2)])) t₀
            refine XS.lload X15.here hx rfl (hb hby at_231) rfl ?_
            show Steps p.tables e below (T15.setTop (mkF m 233 #[oJ p1, oS, oI p2, oJ p3, oS, oJ p4, oS, oI p5, oI p6, oJ s1, oS, oJ s2, oS, oJ s3, oS, oI wd, oJ q, oS, oJ t1, oS, oJ t2, oS, oJ t3, oS, oJ tn, oS, oJ nn, oS, oR ob1, oI (1 : Int32), oJ t2, oS, oU] [(.long t2), (.long t2)])) t₀
            refine XS.lcmp X15.here hx rfl (hb hby at_233) rfl ?_
            show Steps p.tables e below (T15.setTop (mkF m 234 #[oJ p1, oS, oI p2, oJ p3, oS, oJ p4, oS, oI p5, oI p6, oJ s1, oS, oJ s2, oS, oJ s3, oS, oI wd, oJ q, oS, oJ t1, oS, oJ t2, oS, oJ t3, oS, oJ tn, oS, oJ nn, oS, oR ob1, oI (1 : Int32), oJ t2, oS, oU] [(.int (lcmpW t2 t2))])) t₀
            refine XS.ifNo X15.here hx rfl (hb hby at_234) rfl ((if0 _ _).trans (teq ((lw_eq t2 t2).mpr rfl)).2) ?_
            show Steps p.tables e below (T15.setTop (mkF m 237 #[oJ p1, oS, oI p2, oJ p3, oS, oJ p4, oS, oI p5, oI p6, oJ s1, oS, oJ s2, oS, oJ s3, oS, oI wd, oJ q, oS, oJ t1, oS, oJ t2, oS, oJ t3, oS, oJ tn, oS, oJ nn, oS, oR ob1, oI (1 : Int32), oJ t2, oS, oU] [])) t₀
            refine XS.iconst X15.here hx rfl (hb hby at_237) ?_
            show Steps p.tables e below (T15.setTop (mkF m 238 #[oJ p1, oS, oI p2, oJ p3, oS, oJ p4, oS, oI p5, oI p6, oJ s1, oS, oJ s2, oS, oJ s3, oS, oI wd, oJ q, oS, oJ t1, oS, oJ t2, oS, oJ t3, oS, oJ tn, oS, oJ nn, oS, oR ob1, oI (1 : Int32), oJ t2, oS, oU] [(.int (1 : Int32))])) t₀
            refine XS.goto X15.here hx rfl (pc0 := 238) (pc' := 242) rfl (hb hby at_238) (by decide) (by decide) ?_
            show Steps p.tables e below (T15.setTop (mkF m 242 #[oJ p1, oS, oI p2, oJ p3, oS, oJ p4, oS, oI p5, oI p6, oJ s1, oS, oJ s2, oS, oJ s3, oS, oI wd, oJ q, oS, oJ t1, oS, oJ t2, oS, oJ t3, oS, oJ tn, oS, oJ nn, oS, oR ob1, oI (1 : Int32), oJ t2, oS, oU] [(.int (1 : Int32))])) t₀
            refine XS.istore X15.here hx rfl (hb hby at_242) rfl (l' := #[oJ p1, oS, oI p2, oJ p3, oS, oJ p4, oS, oI p5, oI p6, oJ s1, oS, oJ s2, oS, oJ s3, oS, oI wd, oJ q, oS, oJ t1, oS, oJ t2, oS, oJ t3, oS, oJ tn, oS, oJ nn, oS, oR ob1, oI (1 : Int32), oJ t2, oS, oU]) rfl ?_
            show Steps p.tables e below (T15.setTop (mkF m 244 #[oJ p1, oS, oI p2, oJ p3, oS, oJ p4, oS, oI p5, oI p6, oJ s1, oS, oJ s2, oS, oJ s3, oS, oI wd, oJ q, oS, oJ t1, oS, oJ t2, oS, oJ t3, oS, oJ tn, oS, oJ nn, oS, oR ob1, oI (1 : Int32), oJ t2, oS, oU] [])) t₀
            refine XS.aload X15.here hx rfl (hb hby at_244) rfl rfl ?_
            show Steps p.tables e below (T15.setTop (mkF m 246 #[oJ p1, oS, oI p2, oJ p3, oS, oJ p4, oS, oI p5, oI p6, oJ s1, oS, oJ s2, oS, oJ s3, oS, oI wd, oJ q, oS, oJ t1, oS, oJ t2, oS, oJ t3, oS, oJ tn, oS, oJ nn, oS, oR ob1, oI (1 : Int32), oJ t2, oS, oU] [(.ref ob1)])) t₀
            refine XS.lload X15.here hx rfl (hb hby at_246) rfl ?_
            show Steps p.tables e below (T15.setTop (mkF m 248 #[oJ p1, oS, oI p2, oJ p3, oS, oJ p4, oS, oI p5, oI p6, oJ s1, oS, oJ s2, oS, oJ s3, oS, oI wd, oJ q, oS, oJ t1, oS, oJ t2, oS, oJ t3, oS, oJ tn, oS, oJ nn, oS, oR ob1, oI (1 : Int32), oJ t2, oS, oU] [(.long nn), (.ref ob1)])) t₀
            refine XS.lload X15.here hx rfl (hb hby at_248) rfl ?_
            exact k₀
          obtain ⟨cq16, kq16, q16a, q16b, q16c⟩ := isOf hZ e15 eob1_x14
          obtain ⟨_, _, ⟨T16, L16, k16, n16⟩, -, X16, ⟨Lc16, hQ16, l16, y16, z16⟩, st16⟩ := X15.virtualBack hx (y := (⟨"com/example/opledger/opledger/AppendTimes", "record", "(JJ)V"⟩ : MethodName)) (z := (⟨"com/example/opledger/opledger/AppendTimes", "record", "(JJ)V"⟩ : MethodName)) hown (mvT hZ (hw _ (List.mem_of_getElem? (i := 28) rfl))) (mvT hZ (hw _ (List.mem_of_getElem? (i := 29) rfl))) (notFace_of_selects (args := #[]) (mvT hZ (hw _ (List.mem_of_getElem? (i := 31) rfl)))) (mvT hZ (hw _ (List.mem_of_getElem? (i := 31) rfl))) (mvT hZ (hw _ (List.mem_of_getElem? (i := 30) rfl))) (by decide) (backOf (W := 0) (rmRB2 l Z a0 hw [] ob1 nn tn S3 W3T W3E kS3 kT3 kE3 (1 : Int32) s3 s1 t1 t1 s2 t2 t2 s3 t3 t3 (0 : Int64) (0 : Int64) (0 : Int64) (0 : Int64) (0 : Int64) (0 : Int64) (0 : Int64) (0 : Int64) (0 : Int64) (0 : Int64) (0 : Int64) (0 : Int64) (0 : Int64) (0 : Int64) (0 : Int64) T14.heap n0 z_x14 eob1_x14 f14_0 f14_1 f14_2 f14_3 f14_4 f14_5 f14_6 f14_7 f14_8 f14_9 g_ob1 g3_0 g3_1 g3_2 d3_0 d3_1 d3_2 d3_3 d3_4 d3_5 h3n (by decide) hGp (by decide)) hZ (hw _ (List.mem_of_getElem? (i := 32) rfl)) (hw _ (List.mem_of_getElem? (i := 6) rfl)) (by decide) (by decide)) q16a q16c (g := (mkF m 250 #[oJ p1, oS, oI p2, oJ p3, oS, oJ p4, oS, oI p5, oI p6, oJ s1, oS, oJ s2, oS, oJ s3, oS, oI wd, oJ q, oS, oJ t1, oS, oJ t2, oS, oJ t3, oS, oJ tn, oS, oJ nn, oS, oR ob1, oI (1 : Int32), oJ t2, oS, oU] [(.long tn), (.long nn), (.ref ob1)])) rfl (by rw [hml]; rfl) (Steps.refl _) (argsL := [(.long nn), (.long tn)]) (rest := []) (lenOf pd_1 rfl) rfl (by show 2 * 0 + _ ≤ _; exact Nat.le_of_eq rfl) (hb hby at_250) (fun _ _ => ⟨rfl, e15, (by decide : 4 + 0 ≤ _), (by decide : 31 + 0 ≤ _)⟩)
          dsimp only [Pt.U, Pt.locs, Pt.cells, Pt.slots] at X16 l16 y16 z16 st16 hQ16
          subst l16 y16 z16
          obtain ⟨rfl, N16q, K16, f16_0, f16_1, f16_2, f16_3, f16_4, f16_5, f16_6, f16_7, f16_8, f16_9⟩ := hQ16
          have N16 := Fr.app N15 N16q
          refine hG _ _ (fun t₀ k₀ => st16.trans k₀) ?_
          have z_x16 := Nat.le_trans z_x14 K16.1
          have o_x16 := o_x14.keep K16 (allS g_ob1 (allS g3_0 (allS g3_1 (allS g3_2 all0))))
          have eob1_x16 := eob1_x14.keep K16
          show G (T16.setTop (mkF m 253 #[oJ p1, oS, oI p2, oJ p3, oS, oJ p4, oS, oI p5, oI p6, oJ s1, oS, oJ s2, oS, oJ s3, oS, oI wd, oJ q, oS, oJ t1, oS, oJ t2, oS, oJ t3, oS, oJ tn, oS, oJ nn, oS, oR ob1, oI (1 : Int32), oJ t2, oS, oU] []))
          refine hG _ (T16.setTop (mkF m 288 #[oJ p1, oS, oI p2, oJ p3, oS, oJ p4, oS, oI p5, oI p6, oJ s1, oS, oJ s2, oS, oJ s3, oS, oI wd, oJ q, oS, oJ t1, oS, oJ t2, oS, oJ t3, oS, oJ tn, oS, oJ nn, oS, oR ob1, oI (1 : Int32), oJ tn, oS, oU] [(.long s3), (.ref ob1)])) (fun t₀ k₀ => ?_) ?_
          · show Steps p.tables e below (T16.setTop (mkF m 253 #[oJ p1, oS, oI p2, oJ p3, oS, oJ p4, oS, oI p5, oI p6, oJ s1, oS, oJ s2, oS, oJ s3, oS, oI wd, oJ q, oS, oJ t1, oS, oJ t2, oS, oJ t3, oS, oJ tn, oS, oJ nn, oS, oR ob1, oI (1 : Int32), oJ t2, oS, oU] [])) t₀
            refine XS.lload X16.here hx rfl (hb hby at_253) rfl ?_
            show Steps p.tables e below (T16.setTop (mkF m 255 #[oJ p1, oS, oI p2, oJ p3, oS, oJ p4, oS, oI p5, oI p6, oJ s1, oS, oJ s2, oS, oJ s3, oS, oI wd, oJ q, oS, oJ t1, oS, oJ t2, oS, oJ t3, oS, oJ tn, oS, oJ nn, oS, oR ob1, oI (1 : Int32), oJ t2, oS, oU] [(.long q)])) t₀
            refine XS.lload X16.here hx rfl (hb hby at_255) rfl ?_
            show Steps p.tables e below (T16.setTop (mkF m 257 #[oJ p1, oS, oI p2, oJ p3, oS, oJ p4, oS, oI p5, oI p6, oJ s1, oS, oJ s2, oS, oJ s3, oS, oI wd, oJ q, oS, oJ t1, oS, oJ t2, oS, oJ t3, oS, oJ tn, oS, oJ nn, oS, oR ob1, oI (1 : Int32), oJ t2, oS, oU] [(.long s3), (.long q)])) t₀
            refine XS.lcmp X16.here hx rfl (hb hby at_257) rfl ?_
            show Steps p.tables e below (T16.setTop (mkF m 258 #[oJ p1, oS, oI p2, oJ p3, oS, oJ p4, oS, oI p5, oI p6, oJ s1, oS, oJ s2, oS, oJ s3, oS, oI wd, oJ q, oS, oJ t1, oS, oJ t2, oS, oJ t3, oS, oJ tn, oS, oJ nn, oS, oR ob1, oI (1 : Int32), oJ t2, oS, oU] [(.int (lcmpW q s3))])) t₀
            refine XS.ifNo X16.here hx rfl (hb hby at_258) rfl ((if0 _ _).trans (tlt ((lw_lt q s3).mpr (own_tr hB h23))).2.1) ?_
            show Steps p.tables e below (T16.setTop (mkF m 261 #[oJ p1, oS, oI p2, oJ p3, oS, oJ p4, oS, oI p5, oI p6, oJ s1, oS, oJ s2, oS, oJ s3, oS, oI wd, oJ q, oS, oJ t1, oS, oJ t2, oS, oJ t3, oS, oJ tn, oS, oJ nn, oS, oR ob1, oI (1 : Int32), oJ t2, oS, oU] [])) t₀
            refine XS.lload X16.here hx rfl (hb hby at_261) rfl ?_
            show Steps p.tables e below (T16.setTop (mkF m 263 #[oJ p1, oS, oI p2, oJ p3, oS, oJ p4, oS, oI p5, oI p6, oJ s1, oS, oJ s2, oS, oJ s3, oS, oI wd, oJ q, oS, oJ t1, oS, oJ t2, oS, oJ t3, oS, oJ tn, oS, oJ nn, oS, oR ob1, oI (1 : Int32), oJ t2, oS, oU] [(.long tn)])) t₀
            refine XS.lload X16.here hx rfl (hb hby at_263) rfl ?_
            show Steps p.tables e below (T16.setTop (mkF m 265 #[oJ p1, oS, oI p2, oJ p3, oS, oJ p4, oS, oI p5, oI p6, oJ s1, oS, oJ s2, oS, oJ s3, oS, oI wd, oJ q, oS, oJ t1, oS, oJ t2, oS, oJ t3, oS, oJ tn, oS, oJ nn, oS, oR ob1, oI (1 : Int32), oJ t2, oS, oU] [(.long t3), (.long tn)])) t₀
            refine XS.lsub X16.here hx rfl (hb hby at_265) rfl ?_
            show Steps p.tables e below (T16.setTop (mkF m 266 #[oJ p1, oS, oI p2, oJ p3, oS, oJ p4, oS, oI p5, oI p6, oJ s1, oS, oJ s2, oS, oJ s3, oS, oI wd, oJ q, oS, oJ t1, oS, oJ t2, oS, oJ t3, oS, oJ tn, oS, oJ nn, oS, oR ob1, oI (1 : Int32), oJ t2, oS, oU] [(.long (tn - t3))])) t₀
            refine X16.ldc2Long hx hown (mvT hZ (hw _ (List.mem_of_getElem? (i := 66) rfl))) (g := (mkF m 266 #[oJ p1, oS, oI p2, oJ p3, oS, oJ p4, oS, oI p5, oI p6, oJ s1, oS, oJ s2, oS, oJ s3, oS, oI wd, oJ q, oS, oJ t1, oS, oJ t2, oS, oJ t3, oS, oJ tn, oS, oJ nn, oS, oR ob1, oI (1 : Int32), oJ t2, oS, oU] [(.long (tn - t3))])) rfl (hb hby at_266) _ ?_
            show Steps p.tables e below (T16.setTop (mkF m 269 #[oJ p1, oS, oI p2, oJ p3, oS, oJ p4, oS, oI p5, oI p6, oJ s1, oS, oJ s2, oS, oJ s3, oS, oI wd, oJ q, oS, oJ t1, oS, oJ t2, oS, oJ t3, oS, oJ tn, oS, oJ nn, oS, oR ob1, oI (1 : Int32), oJ t2, oS, oU] [(.long (1000000 : Int64)), (.long (tn - t3))])) t₀
            refine XS.lcmp X16.here hx rfl (hb hby at_269) rfl ?_
            show Steps p.tables e below (T16.setTop (mkF m 270 #[oJ p1, oS, oI p2, oJ p3, oS, oJ p4, oS, oI p5, oI p6, oJ s1, oS, oJ s2, oS, oJ s3, oS, oI wd, oJ q, oS, oJ t1, oS, oJ t2, oS, oJ t3, oS, oJ tn, oS, oJ nn, oS, oR ob1, oI (1 : Int32), oJ t2, oS, oU] [(.int (lcmpW (tn - t3) (1000000 : Int64)))])) t₀
            refine XS.ifYes X16.here hx rfl (pc0 := 270) (pc' := 280) rfl (hb hby at_270) rfl ((if0 _ _).trans (tlt ((lw_gt (tn - t3) (1000000 : Int64)).mpr hGp)).2.2.1) (by decide) (by decide) ?_
            show Steps p.tables e below (T16.setTop (mkF m 280 #[oJ p1, oS, oI p2, oJ p3, oS, oJ p4, oS, oI p5, oI p6, oJ s1, oS, oJ s2, oS, oJ s3, oS, oI wd, oJ q, oS, oJ t1, oS, oJ t2, oS, oJ t3, oS, oJ tn, oS, oJ nn, oS, oR ob1, oI (1 : Int32), oJ t2, oS, oU] [])) t₀
            refine XS.lload X16.here hx rfl (hb hby at_280) rfl ?_
            show Steps p.tables e below (T16.setTop (mkF m 282 #[oJ p1, oS, oI p2, oJ p3, oS, oJ p4, oS, oI p5, oI p6, oJ s1, oS, oJ s2, oS, oJ s3, oS, oI wd, oJ q, oS, oJ t1, oS, oJ t2, oS, oJ t3, oS, oJ tn, oS, oJ nn, oS, oR ob1, oI (1 : Int32), oJ t2, oS, oU] [(.long tn)])) t₀
            refine XS.lstore X16.here hx rfl (hb hby at_282) rfl (l' := #[oJ p1, oS, oI p2, oJ p3, oS, oJ p4, oS, oI p5, oI p6, oJ s1, oS, oJ s2, oS, oJ s3, oS, oI wd, oJ q, oS, oJ t1, oS, oJ t2, oS, oJ t3, oS, oJ tn, oS, oJ nn, oS, oR ob1, oI (1 : Int32), oJ tn, oS, oU]) rfl ?_
            show Steps p.tables e below (T16.setTop (mkF m 284 #[oJ p1, oS, oI p2, oJ p3, oS, oJ p4, oS, oI p5, oI p6, oJ s1, oS, oJ s2, oS, oJ s3, oS, oI wd, oJ q, oS, oJ t1, oS, oJ t2, oS, oJ t3, oS, oJ tn, oS, oJ nn, oS, oR ob1, oI (1 : Int32), oJ tn, oS, oU] [])) t₀
            refine XS.aload X16.here hx rfl (hb hby at_284) rfl rfl ?_
            show Steps p.tables e below (T16.setTop (mkF m 286 #[oJ p1, oS, oI p2, oJ p3, oS, oJ p4, oS, oI p5, oI p6, oJ s1, oS, oJ s2, oS, oJ s3, oS, oI wd, oJ q, oS, oJ t1, oS, oJ t2, oS, oJ t3, oS, oJ tn, oS, oJ nn, oS, oR ob1, oI (1 : Int32), oJ tn, oS, oU] [(.ref ob1)])) t₀
            refine XS.lload X16.here hx rfl (hb hby at_286) rfl ?_
            exact k₀
          obtain ⟨cq17, kq17, q17a, q17b, q17c⟩ := isOf hZ rfl eob1_x16
          obtain ⟨_, _, ⟨T17, L17, k17, n17⟩, -, X17, ⟨Lc17, hQ17, l17, y17, z17⟩, st17⟩ := X16.virtualBack hx (y := (⟨"com/example/opledger/opledger/AppendTimes", "earliestAbove", "(J)J"⟩ : MethodName)) (z := (⟨"com/example/opledger/opledger/AppendTimes", "earliestAbove", "(J)J"⟩ : MethodName)) hown (mvT hZ (hw _ (List.mem_of_getElem? (i := 61) rfl))) (mvT hZ (hw _ (List.mem_of_getElem? (i := 62) rfl))) (notFace_of_selects (args := #[]) (mvT hZ (hw _ (List.mem_of_getElem? (i := 64) rfl)))) (mvT hZ (hw _ (List.mem_of_getElem? (i := 64) rfl))) (mvT hZ (hw _ (List.mem_of_getElem? (i := 63) rfl))) (by decide) (backOf (W := 0) (rmE31 l Z a0 hw [] ob1 s3 S3 W3T kS3 kT3 s1 t1 s2 t2 s3 t3 nn tn (0 : Int64) (0 : Int64) (0 : Int64) (0 : Int64) (0 : Int64) (0 : Int64) (0 : Int64) (0 : Int64) T16.heap n0 z_x16 f16_0 f16_1 f16_3 f16_4 f16_7 f16_8 (own_ir _)) hZ (hw _ (List.mem_of_getElem? (i := 65) rfl)) (hw _ (List.mem_of_getElem? (i := 6) rfl)) (by decide) (by decide)) q17a q17c (g := (mkF m 288 #[oJ p1, oS, oI p2, oJ p3, oS, oJ p4, oS, oI p5, oI p6, oJ s1, oS, oJ s2, oS, oJ s3, oS, oI wd, oJ q, oS, oJ t1, oS, oJ t2, oS, oJ t3, oS, oJ tn, oS, oJ nn, oS, oR ob1, oI (1 : Int32), oJ tn, oS, oU] [(.long s3), (.ref ob1)])) rfl (by rw [hml]; rfl) (Steps.refl _) (argsL := [(.long s3)]) (rest := []) (lenOf pd_6 rfl) rfl (by show 2 * 0 + _ ≤ _; exact Nat.le_of_eq rfl) (hb hby at_288) (fun _ _ => ⟨rfl, rfl, (by decide : 4 + 0 ≤ _), (by decide : 31 + 0 ≤ _)⟩)
          dsimp only [Pt.U, Pt.locs, Pt.cells, Pt.slots] at X17 l17 y17 z17 st17 hQ17
          subst l17 y17 z17
          obtain ⟨rfl, N17q, e17⟩ := hQ17
          have N17 := Fr.app N16 N17q
          refine hG _ _ (fun t₀ k₀ => st17.trans k₀) ?_
          show G (T17.setTop (mkF m 291 #[oJ p1, oS, oI p2, oJ p3, oS, oJ p4, oS, oI p5, oI p6, oJ s1, oS, oJ s2, oS, oJ s3, oS, oI wd, oJ q, oS, oJ t1, oS, oJ t2, oS, oJ t3, oS, oJ tn, oS, oJ nn, oS, oR ob1, oI (1 : Int32), oJ tn, oS, oU] [(.long tn)]))
          refine hG _ (T17.setTop (mkF m 319 #[oJ p1, oS, oI p2, oJ p3, oS, oJ p4, oS, oI p5, oI p6, oJ s1, oS, oJ s2, oS, oJ s3, oS, oI wd, oJ q, oS, oJ t1, oS, oJ t2, oS, oJ t3, oS, oJ tn, oS, oJ nn, oS, oR ob1, oI (1 : Int32), oJ tn, oS, oI (1 : Int32)] [(.int (1 : Int32))])) (fun t₀ k₀ => ?_) ?_
          · show Steps p.tables e below (T17.setTop (mkF m 291 #[oJ p1, oS, oI p2, oJ p3, oS, oJ p4, oS, oI p5, oI p6, oJ s1, oS, oJ s2, oS, oJ s3, oS, oI wd, oJ q, oS, oJ t1, oS, oJ t2, oS, oJ t3, oS, oJ tn, oS, oJ nn, oS, oR ob1, oI (1 : Int32), oJ tn, oS, oU] [(.long tn)])) t₀
            refine XS.lload X17.here hx rfl (hb hby at_291) rfl ?_
            show Steps p.tables e below (T17.setTop (mkF m 293 #[oJ p1, oS, oI p2, oJ p3, oS, oJ p4, oS, oI p5, oI p6, oJ s1, oS, oJ s2, oS, oJ s3, oS, oI wd, oJ q, oS, oJ t1, oS, oJ t2, oS, oJ t3, oS, oJ tn, oS, oJ nn, oS, oR ob1, oI (1 : Int32), oJ tn, oS, oU] [(.long tn), (.long tn)])) t₀
            refine XS.lcmp X17.here hx rfl (hb hby at_293) rfl ?_
            show Steps p.tables e below (T17.setTop (mkF m 294 #[oJ p1, oS, oI p2, oJ p3, oS, oJ p4, oS, oI p5, oI p6, oJ s1, oS, oJ s2, oS, oJ s3, oS, oI wd, oJ q, oS, oJ t1, oS, oJ t2, oS, oJ t3, oS, oJ tn, oS, oJ nn, oS, oR ob1, oI (1 : Int32), oJ tn, oS, oU] [(.int (lcmpW tn tn))])) t₀
            refine XS.ifNo X17.here hx rfl (hb hby at_294) rfl ((if0 _ _).trans (teq ((lw_eq tn tn).mpr rfl)).2) ?_
            show Steps p.tables e below (T17.setTop (mkF m 297 #[oJ p1, oS, oI p2, oJ p3, oS, oJ p4, oS, oI p5, oI p6, oJ s1, oS, oJ s2, oS, oJ s3, oS, oI wd, oJ q, oS, oJ t1, oS, oJ t2, oS, oJ t3, oS, oJ tn, oS, oJ nn, oS, oR ob1, oI (1 : Int32), oJ tn, oS, oU] [])) t₀
            refine XS.iconst X17.here hx rfl (hb hby at_297) ?_
            show Steps p.tables e below (T17.setTop (mkF m 298 #[oJ p1, oS, oI p2, oJ p3, oS, oJ p4, oS, oI p5, oI p6, oJ s1, oS, oJ s2, oS, oJ s3, oS, oI wd, oJ q, oS, oJ t1, oS, oJ t2, oS, oJ t3, oS, oJ tn, oS, oJ nn, oS, oR ob1, oI (1 : Int32), oJ tn, oS, oU] [(.int (1 : Int32))])) t₀
            refine XS.goto X17.here hx rfl (pc0 := 298) (pc' := 302) rfl (hb hby at_298) (by decide) (by decide) ?_
            show Steps p.tables e below (T17.setTop (mkF m 302 #[oJ p1, oS, oI p2, oJ p3, oS, oJ p4, oS, oI p5, oI p6, oJ s1, oS, oJ s2, oS, oJ s3, oS, oI wd, oJ q, oS, oJ t1, oS, oJ t2, oS, oJ t3, oS, oJ tn, oS, oJ nn, oS, oR ob1, oI (1 : Int32), oJ tn, oS, oU] [(.int (1 : Int32))])) t₀
            refine XS.istore X17.here hx rfl (hb hby at_302) rfl (l' := #[oJ p1, oS, oI p2, oJ p3, oS, oJ p4, oS, oI p5, oI p6, oJ s1, oS, oJ s2, oS, oJ s3, oS, oI wd, oJ q, oS, oJ t1, oS, oJ t2, oS, oJ t3, oS, oJ tn, oS, oJ nn, oS, oR ob1, oI (1 : Int32), oJ tn, oS, oI (1 : Int32)]) rfl ?_
            show Steps p.tables e below (T17.setTop (mkF m 304 #[oJ p1, oS, oI p2, oJ p3, oS, oJ p4, oS, oI p5, oI p6, oJ s1, oS, oJ s2, oS, oJ s3, oS, oI wd, oJ q, oS, oJ t1, oS, oJ t2, oS, oJ t3, oS, oJ tn, oS, oJ nn, oS, oR ob1, oI (1 : Int32), oJ tn, oS, oI (1 : Int32)] [])) t₀
            refine XS.iload X17.here hx rfl (hb hby at_304) rfl ?_
            show Steps p.tables e below (T17.setTop (mkF m 306 #[oJ p1, oS, oI p2, oJ p3, oS, oJ p4, oS, oI p5, oI p6, oJ s1, oS, oJ s2, oS, oJ s3, oS, oI wd, oJ q, oS, oJ t1, oS, oJ t2, oS, oJ t3, oS, oJ tn, oS, oJ nn, oS, oR ob1, oI (1 : Int32), oJ tn, oS, oI (1 : Int32)] [(.int (1 : Int32))])) t₀
            refine XS.ifNo X17.here hx rfl (hb hby at_306) rfl ((if0 _ _).trans (feq (by decide : ¬ ((1 : Int32) = (0 : Int32)))).1) ?_
            show Steps p.tables e below (T17.setTop (mkF m 309 #[oJ p1, oS, oI p2, oJ p3, oS, oJ p4, oS, oI p5, oI p6, oJ s1, oS, oJ s2, oS, oJ s3, oS, oI wd, oJ q, oS, oJ t1, oS, oJ t2, oS, oJ t3, oS, oJ tn, oS, oJ nn, oS, oR ob1, oI (1 : Int32), oJ tn, oS, oI (1 : Int32)] [])) t₀
            refine XS.iload X17.here hx rfl (hb hby at_309) rfl ?_
            show Steps p.tables e below (T17.setTop (mkF m 311 #[oJ p1, oS, oI p2, oJ p3, oS, oJ p4, oS, oI p5, oI p6, oJ s1, oS, oJ s2, oS, oJ s3, oS, oI wd, oJ q, oS, oJ t1, oS, oJ t2, oS, oJ t3, oS, oJ tn, oS, oJ nn, oS, oR ob1, oI (1 : Int32), oJ tn, oS, oI (1 : Int32)] [(.int (1 : Int32))])) t₀
            refine XS.ifNo X17.here hx rfl (hb hby at_311) rfl ((if0 _ _).trans (feq (by decide : ¬ ((1 : Int32) = (0 : Int32)))).1) ?_
            show Steps p.tables e below (T17.setTop (mkF m 314 #[oJ p1, oS, oI p2, oJ p3, oS, oJ p4, oS, oI p5, oI p6, oJ s1, oS, oJ s2, oS, oJ s3, oS, oI wd, oJ q, oS, oJ t1, oS, oJ t2, oS, oJ t3, oS, oJ tn, oS, oJ nn, oS, oR ob1, oI (1 : Int32), oJ tn, oS, oI (1 : Int32)] [])) t₀
            refine XS.iconst X17.here hx rfl (hb hby at_314) ?_
            show Steps p.tables e below (T17.setTop (mkF m 315 #[oJ p1, oS, oI p2, oJ p3, oS, oJ p4, oS, oI p5, oI p6, oJ s1, oS, oJ s2, oS, oJ s3, oS, oI wd, oJ q, oS, oJ t1, oS, oJ t2, oS, oJ t3, oS, oJ tn, oS, oJ nn, oS, oR ob1, oI (1 : Int32), oJ tn, oS, oI (1 : Int32)] [(.int (1 : Int32))])) t₀
            refine XS.goto X17.here hx rfl (pc0 := 315) (pc' := 319) rfl (hb hby at_315) (by decide) (by decide) ?_
            exact k₀
          refine hF _ T17 _ _ _ (some (.int (1 : Int32))) _ X17 e17 (fun h => by rw [hrt] at h; cases h) (by decide) (by decide) ?_ (fun fs hr => retN X17 hx (t := .boolean) hrt (by simp) (hb hby at_319) hr)
          exact ⟨rfl, N17⟩
        ·
          refine hG _ (T5.setTop (mkF m 180 #[oJ p1, oS, oI p2, oJ p3, oS, oJ p4, oS, oI p5, oI p6, oJ s1, oS, oJ s2, oS, oJ s3, oS, oI wd, oJ q, oS, oJ t1, oS, oJ t2, oS, oJ t3, oS, oJ tn, oS, oJ nn, oS, oR ob1, oU, oU, oU, oU] [(.long q), (.ref ob1)])) (fun t₀ k₀ => ?_) ?_
          · show Steps p.tables e below (T5.setTop (mkF m 176 #[oJ p1, oS, oI p2, oJ p3, oS, oJ p4, oS, oI p5, oI p6, oJ s1, oS, oJ s2, oS, oJ s3, oS, oI wd, oJ q, oS, oJ t1, oS, oJ t2, oS, oJ t3, oS, oJ tn, oS, oJ nn, oS, oR ob1, oU, oU, oU, oU] [])) t₀
            refine XS.aload X5.here hx rfl (hb hby at_176) rfl rfl ?_
            show Steps p.tables e below (T5.setTop (mkF m 178 #[oJ p1, oS, oI p2, oJ p3, oS, oJ p4, oS, oI p5, oI p6, oJ s1, oS, oJ s2, oS, oJ s3, oS, oI wd, oJ q, oS, oJ t1, oS, oJ t2, oS, oJ t3, oS, oJ tn, oS, oJ nn, oS, oR ob1, oU, oU, oU, oU] [(.ref ob1)])) t₀
            refine XS.lload X5.here hx rfl (hb hby at_178) rfl ?_
            exact k₀
          obtain ⟨cq18, kq18, q18a, q18b, q18c⟩ := isOf hZ rfl eob1_x5
          obtain ⟨_, _, ⟨T18, L18, k18, n18⟩, -, X18, ⟨Lc18, hQ18, l18, y18, z18⟩, st18⟩ := X5.virtualBack hx (y := (⟨"com/example/opledger/opledger/AppendTimes", "forgetUpTo", "(J)V"⟩ : MethodName)) (z := (⟨"com/example/opledger/opledger/AppendTimes", "forgetUpTo", "(J)V"⟩ : MethodName)) hown (mvT hZ (hw _ (List.mem_of_getElem? (i := 56) rfl))) (mvT hZ (hw _ (List.mem_of_getElem? (i := 57) rfl))) (notFace_of_selects (args := #[]) (mvT hZ (hw _ (List.mem_of_getElem? (i := 59) rfl)))) (mvT hZ (hw _ (List.mem_of_getElem? (i := 59) rfl))) (mvT hZ (hw _ (List.mem_of_getElem? (i := 58) rfl))) (by decide) (backOf (W := 0) (rmF1 l Z a0 hw [] ob1 q wN kN S3 W3T W3E kS3 kT3 kE3 s3 s1 t1 t1 s2 t2 t2 s3 t3 t3 (0 : Int64) (0 : Int64) (0 : Int64) (0 : Int64) (0 : Int64) (0 : Int64) (0 : Int64) (0 : Int64) (0 : Int64) (0 : Int64) (0 : Int64) (0 : Int64) (0 : Int64) (0 : Int64) (0 : Int64) T5.heap n0 z_x5 o_x5 S_NO VN eob1_x5 f5_0 f5_1 f5_2 f5_3 f5_4 f5_5 f5_6 f5_7 f5_8 f5_9 g_ob1 g3_0 g3_1 g3_2 d3_0 d3_1 d3_2 d3_3 d3_4 d3_5 hA hB) hZ (hw _ (List.mem_of_getElem? (i := 60) rfl)) (hw _ (List.mem_of_getElem? (i := 6) rfl)) (by decide) (by decide)) q18a q18c (g := (mkF m 180 #[oJ p1, oS, oI p2, oJ p3, oS, oJ p4, oS, oI p5, oI p6, oJ s1, oS, oJ s2, oS, oJ s3, oS, oI wd, oJ q, oS, oJ t1, oS, oJ t2, oS, oJ t3, oS, oJ tn, oS, oJ nn, oS, oR ob1, oU, oU, oU, oU] [(.long q), (.ref ob1)])) rfl (by rw [hml]; rfl) (Steps.refl _) (argsL := [(.long q)]) (rest := []) (lenOf pd_5 rfl) rfl (by show 2 * 0 + _ ≤ _; exact Nat.le_of_eq rfl) (hb hby at_180) (fun _ _ => ⟨rfl, rfl, (by decide : 4 + 0 ≤ _), (by decide : 31 + 0 ≤ _)⟩)
          dsimp only [Pt.U, Pt.locs, Pt.cells, Pt.slots] at X18 l18 y18 z18 st18 hQ18
          subst l18 y18 z18
          obtain ⟨rfl, N18q, K18, f18_0, f18_1, f18_2, f18_3, f18_4, f18_5, f18_6, f18_7, f18_8, f18_9⟩ := hQ18
          have N18 := Fr.app N5 N18q
          refine hG _ _ (fun t₀ k₀ => st18.trans k₀) ?_
          have z_x18 := Nat.le_trans z_x5 K18.1
          have o_x18 := o_x5.keep K18 (allS g_ob1 all0)
          have eob1_x18 := eob1_x5.keep K18
          have vS3_x18 := f5_7.keep K18 (ninS (Ne.symm d3_0) nin0)
          have vW3T_x18 := f5_8.keep K18 (ninS (Ne.symm d3_1) nin0)
          have vW3E_x18 := f5_9.keep K18 (ninS (Ne.symm d3_2) nin0)
          show G (T18.setTop (mkF m 183 #[oJ p1, oS, oI p2, oJ p3, oS, oJ p4, oS, oI p5, oI p6, oJ s1, oS, oJ s2, oS, oJ s3, oS, oI wd, oJ q, oS, oJ t1, oS, oJ t2, oS, oJ t3, oS, oJ tn, oS, oJ nn, oS, oR ob1, oU, oU, oU, oU] []))
          refine hG _ (T18.setTop (mkF m 228 #[oJ p1, oS, oI p2, oJ p3, oS, oJ p4, oS, oI p5, oI p6, oJ s1, oS, oJ s2, oS, oJ s3, oS, oI wd, oJ q, oS, oJ t1, oS, oJ t2, oS, oJ t3, oS, oJ tn, oS, oJ nn, oS, oR ob1, oI (1 : Int32), oJ t2, oS, oU] [(.long q), (.ref ob1)])) (fun t₀ k₀ => ?_) ?_
          · show Steps p.tables e below (T18.setTop (mkF m 183 #[oJ p1, oS, oI p2, oJ p3, oS, oJ p4, oS, oI p5, oI p6, oJ s1, oS, oJ s2, oS, oJ s3, oS, oI wd, oJ q, oS, oJ t1, oS, oJ t2, oS, oJ t3, oS, oJ tn, oS, oJ nn, oS, oR ob1, oU, oU, oU, oU] [])) t₀
            refine XS.iconst X18.here hx rfl (hb hby at_183) ?_
            show Steps p.tables e below (T18.setTop (mkF m 184 #[oJ p1, oS, oI p2, oJ p3, oS, oJ p4, oS, oI p5, oI p6, oJ s1, oS, oJ s2, oS, oJ s3, oS, oI wd, oJ q, oS, oJ t1, oS, oJ t2, oS, oJ t3, oS, oJ tn, oS, oJ nn, oS, oR ob1, oU, oU, oU, oU] [(.int (1 : Int32))])) t₀
            refine XS.istore X18.here hx rfl (hb hby at_184) rfl (l' := #[oJ p1, oS, oI p2, oJ p3, oS, oJ p4, oS, oI p5, oI p6, oJ s1, oS, oJ s2, oS, oJ s3, oS, oI wd, oJ q, oS, oJ t1, oS, oJ t2, oS, oJ t3, oS, oJ tn, oS, oJ nn, oS, oR ob1, oI (1 : Int32), oU, oU, oU]) rfl ?_
            show Steps p.tables e below (T18.setTop (mkF m 186 #[oJ p1, oS, oI p2, oJ p3, oS, oJ p4, oS, oI p5, oI p6, oJ s1, oS, oJ s2, oS, oJ s3, oS, oI wd, oJ q, oS, oJ t1, oS, oJ t2, oS, oJ t3, oS, oJ tn, oS, oJ nn, oS, oR ob1, oI (1 : Int32), oU, oU, oU] [])) t₀
            refine XS.lload X18.here hx rfl (hb hby at_186) rfl ?_
            show Steps p.tables e below (T18.setTop (mkF m 188 #[oJ p1, oS, oI p2, oJ p3, oS, oJ p4, oS, oI p5, oI p6, oJ s1, oS, oJ s2, oS, oJ s3, oS, oI wd, oJ q, oS, oJ t1, oS, oJ t2, oS, oJ t3, oS, oJ tn, oS, oJ nn, oS, oR ob1, oI (1 : Int32), oU, oU, oU] [(.long q)])) t₀
            refine XS.lload X18.here hx rfl (hb hby at_188) rfl ?_
            show Steps p.tables e below (T18.setTop (mkF m 190 #[oJ p1, oS, oI p2, oJ p3, oS, oJ p4, oS, oI p5, oI p6, oJ s1, oS, oJ s2, oS, oJ s3, oS, oI wd, oJ q, oS, oJ t1, oS, oJ t2, oS, oJ t3, oS, oJ tn, oS, oJ nn, oS, oR ob1, oI (1 : Int32), oU, oU, oU] [(.long s3), (.long q)])) t₀
            refine XS.lcmp X18.here hx rfl (hb hby at_190) rfl ?_
            show Steps p.tables e below (T18.setTop (mkF m 191 #[oJ p1, oS, oI p2, oJ p3, oS, oJ p4, oS, oI p5, oI p6, oJ s1, oS, oJ s2, oS, oJ s3, oS, oI wd, oJ q, oS, oJ t1, oS, oJ t2, oS, oJ t3, oS, oJ tn, oS, oJ nn, oS, oR ob1, oI (1 : Int32), oU, oU, oU] [(.int (lcmpW q s3))])) t₀
            refine XS.ifNo X18.here hx rfl (hb hby at_191) rfl ((if0 _ _).trans (tlt ((lw_lt q s3).mpr (own_tr hB h23))).2.1) ?_
            show Steps p.tables e below (T18.setTop (mkF m 194 #[oJ p1, oS, oI p2, oJ p3, oS, oJ p4, oS, oI p5, oI p6, oJ s1, oS, oJ s2, oS, oJ s3, oS, oI wd, oJ q, oS, oJ t1, oS, oJ t2, oS, oJ t3, oS, oJ tn, oS, oJ nn, oS, oR ob1, oI (1 : Int32), oU, oU, oU] [])) t₀
            refine XS.lload X18.here hx rfl (hb hby at_194) rfl ?_
            show Steps p.tables e below (T18.setTop (mkF m 196 #[oJ p1, oS, oI p2, oJ p3, oS, oJ p4, oS, oI p5, oI p6, oJ s1, oS, oJ s2, oS, oJ s3, oS, oI wd, oJ q, oS, oJ t1, oS, oJ t2, oS, oJ t3, oS, oJ tn, oS, oJ nn, oS, oR ob1, oI (1 : Int32), oU, oU, oU] [(.long q)])) t₀
            refine XS.lload X18.here hx rfl (hb hby at_196) rfl ?_
            show Steps p.tables e below (T18.setTop (mkF m 198 #[oJ p1, oS, oI p2, oJ p3, oS, oJ p4, oS, oI p5, oI p6, oJ s1, oS, oJ s2, oS, oJ s3, oS, oI wd, oJ q, oS, oJ t1, oS, oJ t2, oS, oJ t3, oS, oJ tn, oS, oJ nn, oS, oR ob1, oI (1 : Int32), oU, oU, oU] [(.long s1), (.long q)])) t₀
            refine XS.lcmp X18.here hx rfl (hb hby at_198) rfl ?_
            show Steps p.tables e below (T18.setTop (mkF m 199 #[oJ p1, oS, oI p2, oJ p3, oS, oJ p4, oS, oI p5, oI p6, oJ s1, oS, oJ s2, oS, oJ s3, oS, oI wd, oJ q, oS, oJ t1, oS, oJ t2, oS, oJ t3, oS, oJ tn, oS, oJ nn, oS, oR ob1, oI (1 : Int32), oU, oU, oU] [(.int (lcmpW q s1))])) t₀
            refine XS.ifYes X18.here hx rfl (pc0 := 199) (pc' := 207) rfl (hb hby at_199) rfl ((if0 _ _).trans (flt (fun z => hA ((lw_lt q s1).mp z))).2.1) (by decide) (by decide) ?_
            show Steps p.tables e below (T18.setTop (mkF m 207 #[oJ p1, oS, oI p2, oJ p3, oS, oJ p4, oS, oI p5, oI p6, oJ s1, oS, oJ s2, oS, oJ s3, oS, oI wd, oJ q, oS, oJ t1, oS, oJ t2, oS, oJ t3, oS, oJ tn, oS, oJ nn, oS, oR ob1, oI (1 : Int32), oU, oU, oU] [])) t₀
            refine XS.lload X18.here hx rfl (hb hby at_207) rfl ?_
            show Steps p.tables e below (T18.setTop (mkF m 209 #[oJ p1, oS, oI p2, oJ p3, oS, oJ p4, oS, oI p5, oI p6, oJ s1, oS, oJ s2, oS, oJ s3, oS, oI wd, oJ q, oS, oJ t1, oS, oJ t2, oS, oJ t3, oS, oJ tn, oS, oJ nn, oS, oR ob1, oI (1 : Int32), oU, oU, oU] [(.long q)])) t₀
            refine XS.lload X18.here hx rfl (hb hby at_209) rfl ?_
            show Steps p.tables e below (T18.setTop (mkF m 211 #[oJ p1, oS, oI p2, oJ p3, oS, oJ p4, oS, oI p5, oI p6, oJ s1, oS, oJ s2, oS, oJ s3, oS, oI wd, oJ q, oS, oJ t1, oS, oJ t2, oS, oJ t3, oS, oJ tn, oS, oJ nn, oS, oR ob1, oI (1 : Int32), oU, oU, oU] [(.long s2), (.long q)])) t₀
            refine XS.lcmp X18.here hx rfl (hb hby at_211) rfl ?_
            show Steps p.tables e below (T18.setTop (mkF m 212 #[oJ p1, oS, oI p2, oJ p3, oS, oJ p4, oS, oI p5, oI p6, oJ s1, oS, oJ s2, oS, oJ s3, oS, oI wd, oJ q, oS, oJ t1, oS, oJ t2, oS, oJ t3, oS, oJ tn, oS, oJ nn, oS, oR ob1, oI (1 : Int32), oU, oU, oU] [(.int (lcmpW q s2))])) t₀
            refine XS.ifNo X18.here hx rfl (hb hby at_212) rfl ((if0 _ _).trans (tlt ((lw_lt q s2).mpr hB)).2.1) ?_
            show Steps p.tables e below (T18.setTop (mkF m 215 #[oJ p1, oS, oI p2, oJ p3, oS, oJ p4, oS, oI p5, oI p6, oJ s1, oS, oJ s2, oS, oJ s3, oS, oI wd, oJ q, oS, oJ t1, oS, oJ t2, oS, oJ t3, oS, oJ tn, oS, oJ nn, oS, oR ob1, oI (1 : Int32), oU, oU, oU] [])) t₀
            refine XS.lload X18.here hx rfl (hb hby at_215) rfl ?_
            show Steps p.tables e below (T18.setTop (mkF m 217 #[oJ p1, oS, oI p2, oJ p3, oS, oJ p4, oS, oI p5, oI p6, oJ s1, oS, oJ s2, oS, oJ s3, oS, oI wd, oJ q, oS, oJ t1, oS, oJ t2, oS, oJ t3, oS, oJ tn, oS, oJ nn, oS, oR ob1, oI (1 : Int32), oU, oU, oU] [(.long t2)])) t₀
            refine XS.goto X18.here hx rfl (pc0 := 217) (pc' := 222) rfl (hb hby at_217) (by decide) (by decide) ?_
            show Steps p.tables e below (T18.setTop (mkF m 222 #[oJ p1, oS, oI p2, oJ p3, oS, oJ p4, oS, oI p5, oI p6, oJ s1, oS, oJ s2, oS, oJ s3, oS, oI wd, oJ q, oS, oJ t1, oS, oJ t2, oS, oJ t3, oS, oJ tn, oS, oJ nn, oS, oR ob1, oI (1 : Int32), oU, oU, oU] [(.long t2)])) t₀
            refine XS.lstore X18.here hx rfl (hb hby at_222) rfl (l' := #[oJ p1, oS, oI p2, oJ p3, oS, oJ p4, oS, oI p5, oI p6, oJ s1, oS, oJ s2, oS, oJ s3, oS, oI wd, oJ q, oS, oJ t1, oS, oJ t2, oS, oJ t3, oS, oJ tn, oS, oJ nn, oS, oR ob1, oI (1 : Int32), oJ t2, oS, oU]) rfl ?_
            show Steps p.tables e below (T18.setTop (mkF m 224 #[oJ p1, oS, oI p2, oJ p3, oS, oJ p4, oS, oI p5, oI p6, oJ s1, oS, oJ s2, oS, oJ s3, oS, oI wd, oJ q, oS, oJ t1, oS, oJ t2, oS, oJ t3, oS, oJ tn, oS, oJ nn, oS, oR ob1, oI (1 : Int32), oJ t2, oS, oU] [])) t₀
            refine XS.aload X18.here hx rfl (hb hby at_224) rfl rfl ?_
            show Steps p.tables e below (T18.setTop (mkF m 226 #[oJ p1, oS, oI p2, oJ p3, oS, oJ p4, oS, oI p5, oI p6, oJ s1, oS, oJ s2, oS, oJ s3, oS, oI wd, oJ q, oS, oJ t1, oS, oJ t2, oS, oJ t3, oS, oJ tn, oS, oJ nn, oS, oR ob1, oI (1 : Int32), oJ t2, oS, oU] [(.ref ob1)])) t₀
            refine XS.lload X18.here hx rfl (hb hby at_226) rfl ?_
            exact k₀
          obtain ⟨cq19, kq19, q19a, q19b, q19c⟩ := isOf hZ rfl eob1_x18
          obtain ⟨_, _, ⟨T19, L19, k19, n19⟩, -, X19, ⟨Lc19, hQ19, l19, y19, z19⟩, st19⟩ := X18.virtualBack hx (y := (⟨"com/example/opledger/opledger/AppendTimes", "earliestAbove", "(J)J"⟩ : MethodName)) (z := (⟨"com/example/opledger/opledger/AppendTimes", "earliestAbove", "(J)J"⟩ : MethodName)) hown (mvT hZ (hw _ (List.mem_of_getElem? (i := 61) rfl))) (mvT hZ (hw _ (List.mem_of_getElem? (i := 62) rfl))) (notFace_of_selects (args := #[]) (mvT hZ (hw _ (List.mem_of_getElem? (i := 64) rfl)))) (mvT hZ (hw _ (List.mem_of_getElem? (i := 64) rfl))) (mvT hZ (hw _ (List.mem_of_getElem? (i := 63) rfl))) (by decide) (backOf (W := 0) (rmE11 l Z a0 hw [] ob1 q S3 W3T kS3 kT3 s1 t1 s2 t2 s3 t3 (0 : Int64) (0 : Int64) (0 : Int64) (0 : Int64) (0 : Int64) (0 : Int64) (0 : Int64) (0 : Int64) (0 : Int64) (0 : Int64) T18.heap n0 z_x18 f18_0 f18_1 f18_3 f18_4 f18_7 f18_8 hB) hZ (hw _ (List.mem_of_getElem? (i := 65) rfl)) (hw _ (List.mem_of_getElem? (i := 6) rfl)) (by decide) (by decide)) q19a q19c (g := (mkF m 228 #[oJ p1, oS, oI p2, oJ p3, oS, oJ p4, oS, oI p5, oI p6, oJ s1, oS, oJ s2, oS, oJ s3, oS, oI wd, oJ q, oS, oJ t1, oS, oJ t2, oS, oJ t3, oS, oJ tn, oS, oJ nn, oS, oR ob1, oI (1 : Int32), oJ t2, oS, oU] [(.long q), (.ref ob1)])) rfl (by rw [hml]; rfl) (Steps.refl _) (argsL := [(.long q)]) (rest := []) (lenOf pd_6 rfl) rfl (by show 2 * 0 + _ ≤ _; exact Nat.le_of_eq rfl) (hb hby at_228) (fun _ _ => ⟨rfl, rfl, (by decide : 4 + 0 ≤ _), (by decide : 31 + 0 ≤ _)⟩)
          dsimp only [Pt.U, Pt.locs, Pt.cells, Pt.slots] at X19 l19 y19 z19 st19 hQ19
          subst l19 y19 z19
          obtain ⟨rfl, N19q, e19⟩ := hQ19
          have N19 := Fr.app N18 N19q
          refine hG _ _ (fun t₀ k₀ => st19.trans k₀) ?_
          show G (T19.setTop (mkF m 231 #[oJ p1, oS, oI p2, oJ p3, oS, oJ p4, oS, oI p5, oI p6, oJ s1, oS, oJ s2, oS, oJ s3, oS, oI wd, oJ q, oS, oJ t1, oS, oJ t2, oS, oJ t3, oS, oJ tn, oS, oJ nn, oS, oR ob1, oI (1 : Int32), oJ t2, oS, oU] [(.long t2)]))
          refine hG _ (T19.setTop (mkF m 250 #[oJ p1, oS, oI p2, oJ p3, oS, oJ p4, oS, oI p5, oI p6, oJ s1, oS, oJ s2, oS, oJ s3, oS, oI wd, oJ q, oS, oJ t1, oS, oJ t2, oS, oJ t3, oS, oJ tn, oS, oJ nn, oS, oR ob1, oI (1 : Int32), oJ t2, oS, oU] [(.long tn), (.long nn), (.ref ob1)])) (fun t₀ k₀ => ?_) ?_
          · show Steps p.tables e below (T19.setTop (mkF m 231 #[oJ p1, oS, oI p2, oJ p3, oS, oJ p4, oS, oI p5, oI p6, oJ s1, oS, oJ s2, oS, oJ s3, oS, oI wd, oJ q, oS, oJ t1, oS, oJ t2, oS, oJ t3, oS, oJ tn, oS, oJ nn, oS, oR ob1, oI (1 : Int32), oJ t2, oS, oU] [(.long t2)])) t₀
            refine XS.lload X19.here hx rfl (hb hby at_231) rfl ?_
            show Steps p.tables e below (T19.setTop (mkF m 233 #[oJ p1, oS, oI p2, oJ p3, oS, oJ p4, oS, oI p5, oI p6, oJ s1, oS, oJ s2, oS, oJ s3, oS, oI wd, oJ q, oS, oJ t1, oS, oJ t2, oS, oJ t3, oS, oJ tn, oS, oJ nn, oS, oR ob1, oI (1 : Int32), oJ t2, oS, oU] [(.long t2), (.long t2)])) t₀
            refine XS.lcmp X19.here hx rfl (hb hby at_233) rfl ?_
            show Steps p.tables e below (T19.setTop (mkF m 234 #[oJ p1, oS, oI p2, oJ p3, oS, oJ p4, oS, oI p5, oI p6, oJ s1, oS, oJ s2, oS, oJ s3, oS, oI wd, oJ q, oS, oJ t1, oS, oJ t2, oS, oJ t3, oS, oJ tn, oS, oJ nn, oS, oR ob1, oI (1 : Int32), oJ t2, oS, oU] [(.int (lcmpW t2 t2))])) t₀
            refine XS.ifNo X19.here hx rfl (hb hby at_234) rfl ((if0 _ _).trans (teq ((lw_eq t2 t2).mpr rfl)).2) ?_
            show Steps p.tables e below (T19.setTop (mkF m 237 #[oJ p1, oS, oI p2, oJ p3, oS, oJ p4, oS, oI p5, oI p6, oJ s1, oS, oJ s2, oS, oJ s3, oS, oI wd, oJ q, oS, oJ t1, oS, oJ t2, oS, oJ t3, oS, oJ tn, oS, oJ nn, oS, oR ob1, oI (1 : Int32), oJ t2, oS, oU] [])) t₀
            refine XS.iconst X19.here hx rfl (hb hby at_237) ?_
            show Steps p.tables e below (T19.setTop (mkF m 238 #[oJ p1, oS, oI p2, oJ p3, oS, oJ p4, oS, oI p5, oI p6, oJ s1, oS, oJ s2, oS, oJ s3, oS, oI wd, oJ q, oS, oJ t1, oS, oJ t2, oS, oJ t3, oS, oJ tn, oS, oJ nn, oS, oR ob1, oI (1 : Int32), oJ t2, oS, oU] [(.int (1 : Int32))])) t₀
            refine XS.goto X19.here hx rfl (pc0 := 238) (pc' := 242) rfl (hb hby at_238) (by decide) (by decide) ?_
            show Steps p.tables e below (T19.setTop (mkF m 242 #[oJ p1, oS, oI p2, oJ p3, oS, oJ p4, oS, oI p5, oI p6, oJ s1, oS, oJ s2, oS, oJ s3, oS, oI wd, oJ q, oS, oJ t1, oS, oJ t2, oS, oJ t3, oS, oJ tn, oS, oJ nn, oS, oR ob1, oI (1 : Int32), oJ t2, oS, oU] [(.int (1 : Int32))])) t₀
            refine XS.istore X19.here hx rfl (hb hby at_242) rfl (l' := #[oJ p1, oS, oI p2, oJ p3, oS, oJ p4, oS, oI p5, oI p6, oJ s1, oS, oJ s2, oS, oJ s3, oS, oI wd, oJ q, oS, oJ t1, oS, oJ t2, oS, oJ t3, oS, oJ tn, oS, oJ nn, oS, oR ob1, oI (1 : Int32), oJ t2, oS, oU]) rfl ?_
            show Steps p.tables e below (T19.setTop (mkF m 244 #[oJ p1, oS, oI p2, oJ p3, oS, oJ p4, oS, oI p5, oI p6, oJ s1, oS, oJ s2, oS, oJ s3, oS, oI wd, oJ q, oS, oJ t1, oS, oJ t2, oS, oJ t3, oS, oJ tn, oS, oJ nn, oS, oR ob1, oI (1 : Int32), oJ t2, oS, oU] [])) t₀
            refine XS.aload X19.here hx rfl (hb hby at_244) rfl rfl ?_
            show Steps p.tables e below (T19.setTop (mkF m 246 #[oJ p1, oS, oI p2, oJ p3, oS, oJ p4, oS, oI p5, oI p6, oJ s1, oS, oJ s2, oS, oJ s3, oS, oI wd, oJ q, oS, oJ t1, oS, oJ t2, oS, oJ t3, oS, oJ tn, oS, oJ nn, oS, oR ob1, oI (1 : Int32), oJ t2, oS, oU] [(.ref ob1)])) t₀
            refine XS.lload X19.here hx rfl (hb hby at_246) rfl ?_
            show Steps p.tables e below (T19.setTop (mkF m 248 #[oJ p1, oS, oI p2, oJ p3, oS, oJ p4, oS, oI p5, oI p6, oJ s1, oS, oJ s2, oS, oJ s3, oS, oI wd, oJ q, oS, oJ t1, oS, oJ t2, oS, oJ t3, oS, oJ tn, oS, oJ nn, oS, oR ob1, oI (1 : Int32), oJ t2, oS, oU] [(.long nn), (.ref ob1)])) t₀
            refine XS.lload X19.here hx rfl (hb hby at_248) rfl ?_
            exact k₀
          obtain ⟨cq20, kq20, q20a, q20b, q20c⟩ := isOf hZ e19 eob1_x18
          obtain ⟨_, _, ⟨T20, L20, k20, n20⟩, -, X20, ⟨Lc20, hQ20, l20, y20, z20⟩, st20⟩ := X19.virtualBack hx (y := (⟨"com/example/opledger/opledger/AppendTimes", "record", "(JJ)V"⟩ : MethodName)) (z := (⟨"com/example/opledger/opledger/AppendTimes", "record", "(JJ)V"⟩ : MethodName)) hown (mvT hZ (hw _ (List.mem_of_getElem? (i := 28) rfl))) (mvT hZ (hw _ (List.mem_of_getElem? (i := 29) rfl))) (notFace_of_selects (args := #[]) (mvT hZ (hw _ (List.mem_of_getElem? (i := 31) rfl)))) (mvT hZ (hw _ (List.mem_of_getElem? (i := 31) rfl))) (mvT hZ (hw _ (List.mem_of_getElem? (i := 30) rfl))) (by decide) (backOf (W := 0) (rmRM l Z a0 hw [] ob1 nn tn S3 W3T W3E kS3 kT3 kE3 (1 : Int32) s3 s1 t1 t1 s2 t2 t2 s3 t3 t3 (0 : Int64) (0 : Int64) (0 : Int64) (0 : Int64) (0 : Int64) (0 : Int64) (0 : Int64) (0 : Int64) (0 : Int64) (0 : Int64) (0 : Int64) (0 : Int64) (0 : Int64) (0 : Int64) (0 : Int64) T18.heap n0 z_x18 eob1_x18 f18_0 f18_1 f18_2 f18_3 f18_4 f18_5 f18_6 f18_7 f18_8 f18_9 g_ob1 g3_0 g3_1 g3_2 d3_0 d3_1 d3_2 d3_3 d3_4 d3_5 h3n (by decide) hGp) hZ (hw _ (List.mem_of_getElem? (i := 32) rfl)) (hw _ (List.mem_of_getElem? (i := 6) rfl)) (by decide) (by decide)) q20a q20c (g := (mkF m 250 #[oJ p1, oS, oI p2, oJ p3, oS, oJ p4, oS, oI p5, oI p6, oJ s1, oS, oJ s2, oS, oJ s3, oS, oI wd, oJ q, oS, oJ t1, oS, oJ t2, oS, oJ t3, oS, oJ tn, oS, oJ nn, oS, oR ob1, oI (1 : Int32), oJ t2, oS, oU] [(.long tn), (.long nn), (.ref ob1)])) rfl (by rw [hml]; rfl) (Steps.refl _) (argsL := [(.long nn), (.long tn)]) (rest := []) (lenOf pd_1 rfl) rfl (by show 2 * 0 + _ ≤ _; exact Nat.le_of_eq rfl) (hb hby at_250) (fun _ _ => ⟨rfl, e19, (by decide : 4 + 0 ≤ _), (by decide : 31 + 0 ≤ _)⟩)
          dsimp only [Pt.U, Pt.locs, Pt.cells, Pt.slots] at X20 l20 y20 z20 st20 hQ20
          subst l20 y20 z20
          obtain ⟨rfl, N20q, K20, f20_0, f20_1, f20_2, f20_3, f20_4, f20_5, f20_6, f20_7, f20_8, f20_9⟩ := hQ20
          have N20 := Fr.app N19 N20q
          refine hG _ _ (fun t₀ k₀ => st20.trans k₀) ?_
          have z_x20 := Nat.le_trans z_x18 K20.1
          have o_x20 := o_x18.keep K20 (allS g_ob1 (allS g3_0 (allS g3_1 (allS g3_2 all0))))
          have eob1_x20 := eob1_x18.keep K20
          show G (T20.setTop (mkF m 253 #[oJ p1, oS, oI p2, oJ p3, oS, oJ p4, oS, oI p5, oI p6, oJ s1, oS, oJ s2, oS, oJ s3, oS, oI wd, oJ q, oS, oJ t1, oS, oJ t2, oS, oJ t3, oS, oJ tn, oS, oJ nn, oS, oR ob1, oI (1 : Int32), oJ t2, oS, oU] []))
          refine hG _ (T20.setTop (mkF m 288 #[oJ p1, oS, oI p2, oJ p3, oS, oJ p4, oS, oI p5, oI p6, oJ s1, oS, oJ s2, oS, oJ s3, oS, oI wd, oJ q, oS, oJ t1, oS, oJ t2, oS, oJ t3, oS, oJ tn, oS, oJ nn, oS, oR ob1, oI (1 : Int32), oJ t3, oS, oU] [(.long s3), (.ref ob1)])) (fun t₀ k₀ => ?_) ?_
          · show Steps p.tables e below (T20.setTop (mkF m 253 #[oJ p1, oS, oI p2, oJ p3, oS, oJ p4, oS, oI p5, oI p6, oJ s1, oS, oJ s2, oS, oJ s3, oS, oI wd, oJ q, oS, oJ t1, oS, oJ t2, oS, oJ t3, oS, oJ tn, oS, oJ nn, oS, oR ob1, oI (1 : Int32), oJ t2, oS, oU] [])) t₀
            refine XS.lload X20.here hx rfl (hb hby at_253) rfl ?_
            show Steps p.tables e below (T20.setTop (mkF m 255 #[oJ p1, oS, oI p2, oJ p3, oS, oJ p4, oS, oI p5, oI p6, oJ s1, oS, oJ s2, oS, oJ s3, oS, oI wd, oJ q, oS, oJ t1, oS, oJ t2, oS, oJ t3, oS, oJ tn, oS, oJ nn, oS, oR ob1, oI (1 : Int32), oJ t2, oS, oU] [(.long q)])) t₀
            refine XS.lload X20.here hx rfl (hb hby at_255) rfl ?_
            show Steps p.tables e below (T20.setTop (mkF m 257 #[oJ p1, oS, oI p2, oJ p3, oS, oJ p4, oS, oI p5, oI p6, oJ s1, oS, oJ s2, oS, oJ s3, oS, oI wd, oJ q, oS, oJ t1, oS, oJ t2, oS, oJ t3, oS, oJ tn, oS, oJ nn, oS, oR ob1, oI (1 : Int32), oJ t2, oS, oU] [(.long s3), (.long q)])) t₀
            refine XS.lcmp X20.here hx rfl (hb hby at_257) rfl ?_
            show Steps p.tables e below (T20.setTop (mkF m 258 #[oJ p1, oS, oI p2, oJ p3, oS, oJ p4, oS, oI p5, oI p6, oJ s1, oS, oJ s2, oS, oJ s3, oS, oI wd, oJ q, oS, oJ t1, oS, oJ t2, oS, oJ t3, oS, oJ tn, oS, oJ nn, oS, oR ob1, oI (1 : Int32), oJ t2, oS, oU] [(.int (lcmpW q s3))])) t₀
            refine XS.ifNo X20.here hx rfl (hb hby at_258) rfl ((if0 _ _).trans (tlt ((lw_lt q s3).mpr (own_tr hB h23))).2.1) ?_
            show Steps p.tables e below (T20.setTop (mkF m 261 #[oJ p1, oS, oI p2, oJ p3, oS, oJ p4, oS, oI p5, oI p6, oJ s1, oS, oJ s2, oS, oJ s3, oS, oI wd, oJ q, oS, oJ t1, oS, oJ t2, oS, oJ t3, oS, oJ tn, oS, oJ nn, oS, oR ob1, oI (1 : Int32), oJ t2, oS, oU] [])) t₀
            refine XS.lload X20.here hx rfl (hb hby at_261) rfl ?_
            show Steps p.tables e below (T20.setTop (mkF m 263 #[oJ p1, oS, oI p2, oJ p3, oS, oJ p4, oS, oI p5, oI p6, oJ s1, oS, oJ s2, oS, oJ s3, oS, oI wd, oJ q, oS, oJ t1, oS, oJ t2, oS, oJ t3, oS, oJ tn, oS, oJ nn, oS, oR ob1, oI (1 : Int32), oJ t2, oS, oU] [(.long tn)])) t₀
            refine XS.lload X20.here hx rfl (hb hby at_263) rfl ?_
            show Steps p.tables e below (T20.setTop (mkF m 265 #[oJ p1, oS, oI p2, oJ p3, oS, oJ p4, oS, oI p5, oI p6, oJ s1, oS, oJ s2, oS, oJ s3, oS, oI wd, oJ q, oS, oJ t1, oS, oJ t2, oS, oJ t3, oS, oJ tn, oS, oJ nn, oS, oR ob1, oI (1 : Int32), oJ t2, oS, oU] [(.long t3), (.long tn)])) t₀
            refine XS.lsub X20.here hx rfl (hb hby at_265) rfl ?_
            show Steps p.tables e below (T20.setTop (mkF m 266 #[oJ p1, oS, oI p2, oJ p3, oS, oJ p4, oS, oI p5, oI p6, oJ s1, oS, oJ s2, oS, oJ s3, oS, oI wd, oJ q, oS, oJ t1, oS, oJ t2, oS, oJ t3, oS, oJ tn, oS, oJ nn, oS, oR ob1, oI (1 : Int32), oJ t2, oS, oU] [(.long (tn - t3))])) t₀
            refine X20.ldc2Long hx hown (mvT hZ (hw _ (List.mem_of_getElem? (i := 66) rfl))) (g := (mkF m 266 #[oJ p1, oS, oI p2, oJ p3, oS, oJ p4, oS, oI p5, oI p6, oJ s1, oS, oJ s2, oS, oJ s3, oS, oI wd, oJ q, oS, oJ t1, oS, oJ t2, oS, oJ t3, oS, oJ tn, oS, oJ nn, oS, oR ob1, oI (1 : Int32), oJ t2, oS, oU] [(.long (tn - t3))])) rfl (hb hby at_266) _ ?_
            show Steps p.tables e below (T20.setTop (mkF m 269 #[oJ p1, oS, oI p2, oJ p3, oS, oJ p4, oS, oI p5, oI p6, oJ s1, oS, oJ s2, oS, oJ s3, oS, oI wd, oJ q, oS, oJ t1, oS, oJ t2, oS, oJ t3, oS, oJ tn, oS, oJ nn, oS, oR ob1, oI (1 : Int32), oJ t2, oS, oU] [(.long (1000000 : Int64)), (.long (tn - t3))])) t₀
            refine XS.lcmp X20.here hx rfl (hb hby at_269) rfl ?_
            show Steps p.tables e below (T20.setTop (mkF m 270 #[oJ p1, oS, oI p2, oJ p3, oS, oJ p4, oS, oI p5, oI p6, oJ s1, oS, oJ s2, oS, oJ s3, oS, oI wd, oJ q, oS, oJ t1, oS, oJ t2, oS, oJ t3, oS, oJ tn, oS, oJ nn, oS, oR ob1, oI (1 : Int32), oJ t2, oS, oU] [(.int (lcmpW (tn - t3) (1000000 : Int64)))])) t₀
            refine XS.ifNo X20.here hx rfl (hb hby at_270) rfl ((if0 _ _).trans (flt (fun z => hGp ((lw_gt (tn - t3) (1000000 : Int64)).mp z))).2.2.1) ?_
            show Steps p.tables e below (T20.setTop (mkF m 273 #[oJ p1, oS, oI p2, oJ p3, oS, oJ p4, oS, oI p5, oI p6, oJ s1, oS, oJ s2, oS, oJ s3, oS, oI wd, oJ q, oS, oJ t1, oS, oJ t2, oS, oJ t3, oS, oJ tn, oS, oJ nn, oS, oR ob1, oI (1 : Int32), oJ t2, oS, oU] [])) t₀
            refine XS.lload X20.here hx rfl (hb hby at_273) rfl ?_
            show Steps p.tables e below (T20.setTop (mkF m 275 #[oJ p1, oS, oI p2, oJ p3, oS, oJ p4, oS, oI p5, oI p6, oJ s1, oS, oJ s2, oS, oJ s3, oS, oI wd, oJ q, oS, oJ t1, oS, oJ t2, oS, oJ t3, oS, oJ tn, oS, oJ nn, oS, oR ob1, oI (1 : Int32), oJ t2, oS, oU] [(.long t3)])) t₀
            refine XS.lstore X20.here hx rfl (hb hby at_275) rfl (l' := #[oJ p1, oS, oI p2, oJ p3, oS, oJ p4, oS, oI p5, oI p6, oJ s1, oS, oJ s2, oS, oJ s3, oS, oI wd, oJ q, oS, oJ t1, oS, oJ t2, oS, oJ t3, oS, oJ tn, oS, oJ nn, oS, oR ob1, oI (1 : Int32), oJ t3, oS, oU]) rfl ?_
            show Steps p.tables e below (T20.setTop (mkF m 277 #[oJ p1, oS, oI p2, oJ p3, oS, oJ p4, oS, oI p5, oI p6, oJ s1, oS, oJ s2, oS, oJ s3, oS, oI wd, oJ q, oS, oJ t1, oS, oJ t2, oS, oJ t3, oS, oJ tn, oS, oJ nn, oS, oR ob1, oI (1 : Int32), oJ t3, oS, oU] [])) t₀
            refine XS.goto X20.here hx rfl (pc0 := 277) (pc' := 284) rfl (hb hby at_277) (by decide) (by decide) ?_
            show Steps p.tables e below (T20.setTop (mkF m 284 #[oJ p1, oS, oI p2, oJ p3, oS, oJ p4, oS, oI p5, oI p6, oJ s1, oS, oJ s2, oS, oJ s3, oS, oI wd, oJ q, oS, oJ t1, oS, oJ t2, oS, oJ t3, oS, oJ tn, oS, oJ nn, oS, oR ob1, oI (1 : Int32), oJ t3, oS, oU] [])) t₀
            refine XS.aload X20.here hx rfl (hb hby at_284) rfl rfl ?_
            show Steps p.tables e below (T20.setTop (mkF m 286 #[oJ p1, oS, oI p2, oJ p3, oS, oJ p4, oS, oI p5, oI p6, oJ s1, oS, oJ s2, oS, oJ s3, oS, oI wd, oJ q, oS, oJ t1, oS, oJ t2, oS, oJ t3, oS, oJ tn, oS, oJ nn, oS, oR ob1, oI (1 : Int32), oJ t3, oS, oU] [(.ref ob1)])) t₀
            refine XS.lload X20.here hx rfl (hb hby at_286) rfl ?_
            exact k₀
          obtain ⟨cq21, kq21, q21a, q21b, q21c⟩ := isOf hZ rfl eob1_x20
          obtain ⟨_, _, ⟨T21, L21, k21, n21⟩, -, X21, ⟨Lc21, hQ21, l21, y21, z21⟩, st21⟩ := X20.virtualBack hx (y := (⟨"com/example/opledger/opledger/AppendTimes", "earliestAbove", "(J)J"⟩ : MethodName)) (z := (⟨"com/example/opledger/opledger/AppendTimes", "earliestAbove", "(J)J"⟩ : MethodName)) hown (mvT hZ (hw _ (List.mem_of_getElem? (i := 61) rfl))) (mvT hZ (hw _ (List.mem_of_getElem? (i := 62) rfl))) (notFace_of_selects (args := #[]) (mvT hZ (hw _ (List.mem_of_getElem? (i := 64) rfl)))) (mvT hZ (hw _ (List.mem_of_getElem? (i := 64) rfl))) (mvT hZ (hw _ (List.mem_of_getElem? (i := 63) rfl))) (by decide) (backOf (W := 0) (rmE21 l Z a0 hw [] ob1 s3 S3 W3T kS3 kT3 s1 t1 s2 t2 nn t3 (0 : Int64) (0 : Int64) (0 : Int64) (0 : Int64) (0 : Int64) (0 : Int64) (0 : Int64) (0 : Int64) (0 : Int64) (0 : Int64) T20.heap n0 z_x20 f20_0 f20_1 f20_3 f20_4 f20_7 f20_8 (own_as h23)) hZ (hw _ (List.mem_of_getElem? (i := 65) rfl)) (hw _ (List.mem_of_getElem? (i := 6) rfl)) (by decide) (by decide)) q21a q21c (g := (mkF m 288 #[oJ p1, oS, oI p2, oJ p3, oS, oJ p4, oS, oI p5, oI p6, oJ s1, oS, oJ s2, oS, oJ s3, oS, oI wd, oJ q, oS, oJ t1, oS, oJ t2, oS, oJ t3, oS, oJ tn, oS, oJ nn, oS, oR ob1, oI (1 : Int32), oJ t3, oS, oU] [(.long s3), (.ref ob1)])) rfl (by rw [hml]; rfl) (Steps.refl _) (argsL := [(.long s3)]) (rest := []) (lenOf pd_6 rfl) rfl (by show 2 * 0 + _ ≤ _; exact Nat.le_of_eq rfl) (hb hby at_288) (fun _ _ => ⟨rfl, rfl, (by decide : 4 + 0 ≤ _), (by decide : 31 + 0 ≤ _)⟩)
          dsimp only [Pt.U, Pt.locs, Pt.cells, Pt.slots] at X21 l21 y21 z21 st21 hQ21
          subst l21 y21 z21
          obtain ⟨rfl, N21q, e21⟩ := hQ21
          have N21 := Fr.app N20 N21q
          refine hG _ _ (fun t₀ k₀ => st21.trans k₀) ?_
          show G (T21.setTop (mkF m 291 #[oJ p1, oS, oI p2, oJ p3, oS, oJ p4, oS, oI p5, oI p6, oJ s1, oS, oJ s2, oS, oJ s3, oS, oI wd, oJ q, oS, oJ t1, oS, oJ t2, oS, oJ t3, oS, oJ tn, oS, oJ nn, oS, oR ob1, oI (1 : Int32), oJ t3, oS, oU] [(.long t3)]))
          refine hG _ (T21.setTop (mkF m 319 #[oJ p1, oS, oI p2, oJ p3, oS, oJ p4, oS, oI p5, oI p6, oJ s1, oS, oJ s2, oS, oJ s3, oS, oI wd, oJ q, oS, oJ t1, oS, oJ t2, oS, oJ t3, oS, oJ tn, oS, oJ nn, oS, oR ob1, oI (1 : Int32), oJ t3, oS, oI (1 : Int32)] [(.int (1 : Int32))])) (fun t₀ k₀ => ?_) ?_
          · show Steps p.tables e below (T21.setTop (mkF m 291 #[oJ p1, oS, oI p2, oJ p3, oS, oJ p4, oS, oI p5, oI p6, oJ s1, oS, oJ s2, oS, oJ s3, oS, oI wd, oJ q, oS, oJ t1, oS, oJ t2, oS, oJ t3, oS, oJ tn, oS, oJ nn, oS, oR ob1, oI (1 : Int32), oJ t3, oS, oU] [(.long t3)])) t₀
            refine XS.lload X21.here hx rfl (hb hby at_291) rfl ?_
            show Steps p.tables e below (T21.setTop (mkF m 293 #[oJ p1, oS, oI p2, oJ p3, oS, oJ p4, oS, oI p5, oI p6, oJ s1, oS, oJ s2, oS, oJ s3, oS, oI wd, oJ q, oS, oJ t1, oS, oJ t2, oS, oJ t3, oS, oJ tn, oS, oJ nn, oS, oR ob1, oI (1 : Int32), oJ t3, oS, oU] [(.long t3), (.long t3)])) t₀
            refine XS.lcmp X21.here hx rfl (hb hby at_293) rfl ?_
            show Steps p.tables e below (T21.setTop (mkF m 294 #[oJ p1, oS, oI p2, oJ p3, oS, oJ p4, oS, oI p5, oI p6, oJ s1, oS, oJ s2, oS, oJ s3, oS, oI wd, oJ q, oS, oJ t1, oS, oJ t2, oS, oJ t3, oS, oJ tn, oS, oJ nn, oS, oR ob1, oI (1 : Int32), oJ t3, oS, oU] [(.int (lcmpW t3 t3))])) t₀
            refine XS.ifNo X21.here hx rfl (hb hby at_294) rfl ((if0 _ _).trans (teq ((lw_eq t3 t3).mpr rfl)).2) ?_
            show Steps p.tables e below (T21.setTop (mkF m 297 #[oJ p1, oS, oI p2, oJ p3, oS, oJ p4, oS, oI p5, oI p6, oJ s1, oS, oJ s2, oS, oJ s3, oS, oI wd, oJ q, oS, oJ t1, oS, oJ t2, oS, oJ t3, oS, oJ tn, oS, oJ nn, oS, oR ob1, oI (1 : Int32), oJ t3, oS, oU] [])) t₀
            refine XS.iconst X21.here hx rfl (hb hby at_297) ?_
            show Steps p.tables e below (T21.setTop (mkF m 298 #[oJ p1, oS, oI p2, oJ p3, oS, oJ p4, oS, oI p5, oI p6, oJ s1, oS, oJ s2, oS, oJ s3, oS, oI wd, oJ q, oS, oJ t1, oS, oJ t2, oS, oJ t3, oS, oJ tn, oS, oJ nn, oS, oR ob1, oI (1 : Int32), oJ t3, oS, oU] [(.int (1 : Int32))])) t₀
            refine XS.goto X21.here hx rfl (pc0 := 298) (pc' := 302) rfl (hb hby at_298) (by decide) (by decide) ?_
            show Steps p.tables e below (T21.setTop (mkF m 302 #[oJ p1, oS, oI p2, oJ p3, oS, oJ p4, oS, oI p5, oI p6, oJ s1, oS, oJ s2, oS, oJ s3, oS, oI wd, oJ q, oS, oJ t1, oS, oJ t2, oS, oJ t3, oS, oJ tn, oS, oJ nn, oS, oR ob1, oI (1 : Int32), oJ t3, oS, oU] [(.int (1 : Int32))])) t₀
            refine XS.istore X21.here hx rfl (hb hby at_302) rfl (l' := #[oJ p1, oS, oI p2, oJ p3, oS, oJ p4, oS, oI p5, oI p6, oJ s1, oS, oJ s2, oS, oJ s3, oS, oI wd, oJ q, oS, oJ t1, oS, oJ t2, oS, oJ t3, oS, oJ tn, oS, oJ nn, oS, oR ob1, oI (1 : Int32), oJ t3, oS, oI (1 : Int32)]) rfl ?_
            show Steps p.tables e below (T21.setTop (mkF m 304 #[oJ p1, oS, oI p2, oJ p3, oS, oJ p4, oS, oI p5, oI p6, oJ s1, oS, oJ s2, oS, oJ s3, oS, oI wd, oJ q, oS, oJ t1, oS, oJ t2, oS, oJ t3, oS, oJ tn, oS, oJ nn, oS, oR ob1, oI (1 : Int32), oJ t3, oS, oI (1 : Int32)] [])) t₀
            refine XS.iload X21.here hx rfl (hb hby at_304) rfl ?_
            show Steps p.tables e below (T21.setTop (mkF m 306 #[oJ p1, oS, oI p2, oJ p3, oS, oJ p4, oS, oI p5, oI p6, oJ s1, oS, oJ s2, oS, oJ s3, oS, oI wd, oJ q, oS, oJ t1, oS, oJ t2, oS, oJ t3, oS, oJ tn, oS, oJ nn, oS, oR ob1, oI (1 : Int32), oJ t3, oS, oI (1 : Int32)] [(.int (1 : Int32))])) t₀
            refine XS.ifNo X21.here hx rfl (hb hby at_306) rfl ((if0 _ _).trans (feq (by decide : ¬ ((1 : Int32) = (0 : Int32)))).1) ?_
            show Steps p.tables e below (T21.setTop (mkF m 309 #[oJ p1, oS, oI p2, oJ p3, oS, oJ p4, oS, oI p5, oI p6, oJ s1, oS, oJ s2, oS, oJ s3, oS, oI wd, oJ q, oS, oJ t1, oS, oJ t2, oS, oJ t3, oS, oJ tn, oS, oJ nn, oS, oR ob1, oI (1 : Int32), oJ t3, oS, oI (1 : Int32)] [])) t₀
            refine XS.iload X21.here hx rfl (hb hby at_309) rfl ?_
            show Steps p.tables e below (T21.setTop (mkF m 311 #[oJ p1, oS, oI p2, oJ p3, oS, oJ p4, oS, oI p5, oI p6, oJ s1, oS, oJ s2, oS, oJ s3, oS, oI wd, oJ q, oS, oJ t1, oS, oJ t2, oS, oJ t3, oS, oJ tn, oS, oJ nn, oS, oR ob1, oI (1 : Int32), oJ t3, oS, oI (1 : Int32)] [(.int (1 : Int32))])) t₀
            refine XS.ifNo X21.here hx rfl (hb hby at_311) rfl ((if0 _ _).trans (feq (by decide : ¬ ((1 : Int32) = (0 : Int32)))).1) ?_
            show Steps p.tables e below (T21.setTop (mkF m 314 #[oJ p1, oS, oI p2, oJ p3, oS, oJ p4, oS, oI p5, oI p6, oJ s1, oS, oJ s2, oS, oJ s3, oS, oI wd, oJ q, oS, oJ t1, oS, oJ t2, oS, oJ t3, oS, oJ tn, oS, oJ nn, oS, oR ob1, oI (1 : Int32), oJ t3, oS, oI (1 : Int32)] [])) t₀
            refine XS.iconst X21.here hx rfl (hb hby at_314) ?_
            show Steps p.tables e below (T21.setTop (mkF m 315 #[oJ p1, oS, oI p2, oJ p3, oS, oJ p4, oS, oI p5, oI p6, oJ s1, oS, oJ s2, oS, oJ s3, oS, oI wd, oJ q, oS, oJ t1, oS, oJ t2, oS, oJ t3, oS, oJ tn, oS, oJ nn, oS, oR ob1, oI (1 : Int32), oJ t3, oS, oI (1 : Int32)] [(.int (1 : Int32))])) t₀
            refine XS.goto X21.here hx rfl (pc0 := 315) (pc' := 319) rfl (hb hby at_315) (by decide) (by decide) ?_
            exact k₀
          refine hF _ T21 _ _ _ (some (.int (1 : Int32))) _ X21 e21 (fun h => by rw [hrt] at h; cases h) (by decide) (by decide) ?_ (fun fs hr => retN X21 hx (t := .boolean) hrt (by simp) (hb hby at_319) hr)
          exact ⟨rfl, N21⟩
      ·
        by_cases hC : q < s3
        ·
          by_cases hGp : (1000000 : Int64) < (tn - t3)
          ·
            refine hG _ (T5.setTop (mkF m 180 #[oJ p1, oS, oI p2, oJ p3, oS, oJ p4, oS, oI p5, oI p6, oJ s1, oS, oJ s2, oS, oJ s3, oS, oI wd, oJ q, oS, oJ t1, oS, oJ t2, oS, oJ t3, oS, oJ tn, oS, oJ nn, oS, oR ob1, oU, oU, oU, oU] [(.long q), (.ref ob1)])) (fun t₀ k₀ => ?_) ?_
            · show Steps p.tables e below (T5.setTop (mkF m 176 #[oJ p1, oS, oI p2, oJ p3, oS, oJ p4, oS, oI p5, oI p6, oJ s1, oS, oJ s2, oS, oJ s3, oS, oI wd, oJ q, oS, oJ t1, oS, oJ t2, oS, oJ t3, oS, oJ tn, oS, oJ nn, oS, oR ob1, oU, oU, oU, oU] [])) t₀
              refine XS.aload X5.here hx rfl (hb hby at_176) rfl rfl ?_
              show Steps p.tables e below (T5.setTop (mkF m 178 #[oJ p1, oS, oI p2, oJ p3, oS, oJ p4, oS, oI p5, oI p6, oJ s1, oS, oJ s2, oS, oJ s3, oS, oI wd, oJ q, oS, oJ t1, oS, oJ t2, oS, oJ t3, oS, oJ tn, oS, oJ nn, oS, oR ob1, oU, oU, oU, oU] [(.ref ob1)])) t₀
              refine XS.lload X5.here hx rfl (hb hby at_178) rfl ?_
              exact k₀
            obtain ⟨cq22, kq22, q22a, q22b, q22c⟩ := isOf hZ rfl eob1_x5
            obtain ⟨_, _, ⟨T22, L22, k22, n22⟩, -, X22, ⟨Lc22, hQ22, l22, y22, z22⟩, st22⟩ := X5.virtualBack hx (y := (⟨"com/example/opledger/opledger/AppendTimes", "forgetUpTo", "(J)V"⟩ : MethodName)) (z := (⟨"com/example/opledger/opledger/AppendTimes", "forgetUpTo", "(J)V"⟩ : MethodName)) hown (mvT hZ (hw _ (List.mem_of_getElem? (i := 56) rfl))) (mvT hZ (hw _ (List.mem_of_getElem? (i := 57) rfl))) (notFace_of_selects (args := #[]) (mvT hZ (hw _ (List.mem_of_getElem? (i := 59) rfl)))) (mvT hZ (hw _ (List.mem_of_getElem? (i := 59) rfl))) (mvT hZ (hw _ (List.mem_of_getElem? (i := 58) rfl))) (by decide) (backOf (W := 0) (rmF2 l Z a0 hw [] ob1 q wN kN S3 W3T W3E kS3 kT3 kE3 s3 s1 t1 t1 s2 t2 t2 s3 t3 t3 (0 : Int64) (0 : Int64) (0 : Int64) (0 : Int64) (0 : Int64) (0 : Int64) (0 : Int64) (0 : Int64) (0 : Int64) (0 : Int64) (0 : Int64) (0 : Int64) (0 : Int64) (0 : Int64) (0 : Int64) T5.heap n0 z_x5 o_x5 S_NO VN eob1_x5 f5_0 f5_1 f5_2 f5_3 f5_4 f5_5 f5_6 f5_7 f5_8 f5_9 g_ob1 g3_0 g3_1 g3_2 d3_0 d3_1 d3_2 d3_3 d3_4 d3_5 hA hB hC) hZ (hw _ (List.mem_of_getElem? (i := 60) rfl)) (hw _ (List.mem_of_getElem? (i := 6) rfl)) (by decide) (by decide)) q22a q22c (g := (mkF m 180 #[oJ p1, oS, oI p2, oJ p3, oS, oJ p4, oS, oI p5, oI p6, oJ s1, oS, oJ s2, oS, oJ s3, oS, oI wd, oJ q, oS, oJ t1, oS, oJ t2, oS, oJ t3, oS, oJ tn, oS, oJ nn, oS, oR ob1, oU, oU, oU, oU] [(.long q), (.ref ob1)])) rfl (by rw [hml]; rfl) (Steps.refl _) (argsL := [(.long q)]) (rest := []) (lenOf pd_5 rfl) rfl (by show 2 * 0 + _ ≤ _; exact Nat.le_of_eq rfl) (hb hby at_180) (fun _ _ => ⟨rfl, rfl, (by decide : 4 + 0 ≤ _), (by decide : 31 + 0 ≤ _)⟩)
            dsimp only [Pt.U, Pt.locs, Pt.cells, Pt.slots] at X22 l22 y22 z22 st22 hQ22
            subst l22 y22 z22
            obtain ⟨rfl, N22q, K22, f22_0, f22_1, f22_2, f22_3, f22_4, f22_5, f22_6, f22_7, f22_8, f22_9⟩ := hQ22
            have N22 := Fr.app N5 N22q
            refine hG _ _ (fun t₀ k₀ => st22.trans k₀) ?_
            have z_x22 := Nat.le_trans z_x5 K22.1
            have o_x22 := o_x5.keep K22 (allS g_ob1 all0)
            have eob1_x22 := eob1_x5.keep K22
            have vS3_x22 := f5_7.keep K22 (ninS (Ne.symm d3_0) nin0)
            have vW3T_x22 := f5_8.keep K22 (ninS (Ne.symm d3_1) nin0)
            have vW3E_x22 := f5_9.keep K22 (ninS (Ne.symm d3_2) nin0)
            show G (T22.setTop (mkF m 183 #[oJ p1, oS, oI p2, oJ p3, oS, oJ p4, oS, oI p5, oI p6, oJ s1, oS, oJ s2, oS, oJ s3, oS, oI wd, oJ q, oS, oJ t1, oS, oJ t2, oS, oJ t3, oS, oJ tn, oS, oJ nn, oS, oR ob1, oU, oU, oU, oU] []))
            refine hG _ (T22.setTop (mkF m 228 #[oJ p1, oS, oI p2, oJ p3, oS, oJ p4, oS, oI p5, oI p6, oJ s1, oS, oJ s2, oS, oJ s3, oS, oI wd, oJ q, oS, oJ t1, oS, oJ t2, oS, oJ t3, oS, oJ tn, oS, oJ nn, oS, oR ob1, oI (1 : Int32), oJ t3, oS, oU] [(.long q), (.ref ob1)])) (fun t₀ k₀ => ?_) ?_
            · show Steps p.tables e below (T22.setTop (mkF m 183 #[oJ p1, oS, oI p2, oJ p3, oS, oJ p4, oS, oI p5, oI p6, oJ s1, oS, oJ s2, oS, oJ s3, oS, oI wd, oJ q, oS, oJ t1, oS, oJ t2, oS, oJ t3, oS, oJ tn, oS, oJ nn, oS, oR ob1, oU, oU, oU, oU] [])) t₀
              refine XS.iconst X22.here hx rfl (hb hby at_183) ?_
              show Steps p.tables e below (T22.setTop (mkF m 184 #[oJ p1, oS, oI p2, oJ p3, oS, oJ p4, oS, oI p5, oI p6, oJ s1, oS, oJ s2, oS, oJ s3, oS, oI wd, oJ q, oS, oJ t1, oS, oJ t2, oS, oJ t3, oS, oJ tn, oS, oJ nn, oS, oR ob1, oU, oU, oU, oU] [(.int (1 : Int32))])) t₀
              refine XS.istore X22.here hx rfl (hb hby at_184) rfl (l' := #[oJ p1, oS, oI p2, oJ p3, oS, oJ p4, oS, oI p5, oI p6, oJ s1, oS, oJ s2, oS, oJ s3, oS, oI wd, oJ q, oS, oJ t1, oS, oJ t2, oS, oJ t3, oS, oJ tn, oS, oJ nn, oS, oR ob1, oI (1 : Int32), oU, oU, oU]) rfl ?_
              show Steps p.tables e below (T22.setTop (mkF m 186 #[oJ p1, oS, oI p2, oJ p3, oS, oJ p4, oS, oI p5, oI p6, oJ s1, oS, oJ s2, oS, oJ s3, oS, oI wd, oJ q, oS, oJ t1, oS, oJ t2, oS, oJ t3, oS, oJ tn, oS, oJ nn, oS, oR ob1, oI (1 : Int32), oU, oU, oU] [])) t₀
              refine XS.lload X22.here hx rfl (hb hby at_186) rfl ?_
              show Steps p.tables e below (T22.setTop (mkF m 188 #[oJ p1, oS, oI p2, oJ p3, oS, oJ p4, oS, oI p5, oI p6, oJ s1, oS, oJ s2, oS, oJ s3, oS, oI wd, oJ q, oS, oJ t1, oS, oJ t2, oS, oJ t3, oS, oJ tn, oS, oJ nn, oS, oR ob1, oI (1 : Int32), oU, oU, oU] [(.long q)])) t₀
              refine XS.lload X22.here hx rfl (hb hby at_188) rfl ?_
              show Steps p.tables e below (T22.setTop (mkF m 190 #[oJ p1, oS, oI p2, oJ p3, oS, oJ p4, oS, oI p5, oI p6, oJ s1, oS, oJ s2, oS, oJ s3, oS, oI wd, oJ q, oS, oJ t1, oS, oJ t2, oS, oJ t3, oS, oJ tn, oS, oJ nn, oS, oR ob1, oI (1 : Int32), oU, oU, oU] [(.long s3), (.long q)])) t₀
              refine XS.lcmp X22.here hx rfl (hb hby at_190) rfl ?_
              show Steps p.tables e below (T22.setTop (mkF m 191 #[oJ p1, oS, oI p2, oJ p3, oS, oJ p4, oS, oI p5, oI p6, oJ s1, oS, oJ s2, oS, oJ s3, oS, oI wd, oJ q, oS, oJ t1, oS, oJ t2, oS, oJ t3, oS, oJ tn, oS, oJ nn, oS, oR ob1, oI (1 : Int32), oU, oU, oU] [(.int (lcmpW q s3))])) t₀
              refine XS.ifNo X22.here hx rfl (hb hby at_191) rfl ((if0 _ _).trans (tlt ((lw_lt q s3).mpr hC)).2.1) ?_
              show Steps p.tables e below (T22.setTop (mkF m 194 #[oJ p1, oS, oI p2, oJ p3, oS, oJ p4, oS, oI p5, oI p6, oJ s1, oS, oJ s2, oS, oJ s3, oS, oI wd, oJ q, oS, oJ t1, oS, oJ t2, oS, oJ t3, oS, oJ tn, oS, oJ nn, oS, oR ob1, oI (1 : Int32), oU, oU, oU] [])) t₀
              refine XS.lload X22.here hx rfl (hb hby at_194) rfl ?_
              show Steps p.tables e below (T22.setTop (mkF m 196 #[oJ p1, oS, oI p2, oJ p3, oS, oJ p4, oS, oI p5, oI p6, oJ s1, oS, oJ s2, oS, oJ s3, oS, oI wd, oJ q, oS, oJ t1, oS, oJ t2, oS, oJ t3, oS, oJ tn, oS, oJ nn, oS, oR ob1, oI (1 : Int32), oU, oU, oU] [(.long q)])) t₀
              refine XS.lload X22.here hx rfl (hb hby at_196) rfl ?_
              show Steps p.tables e below (T22.setTop (mkF m 198 #[oJ p1, oS, oI p2, oJ p3, oS, oJ p4, oS, oI p5, oI p6, oJ s1, oS, oJ s2, oS, oJ s3, oS, oI wd, oJ q, oS, oJ t1, oS, oJ t2, oS, oJ t3, oS, oJ tn, oS, oJ nn, oS, oR ob1, oI (1 : Int32), oU, oU, oU] [(.long s1), (.long q)])) t₀
              refine XS.lcmp X22.here hx rfl (hb hby at_198) rfl ?_
              show Steps p.tables e below (T22.setTop (mkF m 199 #[oJ p1, oS, oI p2, oJ p3, oS, oJ p4, oS, oI p5, oI p6, oJ s1, oS, oJ s2, oS, oJ s3, oS, oI wd, oJ q, oS, oJ t1, oS, oJ t2, oS, oJ t3, oS, oJ tn, oS, oJ nn, oS, oR ob1, oI (1 : Int32), oU, oU, oU] [(.int (lcmpW q s1))])) t₀
              refine XS.ifYes X22.here hx rfl (pc0 := 199) (pc' := 207) rfl (hb hby at_199) rfl ((if0 _ _).trans (flt (fun z => hA ((lw_lt q s1).mp z))).2.1) (by decide) (by decide) ?_
              show Steps p.tables e below (T22.setTop (mkF m 207 #[oJ p1, oS, oI p2, oJ p3, oS, oJ p4, oS, oI p5, oI p6, oJ s1, oS, oJ s2, oS, oJ s3, oS, oI wd, oJ q, oS, oJ t1, oS, oJ t2, oS, oJ t3, oS, oJ tn, oS, oJ nn, oS, oR ob1, oI (1 : Int32), oU, oU, oU] [])) t₀
              refine XS.lload X22.here hx rfl (hb hby at_207) rfl ?_
              show Steps p.tables e below (T22.setTop (mkF m 209 #[oJ p1, oS, oI p2, oJ p3, oS, oJ p4, oS, oI p5, oI p6, oJ s1, oS, oJ s2, oS, oJ s3, oS, oI wd, oJ q, oS, oJ t1, oS, oJ t2, oS, oJ t3, oS, oJ tn, oS, oJ nn, oS, oR ob1, oI (1 : Int32), oU, oU, oU] [(.long q)])) t₀
              refine XS.lload X22.here hx rfl (hb hby at_209) rfl ?_
              show Steps p.tables e below (T22.setTop (mkF m 211 #[oJ p1, oS, oI p2, oJ p3, oS, oJ p4, oS, oI p5, oI p6, oJ s1, oS, oJ s2, oS, oJ s3, oS, oI wd, oJ q, oS, oJ t1, oS, oJ t2, oS, oJ t3, oS, oJ tn, oS, oJ nn, oS, oR ob1, oI (1 : Int32), oU, oU, oU] [(.long s2), (.long q)])) t₀
              refine XS.lcmp X22.here hx rfl (hb hby at_211) rfl ?_
              show Steps p.tables e below (T22.setTop (mkF m 212 #[oJ p1, oS, oI p2, oJ p3, oS, oJ p4, oS, oI p5, oI p6, oJ s1, oS, oJ s2, oS, oJ s3, oS, oI wd, oJ q, oS, oJ t1, oS, oJ t2, oS, oJ t3, oS, oJ tn, oS, oJ nn, oS, oR ob1, oI (1 : Int32), oU, oU, oU] [(.int (lcmpW q s2))])) t₀
              refine XS.ifYes X22.here hx rfl (pc0 := 212) (pc' := 220) rfl (hb hby at_212) rfl ((if0 _ _).trans (flt (fun z => hB ((lw_lt q s2).mp z))).2.1) (by decide) (by decide) ?_
              show Steps p.tables e below (T22.setTop (mkF m 220 #[oJ p1, oS, oI p2, oJ p3, oS, oJ p4, oS, oI p5, oI p6, oJ s1, oS, oJ s2, oS, oJ s3, oS, oI wd, oJ q, oS, oJ t1, oS, oJ t2, oS, oJ t3, oS, oJ tn, oS, oJ nn, oS, oR ob1, oI (1 : Int32), oU, oU, oU] [])) t₀
              refine XS.lload X22.here hx rfl (hb hby at_220) rfl ?_
              show Steps p.tables e below (T22.setTop (mkF m 222 #[oJ p1, oS, oI p2, oJ p3, oS, oJ p4, oS, oI p5, oI p6, oJ s1, oS, oJ s2, oS, oJ s3, oS, oI wd, oJ q, oS, oJ t1, oS, oJ t2, oS, oJ t3, oS, oJ tn, oS, oJ nn, oS, oR ob1, oI (1 : Int32), oU, oU, oU] [(.long t3)])) t₀
              refine XS.lstore X22.here hx rfl (hb hby at_222) rfl (l' := #[oJ p1, oS, oI p2, oJ p3, oS, oJ p4, oS, oI p5, oI p6, oJ s1, oS, oJ s2, oS, oJ s3, oS, oI wd, oJ q, oS, oJ t1, oS, oJ t2, oS, oJ t3, oS, oJ tn, oS, oJ nn, oS, oR ob1, oI (1 : Int32), oJ t3, oS, oU]) rfl ?_
              show Steps p.tables e below (T22.setTop (mkF m 224 #[oJ p1, oS, oI p2, oJ p3, oS, oJ p4, oS, oI p5, oI p6, oJ s1, oS, oJ s2, oS, oJ s3, oS, oI wd, oJ q, oS, oJ t1, oS, oJ t2, oS, oJ t3, oS, oJ tn, oS, oJ nn, oS, oR ob1, oI (1 : Int32), oJ t3, oS, oU] [])) t₀
              refine XS.aload X22.here hx rfl (hb hby at_224) rfl rfl ?_
              show Steps p.tables e below (T22.setTop (mkF m 226 #[oJ p1, oS, oI p2, oJ p3, oS, oJ p4, oS, oI p5, oI p6, oJ s1, oS, oJ s2, oS, oJ s3, oS, oI wd, oJ q, oS, oJ t1, oS, oJ t2, oS, oJ t3, oS, oJ tn, oS, oJ nn, oS, oR ob1, oI (1 : Int32), oJ t3, oS, oU] [(.ref ob1)])) t₀
              refine XS.lload X22.here hx rfl (hb hby at_226) rfl ?_
              exact k₀
            obtain ⟨cq23, kq23, q23a, q23b, q23c⟩ := isOf hZ rfl eob1_x22
            obtain ⟨_, _, ⟨T23, L23, k23, n23⟩, -, X23, ⟨Lc23, hQ23, l23, y23, z23⟩, st23⟩ := X22.virtualBack hx (y := (⟨"com/example/opledger/opledger/AppendTimes", "earliestAbove", "(J)J"⟩ : MethodName)) (z := (⟨"com/example/opledger/opledger/AppendTimes", "earliestAbove", "(J)J"⟩ : MethodName)) hown (mvT hZ (hw _ (List.mem_of_getElem? (i := 61) rfl))) (mvT hZ (hw _ (List.mem_of_getElem? (i := 62) rfl))) (notFace_of_selects (args := #[]) (mvT hZ (hw _ (List.mem_of_getElem? (i := 64) rfl)))) (mvT hZ (hw _ (List.mem_of_getElem? (i := 64) rfl))) (mvT hZ (hw _ (List.mem_of_getElem? (i := 63) rfl))) (by decide) (backOf (W := 0) (rmE12 l Z a0 hw [] ob1 q S3 W3T kS3 kT3 s1 t1 s2 t2 s3 t3 (0 : Int64) (0 : Int64) (0 : Int64) (0 : Int64) (0 : Int64) (0 : Int64) (0 : Int64) (0 : Int64) (0 : Int64) (0 : Int64) T22.heap n0 z_x22 f22_0 f22_1 f22_3 f22_4 f22_7 f22_8 ) hZ (hw _ (List.mem_of_getElem? (i := 65) rfl)) (hw _ (List.mem_of_getElem? (i := 6) rfl)) (by decide) (by decide)) q23a q23c (g := (mkF m 228 #[oJ p1, oS, oI p2, oJ p3, oS, oJ p4, oS, oI p5, oI p6, oJ s1, oS, oJ s2, oS, oJ s3, oS, oI wd, oJ q, oS, oJ t1, oS, oJ t2, oS, oJ t3, oS, oJ tn, oS, oJ nn, oS, oR ob1, oI (1 : Int32), oJ t3, oS, oU] [(.long q), (.ref ob1)])) rfl (by rw [hml]; rfl) (Steps.refl _) (argsL := [(.long q)]) (rest := []) (lenOf pd_6 rfl) rfl (by show 2 * 0 + _ ≤ _; exact Nat.le_of_eq rfl) (hb hby at_228) (fun _ _ => ⟨rfl, rfl, (by decide : 4 + 0 ≤ _), (by decide : 31 + 0 ≤ _)⟩)
            dsimp only [Pt.U, Pt.locs, Pt.cells, Pt.slots] at X23 l23 y23 z23 st23 hQ23
            subst l23 y23 z23
            obtain ⟨rfl, N23q, e23⟩ := hQ23
            have N23 := Fr.app N22 N23q
            refine hG _ _ (fun t₀ k₀ => st23.trans k₀) ?_
            show G (T23.setTop (mkF m 231 #[oJ p1, oS, oI p2, oJ p3, oS, oJ p4, oS, oI p5, oI p6, oJ s1, oS, oJ s2, oS, oJ s3, oS, oI wd, oJ q, oS, oJ t1, oS, oJ t2, oS, oJ t3, oS, oJ tn, oS, oJ nn, oS, oR ob1, oI (1 : Int32), oJ t3, oS, oU] [(.long t3)]))
            refine hG _ (T23.setTop (mkF m 250 #[oJ p1, oS, oI p2, oJ p3, oS, oJ p4, oS, oI p5, oI p6, oJ s1, oS, oJ s2, oS, oJ s3, oS, oI wd, oJ q, oS, oJ t1, oS, oJ t2, oS, oJ t3, oS, oJ tn, oS, oJ nn, oS, oR ob1, oI (1 : Int32), oJ t3, oS, oU] [(.long tn), (.long nn), (.ref ob1)])) (fun t₀ k₀ => ?_) ?_
            · show Steps p.tables e below (T23.setTop (mkF m 231 #[oJ p1, oS, oI p2, oJ p3, oS, oJ p4, oS, oI p5, oI p6, oJ s1, oS, oJ s2, oS, oJ s3, oS, oI wd, oJ q, oS, oJ t1, oS, oJ t2, oS, oJ t3, oS, oJ tn, oS, oJ nn, oS, oR ob1, oI (1 : Int32), oJ t3, oS, oU] [(.long t3)])) t₀
              refine XS.lload X23.here hx rfl (hb hby at_231) rfl ?_
              show Steps p.tables e below (T23.setTop (mkF m 233 #[oJ p1, oS, oI p2, oJ p3, oS, oJ p4, oS, oI p5, oI p6, oJ s1, oS, oJ s2, oS, oJ s3, oS, oI wd, oJ q, oS, oJ t1, oS, oJ t2, oS, oJ t3, oS, oJ tn, oS, oJ nn, oS, oR ob1, oI (1 : Int32), oJ t3, oS, oU] [(.long t3), (.long t3)])) t₀
              refine XS.lcmp X23.here hx rfl (hb hby at_233) rfl ?_
              show Steps p.tables e below (T23.setTop (mkF m 234 #[oJ p1, oS, oI p2, oJ p3, oS, oJ p4, oS, oI p5, oI p6, oJ s1, oS, oJ s2, oS, oJ s3, oS, oI wd, oJ q, oS, oJ t1, oS, oJ t2, oS, oJ t3, oS, oJ tn, oS, oJ nn, oS, oR ob1, oI (1 : Int32), oJ t3, oS, oU] [(.int (lcmpW t3 t3))])) t₀
              refine XS.ifNo X23.here hx rfl (hb hby at_234) rfl ((if0 _ _).trans (teq ((lw_eq t3 t3).mpr rfl)).2) ?_
              show Steps p.tables e below (T23.setTop (mkF m 237 #[oJ p1, oS, oI p2, oJ p3, oS, oJ p4, oS, oI p5, oI p6, oJ s1, oS, oJ s2, oS, oJ s3, oS, oI wd, oJ q, oS, oJ t1, oS, oJ t2, oS, oJ t3, oS, oJ tn, oS, oJ nn, oS, oR ob1, oI (1 : Int32), oJ t3, oS, oU] [])) t₀
              refine XS.iconst X23.here hx rfl (hb hby at_237) ?_
              show Steps p.tables e below (T23.setTop (mkF m 238 #[oJ p1, oS, oI p2, oJ p3, oS, oJ p4, oS, oI p5, oI p6, oJ s1, oS, oJ s2, oS, oJ s3, oS, oI wd, oJ q, oS, oJ t1, oS, oJ t2, oS, oJ t3, oS, oJ tn, oS, oJ nn, oS, oR ob1, oI (1 : Int32), oJ t3, oS, oU] [(.int (1 : Int32))])) t₀
              refine XS.goto X23.here hx rfl (pc0 := 238) (pc' := 242) rfl (hb hby at_238) (by decide) (by decide) ?_
              show Steps p.tables e below (T23.setTop (mkF m 242 #[oJ p1, oS, oI p2, oJ p3, oS, oJ p4, oS, oI p5, oI p6, oJ s1, oS, oJ s2, oS, oJ s3, oS, oI wd, oJ q, oS, oJ t1, oS, oJ t2, oS, oJ t3, oS, oJ tn, oS, oJ nn, oS, oR ob1, oI (1 : Int32), oJ t3, oS, oU] [(.int (1 : Int32))])) t₀
              refine XS.istore X23.here hx rfl (hb hby at_242) rfl (l' := #[oJ p1, oS, oI p2, oJ p3, oS, oJ p4, oS, oI p5, oI p6, oJ s1, oS, oJ s2, oS, oJ s3, oS, oI wd, oJ q, oS, oJ t1, oS, oJ t2, oS, oJ t3, oS, oJ tn, oS, oJ nn, oS, oR ob1, oI (1 : Int32), oJ t3, oS, oU]) rfl ?_
              show Steps p.tables e below (T23.setTop (mkF m 244 #[oJ p1, oS, oI p2, oJ p3, oS, oJ p4, oS, oI p5, oI p6, oJ s1, oS, oJ s2, oS, oJ s3, oS, oI wd, oJ q, oS, oJ t1, oS, oJ t2, oS, oJ t3, oS, oJ tn, oS, oJ nn, oS, oR ob1, oI (1 : Int32), oJ t3, oS, oU] [])) t₀
              refine XS.aload X23.here hx rfl (hb hby at_244) rfl rfl ?_
              show Steps p.tables e below (T23.setTop (mkF m 246 #[oJ p1, oS, oI p2, oJ p3, oS, oJ p4, oS, oI p5, oI p6, oJ s1, oS, oJ s2, oS, oJ s3, oS, oI wd, oJ q, oS, oJ t1, oS, oJ t2, oS, oJ t3, oS, oJ tn, oS, oJ nn, oS, oR ob1, oI (1 : Int32), oJ t3, oS, oU] [(.ref ob1)])) t₀
              refine XS.lload X23.here hx rfl (hb hby at_246) rfl ?_
              show Steps p.tables e below (T23.setTop (mkF m 248 #[oJ p1, oS, oI p2, oJ p3, oS, oJ p4, oS, oI p5, oI p6, oJ s1, oS, oJ s2, oS, oJ s3, oS, oI wd, oJ q, oS, oJ t1, oS, oJ t2, oS, oJ t3, oS, oJ tn, oS, oJ nn, oS, oR ob1, oI (1 : Int32), oJ t3, oS, oU] [(.long nn), (.ref ob1)])) t₀
              refine XS.lload X23.here hx rfl (hb hby at_248) rfl ?_
              exact k₀
            obtain ⟨cq24, kq24, q24a, q24b, q24c⟩ := isOf hZ e23 eob1_x22
            obtain ⟨_, _, ⟨T24, L24, k24, n24⟩, -, X24, ⟨Lc24, hQ24, l24, y24, z24⟩, st24⟩ := X23.virtualBack hx (y := (⟨"com/example/opledger/opledger/AppendTimes", "record", "(JJ)V"⟩ : MethodName)) (z := (⟨"com/example/opledger/opledger/AppendTimes", "record", "(JJ)V"⟩ : MethodName)) hown (mvT hZ (hw _ (List.mem_of_getElem? (i := 28) rfl))) (mvT hZ (hw _ (List.mem_of_getElem? (i := 29) rfl))) (notFace_of_selects (args := #[]) (mvT hZ (hw _ (List.mem_of_getElem? (i := 31) rfl)))) (mvT hZ (hw _ (List.mem_of_getElem? (i := 31) rfl))) (mvT hZ (hw _ (List.mem_of_getElem? (i := 30) rfl))) (by decide) (backOf (W := 0) (rmRB2 l Z a0 hw [] ob1 nn tn S3 W3T W3E kS3 kT3 kE3 (2 : Int32) s3 s1 t1 t1 s2 t2 t2 s3 t3 t3 (0 : Int64) (0 : Int64) (0 : Int64) (0 : Int64) (0 : Int64) (0 : Int64) (0 : Int64) (0 : Int64) (0 : Int64) (0 : Int64) (0 : Int64) (0 : Int64) (0 : Int64) (0 : Int64) (0 : Int64) T22.heap n0 z_x22 eob1_x22 f22_0 f22_1 f22_2 f22_3 f22_4 f22_5 f22_6 f22_7 f22_8 f22_9 g_ob1 g3_0 g3_1 g3_2 d3_0 d3_1 d3_2 d3_3 d3_4 d3_5 h3n (by decide) hGp (by decide)) hZ (hw _ (List.mem_of_getElem? (i := 32) rfl)) (hw _ (List.mem_of_getElem? (i := 6) rfl)) (by decide) (by decide)) q24a q24c (g := (mkF m 250 #[oJ p1, oS, oI p2, oJ p3, oS, oJ p4, oS, oI p5, oI p6, oJ s1, oS, oJ s2, oS, oJ s3, oS, oI wd, oJ q, oS, oJ t1, oS, oJ t2, oS, oJ t3, oS, oJ tn, oS, oJ nn, oS, oR ob1, oI (1 : Int32), oJ t3, oS, oU] [(.long tn), (.long nn), (.ref ob1)])) rfl (by rw [hml]; rfl) (Steps.refl _) (argsL := [(.long nn), (.long tn)]) (rest := []) (lenOf pd_1 rfl) rfl (by show 2 * 0 + _ ≤ _; exact Nat.le_of_eq rfl) (hb hby at_250) (fun _ _ => ⟨rfl, e23, (by decide : 4 + 0 ≤ _), (by decide : 31 + 0 ≤ _)⟩)
            dsimp only [Pt.U, Pt.locs, Pt.cells, Pt.slots] at X24 l24 y24 z24 st24 hQ24
            subst l24 y24 z24
            obtain ⟨rfl, N24q, K24, f24_0, f24_1, f24_2, f24_3, f24_4, f24_5, f24_6, f24_7, f24_8, f24_9⟩ := hQ24
            have N24 := Fr.app N23 N24q
            refine hG _ _ (fun t₀ k₀ => st24.trans k₀) ?_
            have z_x24 := Nat.le_trans z_x22 K24.1
            have o_x24 := o_x22.keep K24 (allS g_ob1 (allS g3_0 (allS g3_1 (allS g3_2 all0))))
            have eob1_x24 := eob1_x22.keep K24
            show G (T24.setTop (mkF m 253 #[oJ p1, oS, oI p2, oJ p3, oS, oJ p4, oS, oI p5, oI p6, oJ s1, oS, oJ s2, oS, oJ s3, oS, oI wd, oJ q, oS, oJ t1, oS, oJ t2, oS, oJ t3, oS, oJ tn, oS, oJ nn, oS, oR ob1, oI (1 : Int32), oJ t3, oS, oU] []))
            refine hG _ (T24.setTop (mkF m 288 #[oJ p1, oS, oI p2, oJ p3, oS, oJ p4, oS, oI p5, oI p6, oJ s1, oS, oJ s2, oS, oJ s3, oS, oI wd, oJ q, oS, oJ t1, oS, oJ t2, oS, oJ t3, oS, oJ tn, oS, oJ nn, oS, oR ob1, oI (1 : Int32), oJ tn, oS, oU] [(.long s3), (.ref ob1)])) (fun t₀ k₀ => ?_) ?_
            · show Steps p.tables e below (T24.setTop (mkF m 253 #[oJ p1, oS, oI p2, oJ p3, oS, oJ p4, oS, oI p5, oI p6, oJ s1, oS, oJ s2, oS, oJ s3, oS, oI wd, oJ q, oS, oJ t1, oS, oJ t2, oS, oJ t3, oS, oJ tn, oS, oJ nn, oS, oR ob1, oI (1 : Int32), oJ t3, oS, oU] [])) t₀
              refine XS.lload X24.here hx rfl (hb hby at_253) rfl ?_
              show Steps p.tables e below (T24.setTop (mkF m 255 #[oJ p1, oS, oI p2, oJ p3, oS, oJ p4, oS, oI p5, oI p6, oJ s1, oS, oJ s2, oS, oJ s3, oS, oI wd, oJ q, oS, oJ t1, oS, oJ t2, oS, oJ t3, oS, oJ tn, oS, oJ nn, oS, oR ob1, oI (1 : Int32), oJ t3, oS, oU] [(.long q)])) t₀
              refine XS.lload X24.here hx rfl (hb hby at_255) rfl ?_
              show Steps p.tables e below (T24.setTop (mkF m 257 #[oJ p1, oS, oI p2, oJ p3, oS, oJ p4, oS, oI p5, oI p6, oJ s1, oS, oJ s2, oS, oJ s3, oS, oI wd, oJ q, oS, oJ t1, oS, oJ t2, oS, oJ t3, oS, oJ tn, oS, oJ nn, oS, oR ob1, oI (1 : Int32), oJ t3, oS, oU] [(.long s3), (.long q)])) t₀
              refine XS.lcmp X24.here hx rfl (hb hby at_257) rfl ?_
              show Steps p.tables e below (T24.setTop (mkF m 258 #[oJ p1, oS, oI p2, oJ p3, oS, oJ p4, oS, oI p5, oI p6, oJ s1, oS, oJ s2, oS, oJ s3, oS, oI wd, oJ q, oS, oJ t1, oS, oJ t2, oS, oJ t3, oS, oJ tn, oS, oJ nn, oS, oR ob1, oI (1 : Int32), oJ t3, oS, oU] [(.int (lcmpW q s3))])) t₀
              refine XS.ifNo X24.here hx rfl (hb hby at_258) rfl ((if0 _ _).trans (tlt ((lw_lt q s3).mpr hC)).2.1) ?_
              show Steps p.tables e below (T24.setTop (mkF m 261 #[oJ p1, oS, oI p2, oJ p3, oS, oJ p4, oS, oI p5, oI p6, oJ s1, oS, oJ s2, oS, oJ s3, oS, oI wd, oJ q, oS, oJ t1, oS, oJ t2, oS, oJ t3, oS, oJ tn, oS, oJ nn, oS, oR ob1, oI (1 : Int32), oJ t3, oS, oU] [])) t₀
              refine XS.lload X24.here hx rfl (hb hby at_261) rfl ?_
              show Steps p.tables e below (T24.setTop (mkF m 263 #[oJ p1, oS, oI p2, oJ p3, oS, oJ p4, oS, oI p5, oI p6, oJ s1, oS, oJ s2, oS, oJ s3, oS, oI wd, oJ q, oS, oJ t1, oS, oJ t2, oS, oJ t3, oS, oJ tn, oS, oJ nn, oS, oR ob1, oI (1 : Int32), oJ t3, oS, oU] [(.long tn)])) t₀
              refine XS.lload X24.here hx rfl (hb hby at_263) rfl ?_
              show Steps p.tables e below (T24.setTop (mkF m 265 #[oJ p1, oS, oI p2, oJ p3, oS, oJ p4, oS, oI p5, oI p6, oJ s1, oS, oJ s2, oS, oJ s3, oS, oI wd, oJ q, oS, oJ t1, oS, oJ t2, oS, oJ t3, oS, oJ tn, oS, oJ nn, oS, oR ob1, oI (1 : Int32), oJ t3, oS, oU] [(.long t3), (.long tn)])) t₀
              refine XS.lsub X24.here hx rfl (hb hby at_265) rfl ?_
              show Steps p.tables e below (T24.setTop (mkF m 266 #[oJ p1, oS, oI p2, oJ p3, oS, oJ p4, oS, oI p5, oI p6, oJ s1, oS, oJ s2, oS, oJ s3, oS, oI wd, oJ q, oS, oJ t1, oS, oJ t2, oS, oJ t3, oS, oJ tn, oS, oJ nn, oS, oR ob1, oI (1 : Int32), oJ t3, oS, oU] [(.long (tn - t3))])) t₀
              refine X24.ldc2Long hx hown (mvT hZ (hw _ (List.mem_of_getElem? (i := 66) rfl))) (g := (mkF m 266 #[oJ p1, oS, oI p2, oJ p3, oS, oJ p4, oS, oI p5, oI p6, oJ s1, oS, oJ s2, oS, oJ s3, oS, oI wd, oJ q, oS, oJ t1, oS, oJ t2, oS, oJ t3, oS, oJ tn, oS, oJ nn, oS, oR ob1, oI (1 : Int32), oJ t3, oS, oU] [(.long (tn - t3))])) rfl (hb hby at_266) _ ?_
              show Steps p.tables e below (T24.setTop (mkF m 269 #[oJ p1, oS, oI p2, oJ p3, oS, oJ p4, oS, oI p5, oI p6, oJ s1, oS, oJ s2, oS, oJ s3, oS, oI wd, oJ q, oS, oJ t1, oS, oJ t2, oS, oJ t3, oS, oJ tn, oS, oJ nn, oS, oR ob1, oI (1 : Int32), oJ t3, oS, oU] [(.long (1000000 : Int64)), (.long (tn - t3))])) t₀
              refine XS.lcmp X24.here hx rfl (hb hby at_269) rfl ?_
              show Steps p.tables e below (T24.setTop (mkF m 270 #[oJ p1, oS, oI p2, oJ p3, oS, oJ p4, oS, oI p5, oI p6, oJ s1, oS, oJ s2, oS, oJ s3, oS, oI wd, oJ q, oS, oJ t1, oS, oJ t2, oS, oJ t3, oS, oJ tn, oS, oJ nn, oS, oR ob1, oI (1 : Int32), oJ t3, oS, oU] [(.int (lcmpW (tn - t3) (1000000 : Int64)))])) t₀
              refine XS.ifYes X24.here hx rfl (pc0 := 270) (pc' := 280) rfl (hb hby at_270) rfl ((if0 _ _).trans (tlt ((lw_gt (tn - t3) (1000000 : Int64)).mpr hGp)).2.2.1) (by decide) (by decide) ?_
              show Steps p.tables e below (T24.setTop (mkF m 280 #[oJ p1, oS, oI p2, oJ p3, oS, oJ p4, oS, oI p5, oI p6, oJ s1, oS, oJ s2, oS, oJ s3, oS, oI wd, oJ q, oS, oJ t1, oS, oJ t2, oS, oJ t3, oS, oJ tn, oS, oJ nn, oS, oR ob1, oI (1 : Int32), oJ t3, oS, oU] [])) t₀
              refine XS.lload X24.here hx rfl (hb hby at_280) rfl ?_
              show Steps p.tables e below (T24.setTop (mkF m 282 #[oJ p1, oS, oI p2, oJ p3, oS, oJ p4, oS, oI p5, oI p6, oJ s1, oS, oJ s2, oS, oJ s3, oS, oI wd, oJ q, oS, oJ t1, oS, oJ t2, oS, oJ t3, oS, oJ tn, oS, oJ nn, oS, oR ob1, oI (1 : Int32), oJ t3, oS, oU] [(.long tn)])) t₀
              refine XS.lstore X24.here hx rfl (hb hby at_282) rfl (l' := #[oJ p1, oS, oI p2, oJ p3, oS, oJ p4, oS, oI p5, oI p6, oJ s1, oS, oJ s2, oS, oJ s3, oS, oI wd, oJ q, oS, oJ t1, oS, oJ t2, oS, oJ t3, oS, oJ tn, oS, oJ nn, oS, oR ob1, oI (1 : Int32), oJ tn, oS, oU]) rfl ?_
              show Steps p.tables e below (T24.setTop (mkF m 284 #[oJ p1, oS, oI p2, oJ p3, oS, oJ p4, oS, oI p5, oI p6, oJ s1, oS, oJ s2, oS, oJ s3, oS, oI wd, oJ q, oS, oJ t1, oS, oJ t2, oS, oJ t3, oS, oJ tn, oS, oJ nn, oS, oR ob1, oI (1 : Int32), oJ tn, oS, oU] [])) t₀
              refine XS.aload X24.here hx rfl (hb hby at_284) rfl rfl ?_
              show Steps p.tables e below (T24.setTop (mkF m 286 #[oJ p1, oS, oI p2, oJ p3, oS, oJ p4, oS, oI p5, oI p6, oJ s1, oS, oJ s2, oS, oJ s3, oS, oI wd, oJ q, oS, oJ t1, oS, oJ t2, oS, oJ t3, oS, oJ tn, oS, oJ nn, oS, oR ob1, oI (1 : Int32), oJ tn, oS, oU] [(.ref ob1)])) t₀
              refine XS.lload X24.here hx rfl (hb hby at_286) rfl ?_
              exact k₀
            obtain ⟨cq25, kq25, q25a, q25b, q25c⟩ := isOf hZ rfl eob1_x24
            obtain ⟨_, _, ⟨T25, L25, k25, n25⟩, -, X25, ⟨Lc25, hQ25, l25, y25, z25⟩, st25⟩ := X24.virtualBack hx (y := (⟨"com/example/opledger/opledger/AppendTimes", "earliestAbove", "(J)J"⟩ : MethodName)) (z := (⟨"com/example/opledger/opledger/AppendTimes", "earliestAbove", "(J)J"⟩ : MethodName)) hown (mvT hZ (hw _ (List.mem_of_getElem? (i := 61) rfl))) (mvT hZ (hw _ (List.mem_of_getElem? (i := 62) rfl))) (notFace_of_selects (args := #[]) (mvT hZ (hw _ (List.mem_of_getElem? (i := 64) rfl)))) (mvT hZ (hw _ (List.mem_of_getElem? (i := 64) rfl))) (mvT hZ (hw _ (List.mem_of_getElem? (i := 63) rfl))) (by decide) (backOf (W := 0) (rmE32 l Z a0 hw [] ob1 s3 S3 W3T kS3 kT3 s1 t1 s2 t2 s3 t3 nn tn (0 : Int64) (0 : Int64) (0 : Int64) (0 : Int64) (0 : Int64) (0 : Int64) (0 : Int64) (0 : Int64) T24.heap n0 z_x24 f24_0 f24_1 f24_3 f24_4 f24_7 f24_8 (own_ir _)) hZ (hw _ (List.mem_of_getElem? (i := 65) rfl)) (hw _ (List.mem_of_getElem? (i := 6) rfl)) (by decide) (by decide)) q25a q25c (g := (mkF m 288 #[oJ p1, oS, oI p2, oJ p3, oS, oJ p4, oS, oI p5, oI p6, oJ s1, oS, oJ s2, oS, oJ s3, oS, oI wd, oJ q, oS, oJ t1, oS, oJ t2, oS, oJ t3, oS, oJ tn, oS, oJ nn, oS, oR ob1, oI (1 : Int32), oJ tn, oS, oU] [(.long s3), (.ref ob1)])) rfl (by rw [hml]; rfl) (Steps.refl _) (argsL := [(.long s3)]) (rest := []) (lenOf pd_6 rfl) rfl (by show 2 * 0 + _ ≤ _; exact Nat.le_of_eq rfl) (hb hby at_288) (fun _ _ => ⟨rfl, rfl, (by decide : 4 + 0 ≤ _), (by decide : 31 + 0 ≤ _)⟩)
            dsimp only [Pt.U, Pt.locs, Pt.cells, Pt.slots] at X25 l25 y25 z25 st25 hQ25
            subst l25 y25 z25
            obtain ⟨rfl, N25q, e25⟩ := hQ25
            have N25 := Fr.app N24 N25q
            refine hG _ _ (fun t₀ k₀ => st25.trans k₀) ?_
            show G (T25.setTop (mkF m 291 #[oJ p1, oS, oI p2, oJ p3, oS, oJ p4, oS, oI p5, oI p6, oJ s1, oS, oJ s2, oS, oJ s3, oS, oI wd, oJ q, oS, oJ t1, oS, oJ t2, oS, oJ t3, oS, oJ tn, oS, oJ nn, oS, oR ob1, oI (1 : Int32), oJ tn, oS, oU] [(.long tn)]))
            refine hG _ (T25.setTop (mkF m 319 #[oJ p1, oS, oI p2, oJ p3, oS, oJ p4, oS, oI p5, oI p6, oJ s1, oS, oJ s2, oS, oJ s3, oS, oI wd, oJ q, oS, oJ t1, oS, oJ t2, oS, oJ t3, oS, oJ tn, oS, oJ nn, oS, oR ob1, oI (1 : Int32), oJ tn, oS, oI (1 : Int32)] [(.int (1 : Int32))])) (fun t₀ k₀ => ?_) ?_
            · show Steps p.tables e below (T25.setTop (mkF m 291 #[oJ p1, oS, oI p2, oJ p3, oS, oJ p4, oS, oI p5, oI p6, oJ s1, oS, oJ s2, oS, oJ s3, oS, oI wd, oJ q, oS, oJ t1, oS, oJ t2, oS, oJ t3, oS, oJ tn, oS, oJ nn, oS, oR ob1, oI (1 : Int32), oJ tn, oS, oU] [(.long tn)])) t₀
              refine XS.lload X25.here hx rfl (hb hby at_291) rfl ?_
              show Steps p.tables e below (T25.setTop (mkF m 293 #[oJ p1, oS, oI p2, oJ p3, oS, oJ p4, oS, oI p5, oI p6, oJ s1, oS, oJ s2, oS, oJ s3, oS, oI wd, oJ q, oS, oJ t1, oS, oJ t2, oS, oJ t3, oS, oJ tn, oS, oJ nn, oS, oR ob1, oI (1 : Int32), oJ tn, oS, oU] [(.long tn), (.long tn)])) t₀
              refine XS.lcmp X25.here hx rfl (hb hby at_293) rfl ?_
              show Steps p.tables e below (T25.setTop (mkF m 294 #[oJ p1, oS, oI p2, oJ p3, oS, oJ p4, oS, oI p5, oI p6, oJ s1, oS, oJ s2, oS, oJ s3, oS, oI wd, oJ q, oS, oJ t1, oS, oJ t2, oS, oJ t3, oS, oJ tn, oS, oJ nn, oS, oR ob1, oI (1 : Int32), oJ tn, oS, oU] [(.int (lcmpW tn tn))])) t₀
              refine XS.ifNo X25.here hx rfl (hb hby at_294) rfl ((if0 _ _).trans (teq ((lw_eq tn tn).mpr rfl)).2) ?_
              show Steps p.tables e below (T25.setTop (mkF m 297 #[oJ p1, oS, oI p2, oJ p3, oS, oJ p4, oS, oI p5, oI p6, oJ s1, oS, oJ s2, oS, oJ s3, oS, oI wd, oJ q, oS, oJ t1, oS, oJ t2, oS, oJ t3, oS, oJ tn, oS, oJ nn, oS, oR ob1, oI (1 : Int32), oJ tn, oS, oU] [])) t₀
              refine XS.iconst X25.here hx rfl (hb hby at_297) ?_
              show Steps p.tables e below (T25.setTop (mkF m 298 #[oJ p1, oS, oI p2, oJ p3, oS, oJ p4, oS, oI p5, oI p6, oJ s1, oS, oJ s2, oS, oJ s3, oS, oI wd, oJ q, oS, oJ t1, oS, oJ t2, oS, oJ t3, oS, oJ tn, oS, oJ nn, oS, oR ob1, oI (1 : Int32), oJ tn, oS, oU] [(.int (1 : Int32))])) t₀
              refine XS.goto X25.here hx rfl (pc0 := 298) (pc' := 302) rfl (hb hby at_298) (by decide) (by decide) ?_
              show Steps p.tables e below (T25.setTop (mkF m 302 #[oJ p1, oS, oI p2, oJ p3, oS, oJ p4, oS, oI p5, oI p6, oJ s1, oS, oJ s2, oS, oJ s3, oS, oI wd, oJ q, oS, oJ t1, oS, oJ t2, oS, oJ t3, oS, oJ tn, oS, oJ nn, oS, oR ob1, oI (1 : Int32), oJ tn, oS, oU] [(.int (1 : Int32))])) t₀
              refine XS.istore X25.here hx rfl (hb hby at_302) rfl (l' := #[oJ p1, oS, oI p2, oJ p3, oS, oJ p4, oS, oI p5, oI p6, oJ s1, oS, oJ s2, oS, oJ s3, oS, oI wd, oJ q, oS, oJ t1, oS, oJ t2, oS, oJ t3, oS, oJ tn, oS, oJ nn, oS, oR ob1, oI (1 : Int32), oJ tn, oS, oI (1 : Int32)]) rfl ?_
              show Steps p.tables e below (T25.setTop (mkF m 304 #[oJ p1, oS, oI p2, oJ p3, oS, oJ p4, oS, oI p5, oI p6, oJ s1, oS, oJ s2, oS, oJ s3, oS, oI wd, oJ q, oS, oJ t1, oS, oJ t2, oS, oJ t3, oS, oJ tn, oS, oJ nn, oS, oR ob1, oI (1 : Int32), oJ tn, oS, oI (1 : Int32)] [])) t₀
              refine XS.iload X25.here hx rfl (hb hby at_304) rfl ?_
              show Steps p.tables e below (T25.setTop (mkF m 306 #[oJ p1, oS, oI p2, oJ p3, oS, oJ p4, oS, oI p5, oI p6, oJ s1, oS, oJ s2, oS, oJ s3, oS, oI wd, oJ q, oS, oJ t1, oS, oJ t2, oS, oJ t3, oS, oJ tn, oS, oJ nn, oS, oR ob1, oI (1 : Int32), oJ tn, oS, oI (1 : Int32)] [(.int (1 : Int32))])) t₀
              refine XS.ifNo X25.here hx rfl (hb hby at_306) rfl ((if0 _ _).trans (feq (by decide : ¬ ((1 : Int32) = (0 : Int32)))).1) ?_
              show Steps p.tables e below (T25.setTop (mkF m 309 #[oJ p1, oS, oI p2, oJ p3, oS, oJ p4, oS, oI p5, oI p6, oJ s1, oS, oJ s2, oS, oJ s3, oS, oI wd, oJ q, oS, oJ t1, oS, oJ t2, oS, oJ t3, oS, oJ tn, oS, oJ nn, oS, oR ob1, oI (1 : Int32), oJ tn, oS, oI (1 : Int32)] [])) t₀
              refine XS.iload X25.here hx rfl (hb hby at_309) rfl ?_
              show Steps p.tables e below (T25.setTop (mkF m 311 #[oJ p1, oS, oI p2, oJ p3, oS, oJ p4, oS, oI p5, oI p6, oJ s1, oS, oJ s2, oS, oJ s3, oS, oI wd, oJ q, oS, oJ t1, oS, oJ t2, oS, oJ t3, oS, oJ tn, oS, oJ nn, oS, oR ob1, oI (1 : Int32), oJ tn, oS, oI (1 : Int32)] [(.int (1 : Int32))])) t₀
              refine XS.ifNo X25.here hx rfl (hb hby at_311) rfl ((if0 _ _).trans (feq (by decide : ¬ ((1 : Int32) = (0 : Int32)))).1) ?_
              show Steps p.tables e below (T25.setTop (mkF m 314 #[oJ p1, oS, oI p2, oJ p3, oS, oJ p4, oS, oI p5, oI p6, oJ s1, oS, oJ s2, oS, oJ s3, oS, oI wd, oJ q, oS, oJ t1, oS, oJ t2, oS, oJ t3, oS, oJ tn, oS, oJ nn, oS, oR ob1, oI (1 : Int32), oJ tn, oS, oI (1 : Int32)] [])) t₀
              refine XS.iconst X25.here hx rfl (hb hby at_314) ?_
              show Steps p.tables e below (T25.setTop (mkF m 315 #[oJ p1, oS, oI p2, oJ p3, oS, oJ p4, oS, oI p5, oI p6, oJ s1, oS, oJ s2, oS, oJ s3, oS, oI wd, oJ q, oS, oJ t1, oS, oJ t2, oS, oJ t3, oS, oJ tn, oS, oJ nn, oS, oR ob1, oI (1 : Int32), oJ tn, oS, oI (1 : Int32)] [(.int (1 : Int32))])) t₀
              refine XS.goto X25.here hx rfl (pc0 := 315) (pc' := 319) rfl (hb hby at_315) (by decide) (by decide) ?_
              exact k₀
            refine hF _ T25 _ _ _ (some (.int (1 : Int32))) _ X25 e25 (fun h => by rw [hrt] at h; cases h) (by decide) (by decide) ?_ (fun fs hr => retN X25 hx (t := .boolean) hrt (by simp) (hb hby at_319) hr)
            exact ⟨rfl, N25⟩
          ·
            refine hG _ (T5.setTop (mkF m 180 #[oJ p1, oS, oI p2, oJ p3, oS, oJ p4, oS, oI p5, oI p6, oJ s1, oS, oJ s2, oS, oJ s3, oS, oI wd, oJ q, oS, oJ t1, oS, oJ t2, oS, oJ t3, oS, oJ tn, oS, oJ nn, oS, oR ob1, oU, oU, oU, oU] [(.long q), (.ref ob1)])) (fun t₀ k₀ => ?_) ?_
            · show Steps p.tables e below (T5.setTop (mkF m 176 #[oJ p1, oS, oI p2, oJ p3, oS, oJ p4, oS, oI p5, oI p6, oJ s1, oS, oJ s2, oS, oJ s3, oS, oI wd, oJ q, oS, oJ t1, oS, oJ t2, oS, oJ t3, oS, oJ tn, oS, oJ nn, oS, oR ob1, oU, oU, oU, oU] [])) t₀
              refine XS.aload X5.here hx rfl (hb hby at_176) rfl rfl ?_
              show Steps p.tables e below (T5.setTop (mkF m 178 #[oJ p1, oS, oI p2, oJ p3, oS, oJ p4, oS, oI p5, oI p6, oJ s1, oS, oJ s2, oS, oJ s3, oS, oI wd, oJ q, oS, oJ t1, oS, oJ t2, oS, oJ t3, oS, oJ tn, oS, oJ nn, oS, oR ob1, oU, oU, oU, oU] [(.ref ob1)])) t₀
              refine XS.lload X5.here hx rfl (hb hby at_178) rfl ?_
              exact k₀
            obtain ⟨cq26, kq26, q26a, q26b, q26c⟩ := isOf hZ rfl eob1_x5
            obtain ⟨_, _, ⟨T26, L26, k26, n26⟩, -, X26, ⟨Lc26, hQ26, l26, y26, z26⟩, st26⟩ := X5.virtualBack hx (y := (⟨"com/example/opledger/opledger/AppendTimes", "forgetUpTo", "(J)V"⟩ : MethodName)) (z := (⟨"com/example/opledger/opledger/AppendTimes", "forgetUpTo", "(J)V"⟩ : MethodName)) hown (mvT hZ (hw _ (List.mem_of_getElem? (i := 56) rfl))) (mvT hZ (hw _ (List.mem_of_getElem? (i := 57) rfl))) (notFace_of_selects (args := #[]) (mvT hZ (hw _ (List.mem_of_getElem? (i := 59) rfl)))) (mvT hZ (hw _ (List.mem_of_getElem? (i := 59) rfl))) (mvT hZ (hw _ (List.mem_of_getElem? (i := 58) rfl))) (by decide) (backOf (W := 0) (rmF2 l Z a0 hw [] ob1 q wN kN S3 W3T W3E kS3 kT3 kE3 s3 s1 t1 t1 s2 t2 t2 s3 t3 t3 (0 : Int64) (0 : Int64) (0 : Int64) (0 : Int64) (0 : Int64) (0 : Int64) (0 : Int64) (0 : Int64) (0 : Int64) (0 : Int64) (0 : Int64) (0 : Int64) (0 : Int64) (0 : Int64) (0 : Int64) T5.heap n0 z_x5 o_x5 S_NO VN eob1_x5 f5_0 f5_1 f5_2 f5_3 f5_4 f5_5 f5_6 f5_7 f5_8 f5_9 g_ob1 g3_0 g3_1 g3_2 d3_0 d3_1 d3_2 d3_3 d3_4 d3_5 hA hB hC) hZ (hw _ (List.mem_of_getElem? (i := 60) rfl)) (hw _ (List.mem_of_getElem? (i := 6) rfl)) (by decide) (by decide)) q26a q26c (g := (mkF m 180 #[oJ p1, oS, oI p2, oJ p3, oS, oJ p4, oS, oI p5, oI p6, oJ s1, oS, oJ s2, oS, oJ s3, oS, oI wd, oJ q, oS, oJ t1, oS, oJ t2, oS, oJ t3, oS, oJ tn, oS, oJ nn, oS, oR ob1, oU, oU, oU, oU] [(.long q), (.ref ob1)])) rfl (by rw [hml]; rfl) (Steps.refl _) (argsL := [(.long q)]) (rest := []) (lenOf pd_5 rfl) rfl (by show 2 * 0 + _ ≤ _; exact Nat.le_of_eq rfl) (hb hby at_180) (fun _ _ => ⟨rfl, rfl, (by decide : 4 + 0 ≤ _), (by decide : 31 + 0 ≤ _)⟩)
            dsimp only [Pt.U, Pt.locs, Pt.cells, Pt.slots] at X26 l26 y26 z26 st26 hQ26
            subst l26 y26 z26
            obtain ⟨rfl, N26q, K26, f26_0, f26_1, f26_2, f26_3, f26_4, f26_5, f26_6, f26_7, f26_8, f26_9⟩ := hQ26
            have N26 := Fr.app N5 N26q
            refine hG _ _ (fun t₀ k₀ => st26.trans k₀) ?_
            have z_x26 := Nat.le_trans z_x5 K26.1
            have o_x26 := o_x5.keep K26 (allS g_ob1 all0)
            have eob1_x26 := eob1_x5.keep K26
            have vS3_x26 := f5_7.keep K26 (ninS (Ne.symm d3_0) nin0)
            have vW3T_x26 := f5_8.keep K26 (ninS (Ne.symm d3_1) nin0)
            have vW3E_x26 := f5_9.keep K26 (ninS (Ne.symm d3_2) nin0)
            show G (T26.setTop (mkF m 183 #[oJ p1, oS, oI p2, oJ p3, oS, oJ p4, oS, oI p5, oI p6, oJ s1, oS, oJ s2, oS, oJ s3, oS, oI wd, oJ q, oS, oJ t1, oS, oJ t2, oS, oJ t3, oS, oJ tn, oS, oJ nn, oS, oR ob1, oU, oU, oU, oU] []))
            refine hG _ (T26.setTop (mkF m 228 #[oJ p1, oS, oI p2, oJ p3, oS, oJ p4, oS, oI p5, oI p6, oJ s1, oS, oJ s2, oS, oJ s3, oS, oI wd, oJ q, oS, oJ t1, oS, oJ t2, oS, oJ t3, oS, oJ tn, oS, oJ nn, oS, oR ob1, oI (1 : Int32), oJ t3, oS, oU] [(.long q), (.ref ob1)])) (fun t₀ k₀ => ?_) ?_
            · show Steps p.tables e below (T26.setTop (mkF m 183 #[oJ p1, oS, oI p2, oJ p3, oS, oJ p4, oS, oI p5, oI p6, oJ s1, oS, oJ s2, oS, oJ s3, oS, oI wd, oJ q, oS, oJ t1, oS, oJ t2, oS, oJ t3, oS, oJ tn, oS, oJ nn, oS, oR ob1, oU, oU, oU, oU] [])) t₀
              refine XS.iconst X26.here hx rfl (hb hby at_183) ?_
              show Steps p.tables e below (T26.setTop (mkF m 184 #[oJ p1, oS, oI p2, oJ p3, oS, oJ p4, oS, oI p5, oI p6, oJ s1, oS, oJ s2, oS, oJ s3, oS, oI wd, oJ q, oS, oJ t1, oS, oJ t2, oS, oJ t3, oS, oJ tn, oS, oJ nn, oS, oR ob1, oU, oU, oU, oU] [(.int (1 : Int32))])) t₀
              refine XS.istore X26.here hx rfl (hb hby at_184) rfl (l' := #[oJ p1, oS, oI p2, oJ p3, oS, oJ p4, oS, oI p5, oI p6, oJ s1, oS, oJ s2, oS, oJ s3, oS, oI wd, oJ q, oS, oJ t1, oS, oJ t2, oS, oJ t3, oS, oJ tn, oS, oJ nn, oS, oR ob1, oI (1 : Int32), oU, oU, oU]) rfl ?_
              show Steps p.tables e below (T26.setTop (mkF m 186 #[oJ p1, oS, oI p2, oJ p3, oS, oJ p4, oS, oI p5, oI p6, oJ s1, oS, oJ s2, oS, oJ s3, oS, oI wd, oJ q, oS, oJ t1, oS, oJ t2, oS, oJ t3, oS, oJ tn, oS, oJ nn, oS, oR ob1, oI (1 : Int32), oU, oU, oU] [])) t₀
              refine XS.lload X26.here hx rfl (hb hby at_186) rfl ?_
              show Steps p.tables e below (T26.setTop (mkF m 188 #[oJ p1, oS, oI p2, oJ p3, oS, oJ p4, oS, oI p5, oI p6, oJ s1, oS, oJ s2, oS, oJ s3, oS, oI wd, oJ q, oS, oJ t1, oS, oJ t2, oS, oJ t3, oS, oJ tn, oS, oJ nn, oS, oR ob1, oI (1 : Int32), oU, oU, oU] [(.long q)])) t₀
              refine XS.lload X26.here hx rfl (hb hby at_188) rfl ?_
              show Steps p.tables e below (T26.setTop (mkF m 190 #[oJ p1, oS, oI p2, oJ p3, oS, oJ p4, oS, oI p5, oI p6, oJ s1, oS, oJ s2, oS, oJ s3, oS, oI wd, oJ q, oS, oJ t1, oS, oJ t2, oS, oJ t3, oS, oJ tn, oS, oJ nn, oS, oR ob1, oI (1 : Int32), oU, oU, oU] [(.long s3), (.long q)])) t₀
              refine XS.lcmp X26.here hx rfl (hb hby at_190) rfl ?_
              show Steps p.tables e below (T26.setTop (mkF m 191 #[oJ p1, oS, oI p2, oJ p3, oS, oJ p4, oS, oI p5, oI p6, oJ s1, oS, oJ s2, oS, oJ s3, oS, oI wd, oJ q, oS, oJ t1, oS, oJ t2, oS, oJ t3, oS, oJ tn, oS, oJ nn, oS, oR ob1, oI (1 : Int32), oU, oU, oU] [(.int (lcmpW q s3))])) t₀
              refine XS.ifNo X26.here hx rfl (hb hby at_191) rfl ((if0 _ _).trans (tlt ((lw_lt q s3).mpr hC)).2.1) ?_
              show Steps p.tables e below (T26.setTop (mkF m 194 #[oJ p1, oS, oI p2, oJ p3, oS, oJ p4, oS, oI p5, oI p6, oJ s1, oS, oJ s2, oS, oJ s3, oS, oI wd, oJ q, oS, oJ t1, oS, oJ t2, oS, oJ t3, oS, oJ tn, oS, oJ nn, oS, oR ob1, oI (1 : Int32), oU, oU, oU] [])) t₀
              refine XS.lload X26.here hx rfl (hb hby at_194) rfl ?_
              show Steps p.tables e below (T26.setTop (mkF m 196 #[oJ p1, oS, oI p2, oJ p3, oS, oJ p4, oS, oI p5, oI p6, oJ s1, oS, oJ s2, oS, oJ s3, oS, oI wd, oJ q, oS, oJ t1, oS, oJ t2, oS, oJ t3, oS, oJ tn, oS, oJ nn, oS, oR ob1, oI (1 : Int32), oU, oU, oU] [(.long q)])) t₀
              refine XS.lload X26.here hx rfl (hb hby at_196) rfl ?_
              show Steps p.tables e below (T26.setTop (mkF m 198 #[oJ p1, oS, oI p2, oJ p3, oS, oJ p4, oS, oI p5, oI p6, oJ s1, oS, oJ s2, oS, oJ s3, oS, oI wd, oJ q, oS, oJ t1, oS, oJ t2, oS, oJ t3, oS, oJ tn, oS, oJ nn, oS, oR ob1, oI (1 : Int32), oU, oU, oU] [(.long s1), (.long q)])) t₀
              refine XS.lcmp X26.here hx rfl (hb hby at_198) rfl ?_
              show Steps p.tables e below (T26.setTop (mkF m 199 #[oJ p1, oS, oI p2, oJ p3, oS, oJ p4, oS, oI p5, oI p6, oJ s1, oS, oJ s2, oS, oJ s3, oS, oI wd, oJ q, oS, oJ t1, oS, oJ t2, oS, oJ t3, oS, oJ tn, oS, oJ nn, oS, oR ob1, oI (1 : Int32), oU, oU, oU] [(.int (lcmpW q s1))])) t₀
              refine XS.ifYes X26.here hx rfl (pc0 := 199) (pc' := 207) rfl (hb hby at_199) rfl ((if0 _ _).trans (flt (fun z => hA ((lw_lt q s1).mp z))).2.1) (by decide) (by decide) ?_
              show Steps p.tables e below (T26.setTop (mkF m 207 #[oJ p1, oS, oI p2, oJ p3, oS, oJ p4, oS, oI p5, oI p6, oJ s1, oS, oJ s2, oS, oJ s3, oS, oI wd, oJ q, oS, oJ t1, oS, oJ t2, oS, oJ t3, oS, oJ tn, oS, oJ nn, oS, oR ob1, oI (1 : Int32), oU, oU, oU] [])) t₀
              refine XS.lload X26.here hx rfl (hb hby at_207) rfl ?_
              show Steps p.tables e below (T26.setTop (mkF m 209 #[oJ p1, oS, oI p2, oJ p3, oS, oJ p4, oS, oI p5, oI p6, oJ s1, oS, oJ s2, oS, oJ s3, oS, oI wd, oJ q, oS, oJ t1, oS, oJ t2, oS, oJ t3, oS, oJ tn, oS, oJ nn, oS, oR ob1, oI (1 : Int32), oU, oU, oU] [(.long q)])) t₀
              refine XS.lload X26.here hx rfl (hb hby at_209) rfl ?_
              show Steps p.tables e below (T26.setTop (mkF m 211 #[oJ p1, oS, oI p2, oJ p3, oS, oJ p4, oS, oI p5, oI p6, oJ s1, oS, oJ s2, oS, oJ s3, oS, oI wd, oJ q, oS, oJ t1, oS, oJ t2, oS, oJ t3, oS, oJ tn, oS, oJ nn, oS, oR ob1, oI (1 : Int32), oU, oU, oU] [(.long s2), (.long q)])) t₀
              refine XS.lcmp X26.here hx rfl (hb hby at_211) rfl ?_
              show Steps p.tables e below (T26.setTop (mkF m 212 #[oJ p1, oS, oI p2, oJ p3, oS, oJ p4, oS, oI p5, oI p6, oJ s1, oS, oJ s2, oS, oJ s3, oS, oI wd, oJ q, oS, oJ t1, oS, oJ t2, oS, oJ t3, oS, oJ tn, oS, oJ nn, oS, oR ob1, oI (1 : Int32), oU, oU, oU] [(.int (lcmpW q s2))])) t₀
              refine XS.ifYes X26.here hx rfl (pc0 := 212) (pc' := 220) rfl (hb hby at_212) rfl ((if0 _ _).trans (flt (fun z => hB ((lw_lt q s2).mp z))).2.1) (by decide) (by decide) ?_
              show Steps p.tables e below (T26.setTop (mkF m 220 #[oJ p1, oS, oI p2, oJ p3, oS, oJ p4, oS, oI p5, oI p6, oJ s1, oS, oJ s2, oS, oJ s3, oS, oI wd, oJ q, oS, oJ t1, oS, oJ t2, oS, oJ t3, oS, oJ tn, oS, oJ nn, oS, oR ob1, oI (1 : Int32), oU, oU, oU] [])) t₀
              refine XS.lload X26.here hx rfl (hb hby at_220) rfl ?_
              show Steps p.tables e below (T26.setTop (mkF m 222 #[oJ p1, oS, oI p2, oJ p3, oS, oJ p4, oS, oI p5, oI p6, oJ s1, oS, oJ s2, oS, oJ s3, oS, oI wd, oJ q, oS, oJ t1, oS, oJ t2, oS, oJ t3, oS, oJ tn, oS, oJ nn, oS, oR ob1, oI (1 : Int32), oU, oU, oU] [(.long t3)])) t₀
              refine XS.lstore X26.here hx rfl (hb hby at_222) rfl (l' := #[oJ p1, oS, oI p2, oJ p3, oS, oJ p4, oS, oI p5, oI p6, oJ s1, oS, oJ s2, oS, oJ s3, oS, oI wd, oJ q, oS, oJ t1, oS, oJ t2, oS, oJ t3, oS, oJ tn, oS, oJ nn, oS, oR ob1, oI (1 : Int32), oJ t3, oS, oU]) rfl ?_
              show Steps p.tables e below (T26.setTop (mkF m 224 #[oJ p1, oS, oI p2, oJ p3, oS, oJ p4, oS, oI p5, oI p6, oJ s1, oS, oJ s2, oS, oJ s3, oS, oI wd, oJ q, oS, oJ t1, oS, oJ t2, oS, oJ t3, oS, oJ tn, oS, oJ nn, oS, oR ob1, oI (1 : Int32), oJ t3, oS, oU] [])) t₀
              refine XS.aload X26.here hx rfl (hb hby at_224) rfl rfl ?_
              show Steps p.tables e below (T26.setTop (mkF m 226 #[oJ p1, oS, oI p2, oJ p3, oS, oJ p4, oS, oI p5, oI p6, oJ s1, oS, oJ s2, oS, oJ s3, oS, oI wd, oJ q, oS, oJ t1, oS, oJ t2, oS, oJ t3, oS, oJ tn, oS, oJ nn, oS, oR ob1, oI (1 : Int32), oJ t3, oS, oU] [(.ref ob1)])) t₀
              refine XS.lload X26.here hx rfl (hb hby at_226) rfl ?_
              exact k₀
            obtain ⟨cq27, kq27, q27a, q27b, q27c⟩ := isOf hZ rfl eob1_x26
            obtain ⟨_, _, ⟨T27, L27, k27, n27⟩, -, X27, ⟨Lc27, hQ27, l27, y27, z27⟩, st27⟩ := X26.virtualBack hx (y := (⟨"com/example/opledger/opledger/AppendTimes", "earliestAbove", "(J)J"⟩ : MethodName)) (z := (⟨"com/example/opledger/opledger/AppendTimes", "earliestAbove", "(J)J"⟩ : MethodName)) hown (mvT hZ (hw _ (List.mem_of_getElem? (i := 61) rfl))) (mvT hZ (hw _ (List.mem_of_getElem? (i := 62) rfl))) (notFace_of_selects (args := #[]) (mvT hZ (hw _ (List.mem_of_getElem? (i := 64) rfl)))) (mvT hZ (hw _ (List.mem_of_getElem? (i := 64) rfl))) (mvT hZ (hw _ (List.mem_of_getElem? (i := 63) rfl))) (by decide) (backOf (W := 0) (rmE12 l Z a0 hw [] ob1 q S3 W3T kS3 kT3 s1 t1 s2 t2 s3 t3 (0 : Int64) (0 : Int64) (0 : Int64) (0 : Int64) (0 : Int64) (0 : Int64) (0 : Int64) (0 : Int64) (0 : Int64) (0 : Int64) T26.heap n0 z_x26 f26_0 f26_1 f26_3 f26_4 f26_7 f26_8 ) hZ (hw _ (List.mem_of_getElem? (i := 65) rfl)) (hw _ (List.mem_of_getElem? (i := 6) rfl)) (by decide) (by decide)) q27a q27c (g := (mkF m 228 #[oJ p1, oS, oI p2, oJ p3, oS, oJ p4, oS, oI p5, oI p6, oJ s1, oS, oJ s2, oS, oJ s3, oS, oI wd, oJ q, oS, oJ t1, oS, oJ t2, oS, oJ t3, oS, oJ tn, oS, oJ nn, oS, oR ob1, oI (1 : Int32), oJ t3, oS, oU] [(.long q), (.ref ob1)])) rfl (by rw [hml]; rfl) (Steps.refl _) (argsL := [(.long q)]) (rest := []) (lenOf pd_6 rfl) rfl (by show 2 * 0 + _ ≤ _; exact Nat.le_of_eq rfl) (hb hby at_228) (fun _ _ => ⟨rfl, rfl, (by decide : 4 + 0 ≤ _), (by decide : 31 + 0 ≤ _)⟩)
            dsimp only [Pt.U, Pt.locs, Pt.cells, Pt.slots] at X27 l27 y27 z27 st27 hQ27
            subst l27 y27 z27
            obtain ⟨rfl, N27q, e27⟩ := hQ27
            have N27 := Fr.app N26 N27q
            refine hG _ _ (fun t₀ k₀ => st27.trans k₀) ?_
            show G (T27.setTop (mkF m 231 #[oJ p1, oS, oI p2, oJ p3, oS, oJ p4, oS, oI p5, oI p6, oJ s1, oS, oJ s2, oS, oJ s3, oS, oI wd, oJ q, oS, oJ t1, oS, oJ t2, oS, oJ t3, oS, oJ tn, oS, oJ nn, oS, oR ob1, oI (1 : Int32), oJ t3, oS, oU] [(.long t3)]))
            refine hG _ (T27.setTop (mkF m 250 #[oJ p1, oS, oI p2, oJ p3, oS, oJ p4, oS, oI p5, oI p6, oJ s1, oS, oJ s2, oS, oJ s3, oS, oI wd, oJ q, oS, oJ t1, oS, oJ t2, oS, oJ t3, oS, oJ tn, oS, oJ nn, oS, oR ob1, oI (1 : Int32), oJ t3, oS, oU] [(.long tn), (.long nn), (.ref ob1)])) (fun t₀ k₀ => ?_) ?_
            · show Steps p.tables e below (T27.setTop (mkF m 231 #[oJ p1, oS, oI p2, oJ p3, oS, oJ p4, oS, oI p5, oI p6, oJ s1, oS, oJ s2, oS, oJ s3, oS, oI wd, oJ q, oS, oJ t1, oS, oJ t2, oS, oJ t3, oS, oJ tn, oS, oJ nn, oS, oR ob1, oI (1 : Int32), oJ t3, oS, oU] [(.long t3)])) t₀
              refine XS.lload X27.here hx rfl (hb hby at_231) rfl ?_
              show Steps p.tables e below (T27.setTop (mkF m 233 #[oJ p1, oS, oI p2, oJ p3, oS, oJ p4, oS, oI p5, oI p6, oJ s1, oS, oJ s2, oS, oJ s3, oS, oI wd, oJ q, oS, oJ t1, oS, oJ t2, oS, oJ t3, oS, oJ tn, oS, oJ nn, oS, oR ob1, oI (1 : Int32), oJ t3, oS, oU] [(.long t3), (.long t3)])) t₀
              refine XS.lcmp X27.here hx rfl (hb hby at_233) rfl ?_
              show Steps p.tables e below (T27.setTop (mkF m 234 #[oJ p1, oS, oI p2, oJ p3, oS, oJ p4, oS, oI p5, oI p6, oJ s1, oS, oJ s2, oS, oJ s3, oS, oI wd, oJ q, oS, oJ t1, oS, oJ t2, oS, oJ t3, oS, oJ tn, oS, oJ nn, oS, oR ob1, oI (1 : Int32), oJ t3, oS, oU] [(.int (lcmpW t3 t3))])) t₀
              refine XS.ifNo X27.here hx rfl (hb hby at_234) rfl ((if0 _ _).trans (teq ((lw_eq t3 t3).mpr rfl)).2) ?_
              show Steps p.tables e below (T27.setTop (mkF m 237 #[oJ p1, oS, oI p2, oJ p3, oS, oJ p4, oS, oI p5, oI p6, oJ s1, oS, oJ s2, oS, oJ s3, oS, oI wd, oJ q, oS, oJ t1, oS, oJ t2, oS, oJ t3, oS, oJ tn, oS, oJ nn, oS, oR ob1, oI (1 : Int32), oJ t3, oS, oU] [])) t₀
              refine XS.iconst X27.here hx rfl (hb hby at_237) ?_
              show Steps p.tables e below (T27.setTop (mkF m 238 #[oJ p1, oS, oI p2, oJ p3, oS, oJ p4, oS, oI p5, oI p6, oJ s1, oS, oJ s2, oS, oJ s3, oS, oI wd, oJ q, oS, oJ t1, oS, oJ t2, oS, oJ t3, oS, oJ tn, oS, oJ nn, oS, oR ob1, oI (1 : Int32), oJ t3, oS, oU] [(.int (1 : Int32))])) t₀
              refine XS.goto X27.here hx rfl (pc0 := 238) (pc' := 242) rfl (hb hby at_238) (by decide) (by decide) ?_
              show Steps p.tables e below (T27.setTop (mkF m 242 #[oJ p1, oS, oI p2, oJ p3, oS, oJ p4, oS, oI p5, oI p6, oJ s1, oS, oJ s2, oS, oJ s3, oS, oI wd, oJ q, oS, oJ t1, oS, oJ t2, oS, oJ t3, oS, oJ tn, oS, oJ nn, oS, oR ob1, oI (1 : Int32), oJ t3, oS, oU] [(.int (1 : Int32))])) t₀
              refine XS.istore X27.here hx rfl (hb hby at_242) rfl (l' := #[oJ p1, oS, oI p2, oJ p3, oS, oJ p4, oS, oI p5, oI p6, oJ s1, oS, oJ s2, oS, oJ s3, oS, oI wd, oJ q, oS, oJ t1, oS, oJ t2, oS, oJ t3, oS, oJ tn, oS, oJ nn, oS, oR ob1, oI (1 : Int32), oJ t3, oS, oU]) rfl ?_
              show Steps p.tables e below (T27.setTop (mkF m 244 #[oJ p1, oS, oI p2, oJ p3, oS, oJ p4, oS, oI p5, oI p6, oJ s1, oS, oJ s2, oS, oJ s3, oS, oI wd, oJ q, oS, oJ t1, oS, oJ t2, oS, oJ t3, oS, oJ tn, oS, oJ nn, oS, oR ob1, oI (1 : Int32), oJ t3, oS, oU] [])) t₀
              refine XS.aload X27.here hx rfl (hb hby at_244) rfl rfl ?_
              show Steps p.tables e below (T27.setTop (mkF m 246 #[oJ p1, oS, oI p2, oJ p3, oS, oJ p4, oS, oI p5, oI p6, oJ s1, oS, oJ s2, oS, oJ s3, oS, oI wd, oJ q, oS, oJ t1, oS, oJ t2, oS, oJ t3, oS, oJ tn, oS, oJ nn, oS, oR ob1, oI (1 : Int32), oJ t3, oS, oU] [(.ref ob1)])) t₀
              refine XS.lload X27.here hx rfl (hb hby at_246) rfl ?_
              show Steps p.tables e below (T27.setTop (mkF m 248 #[oJ p1, oS, oI p2, oJ p3, oS, oJ p4, oS, oI p5, oI p6, oJ s1, oS, oJ s2, oS, oJ s3, oS, oI wd, oJ q, oS, oJ t1, oS, oJ t2, oS, oJ t3, oS, oJ tn, oS, oJ nn, oS, oR ob1, oI (1 : Int32), oJ t3, oS, oU] [(.long nn), (.ref ob1)])) t₀
              refine XS.lload X27.here hx rfl (hb hby at_248) rfl ?_
              exact k₀
            obtain ⟨cq28, kq28, q28a, q28b, q28c⟩ := isOf hZ e27 eob1_x26
            obtain ⟨_, _, ⟨T28, L28, k28, n28⟩, -, X28, ⟨Lc28, hQ28, l28, y28, z28⟩, st28⟩ := X27.virtualBack hx (y := (⟨"com/example/opledger/opledger/AppendTimes", "record", "(JJ)V"⟩ : MethodName)) (z := (⟨"com/example/opledger/opledger/AppendTimes", "record", "(JJ)V"⟩ : MethodName)) hown (mvT hZ (hw _ (List.mem_of_getElem? (i := 28) rfl))) (mvT hZ (hw _ (List.mem_of_getElem? (i := 29) rfl))) (notFace_of_selects (args := #[]) (mvT hZ (hw _ (List.mem_of_getElem? (i := 31) rfl)))) (mvT hZ (hw _ (List.mem_of_getElem? (i := 31) rfl))) (mvT hZ (hw _ (List.mem_of_getElem? (i := 30) rfl))) (by decide) (backOf (W := 0) (rmRM l Z a0 hw [] ob1 nn tn S3 W3T W3E kS3 kT3 kE3 (2 : Int32) s3 s1 t1 t1 s2 t2 t2 s3 t3 t3 (0 : Int64) (0 : Int64) (0 : Int64) (0 : Int64) (0 : Int64) (0 : Int64) (0 : Int64) (0 : Int64) (0 : Int64) (0 : Int64) (0 : Int64) (0 : Int64) (0 : Int64) (0 : Int64) (0 : Int64) T26.heap n0 z_x26 eob1_x26 f26_0 f26_1 f26_2 f26_3 f26_4 f26_5 f26_6 f26_7 f26_8 f26_9 g_ob1 g3_0 g3_1 g3_2 d3_0 d3_1 d3_2 d3_3 d3_4 d3_5 h3n (by decide) hGp) hZ (hw _ (List.mem_of_getElem? (i := 32) rfl)) (hw _ (List.mem_of_getElem? (i := 6) rfl)) (by decide) (by decide)) q28a q28c (g := (mkF m 250 #[oJ p1, oS, oI p2, oJ p3, oS, oJ p4, oS, oI p5, oI p6, oJ s1, oS, oJ s2, oS, oJ s3, oS, oI wd, oJ q, oS, oJ t1, oS, oJ t2, oS, oJ t3, oS, oJ tn, oS, oJ nn, oS, oR ob1, oI (1 : Int32), oJ t3, oS, oU] [(.long tn), (.long nn), (.ref ob1)])) rfl (by rw [hml]; rfl) (Steps.refl _) (argsL := [(.long nn), (.long tn)]) (rest := []) (lenOf pd_1 rfl) rfl (by show 2 * 0 + _ ≤ _; exact Nat.le_of_eq rfl) (hb hby at_250) (fun _ _ => ⟨rfl, e27, (by decide : 4 + 0 ≤ _), (by decide : 31 + 0 ≤ _)⟩)
            dsimp only [Pt.U, Pt.locs, Pt.cells, Pt.slots] at X28 l28 y28 z28 st28 hQ28
            subst l28 y28 z28
            obtain ⟨rfl, N28q, K28, f28_0, f28_1, f28_2, f28_3, f28_4, f28_5, f28_6, f28_7, f28_8, f28_9⟩ := hQ28
            have N28 := Fr.app N27 N28q
            refine hG _ _ (fun t₀ k₀ => st28.trans k₀) ?_
            have z_x28 := Nat.le_trans z_x26 K28.1
            have o_x28 := o_x26.keep K28 (allS g_ob1 (allS g3_0 (allS g3_1 (allS g3_2 all0))))
            have eob1_x28 := eob1_x26.keep K28
            show G (T28.setTop (mkF m 253 #[oJ p1, oS, oI p2, oJ p3, oS, oJ p4, oS, oI p5, oI p6, oJ s1, oS, oJ s2, oS, oJ s3, oS, oI wd, oJ q, oS, oJ t1, oS, oJ t2, oS, oJ t3, oS, oJ tn, oS, oJ nn, oS, oR ob1, oI (1 : Int32), oJ t3, oS, oU] []))
            refine hG _ (T28.setTop (mkF m 288 #[oJ p1, oS, oI p2, oJ p3, oS, oJ p4, oS, oI p5, oI p6, oJ s1, oS, oJ s2, oS, oJ s3, oS, oI wd, oJ q, oS, oJ t1, oS, oJ t2, oS, oJ t3, oS, oJ tn, oS, oJ nn, oS, oR ob1, oI (1 : Int32), oJ t3, oS, oU] [(.long s3), (.ref ob1)])) (fun t₀ k₀ => ?_) ?_
            · show Steps p.tables e below (T28.setTop (mkF m 253 #[oJ p1, oS, oI p2, oJ p3, oS, oJ p4, oS, oI p5, oI p6, oJ s1, oS, oJ s2, oS, oJ s3, oS, oI wd, oJ q, oS, oJ t1, oS, oJ t2, oS, oJ t3, oS, oJ tn, oS, oJ nn, oS, oR ob1, oI (1 : Int32), oJ t3, oS, oU] [])) t₀
              refine XS.lload X28.here hx rfl (hb hby at_253) rfl ?_
              show Steps p.tables e below (T28.setTop (mkF m 255 #[oJ p1, oS, oI p2, oJ p3, oS, oJ p4, oS, oI p5, oI p6, oJ s1, oS, oJ s2, oS, oJ s3, oS, oI wd, oJ q, oS, oJ t1, oS, oJ t2, oS, oJ t3, oS, oJ tn, oS, oJ nn, oS, oR ob1, oI (1 : Int32), oJ t3, oS, oU] [(.long q)])) t₀
              refine XS.lload X28.here hx rfl (hb hby at_255) rfl ?_
              show Steps p.tables e below (T28.setTop (mkF m 257 #[oJ p1, oS, oI p2, oJ p3, oS, oJ p4, oS, oI p5, oI p6, oJ s1, oS, oJ s2, oS, oJ s3, oS, oI wd, oJ q, oS, oJ t1, oS, oJ t2, oS, oJ t3, oS, oJ tn, oS, oJ nn, oS, oR ob1, oI (1 : Int32), oJ t3, oS, oU] [(.long s3), (.long q)])) t₀
              refine XS.lcmp X28.here hx rfl (hb hby at_257) rfl ?_
              show Steps p.tables e below (T28.setTop (mkF m 258 #[oJ p1, oS, oI p2, oJ p3, oS, oJ p4, oS, oI p5, oI p6, oJ s1, oS, oJ s2, oS, oJ s3, oS, oI wd, oJ q, oS, oJ t1, oS, oJ t2, oS, oJ t3, oS, oJ tn, oS, oJ nn, oS, oR ob1, oI (1 : Int32), oJ t3, oS, oU] [(.int (lcmpW q s3))])) t₀
              refine XS.ifNo X28.here hx rfl (hb hby at_258) rfl ((if0 _ _).trans (tlt ((lw_lt q s3).mpr hC)).2.1) ?_
              show Steps p.tables e below (T28.setTop (mkF m 261 #[oJ p1, oS, oI p2, oJ p3, oS, oJ p4, oS, oI p5, oI p6, oJ s1, oS, oJ s2, oS, oJ s3, oS, oI wd, oJ q, oS, oJ t1, oS, oJ t2, oS, oJ t3, oS, oJ tn, oS, oJ nn, oS, oR ob1, oI (1 : Int32), oJ t3, oS, oU] [])) t₀
              refine XS.lload X28.here hx rfl (hb hby at_261) rfl ?_
              show Steps p.tables e below (T28.setTop (mkF m 263 #[oJ p1, oS, oI p2, oJ p3, oS, oJ p4, oS, oI p5, oI p6, oJ s1, oS, oJ s2, oS, oJ s3, oS, oI wd, oJ q, oS, oJ t1, oS, oJ t2, oS, oJ t3, oS, oJ tn, oS, oJ nn, oS, oR ob1, oI (1 : Int32), oJ t3, oS, oU] [(.long tn)])) t₀
              refine XS.lload X28.here hx rfl (hb hby at_263) rfl ?_
              show Steps p.tables e below (T28.setTop (mkF m 265 #[oJ p1, oS, oI p2, oJ p3, oS, oJ p4, oS, oI p5, oI p6, oJ s1, oS, oJ s2, oS, oJ s3, oS, oI wd, oJ q, oS, oJ t1, oS, oJ t2, oS, oJ t3, oS, oJ tn, oS, oJ nn, oS, oR ob1, oI (1 : Int32), oJ t3, oS, oU] [(.long t3), (.long tn)])) t₀
              refine XS.lsub X28.here hx rfl (hb hby at_265) rfl ?_
              show Steps p.tables e below (T28.setTop (mkF m 266 #[oJ p1, oS, oI p2, oJ p3, oS, oJ p4, oS, oI p5, oI p6, oJ s1, oS, oJ s2, oS, oJ s3, oS, oI wd, oJ q, oS, oJ t1, oS, oJ t2, oS, oJ t3, oS, oJ tn, oS, oJ nn, oS, oR ob1, oI (1 : Int32), oJ t3, oS, oU] [(.long (tn - t3))])) t₀
              refine X28.ldc2Long hx hown (mvT hZ (hw _ (List.mem_of_getElem? (i := 66) rfl))) (g := (mkF m 266 #[oJ p1, oS, oI p2, oJ p3, oS, oJ p4, oS, oI p5, oI p6, oJ s1, oS, oJ s2, oS, oJ s3, oS, oI wd, oJ q, oS, oJ t1, oS, oJ t2, oS, oJ t3, oS, oJ tn, oS, oJ nn, oS, oR ob1, oI (1 : Int32), oJ t3, oS, oU] [(.long (tn - t3))])) rfl (hb hby at_266) _ ?_
              show Steps p.tables e below (T28.setTop (mkF m 269 #[oJ p1, oS, oI p2, oJ p3, oS, oJ p4, oS, oI p5, oI p6, oJ s1, oS, oJ s2, oS, oJ s3, oS, oI wd, oJ q, oS, oJ t1, oS, oJ t2, oS, oJ t3, oS, oJ tn, oS, oJ nn, oS, oR ob1, oI (1 : Int32), oJ t3, oS, oU] [(.long (1000000 : Int64)), (.long (tn - t3))])) t₀
              refine XS.lcmp X28.here hx rfl (hb hby at_269) rfl ?_
              show Steps p.tables e below (T28.setTop (mkF m 270 #[oJ p1, oS, oI p2, oJ p3, oS, oJ p4, oS, oI p5, oI p6, oJ s1, oS, oJ s2, oS, oJ s3, oS, oI wd, oJ q, oS, oJ t1, oS, oJ t2, oS, oJ t3, oS, oJ tn, oS, oJ nn, oS, oR ob1, oI (1 : Int32), oJ t3, oS, oU] [(.int (lcmpW (tn - t3) (1000000 : Int64)))])) t₀
              refine XS.ifNo X28.here hx rfl (hb hby at_270) rfl ((if0 _ _).trans (flt (fun z => hGp ((lw_gt (tn - t3) (1000000 : Int64)).mp z))).2.2.1) ?_
              show Steps p.tables e below (T28.setTop (mkF m 273 #[oJ p1, oS, oI p2, oJ p3, oS, oJ p4, oS, oI p5, oI p6, oJ s1, oS, oJ s2, oS, oJ s3, oS, oI wd, oJ q, oS, oJ t1, oS, oJ t2, oS, oJ t3, oS, oJ tn, oS, oJ nn, oS, oR ob1, oI (1 : Int32), oJ t3, oS, oU] [])) t₀
              refine XS.lload X28.here hx rfl (hb hby at_273) rfl ?_
              show Steps p.tables e below (T28.setTop (mkF m 275 #[oJ p1, oS, oI p2, oJ p3, oS, oJ p4, oS, oI p5, oI p6, oJ s1, oS, oJ s2, oS, oJ s3, oS, oI wd, oJ q, oS, oJ t1, oS, oJ t2, oS, oJ t3, oS, oJ tn, oS, oJ nn, oS, oR ob1, oI (1 : Int32), oJ t3, oS, oU] [(.long t3)])) t₀
              refine XS.lstore X28.here hx rfl (hb hby at_275) rfl (l' := #[oJ p1, oS, oI p2, oJ p3, oS, oJ p4, oS, oI p5, oI p6, oJ s1, oS, oJ s2, oS, oJ s3, oS, oI wd, oJ q, oS, oJ t1, oS, oJ t2, oS, oJ t3, oS, oJ tn, oS, oJ nn, oS, oR ob1, oI (1 : Int32), oJ t3, oS, oU]) rfl ?_
              show Steps p.tables e below (T28.setTop (mkF m 277 #[oJ p1, oS, oI p2, oJ p3, oS, oJ p4, oS, oI p5, oI p6, oJ s1, oS, oJ s2, oS, oJ s3, oS, oI wd, oJ q, oS, oJ t1, oS, oJ t2, oS, oJ t3, oS, oJ tn, oS, oJ nn, oS, oR ob1, oI (1 : Int32), oJ t3, oS, oU] [])) t₀
              refine XS.goto X28.here hx rfl (pc0 := 277) (pc' := 284) rfl (hb hby at_277) (by decide) (by decide) ?_
              show Steps p.tables e below (T28.setTop (mkF m 284 #[oJ p1, oS, oI p2, oJ p3, oS, oJ p4, oS, oI p5, oI p6, oJ s1, oS, oJ s2, oS, oJ s3, oS, oI wd, oJ q, oS, oJ t1, oS, oJ t2, oS, oJ t3, oS, oJ tn, oS, oJ nn, oS, oR ob1, oI (1 : Int32), oJ t3, oS, oU] [])) t₀
              refine XS.aload X28.here hx rfl (hb hby at_284) rfl rfl ?_
              show Steps p.tables e below (T28.setTop (mkF m 286 #[oJ p1, oS, oI p2, oJ p3, oS, oJ p4, oS, oI p5, oI p6, oJ s1, oS, oJ s2, oS, oJ s3, oS, oI wd, oJ q, oS, oJ t1, oS, oJ t2, oS, oJ t3, oS, oJ tn, oS, oJ nn, oS, oR ob1, oI (1 : Int32), oJ t3, oS, oU] [(.ref ob1)])) t₀
              refine XS.lload X28.here hx rfl (hb hby at_286) rfl ?_
              exact k₀
            obtain ⟨cq29, kq29, q29a, q29b, q29c⟩ := isOf hZ rfl eob1_x28
            obtain ⟨_, _, ⟨T29, L29, k29, n29⟩, -, X29, ⟨Lc29, hQ29, l29, y29, z29⟩, st29⟩ := X28.virtualBack hx (y := (⟨"com/example/opledger/opledger/AppendTimes", "earliestAbove", "(J)J"⟩ : MethodName)) (z := (⟨"com/example/opledger/opledger/AppendTimes", "earliestAbove", "(J)J"⟩ : MethodName)) hown (mvT hZ (hw _ (List.mem_of_getElem? (i := 61) rfl))) (mvT hZ (hw _ (List.mem_of_getElem? (i := 62) rfl))) (notFace_of_selects (args := #[]) (mvT hZ (hw _ (List.mem_of_getElem? (i := 64) rfl)))) (mvT hZ (hw _ (List.mem_of_getElem? (i := 64) rfl))) (mvT hZ (hw _ (List.mem_of_getElem? (i := 63) rfl))) (by decide) (backOf (W := 0) (rmE12 l Z a0 hw [] ob1 s3 S3 W3T kS3 kT3 s1 t1 s2 t2 nn t3 (0 : Int64) (0 : Int64) (0 : Int64) (0 : Int64) (0 : Int64) (0 : Int64) (0 : Int64) (0 : Int64) (0 : Int64) (0 : Int64) T28.heap n0 z_x28 f28_0 f28_1 f28_3 f28_4 f28_7 f28_8 ) hZ (hw _ (List.mem_of_getElem? (i := 65) rfl)) (hw _ (List.mem_of_getElem? (i := 6) rfl)) (by decide) (by decide)) q29a q29c (g := (mkF m 288 #[oJ p1, oS, oI p2, oJ p3, oS, oJ p4, oS, oI p5, oI p6, oJ s1, oS, oJ s2, oS, oJ s3, oS, oI wd, oJ q, oS, oJ t1, oS, oJ t2, oS, oJ t3, oS, oJ tn, oS, oJ nn, oS, oR ob1, oI (1 : Int32), oJ t3, oS, oU] [(.long s3), (.ref ob1)])) rfl (by rw [hml]; rfl) (Steps.refl _) (argsL := [(.long s3)]) (rest := []) (lenOf pd_6 rfl) rfl (by show 2 * 0 + _ ≤ _; exact Nat.le_of_eq rfl) (hb hby at_288) (fun _ _ => ⟨rfl, rfl, (by decide : 4 + 0 ≤ _), (by decide : 31 + 0 ≤ _)⟩)
            dsimp only [Pt.U, Pt.locs, Pt.cells, Pt.slots] at X29 l29 y29 z29 st29 hQ29
            subst l29 y29 z29
            obtain ⟨rfl, N29q, e29⟩ := hQ29
            have N29 := Fr.app N28 N29q
            refine hG _ _ (fun t₀ k₀ => st29.trans k₀) ?_
            show G (T29.setTop (mkF m 291 #[oJ p1, oS, oI p2, oJ p3, oS, oJ p4, oS, oI p5, oI p6, oJ s1, oS, oJ s2, oS, oJ s3, oS, oI wd, oJ q, oS, oJ t1, oS, oJ t2, oS, oJ t3, oS, oJ tn, oS, oJ nn, oS, oR ob1, oI (1 : Int32), oJ t3, oS, oU] [(.long t3)]))
            refine hG _ (T29.setTop (mkF m 319 #[oJ p1, oS, oI p2, oJ p3, oS, oJ p4, oS, oI p5, oI p6, oJ s1, oS, oJ s2, oS, oJ s3, oS, oI wd, oJ q, oS, oJ t1, oS, oJ t2, oS, oJ t3, oS, oJ tn, oS, oJ nn, oS, oR ob1, oI (1 : Int32), oJ t3, oS, oI (1 : Int32)] [(.int (1 : Int32))])) (fun t₀ k₀ => ?_) ?_
            · show Steps p.tables e below (T29.setTop (mkF m 291 #[oJ p1, oS, oI p2, oJ p3, oS, oJ p4, oS, oI p5, oI p6, oJ s1, oS, oJ s2, oS, oJ s3, oS, oI wd, oJ q, oS, oJ t1, oS, oJ t2, oS, oJ t3, oS, oJ tn, oS, oJ nn, oS, oR ob1, oI (1 : Int32), oJ t3, oS, oU] [(.long t3)])) t₀
              refine XS.lload X29.here hx rfl (hb hby at_291) rfl ?_
              show Steps p.tables e below (T29.setTop (mkF m 293 #[oJ p1, oS, oI p2, oJ p3, oS, oJ p4, oS, oI p5, oI p6, oJ s1, oS, oJ s2, oS, oJ s3, oS, oI wd, oJ q, oS, oJ t1, oS, oJ t2, oS, oJ t3, oS, oJ tn, oS, oJ nn, oS, oR ob1, oI (1 : Int32), oJ t3, oS, oU] [(.long t3), (.long t3)])) t₀
              refine XS.lcmp X29.here hx rfl (hb hby at_293) rfl ?_
              show Steps p.tables e below (T29.setTop (mkF m 294 #[oJ p1, oS, oI p2, oJ p3, oS, oJ p4, oS, oI p5, oI p6, oJ s1, oS, oJ s2, oS, oJ s3, oS, oI wd, oJ q, oS, oJ t1, oS, oJ t2, oS, oJ t3, oS, oJ tn, oS, oJ nn, oS, oR ob1, oI (1 : Int32), oJ t3, oS, oU] [(.int (lcmpW t3 t3))])) t₀
              refine XS.ifNo X29.here hx rfl (hb hby at_294) rfl ((if0 _ _).trans (teq ((lw_eq t3 t3).mpr rfl)).2) ?_
              show Steps p.tables e below (T29.setTop (mkF m 297 #[oJ p1, oS, oI p2, oJ p3, oS, oJ p4, oS, oI p5, oI p6, oJ s1, oS, oJ s2, oS, oJ s3, oS, oI wd, oJ q, oS, oJ t1, oS, oJ t2, oS, oJ t3, oS, oJ tn, oS, oJ nn, oS, oR ob1, oI (1 : Int32), oJ t3, oS, oU] [])) t₀
              refine XS.iconst X29.here hx rfl (hb hby at_297) ?_
              show Steps p.tables e below (T29.setTop (mkF m 298 #[oJ p1, oS, oI p2, oJ p3, oS, oJ p4, oS, oI p5, oI p6, oJ s1, oS, oJ s2, oS, oJ s3, oS, oI wd, oJ q, oS, oJ t1, oS, oJ t2, oS, oJ t3, oS, oJ tn, oS, oJ nn, oS, oR ob1, oI (1 : Int32), oJ t3, oS, oU] [(.int (1 : Int32))])) t₀
              refine XS.goto X29.here hx rfl (pc0 := 298) (pc' := 302) rfl (hb hby at_298) (by decide) (by decide) ?_
              show Steps p.tables e below (T29.setTop (mkF m 302 #[oJ p1, oS, oI p2, oJ p3, oS, oJ p4, oS, oI p5, oI p6, oJ s1, oS, oJ s2, oS, oJ s3, oS, oI wd, oJ q, oS, oJ t1, oS, oJ t2, oS, oJ t3, oS, oJ tn, oS, oJ nn, oS, oR ob1, oI (1 : Int32), oJ t3, oS, oU] [(.int (1 : Int32))])) t₀
              refine XS.istore X29.here hx rfl (hb hby at_302) rfl (l' := #[oJ p1, oS, oI p2, oJ p3, oS, oJ p4, oS, oI p5, oI p6, oJ s1, oS, oJ s2, oS, oJ s3, oS, oI wd, oJ q, oS, oJ t1, oS, oJ t2, oS, oJ t3, oS, oJ tn, oS, oJ nn, oS, oR ob1, oI (1 : Int32), oJ t3, oS, oI (1 : Int32)]) rfl ?_
              show Steps p.tables e below (T29.setTop (mkF m 304 #[oJ p1, oS, oI p2, oJ p3, oS, oJ p4, oS, oI p5, oI p6, oJ s1, oS, oJ s2, oS, oJ s3, oS, oI wd, oJ q, oS, oJ t1, oS, oJ t2, oS, oJ t3, oS, oJ tn, oS, oJ nn, oS, oR ob1, oI (1 : Int32), oJ t3, oS, oI (1 : Int32)] [])) t₀
              refine XS.iload X29.here hx rfl (hb hby at_304) rfl ?_
              show Steps p.tables e below (T29.setTop (mkF m 306 #[oJ p1, oS, oI p2, oJ p3, oS, oJ p4, oS, oI p5, oI p6, oJ s1, oS, oJ s2, oS, oJ s3, oS, oI wd, oJ q, oS, oJ t1, oS, oJ t2, oS, oJ t3, oS, oJ tn, oS, oJ nn, oS, oR ob1, oI (1 : Int32), oJ t3, oS, oI (1 : Int32)] [(.int (1 : Int32))])) t₀
              refine XS.ifNo X29.here hx rfl (hb hby at_306) rfl ((if0 _ _).trans (feq (by decide : ¬ ((1 : Int32) = (0 : Int32)))).1) ?_
              show Steps p.tables e below (T29.setTop (mkF m 309 #[oJ p1, oS, oI p2, oJ p3, oS, oJ p4, oS, oI p5, oI p6, oJ s1, oS, oJ s2, oS, oJ s3, oS, oI wd, oJ q, oS, oJ t1, oS, oJ t2, oS, oJ t3, oS, oJ tn, oS, oJ nn, oS, oR ob1, oI (1 : Int32), oJ t3, oS, oI (1 : Int32)] [])) t₀
              refine XS.iload X29.here hx rfl (hb hby at_309) rfl ?_
              show Steps p.tables e below (T29.setTop (mkF m 311 #[oJ p1, oS, oI p2, oJ p3, oS, oJ p4, oS, oI p5, oI p6, oJ s1, oS, oJ s2, oS, oJ s3, oS, oI wd, oJ q, oS, oJ t1, oS, oJ t2, oS, oJ t3, oS, oJ tn, oS, oJ nn, oS, oR ob1, oI (1 : Int32), oJ t3, oS, oI (1 : Int32)] [(.int (1 : Int32))])) t₀
              refine XS.ifNo X29.here hx rfl (hb hby at_311) rfl ((if0 _ _).trans (feq (by decide : ¬ ((1 : Int32) = (0 : Int32)))).1) ?_
              show Steps p.tables e below (T29.setTop (mkF m 314 #[oJ p1, oS, oI p2, oJ p3, oS, oJ p4, oS, oI p5, oI p6, oJ s1, oS, oJ s2, oS, oJ s3, oS, oI wd, oJ q, oS, oJ t1, oS, oJ t2, oS, oJ t3, oS, oJ tn, oS, oJ nn, oS, oR ob1, oI (1 : Int32), oJ t3, oS, oI (1 : Int32)] [])) t₀
              refine XS.iconst X29.here hx rfl (hb hby at_314) ?_
              show Steps p.tables e below (T29.setTop (mkF m 315 #[oJ p1, oS, oI p2, oJ p3, oS, oJ p4, oS, oI p5, oI p6, oJ s1, oS, oJ s2, oS, oJ s3, oS, oI wd, oJ q, oS, oJ t1, oS, oJ t2, oS, oJ t3, oS, oJ tn, oS, oJ nn, oS, oR ob1, oI (1 : Int32), oJ t3, oS, oI (1 : Int32)] [(.int (1 : Int32))])) t₀
              refine XS.goto X29.here hx rfl (pc0 := 315) (pc' := 319) rfl (hb hby at_315) (by decide) (by decide) ?_
              exact k₀
            refine hF _ T29 _ _ _ (some (.int (1 : Int32))) _ X29 e29 (fun h => by rw [hrt] at h; cases h) (by decide) (by decide) ?_ (fun fs hr => retN X29 hx (t := .boolean) hrt (by simp) (hb hby at_319) hr)
            exact ⟨rfl, N29⟩
        ·
          refine hG _ (T5.setTop (mkF m 180 #[oJ p1, oS, oI p2, oJ p3, oS, oJ p4, oS, oI p5, oI p6, oJ s1, oS, oJ s2, oS, oJ s3, oS, oI wd, oJ q, oS, oJ t1, oS, oJ t2, oS, oJ t3, oS, oJ tn, oS, oJ nn, oS, oR ob1, oU, oU, oU, oU] [(.long q), (.ref ob1)])) (fun t₀ k₀ => ?_) ?_
          · show Steps p.tables e below (T5.setTop (mkF m 176 #[oJ p1, oS, oI p2, oJ p3, oS, oJ p4, oS, oI p5, oI p6, oJ s1, oS, oJ s2, oS, oJ s3, oS, oI wd, oJ q, oS, oJ t1, oS, oJ t2, oS, oJ t3, oS, oJ tn, oS, oJ nn, oS, oR ob1, oU, oU, oU, oU] [])) t₀
            refine XS.aload X5.here hx rfl (hb hby at_176) rfl rfl ?_
            show Steps p.tables e below (T5.setTop (mkF m 178 #[oJ p1, oS, oI p2, oJ p3, oS, oJ p4, oS, oI p5, oI p6, oJ s1, oS, oJ s2, oS, oJ s3, oS, oI wd, oJ q, oS, oJ t1, oS, oJ t2, oS, oJ t3, oS, oJ tn, oS, oJ nn, oS, oR ob1, oU, oU, oU, oU] [(.ref ob1)])) t₀
            refine XS.lload X5.here hx rfl (hb hby at_178) rfl ?_
            exact k₀
          obtain ⟨cq30, kq30, q30a, q30b, q30c⟩ := isOf hZ rfl eob1_x5
          obtain ⟨_, _, ⟨T30, L30, k30, n30⟩, -, X30, ⟨Lc30, hQ30, l30, y30, z30⟩, st30⟩ := X5.virtualBack hx (y := (⟨"com/example/opledger/opledger/AppendTimes", "forgetUpTo", "(J)V"⟩ : MethodName)) (z := (⟨"com/example/opledger/opledger/AppendTimes", "forgetUpTo", "(J)V"⟩ : MethodName)) hown (mvT hZ (hw _ (List.mem_of_getElem? (i := 56) rfl))) (mvT hZ (hw _ (List.mem_of_getElem? (i := 57) rfl))) (notFace_of_selects (args := #[]) (mvT hZ (hw _ (List.mem_of_getElem? (i := 59) rfl)))) (mvT hZ (hw _ (List.mem_of_getElem? (i := 59) rfl))) (mvT hZ (hw _ (List.mem_of_getElem? (i := 58) rfl))) (by decide) (backOf (W := 0) (rmF3 l Z a0 hw [] ob1 q wN kN S3 W3T W3E kS3 kT3 kE3 s3 s1 t1 t1 s2 t2 t2 s3 t3 t3 (0 : Int64) (0 : Int64) (0 : Int64) (0 : Int64) (0 : Int64) (0 : Int64) (0 : Int64) (0 : Int64) (0 : Int64) (0 : Int64) (0 : Int64) (0 : Int64) (0 : Int64) (0 : Int64) (0 : Int64) T5.heap n0 z_x5 o_x5 S_NO VN eob1_x5 f5_0 f5_1 f5_2 f5_3 f5_4 f5_5 f5_6 f5_7 f5_8 f5_9 g_ob1 g3_0 g3_1 g3_2 d3_0 d3_1 d3_2 d3_3 d3_4 d3_5 hA hB hC) hZ (hw _ (List.mem_of_getElem? (i := 60) rfl)) (hw _ (List.mem_of_getElem? (i := 6) rfl)) (by decide) (by decide)) q30a q30c (g := (mkF m 180 #[oJ p1, oS, oI p2, oJ p3, oS, oJ p4, oS, oI p5, oI p6, oJ s1, oS, oJ s2, oS, oJ s3, oS, oI wd, oJ q, oS, oJ t1, oS, oJ t2, oS, oJ t3, oS, oJ tn, oS, oJ nn, oS, oR ob1, oU, oU, oU, oU] [(.long q), (.ref ob1)])) rfl (by rw [hml]; rfl) (Steps.refl _) (argsL := [(.long q)]) (rest := []) (lenOf pd_5 rfl) rfl (by show 2 * 0 + _ ≤ _; exact Nat.le_of_eq rfl) (hb hby at_180) (fun _ _ => ⟨rfl, rfl, (by decide : 4 + 0 ≤ _), (by decide : 31 + 0 ≤ _)⟩)
          dsimp only [Pt.U, Pt.locs, Pt.cells, Pt.slots] at X30 l30 y30 z30 st30 hQ30
          subst l30 y30 z30
          obtain ⟨rfl, N30q, K30, f30_0, f30_1, f30_2, f30_3, f30_4, f30_5, f30_6⟩ := hQ30
          have N30 := Fr.app N5 N30q
          refine hG _ _ (fun t₀ k₀ => st30.trans k₀) ?_
          have z_x30 := Nat.le_trans z_x5 K30.1
          have o_x30 := o_x5.keep K30 (allS g_ob1 all0)
          have eob1_x30 := eob1_x5.keep K30
          have vS3_x30 := f5_7.keep K30 (ninS (Ne.symm d3_0) nin0)
          have vW3T_x30 := f5_8.keep K30 (ninS (Ne.symm d3_1) nin0)
          have vW3E_x30 := f5_9.keep K30 (ninS (Ne.symm d3_2) nin0)
          show G (T30.setTop (mkF m 183 #[oJ p1, oS, oI p2, oJ p3, oS, oJ p4, oS, oI p5, oI p6, oJ s1, oS, oJ s2, oS, oJ s3, oS, oI wd, oJ q, oS, oJ t1, oS, oJ t2, oS, oJ t3, oS, oJ tn, oS, oJ nn, oS, oR ob1, oU, oU, oU, oU] []))
          refine hG _ (T30.setTop (mkF m 250 #[oJ p1, oS, oI p2, oJ p3, oS, oJ p4, oS, oI p5, oI p6, oJ s1, oS, oJ s2, oS, oJ s3, oS, oI wd, oJ q, oS, oJ t1, oS, oJ t2, oS, oJ t3, oS, oJ tn, oS, oJ nn, oS, oR ob1, oI (1 : Int32), oU, oU, oU] [(.long tn), (.long nn), (.ref ob1)])) (fun t₀ k₀ => ?_) ?_
          · show Steps p.tables e below (T30.setTop (mkF m 183 #[oJ p1, oS, oI p2, oJ p3, oS, oJ p4, oS, oI p5, oI p6, oJ s1, oS, oJ s2, oS, oJ s3, oS, oI wd, oJ q, oS, oJ t1, oS, oJ t2, oS, oJ t3, oS, oJ tn, oS, oJ nn, oS, oR ob1, oU, oU, oU, oU] [])) t₀
            refine XS.iconst X30.here hx rfl (hb hby at_183) ?_
            show Steps p.tables e below (T30.setTop (mkF m 184 #[oJ p1, oS, oI p2, oJ p3, oS, oJ p4, oS, oI p5, oI p6, oJ s1, oS, oJ s2, oS, oJ s3, oS, oI wd, oJ q, oS, oJ t1, oS, oJ t2, oS, oJ t3, oS, oJ tn, oS, oJ nn, oS, oR ob1, oU, oU, oU, oU] [(.int (1 : Int32))])) t₀
            refine XS.istore X30.here hx rfl (hb hby at_184) rfl (l' := #[oJ p1, oS, oI p2, oJ p3, oS, oJ p4, oS, oI p5, oI p6, oJ s1, oS, oJ s2, oS, oJ s3, oS, oI wd, oJ q, oS, oJ t1, oS, oJ t2, oS, oJ t3, oS, oJ tn, oS, oJ nn, oS, oR ob1, oI (1 : Int32), oU, oU, oU]) rfl ?_
            show Steps p.tables e below (T30.setTop (mkF m 186 #[oJ p1, oS, oI p2, oJ p3, oS, oJ p4, oS, oI p5, oI p6, oJ s1, oS, oJ s2, oS, oJ s3, oS, oI wd, oJ q, oS, oJ t1, oS, oJ t2, oS, oJ t3, oS, oJ tn, oS, oJ nn, oS, oR ob1, oI (1 : Int32), oU, oU, oU] [])) t₀
            refine XS.lload X30.here hx rfl (hb hby at_186) rfl ?_
            show Steps p.tables e below (T30.setTop (mkF m 188 #[oJ p1, oS, oI p2, oJ p3, oS, oJ p4, oS, oI p5, oI p6, oJ s1, oS, oJ s2, oS, oJ s3, oS, oI wd, oJ q, oS, oJ t1, oS, oJ t2, oS, oJ t3, oS, oJ tn, oS, oJ nn, oS, oR ob1, oI (1 : Int32), oU, oU, oU] [(.long q)])) t₀
            refine XS.lload X30.here hx rfl (hb hby at_188) rfl ?_
            show Steps p.tables e below (T30.setTop (mkF m 190 #[oJ p1, oS, oI p2, oJ p3, oS, oJ p4, oS, oI p5, oI p6, oJ s1, oS, oJ s2, oS, oJ s3, oS, oI wd, oJ q, oS, oJ t1, oS, oJ t2, oS, oJ t3, oS, oJ tn, oS, oJ nn, oS, oR ob1, oI (1 : Int32), oU, oU, oU] [(.long s3), (.long q)])) t₀
            refine XS.lcmp X30.here hx rfl (hb hby at_190) rfl ?_
            show Steps p.tables e below (T30.setTop (mkF m 191 #[oJ p1, oS, oI p2, oJ p3, oS, oJ p4, oS, oI p5, oI p6, oJ s1, oS, oJ s2, oS, oJ s3, oS, oI wd, oJ q, oS, oJ t1, oS, oJ t2, oS, oJ t3, oS, oJ tn, oS, oJ nn, oS, oR ob1, oI (1 : Int32), oU, oU, oU] [(.int (lcmpW q s3))])) t₀
            refine XS.ifYes X30.here hx rfl (pc0 := 191) (pc' := 244) rfl (hb hby at_191) rfl ((if0 _ _).trans (flt (fun z => hC ((lw_lt q s3).mp z))).2.1) (by decide) (by decide) ?_
            show Steps p.tables e below (T30.setTop (mkF m 244 #[oJ p1, oS, oI p2, oJ p3, oS, oJ p4, oS, oI p5, oI p6, oJ s1, oS, oJ s2, oS, oJ s3, oS, oI wd, oJ q, oS, oJ t1, oS, oJ t2, oS, oJ t3, oS, oJ tn, oS, oJ nn, oS, oR ob1, oI (1 : Int32), oU, oU, oU] [])) t₀
            refine XS.aload X30.here hx rfl (hb hby at_244) rfl rfl ?_
            show Steps p.tables e below (T30.setTop (mkF m 246 #[oJ p1, oS, oI p2, oJ p3, oS, oJ p4, oS, oI p5, oI p6, oJ s1, oS, oJ s2, oS, oJ s3, oS, oI wd, oJ q, oS, oJ t1, oS, oJ t2, oS, oJ t3, oS, oJ tn, oS, oJ nn, oS, oR ob1, oI (1 : Int32), oU, oU, oU] [(.ref ob1)])) t₀
            refine XS.lload X30.here hx rfl (hb hby at_246) rfl ?_
            show Steps p.tables e below (T30.setTop (mkF m 248 #[oJ p1, oS, oI p2, oJ p3, oS, oJ p4, oS, oI p5, oI p6, oJ s1, oS, oJ s2, oS, oJ s3, oS, oI wd, oJ q, oS, oJ t1, oS, oJ t2, oS, oJ t3, oS, oJ tn, oS, oJ nn, oS, oR ob1, oI (1 : Int32), oU, oU, oU] [(.long nn), (.ref ob1)])) t₀
            refine XS.lload X30.here hx rfl (hb hby at_248) rfl ?_
            exact k₀
          obtain ⟨cq31, kq31, q31a, q31b, q31c⟩ := isOf hZ rfl eob1_x30
          obtain ⟨_, _, ⟨T31, L31, k31, n31⟩, -, X31, ⟨Lc31, hQ31, l31, y31, z31⟩, st31⟩ := X30.virtualBack hx (y := (⟨"com/example/opledger/opledger/AppendTimes", "record", "(JJ)V"⟩ : MethodName)) (z := (⟨"com/example/opledger/opledger/AppendTimes", "record", "(JJ)V"⟩ : MethodName)) hown (mvT hZ (hw _ (List.mem_of_getElem? (i := 28) rfl))) (mvT hZ (hw _ (List.mem_of_getElem? (i := 29) rfl))) (notFace_of_selects (args := #[]) (mvT hZ (hw _ (List.mem_of_getElem? (i := 31) rfl)))) (mvT hZ (hw _ (List.mem_of_getElem? (i := 31) rfl))) (mvT hZ (hw _ (List.mem_of_getElem? (i := 30) rfl))) (by decide) (backOf (W := 0) (rmRA l Z a0 hw [] ob1 nn tn s3 wN kN T30.heap n0 z_x30 o_x30 S_NO VN eob1_x30 f30_0 f30_1 f30_2 f30_3 f30_4 f30_5 f30_6 g_ob1 h3n) hZ (hw _ (List.mem_of_getElem? (i := 32) rfl)) (hw _ (List.mem_of_getElem? (i := 6) rfl)) (by decide) (by decide)) q31a q31c (g := (mkF m 250 #[oJ p1, oS, oI p2, oJ p3, oS, oJ p4, oS, oI p5, oI p6, oJ s1, oS, oJ s2, oS, oJ s3, oS, oI wd, oJ q, oS, oJ t1, oS, oJ t2, oS, oJ t3, oS, oJ tn, oS, oJ nn, oS, oR ob1, oI (1 : Int32), oU, oU, oU] [(.long tn), (.long nn), (.ref ob1)])) rfl (by rw [hml]; rfl) (Steps.refl _) (argsL := [(.long nn), (.long tn)]) (rest := []) (lenOf pd_1 rfl) rfl (by show 2 * 0 + _ ≤ _; exact Nat.le_of_eq rfl) (hb hby at_250) (fun _ _ => ⟨rfl, rfl, (by decide : 4 + 3 ≤ _), (by decide : 31 + 24 ≤ _)⟩)
          dsimp only [Pt.U, Pt.locs, Pt.cells, Pt.slots] at X31 l31 y31 z31 st31 hQ31
          subst l31 y31 z31
          obtain ⟨S31, kS31, W31T, kT31, W31E, kE31, rfl, N31q, K31, g31_0, g31_1, g31_2, d31_0, d31_1, d31_2, d31_3, d31_4, d31_5, f31_0, f31_1, f31_2, f31_3, f31_4, f31_5, f31_6, f31_7, f31_8, f31_9⟩ := hQ31
          have N31 := Fr.app N30 N31q
          refine hG _ _ (fun t₀ k₀ => st31.trans k₀) ?_
          have z_x31 := Nat.le_trans z_x30 K31.1
          have o_x31 := o_x30.keep K31 (allS g_ob1 all0)
          have eob1_x31 := eob1_x30.keep K31
          have vS3_x31 := vS3_x30.keep K31 (ninS (Ne.symm d3_0) nin0)
          have vW3T_x31 := vW3T_x30.keep K31 (ninS (Ne.symm d3_1) nin0)
          have vW3E_x31 := vW3E_x30.keep K31 (ninS (Ne.symm d3_2) nin0)
          show G (T31.setTop (mkF m 253 #[oJ p1, oS, oI p2, oJ p3, oS, oJ p4, oS, oI p5, oI p6, oJ s1, oS, oJ s2, oS, oJ s3, oS, oI wd, oJ q, oS, oJ t1, oS, oJ t2, oS, oJ t3, oS, oJ tn, oS, oJ nn, oS, oR ob1, oI (1 : Int32), oU, oU, oU] []))
          refine hG _ (T31.setTop (mkF m 288 #[oJ p1, oS, oI p2, oJ p3, oS, oJ p4, oS, oI p5, oI p6, oJ s1, oS, oJ s2, oS, oJ s3, oS, oI wd, oJ q, oS, oJ t1, oS, oJ t2, oS, oJ t3, oS, oJ tn, oS, oJ nn, oS, oR ob1, oI (1 : Int32), oJ tn, oS, oU] [(.long s3), (.ref ob1)])) (fun t₀ k₀ => ?_) ?_
          · show Steps p.tables e below (T31.setTop (mkF m 253 #[oJ p1, oS, oI p2, oJ p3, oS, oJ p4, oS, oI p5, oI p6, oJ s1, oS, oJ s2, oS, oJ s3, oS, oI wd, oJ q, oS, oJ t1, oS, oJ t2, oS, oJ t3, oS, oJ tn, oS, oJ nn, oS, oR ob1, oI (1 : Int32), oU, oU, oU] [])) t₀
            refine XS.lload X31.here hx rfl (hb hby at_253) rfl ?_
            show Steps p.tables e below (T31.setTop (mkF m 255 #[oJ p1, oS, oI p2, oJ p3, oS, oJ p4, oS, oI p5, oI p6, oJ s1, oS, oJ s2, oS, oJ s3, oS, oI wd, oJ q, oS, oJ t1, oS, oJ t2, oS, oJ t3, oS, oJ tn, oS, oJ nn, oS, oR ob1, oI (1 : Int32), oU, oU, oU] [(.long q)])) t₀
            refine XS.lload X31.here hx rfl (hb hby at_255) rfl ?_
            show Steps p.tables e below (T31.setTop (mkF m 257 #[oJ p1, oS, oI p2, oJ p3, oS, oJ p4, oS, oI p5, oI p6, oJ s1, oS, oJ s2, oS, oJ s3, oS, oI wd, oJ q, oS, oJ t1, oS, oJ t2, oS, oJ t3, oS, oJ tn, oS, oJ nn, oS, oR ob1, oI (1 : Int32), oU, oU, oU] [(.long s3), (.long q)])) t₀
            refine XS.lcmp X31.here hx rfl (hb hby at_257) rfl ?_
            show Steps p.tables e below (T31.setTop (mkF m 258 #[oJ p1, oS, oI p2, oJ p3, oS, oJ p4, oS, oI p5, oI p6, oJ s1, oS, oJ s2, oS, oJ s3, oS, oI wd, oJ q, oS, oJ t1, oS, oJ t2, oS, oJ t3, oS, oJ tn, oS, oJ nn, oS, oR ob1, oI (1 : Int32), oU, oU, oU] [(.int (lcmpW q s3))])) t₀
            refine XS.ifYes X31.here hx rfl (pc0 := 258) (pc' := 280) rfl (hb hby at_258) rfl ((if0 _ _).trans (flt (fun z => hC ((lw_lt q s3).mp z))).2.1) (by decide) (by decide) ?_
            show Steps p.tables e below (T31.setTop (mkF m 280 #[oJ p1, oS, oI p2, oJ p3, oS, oJ p4, oS, oI p5, oI p6, oJ s1, oS, oJ s2, oS, oJ s3, oS, oI wd, oJ q, oS, oJ t1, oS, oJ t2, oS, oJ t3, oS, oJ tn, oS, oJ nn, oS, oR ob1, oI (1 : Int32), oU, oU, oU] [])) t₀
            refine XS.lload X31.here hx rfl (hb hby at_280) rfl ?_
            show Steps p.tables e below (T31.setTop (mkF m 282 #[oJ p1, oS, oI p2, oJ p3, oS, oJ p4, oS, oI p5, oI p6, oJ s1, oS, oJ s2, oS, oJ s3, oS, oI wd, oJ q, oS, oJ t1, oS, oJ t2, oS, oJ t3, oS, oJ tn, oS, oJ nn, oS, oR ob1, oI (1 : Int32), oU, oU, oU] [(.long tn)])) t₀
            refine XS.lstore X31.here hx rfl (hb hby at_282) rfl (l' := #[oJ p1, oS, oI p2, oJ p3, oS, oJ p4, oS, oI p5, oI p6, oJ s1, oS, oJ s2, oS, oJ s3, oS, oI wd, oJ q, oS, oJ t1, oS, oJ t2, oS, oJ t3, oS, oJ tn, oS, oJ nn, oS, oR ob1, oI (1 : Int32), oJ tn, oS, oU]) rfl ?_
            show Steps p.tables e below (T31.setTop (mkF m 284 #[oJ p1, oS, oI p2, oJ p3, oS, oJ p4, oS, oI p5, oI p6, oJ s1, oS, oJ s2, oS, oJ s3, oS, oI wd, oJ q, oS, oJ t1, oS, oJ t2, oS, oJ t3, oS, oJ tn, oS, oJ nn, oS, oR ob1, oI (1 : Int32), oJ tn, oS, oU] [])) t₀
            refine XS.aload X31.here hx rfl (hb hby at_284) rfl rfl ?_
            show Steps p.tables e below (T31.setTop (mkF m 286 #[oJ p1, oS, oI p2, oJ p3, oS, oJ p4, oS, oI p5, oI p6, oJ s1, oS, oJ s2, oS, oJ s3, oS, oI wd, oJ q, oS, oJ t1, oS, oJ t2, oS, oJ t3, oS, oJ tn, oS, oJ nn, oS, oR ob1, oI (1 : Int32), oJ tn, oS, oU] [(.ref ob1)])) t₀
            refine XS.lload X31.here hx rfl (hb hby at_286) rfl ?_
            exact k₀
          obtain ⟨cq32, kq32, q32a, q32b, q32c⟩ := isOf hZ rfl eob1_x31
          obtain ⟨_, _, ⟨T32, L32, k32, n32⟩, -, X32, ⟨Lc32, hQ32, l32, y32, z32⟩, st32⟩ := X31.virtualBack hx (y := (⟨"com/example/opledger/opledger/AppendTimes", "earliestAbove", "(J)J"⟩ : MethodName)) (z := (⟨"com/example/opledger/opledger/AppendTimes", "earliestAbove", "(J)J"⟩ : MethodName)) hown (mvT hZ (hw _ (List.mem_of_getElem? (i := 61) rfl))) (mvT hZ (hw _ (List.mem_of_getElem? (i := 62) rfl))) (notFace_of_selects (args := #[]) (mvT hZ (hw _ (List.mem_of_getElem? (i := 64) rfl)))) (mvT hZ (hw _ (List.mem_of_getElem? (i := 64) rfl))) (mvT hZ (hw _ (List.mem_of_getElem? (i := 63) rfl))) (by decide) (backOf (W := 0) (rmE40 l Z a0 hw [] ob1 s3 S31 W31T kS31 kT31 nn tn (0 : Int64) (0 : Int64) (0 : Int64) (0 : Int64) (0 : Int64) (0 : Int64) (0 : Int64) (0 : Int64) (0 : Int64) (0 : Int64) (0 : Int64) (0 : Int64) (0 : Int64) (0 : Int64) T31.heap n0 z_x31 f31_0 f31_1 f31_3 f31_4 f31_7 f31_8 ) hZ (hw _ (List.mem_of_getElem? (i := 65) rfl)) (hw _ (List.mem_of_getElem? (i := 6) rfl)) (by decide) (by decide)) q32a q32c (g := (mkF m 288 #[oJ p1, oS, oI p2, oJ p3, oS, oJ p4, oS, oI p5, oI p6, oJ s1, oS, oJ s2, oS, oJ s3, oS, oI wd, oJ q, oS, oJ t1, oS, oJ t2, oS, oJ t3, oS, oJ tn, oS, oJ nn, oS, oR ob1, oI (1 : Int32), oJ tn, oS, oU] [(.long s3), (.ref ob1)])) rfl (by rw [hml]; rfl) (Steps.refl _) (argsL := [(.long s3)]) (rest := []) (lenOf pd_6 rfl) rfl (by show 2 * 0 + _ ≤ _; exact Nat.le_of_eq rfl) (hb hby at_288) (fun _ _ => ⟨rfl, rfl, (by decide : 7 + 0 ≤ _), (by decide : 55 + 0 ≤ _)⟩)
          dsimp only [Pt.U, Pt.locs, Pt.cells, Pt.slots] at X32 l32 y32 z32 st32 hQ32
          subst l32 y32 z32
          obtain ⟨rfl, N32q, e32⟩ := hQ32
          have N32 := Fr.app N31 N32q
          refine hG _ _ (fun t₀ k₀ => st32.trans k₀) ?_
          show G (T32.setTop (mkF m 291 #[oJ p1, oS, oI p2, oJ p3, oS, oJ p4, oS, oI p5, oI p6, oJ s1, oS, oJ s2, oS, oJ s3, oS, oI wd, oJ q, oS, oJ t1, oS, oJ t2, oS, oJ t3, oS, oJ tn, oS, oJ nn, oS, oR ob1, oI (1 : Int32), oJ tn, oS, oU] [(.long tn)]))
          refine hG _ (T32.setTop (mkF m 319 #[oJ p1, oS, oI p2, oJ p3, oS, oJ p4, oS, oI p5, oI p6, oJ s1, oS, oJ s2, oS, oJ s3, oS, oI wd, oJ q, oS, oJ t1, oS, oJ t2, oS, oJ t3, oS, oJ tn, oS, oJ nn, oS, oR ob1, oI (1 : Int32), oJ tn, oS, oI (1 : Int32)] [(.int (1 : Int32))])) (fun t₀ k₀ => ?_) ?_
          · show Steps p.tables e below (T32.setTop (mkF m 291 #[oJ p1, oS, oI p2, oJ p3, oS, oJ p4, oS, oI p5, oI p6, oJ s1, oS, oJ s2, oS, oJ s3, oS, oI wd, oJ q, oS, oJ t1, oS, oJ t2, oS, oJ t3, oS, oJ tn, oS, oJ nn, oS, oR ob1, oI (1 : Int32), oJ tn, oS, oU] [(.long tn)])) t₀
            refine XS.lload X32.here hx rfl (hb hby at_291) rfl ?_
            show Steps p.tables e below (T32.setTop (mkF m 293 #[oJ p1, oS, oI p2, oJ p3, oS, oJ p4, oS, oI p5, oI p6, oJ s1, oS, oJ s2, oS, oJ s3, oS, oI wd, oJ q, oS, oJ t1, oS, oJ t2, oS, oJ t3, oS, oJ tn, oS, oJ nn, oS, oR ob1, oI (1 : Int32), oJ tn, oS, oU] [(.long tn), (.long tn)])) t₀
            refine XS.lcmp X32.here hx rfl (hb hby at_293) rfl ?_
            show Steps p.tables e below (T32.setTop (mkF m 294 #[oJ p1, oS, oI p2, oJ p3, oS, oJ p4, oS, oI p5, oI p6, oJ s1, oS, oJ s2, oS, oJ s3, oS, oI wd, oJ q, oS, oJ t1, oS, oJ t2, oS, oJ t3, oS, oJ tn, oS, oJ nn, oS, oR ob1, oI (1 : Int32), oJ tn, oS, oU] [(.int (lcmpW tn tn))])) t₀
            refine XS.ifNo X32.here hx rfl (hb hby at_294) rfl ((if0 _ _).trans (teq ((lw_eq tn tn).mpr rfl)).2) ?_
            show Steps p.tables e below (T32.setTop (mkF m 297 #[oJ p1, oS, oI p2, oJ p3, oS, oJ p4, oS, oI p5, oI p6, oJ s1, oS, oJ s2, oS, oJ s3, oS, oI wd, oJ q, oS, oJ t1, oS, oJ t2, oS, oJ t3, oS, oJ tn, oS, oJ nn, oS, oR ob1, oI (1 : Int32), oJ tn, oS, oU] [])) t₀
            refine XS.iconst X32.here hx rfl (hb hby at_297) ?_
            show Steps p.tables e below (T32.setTop (mkF m 298 #[oJ p1, oS, oI p2, oJ p3, oS, oJ p4, oS, oI p5, oI p6, oJ s1, oS, oJ s2, oS, oJ s3, oS, oI wd, oJ q, oS, oJ t1, oS, oJ t2, oS, oJ t3, oS, oJ tn, oS, oJ nn, oS, oR ob1, oI (1 : Int32), oJ tn, oS, oU] [(.int (1 : Int32))])) t₀
            refine XS.goto X32.here hx rfl (pc0 := 298) (pc' := 302) rfl (hb hby at_298) (by decide) (by decide) ?_
            show Steps p.tables e below (T32.setTop (mkF m 302 #[oJ p1, oS, oI p2, oJ p3, oS, oJ p4, oS, oI p5, oI p6, oJ s1, oS, oJ s2, oS, oJ s3, oS, oI wd, oJ q, oS, oJ t1, oS, oJ t2, oS, oJ t3, oS, oJ tn, oS, oJ nn, oS, oR ob1, oI (1 : Int32), oJ tn, oS, oU] [(.int (1 : Int32))])) t₀
            refine XS.istore X32.here hx rfl (hb hby at_302) rfl (l' := #[oJ p1, oS, oI p2, oJ p3, oS, oJ p4, oS, oI p5, oI p6, oJ s1, oS, oJ s2, oS, oJ s3, oS, oI wd, oJ q, oS, oJ t1, oS, oJ t2, oS, oJ t3, oS, oJ tn, oS, oJ nn, oS, oR ob1, oI (1 : Int32), oJ tn, oS, oI (1 : Int32)]) rfl ?_
            show Steps p.tables e below (T32.setTop (mkF m 304 #[oJ p1, oS, oI p2, oJ p3, oS, oJ p4, oS, oI p5, oI p6, oJ s1, oS, oJ s2, oS, oJ s3, oS, oI wd, oJ q, oS, oJ t1, oS, oJ t2, oS, oJ t3, oS, oJ tn, oS, oJ nn, oS, oR ob1, oI (1 : Int32), oJ tn, oS, oI (1 : Int32)] [])) t₀
            refine XS.iload X32.here hx rfl (hb hby at_304) rfl ?_
            show Steps p.tables e below (T32.setTop (mkF m 306 #[oJ p1, oS, oI p2, oJ p3, oS, oJ p4, oS, oI p5, oI p6, oJ s1, oS, oJ s2, oS, oJ s3, oS, oI wd, oJ q, oS, oJ t1, oS, oJ t2, oS, oJ t3, oS, oJ tn, oS, oJ nn, oS, oR ob1, oI (1 : Int32), oJ tn, oS, oI (1 : Int32)] [(.int (1 : Int32))])) t₀
            refine XS.ifNo X32.here hx rfl (hb hby at_306) rfl ((if0 _ _).trans (feq (by decide : ¬ ((1 : Int32) = (0 : Int32)))).1) ?_
            show Steps p.tables e below (T32.setTop (mkF m 309 #[oJ p1, oS, oI p2, oJ p3, oS, oJ p4, oS, oI p5, oI p6, oJ s1, oS, oJ s2, oS, oJ s3, oS, oI wd, oJ q, oS, oJ t1, oS, oJ t2, oS, oJ t3, oS, oJ tn, oS, oJ nn, oS, oR ob1, oI (1 : Int32), oJ tn, oS, oI (1 : Int32)] [])) t₀
            refine XS.iload X32.here hx rfl (hb hby at_309) rfl ?_
            show Steps p.tables e below (T32.setTop (mkF m 311 #[oJ p1, oS, oI p2, oJ p3, oS, oJ p4, oS, oI p5, oI p6, oJ s1, oS, oJ s2, oS, oJ s3, oS, oI wd, oJ q, oS, oJ t1, oS, oJ t2, oS, oJ t3, oS, oJ tn, oS, oJ nn, oS, oR ob1, oI (1 : Int32), oJ tn, oS, oI (1 : Int32)] [(.int (1 : Int32))])) t₀
            refine XS.ifNo X32.here hx rfl (hb hby at_311) rfl ((if0 _ _).trans (feq (by decide : ¬ ((1 : Int32) = (0 : Int32)))).1) ?_
            show Steps p.tables e below (T32.setTop (mkF m 314 #[oJ p1, oS, oI p2, oJ p3, oS, oJ p4, oS, oI p5, oI p6, oJ s1, oS, oJ s2, oS, oJ s3, oS, oI wd, oJ q, oS, oJ t1, oS, oJ t2, oS, oJ t3, oS, oJ tn, oS, oJ nn, oS, oR ob1, oI (1 : Int32), oJ tn, oS, oI (1 : Int32)] [])) t₀
            refine XS.iconst X32.here hx rfl (hb hby at_314) ?_
            show Steps p.tables e below (T32.setTop (mkF m 315 #[oJ p1, oS, oI p2, oJ p3, oS, oJ p4, oS, oI p5, oI p6, oJ s1, oS, oJ s2, oS, oJ s3, oS, oI wd, oJ q, oS, oJ t1, oS, oJ t2, oS, oJ t3, oS, oJ tn, oS, oJ nn, oS, oR ob1, oI (1 : Int32), oJ tn, oS, oI (1 : Int32)] [(.int (1 : Int32))])) t₀
            refine XS.goto X32.here hx rfl (pc0 := 315) (pc' := 319) rfl (hb hby at_315) (by decide) (by decide) ?_
            exact k₀
          refine hF _ T32 _ _ _ (some (.int (1 : Int32))) _ X32 e32 (fun h => by rw [hrt] at h; cases h) (by decide) (by decide) ?_ (fun fs hr => retN X32 hx (t := .boolean) hrt (by simp) (hb hby at_319) hr)
          exact ⟨rfl, N32⟩
  refine hG _ (s₁.setTop (mkF m 7 #[oJ p1, oS, oI p2, oJ p3, oS, oJ p4, oS, oI p5, oI p6, oJ (p1 &&& (4611686018427387903 : Int64)), oS, oU, oU, oU, oU, oU, oU, oU, oU, oU, oU, oU, oU, oU, oU, oU, oU, oU, oU, oU, oU, oU, oU] [])) (fun t₀ k₀ => ?_) ?_
  · show Steps p.tables e below (s₁.setTop (mkF m 0 #[oJ p1, oS, oI p2, oJ p3, oS, oJ p4, oS, oI p5, oI p6, oU, oU, oU, oU, oU, oU, oU, oU, oU, oU, oU, oU, oU, oU, oU, oU, oU, oU, oU, oU, oU, oU, oU, oU] [])) t₀
    refine XS.lloadN X0.here hx rfl (hb hby at_0) rfl ?_
    show Steps p.tables e below (s₁.setTop (mkF m 1 #[oJ p1, oS, oI p2, oJ p3, oS, oJ p4, oS, oI p5, oI p6, oU, oU, oU, oU, oU, oU, oU, oU, oU, oU, oU, oU, oU, oU, oU, oU, oU, oU, oU, oU, oU, oU, oU, oU] [(.long p1)])) t₀
    refine X0.ldc2Long hx hown (mvT hZ (hw _ (List.mem_of_getElem? (i := 0) rfl))) (g := (mkF m 1 #[oJ p1, oS, oI p2, oJ p3, oS, oJ p4, oS, oI p5, oI p6, oU, oU, oU, oU, oU, oU, oU, oU, oU, oU, oU, oU, oU, oU, oU, oU, oU, oU, oU, oU, oU, oU, oU, oU] [(.long p1)])) rfl (hb hby at_1) _ ?_
    show Steps p.tables e below (s₁.setTop (mkF m 4 #[oJ p1, oS, oI p2, oJ p3, oS, oJ p4, oS, oI p5, oI p6, oU, oU, oU, oU, oU, oU, oU, oU, oU, oU, oU, oU, oU, oU, oU, oU, oU, oU, oU, oU, oU, oU, oU, oU] [(.long (4611686018427387903 : Int64)), (.long p1)])) t₀
    refine XS.land X0.here hx rfl (hb hby at_4) rfl ?_
    show Steps p.tables e below (s₁.setTop (mkF m 5 #[oJ p1, oS, oI p2, oJ p3, oS, oJ p4, oS, oI p5, oI p6, oU, oU, oU, oU, oU, oU, oU, oU, oU, oU, oU, oU, oU, oU, oU, oU, oU, oU, oU, oU, oU, oU, oU, oU] [(.long (p1 &&& (4611686018427387903 : Int64)))])) t₀
    refine XS.lstore X0.here hx rfl (hb hby at_5) rfl (l' := #[oJ p1, oS, oI p2, oJ p3, oS, oJ p4, oS, oI p5, oI p6, oJ (p1 &&& (4611686018427387903 : Int64)), oS, oU, oU, oU, oU, oU, oU, oU, oU, oU, oU, oU, oU, oU, oU, oU, oU, oU, oU, oU, oU, oU, oU]) rfl ?_
    exact k₀
  obtain ⟨s1, hs1⟩ : ∃ z, z = (p1 &&& (4611686018427387903 : Int64)) := ⟨_, rfl⟩
  rw [← hs1]
  show G (s₁.setTop (mkF m 7 #[oJ p1, oS, oI p2, oJ p3, oS, oJ p4, oS, oI p5, oI p6, oJ s1, oS, oU, oU, oU, oU, oU, oU, oU, oU, oU, oU, oU, oU, oU, oU, oU, oU, oU, oU, oU, oU, oU, oU] []))
  refine hG _ (s₁.setTop (mkF m 19 #[oJ p1, oS, oI p2, oJ p3, oS, oJ p4, oS, oI p5, oI p6, oJ s1, oS, oJ ((s1 + (1 : Int64)) + ((p2 &&& (65535 : Int32)).toInt64)), oS, oU, oU, oU, oU, oU, oU, oU, oU, oU, oU, oU, oU, oU, oU, oU, oU, oU, oU, oU, oU] [])) (fun t₀ k₀ => ?_) ?_
  · show Steps p.tables e below (s₁.setTop (mkF m 7 #[oJ p1, oS, oI p2, oJ p3, oS, oJ p4, oS, oI p5, oI p6, oJ s1, oS, oU, oU, oU, oU, oU, oU, oU, oU, oU, oU, oU, oU, oU, oU, oU, oU, oU, oU, oU, oU, oU, oU] [])) t₀
    refine XS.lload X0.here hx rfl (hb hby at_7) rfl ?_
    show Steps p.tables e below (s₁.setTop (mkF m 9 #[oJ p1, oS, oI p2, oJ p3, oS, oJ p4, oS, oI p5, oI p6, oJ s1, oS, oU, oU, oU, oU, oU, oU, oU, oU, oU, oU, oU, oU, oU, oU, oU, oU, oU, oU, oU, oU, oU, oU] [(.long s1)])) t₀
    refine XS.lconst X0.here hx rfl (hb hby at_9) ?_
    show Steps p.tables e below (s₁.setTop (mkF m 10 #[oJ p1, oS, oI p2, oJ p3, oS, oJ p4, oS, oI p5, oI p6, oJ s1, oS, oU, oU, oU, oU, oU, oU, oU, oU, oU, oU, oU, oU, oU, oU, oU, oU, oU, oU, oU, oU, oU, oU] [(.long (1 : Int64)), (.long s1)])) t₀
    refine XS.ladd X0.here hx rfl (hb hby at_10) rfl ?_
    show Steps p.tables e below (s₁.setTop (mkF m 11 #[oJ p1, oS, oI p2, oJ p3, oS, oJ p4, oS, oI p5, oI p6, oJ s1, oS, oU, oU, oU, oU, oU, oU, oU, oU, oU, oU, oU, oU, oU, oU, oU, oU, oU, oU, oU, oU, oU, oU] [(.long (s1 + (1 : Int64)))])) t₀
    refine XS.iloadN X0.here hx rfl (hb hby at_11) rfl ?_
    show Steps p.tables e below (s₁.setTop (mkF m 12 #[oJ p1, oS, oI p2, oJ p3, oS, oJ p4, oS, oI p5, oI p6, oJ s1, oS, oU, oU, oU, oU, oU, oU, oU, oU, oU, oU, oU, oU, oU, oU, oU, oU, oU, oU, oU, oU, oU, oU] [(.int p2), (.long (s1 + (1 : Int64)))])) t₀
    refine X0.ldcInt hx hown (mvT hZ (hw _ (List.mem_of_getElem? (i := 1) rfl))) (g := (mkF m 12 #[oJ p1, oS, oI p2, oJ p3, oS, oJ p4, oS, oI p5, oI p6, oJ s1, oS, oU, oU, oU, oU, oU, oU, oU, oU, oU, oU, oU, oU, oU, oU, oU, oU, oU, oU, oU, oU, oU, oU] [(.int p2), (.long (s1 + (1 : Int64)))])) rfl (hb hby at_12) _ ?_
    show Steps p.tables e below (s₁.setTop (mkF m 14 #[oJ p1, oS, oI p2, oJ p3, oS, oJ p4, oS, oI p5, oI p6, oJ s1, oS, oU, oU, oU, oU, oU, oU, oU, oU, oU, oU, oU, oU, oU, oU, oU, oU, oU, oU, oU, oU, oU, oU] [(.int (65535 : Int32)), (.int p2), (.long (s1 + (1 : Int64)))])) t₀
    refine XS.iand X0.here hx rfl (hb hby at_14) rfl ?_
    show Steps p.tables e below (s₁.setTop (mkF m 15 #[oJ p1, oS, oI p2, oJ p3, oS, oJ p4, oS, oI p5, oI p6, oJ s1, oS, oU, oU, oU, oU, oU, oU, oU, oU, oU, oU, oU, oU, oU, oU, oU, oU, oU, oU, oU, oU, oU, oU] [(.int (p2 &&& (65535 : Int32))), (.long (s1 + (1 : Int64)))])) t₀
    refine XS.i2l X0.here hx rfl (hb hby at_15) rfl ?_
    show Steps p.tables e below (s₁.setTop (mkF m 16 #[oJ p1, oS, oI p2, oJ p3, oS, oJ p4, oS, oI p5, oI p6, oJ s1, oS, oU, oU, oU, oU, oU, oU, oU, oU, oU, oU, oU, oU, oU, oU, oU, oU, oU, oU, oU, oU, oU, oU] [(.long ((p2 &&& (65535 : Int32)).toInt64)), (.long (s1 + (1 : Int64)))])) t₀
    refine XS.ladd X0.here hx rfl (hb hby at_16) rfl ?_
    show Steps p.tables e below (s₁.setTop (mkF m 17 #[oJ p1, oS, oI p2, oJ p3, oS, oJ p4, oS, oI p5, oI p6, oJ s1, oS, oU, oU, oU, oU, oU, oU, oU, oU, oU, oU, oU, oU, oU, oU, oU, oU, oU, oU, oU, oU, oU, oU] [(.long ((s1 + (1 : Int64)) + ((p2 &&& (65535 : Int32)).toInt64)))])) t₀
    refine XS.lstore X0.here hx rfl (hb hby at_17) rfl (l' := #[oJ p1, oS, oI p2, oJ p3, oS, oJ p4, oS, oI p5, oI p6, oJ s1, oS, oJ ((s1 + (1 : Int64)) + ((p2 &&& (65535 : Int32)).toInt64)), oS, oU, oU, oU, oU, oU, oU, oU, oU, oU, oU, oU, oU, oU, oU, oU, oU, oU, oU, oU, oU]) rfl ?_
    exact k₀
  obtain ⟨s2, hs2⟩ : ∃ z, z = ((s1 + (1 : Int64)) + ((p2 &&& (65535 : Int32)).toInt64)) := ⟨_, rfl⟩
  rw [← hs2]
  show G (s₁.setTop (mkF m 19 #[oJ p1, oS, oI p2, oJ p3, oS, oJ p4, oS, oI p5, oI p6, oJ s1, oS, oJ s2, oS, oU, oU, oU, oU, oU, oU, oU, oU, oU, oU, oU, oU, oU, oU, oU, oU, oU, oU, oU, oU] []))
  refine hG _ (s₁.setTop (mkF m 34 #[oJ p1, oS, oI p2, oJ p3, oS, oJ p4, oS, oI p5, oI p6, oJ s1, oS, oJ s2, oS, oJ ((s2 + (1 : Int64)) + ((((p2.toUInt32 >>> ((16 : Int32) &&& 31).toUInt32).toInt32) &&& (65535 : Int32)).toInt64)), oS, oU, oU, oU, oU, oU, oU, oU, oU, oU, oU, oU, oU, oU, oU, oU, oU, oU, oU] [])) (fun t₀ k₀ => ?_) ?_
  · show Steps p.tables e below (s₁.setTop (mkF m 19 #[oJ p1, oS, oI p2, oJ p3, oS, oJ p4, oS, oI p5, oI p6, oJ s1, oS, oJ s2, oS, oU, oU, oU, oU, oU, oU, oU, oU, oU, oU, oU, oU, oU, oU, oU, oU, oU, oU, oU, oU] [])) t₀
    refine XS.lload X0.here hx rfl (hb hby at_19) rfl ?_
    show Steps p.tables e below (s₁.setTop (mkF m 21 #[oJ p1, oS, oI p2, oJ p3, oS, oJ p4, oS, oI p5, oI p6, oJ s1, oS, oJ s2, oS, oU, oU, oU, oU, oU, oU, oU, oU, oU, oU, oU, oU, oU, oU, oU, oU, oU, oU, oU, oU] [(.long s2)])) t₀
    refine XS.lconst X0.here hx rfl (hb hby at_21) ?_
    show Steps p.tables e below (s₁.setTop (mkF m 22 #[oJ p1, oS, oI p2, oJ p3, oS, oJ p4, oS, oI p5, oI p6, oJ s1, oS, oJ s2, oS, oU, oU, oU, oU, oU, oU, oU, oU, oU, oU, oU, oU, oU, oU, oU, oU, oU, oU, oU, oU] [(.long (1 : Int64)), (.long s2)])) t₀
    refine XS.ladd X0.here hx rfl (hb hby at_22) rfl ?_
    show Steps p.tables e below (s₁.setTop (mkF m 23 #[oJ p1, oS, oI p2, oJ p3, oS, oJ p4, oS, oI p5, oI p6, oJ s1, oS, oJ s2, oS, oU, oU, oU, oU, oU, oU, oU, oU, oU, oU, oU, oU, oU, oU, oU, oU, oU, oU, oU, oU] [(.long (s2 + (1 : Int64)))])) t₀
    refine XS.iloadN X0.here hx rfl (hb hby at_23) rfl ?_
    show Steps p.tables e below (s₁.setTop (mkF m 24 #[oJ p1, oS, oI p2, oJ p3, oS, oJ p4, oS, oI p5, oI p6, oJ s1, oS, oJ s2, oS, oU, oU, oU, oU, oU, oU, oU, oU, oU, oU, oU, oU, oU, oU, oU, oU, oU, oU, oU, oU] [(.int p2), (.long (s2 + (1 : Int64)))])) t₀
    refine XS.bipush X0.here hx rfl (hb hby at_24) ?_
    show Steps p.tables e below (s₁.setTop (mkF m 26 #[oJ p1, oS, oI p2, oJ p3, oS, oJ p4, oS, oI p5, oI p6, oJ s1, oS, oJ s2, oS, oU, oU, oU, oU, oU, oU, oU, oU, oU, oU, oU, oU, oU, oU, oU, oU, oU, oU, oU, oU] [(.int (16 : Int32)), (.int p2), (.long (s2 + (1 : Int64)))])) t₀
    refine XS.iushr X0.here hx rfl (hb hby at_26) rfl ?_
    show Steps p.tables e below (s₁.setTop (mkF m 27 #[oJ p1, oS, oI p2, oJ p3, oS, oJ p4, oS, oI p5, oI p6, oJ s1, oS, oJ s2, oS, oU, oU, oU, oU, oU, oU, oU, oU, oU, oU, oU, oU, oU, oU, oU, oU, oU, oU, oU, oU] [(.int ((p2.toUInt32 >>> ((16 : Int32) &&& 31).toUInt32).toInt32)), (.long (s2 + (1 : Int64)))])) t₀
    refine X0.ldcInt hx hown (mvT hZ (hw _ (List.mem_of_getElem? (i := 1) rfl))) (g := (mkF m 27 #[oJ p1, oS, oI p2, oJ p3, oS, oJ p4, oS, oI p5, oI p6, oJ s1, oS, oJ s2, oS, oU, oU, oU, oU, oU, oU, oU, oU, oU, oU, oU, oU, oU, oU, oU, oU, oU, oU, oU, oU] [(.int ((p2.toUInt32 >>> ((16 : Int32) &&& 31).toUInt32).toInt32)), (.long (s2 + (1 : Int64)))])) rfl (hb hby at_27) _ ?_
    show Steps p.tables e below (s₁.setTop (mkF m 29 #[oJ p1, oS, oI p2, oJ p3, oS, oJ p4, oS, oI p5, oI p6, oJ s1, oS, oJ s2, oS, oU, oU, oU, oU, oU, oU, oU, oU, oU, oU, oU, oU, oU, oU, oU, oU, oU, oU, oU, oU] [(.int (65535 : Int32)), (.int ((p2.toUInt32 >>> ((16 : Int32) &&& 31).toUInt32).toInt32)), (.long (s2 + (1 : Int64)))])) t₀
    refine XS.iand X0.here hx rfl (hb hby at_29) rfl ?_
    show Steps p.tables e below (s₁.setTop (mkF m 30 #[oJ p1, oS, oI p2, oJ p3, oS, oJ p4, oS, oI p5, oI p6, oJ s1, oS, oJ s2, oS, oU, oU, oU, oU, oU, oU, oU, oU, oU, oU, oU, oU, oU, oU, oU, oU, oU, oU, oU, oU] [(.int (((p2.toUInt32 >>> ((16 : Int32) &&& 31).toUInt32).toInt32) &&& (65535 : Int32))), (.long (s2 + (1 : Int64)))])) t₀
    refine XS.i2l X0.here hx rfl (hb hby at_30) rfl ?_
    show Steps p.tables e below (s₁.setTop (mkF m 31 #[oJ p1, oS, oI p2, oJ p3, oS, oJ p4, oS, oI p5, oI p6, oJ s1, oS, oJ s2, oS, oU, oU, oU, oU, oU, oU, oU, oU, oU, oU, oU, oU, oU, oU, oU, oU, oU, oU, oU, oU] [(.long ((((p2.toUInt32 >>> ((16 : Int32) &&& 31).toUInt32).toInt32) &&& (65535 : Int32)).toInt64)), (.long (s2 + (1 : Int64)))])) t₀
    refine XS.ladd X0.here hx rfl (hb hby at_31) rfl ?_
    show Steps p.tables e below (s₁.setTop (mkF m 32 #[oJ p1, oS, oI p2, oJ p3, oS, oJ p4, oS, oI p5, oI p6, oJ s1, oS, oJ s2, oS, oU, oU, oU, oU, oU, oU, oU, oU, oU, oU, oU, oU, oU, oU, oU, oU, oU, oU, oU, oU] [(.long ((s2 + (1 : Int64)) + ((((p2.toUInt32 >>> ((16 : Int32) &&& 31).toUInt32).toInt32) &&& (65535 : Int32)).toInt64)))])) t₀
    refine XS.lstore X0.here hx rfl (hb hby at_32) rfl (l' := #[oJ p1, oS, oI p2, oJ p3, oS, oJ p4, oS, oI p5, oI p6, oJ s1, oS, oJ s2, oS, oJ ((s2 + (1 : Int64)) + ((((p2.toUInt32 >>> ((16 : Int32) &&& 31).toUInt32).toInt32) &&& (65535 : Int32)).toInt64)), oS, oU, oU, oU, oU, oU, oU, oU, oU, oU, oU, oU, oU, oU, oU, oU, oU, oU, oU]) rfl ?_
    exact k₀
  obtain ⟨s3, hs3⟩ : ∃ z, z = ((s2 + (1 : Int64)) + ((((p2.toUInt32 >>> ((16 : Int32) &&& 31).toUInt32).toInt32) &&& (65535 : Int32)).toInt64)) := ⟨_, rfl⟩
  rw [← hs3]
  show G (s₁.setTop (mkF m 34 #[oJ p1, oS, oI p2, oJ p3, oS, oJ p4, oS, oI p5, oI p6, oJ s1, oS, oJ s2, oS, oJ s3, oS, oU, oU, oU, oU, oU, oU, oU, oU, oU, oU, oU, oU, oU, oU, oU, oU, oU, oU] []))
  have tlX : ∀  (q : Int64) (wd : Int32), G (s₁.setTop (mkF m 69 #[oJ p1, oS, oI p2, oJ p3, oS, oJ p4, oS, oI p5, oI p6, oJ s1, oS, oJ s2, oS, oJ s3, oS, oI wd, oJ q, oS, oU, oU, oU, oU, oU, oU, oU, oU, oU, oU, oU, oU, oU, oU, oU] [])) := by
    intro q wd
    refine hG _ (s₁.setTop (mkF m 75 #[oJ p1, oS, oI p2, oJ p3, oS, oJ p4, oS, oI p5, oI p6, oJ s1, oS, oJ s2, oS, oJ s3, oS, oI wd, oJ q, oS, oJ (p4 >>> ((2 : Int32) &&& 0x3f).toInt64), oS, oU, oU, oU, oU, oU, oU, oU, oU, oU, oU, oU, oU, oU] [])) (fun t₀ k₀ => ?_) ?_
    · show Steps p.tables e below (s₁.setTop (mkF m 69 #[oJ p1, oS, oI p2, oJ p3, oS, oJ p4, oS, oI p5, oI p6, oJ s1, oS, oJ s2, oS, oJ s3, oS, oI wd, oJ q, oS, oU, oU, oU, oU, oU, oU, oU, oU, oU, oU, oU, oU, oU, oU, oU] [])) t₀
      refine XS.lload X0.here hx rfl (hb hby at_69) rfl ?_
      show Steps p.tables e below (s₁.setTop (mkF m 71 #[oJ p1, oS, oI p2, oJ p3, oS, oJ p4, oS, oI p5, oI p6, oJ s1, oS, oJ s2, oS, oJ s3, oS, oI wd, oJ q, oS, oU, oU, oU, oU, oU, oU, oU, oU, oU, oU, oU, oU, oU, oU, oU] [(.long p4)])) t₀
      refine XS.iconst X0.here hx rfl (hb hby at_71) ?_
      show Steps p.tables e below (s₁.setTop (mkF m 72 #[oJ p1, oS, oI p2, oJ p3, oS, oJ p4, oS, oI p5, oI p6, oJ s1, oS, oJ s2, oS, oJ s3, oS, oI wd, oJ q, oS, oU, oU, oU, oU, oU, oU, oU, oU, oU, oU, oU, oU, oU, oU, oU] [(.int (2 : Int32)), (.long p4)])) t₀
      refine XS.lshr X0.here hx rfl (hb hby at_72) rfl ?_
      show Steps p.tables e below (s₁.setTop (mkF m 73 #[oJ p1, oS, oI p2, oJ p3, oS, oJ p4, oS, oI p5, oI p6, oJ s1, oS, oJ s2, oS, oJ s3, oS, oI wd, oJ q, oS, oU, oU, oU, oU, oU, oU, oU, oU, oU, oU, oU, oU, oU, oU, oU] [(.long (p4 >>> ((2 : Int32) &&& 0x3f).toInt64))])) t₀
      refine XS.lstore X0.here hx rfl (hb hby at_73) rfl (l' := #[oJ p1, oS, oI p2, oJ p3, oS, oJ p4, oS, oI p5, oI p6, oJ s1, oS, oJ s2, oS, oJ s3, oS, oI wd, oJ q, oS, oJ (p4 >>> ((2 : Int32) &&& 0x3f).toInt64), oS, oU, oU, oU, oU, oU, oU, oU, oU, oU, oU, oU, oU, oU]) rfl ?_
      exact k₀
    obtain ⟨t1, ht1⟩ : ∃ z, z = (p4 >>> ((2 : Int32) &&& 0x3f).toInt64) := ⟨_, rfl⟩
    rw [← ht1]
    show G (s₁.setTop (mkF m 75 #[oJ p1, oS, oI p2, oJ p3, oS, oJ p4, oS, oI p5, oI p6, oJ s1, oS, oJ s2, oS, oJ s3, oS, oI wd, oJ q, oS, oJ t1, oS, oU, oU, oU, oU, oU, oU, oU, oU, oU, oU, oU, oU, oU] []))
    refine hG _ (s₁.setTop (mkF m 91 #[oJ p1, oS, oI p2, oJ p3, oS, oJ p4, oS, oI p5, oI p6, oJ s1, oS, oJ s2, oS, oJ s3, oS, oI wd, oJ q, oS, oJ t1, oS, oJ ((t1 + (1000001 : Int64)) + ((p5 &&& (32767 : Int32)).toInt64)), oS, oU, oU, oU, oU, oU, oU, oU, oU, oU, oU, oU] [])) (fun t₀ k₀ => ?_) ?_
    · show Steps p.tables e below (s₁.setTop (mkF m 75 #[oJ p1, oS, oI p2, oJ p3, oS, oJ p4, oS, oI p5, oI p6, oJ s1, oS, oJ s2, oS, oJ s3, oS, oI wd, oJ q, oS, oJ t1, oS, oU, oU, oU, oU, oU, oU, oU, oU, oU, oU, oU, oU, oU] [])) t₀
      refine XS.lload X0.here hx rfl (hb hby at_75) rfl ?_
      show Steps p.tables e below (s₁.setTop (mkF m 77 #[oJ p1, oS, oI p2, oJ p3, oS, oJ p4, oS, oI p5, oI p6, oJ s1, oS, oJ s2, oS, oJ s3, oS, oI wd, oJ q, oS, oJ t1, oS, oU, oU, oU, oU, oU, oU, oU, oU, oU, oU, oU, oU, oU] [(.long t1)])) t₀
      refine X0.ldc2Long hx hown (mvT hZ (hw _ (List.mem_of_getElem? (i := 2) rfl))) (g := (mkF m 77 #[oJ p1, oS, oI p2, oJ p3, oS, oJ p4, oS, oI p5, oI p6, oJ s1, oS, oJ s2, oS, oJ s3, oS, oI wd, oJ q, oS, oJ t1, oS, oU, oU, oU, oU, oU, oU, oU, oU, oU, oU, oU, oU, oU] [(.long t1)])) rfl (hb hby at_77) _ ?_
      show Steps p.tables e below (s₁.setTop (mkF m 80 #[oJ p1, oS, oI p2, oJ p3, oS, oJ p4, oS, oI p5, oI p6, oJ s1, oS, oJ s2, oS, oJ s3, oS, oI wd, oJ q, oS, oJ t1, oS, oU, oU, oU, oU, oU, oU, oU, oU, oU, oU, oU, oU, oU] [(.long (1000001 : Int64)), (.long t1)])) t₀
      refine XS.ladd X0.here hx rfl (hb hby at_80) rfl ?_
      show Steps p.tables e below (s₁.setTop (mkF m 81 #[oJ p1, oS, oI p2, oJ p3, oS, oJ p4, oS, oI p5, oI p6, oJ s1, oS, oJ s2, oS, oJ s3, oS, oI wd, oJ q, oS, oJ t1, oS, oU, oU, oU, oU, oU, oU, oU, oU, oU, oU, oU, oU, oU] [(.long (t1 + (1000001 : Int64)))])) t₀
      refine XS.iload X0.here hx rfl (hb hby at_81) rfl ?_
      show Steps p.tables e below (s₁.setTop (mkF m 83 #[oJ p1, oS, oI p2, oJ p3, oS, oJ p4, oS, oI p5, oI p6, oJ s1, oS, oJ s2, oS, oJ s3, oS, oI wd, oJ q, oS, oJ t1, oS, oU, oU, oU, oU, oU, oU, oU, oU, oU, oU, oU, oU, oU] [(.int p5), (.long (t1 + (1000001 : Int64)))])) t₀
      refine XS.sipush X0.here hx rfl (hb hby at_83) ?_
      show Steps p.tables e below (s₁.setTop (mkF m 86 #[oJ p1, oS, oI p2, oJ p3, oS, oJ p4, oS, oI p5, oI p6, oJ s1, oS, oJ s2, oS, oJ s3, oS, oI wd, oJ q, oS, oJ t1, oS, oU, oU, oU, oU, oU, oU, oU, oU, oU, oU, oU, oU, oU] [(.int (32767 : Int32)), (.int p5), (.long (t1 + (1000001 : Int64)))])) t₀
      refine XS.iand X0.here hx rfl (hb hby at_86) rfl ?_
      show Steps p.tables e below (s₁.setTop (mkF m 87 #[oJ p1, oS, oI p2, oJ p3, oS, oJ p4, oS, oI p5, oI p6, oJ s1, oS, oJ s2, oS, oJ s3, oS, oI wd, oJ q, oS, oJ t1, oS, oU, oU, oU, oU, oU, oU, oU, oU, oU, oU, oU, oU, oU] [(.int (p5 &&& (32767 : Int32))), (.long (t1 + (1000001 : Int64)))])) t₀
      refine XS.i2l X0.here hx rfl (hb hby at_87) rfl ?_
      show Steps p.tables e below (s₁.setTop (mkF m 88 #[oJ p1, oS, oI p2, oJ p3, oS, oJ p4, oS, oI p5, oI p6, oJ s1, oS, oJ s2, oS, oJ s3, oS, oI wd, oJ q, oS, oJ t1, oS, oU, oU, oU, oU, oU, oU, oU, oU, oU, oU, oU, oU, oU] [(.long ((p5 &&& (32767 : Int32)).toInt64)), (.long (t1 + (1000001 : Int64)))])) t₀
      refine XS.ladd X0.here hx rfl (hb hby at_88) rfl ?_
      show Steps p.tables e below (s₁.setTop (mkF m 89 #[oJ p1, oS, oI p2, oJ p3, oS, oJ p4, oS, oI p5, oI p6, oJ s1, oS, oJ s2, oS, oJ s3, oS, oI wd, oJ q, oS, oJ t1, oS, oU, oU, oU, oU, oU, oU, oU, oU, oU, oU, oU, oU, oU] [(.long ((t1 + (1000001 : Int64)) + ((p5 &&& (32767 : Int32)).toInt64)))])) t₀
      refine XS.lstore X0.here hx rfl (hb hby at_89) rfl (l' := #[oJ p1, oS, oI p2, oJ p3, oS, oJ p4, oS, oI p5, oI p6, oJ s1, oS, oJ s2, oS, oJ s3, oS, oI wd, oJ q, oS, oJ t1, oS, oJ ((t1 + (1000001 : Int64)) + ((p5 &&& (32767 : Int32)).toInt64)), oS, oU, oU, oU, oU, oU, oU, oU, oU, oU, oU, oU]) rfl ?_
      exact k₀
    obtain ⟨t2, ht2⟩ : ∃ z, z = ((t1 + (1000001 : Int64)) + ((p5 &&& (32767 : Int32)).toInt64)) := ⟨_, rfl⟩
    rw [← ht2]
    show G (s₁.setTop (mkF m 91 #[oJ p1, oS, oI p2, oJ p3, oS, oJ p4, oS, oI p5, oI p6, oJ s1, oS, oJ s2, oS, oJ s3, oS, oI wd, oJ q, oS, oJ t1, oS, oJ t2, oS, oU, oU, oU, oU, oU, oU, oU, oU, oU, oU, oU] []))
    refine hG _ (s₁.setTop (mkF m 110 #[oJ p1, oS, oI p2, oJ p3, oS, oJ p4, oS, oI p5, oI p6, oJ s1, oS, oJ s2, oS, oJ s3, oS, oI wd, oJ q, oS, oJ t1, oS, oJ t2, oS, oJ ((t2 + (1000001 : Int64)) + ((((p5.toUInt32 >>> ((15 : Int32) &&& 31).toUInt32).toInt32) &&& (32767 : Int32)).toInt64)), oS, oU, oU, oU, oU, oU, oU, oU, oU, oU] [])) (fun t₀ k₀ => ?_) ?_
    · show Steps p.tables e below (s₁.setTop (mkF m 91 #[oJ p1, oS, oI p2, oJ p3, oS, oJ p4, oS, oI p5, oI p6, oJ s1, oS, oJ s2, oS, oJ s3, oS, oI wd, oJ q, oS, oJ t1, oS, oJ t2, oS, oU, oU, oU, oU, oU, oU, oU, oU, oU, oU, oU] [])) t₀
      refine XS.lload X0.here hx rfl (hb hby at_91) rfl ?_
      show Steps p.tables e below (s₁.setTop (mkF m 93 #[oJ p1, oS, oI p2, oJ p3, oS, oJ p4, oS, oI p5, oI p6, oJ s1, oS, oJ s2, oS, oJ s3, oS, oI wd, oJ q, oS, oJ t1, oS, oJ t2, oS, oU, oU, oU, oU, oU, oU, oU, oU, oU, oU, oU] [(.long t2)])) t₀
      refine X0.ldc2Long hx hown (mvT hZ (hw _ (List.mem_of_getElem? (i := 2) rfl))) (g := (mkF m 93 #[oJ p1, oS, oI p2, oJ p3, oS, oJ p4, oS, oI p5, oI p6, oJ s1, oS, oJ s2, oS, oJ s3, oS, oI wd, oJ q, oS, oJ t1, oS, oJ t2, oS, oU, oU, oU, oU, oU, oU, oU, oU, oU, oU, oU] [(.long t2)])) rfl (hb hby at_93) _ ?_
      show Steps p.tables e below (s₁.setTop (mkF m 96 #[oJ p1, oS, oI p2, oJ p3, oS, oJ p4, oS, oI p5, oI p6, oJ s1, oS, oJ s2, oS, oJ s3, oS, oI wd, oJ q, oS, oJ t1, oS, oJ t2, oS, oU, oU, oU, oU, oU, oU, oU, oU, oU, oU, oU] [(.long (1000001 : Int64)), (.long t2)])) t₀
      refine XS.ladd X0.here hx rfl (hb hby at_96) rfl ?_
      show Steps p.tables e below (s₁.setTop (mkF m 97 #[oJ p1, oS, oI p2, oJ p3, oS, oJ p4, oS, oI p5, oI p6, oJ s1, oS, oJ s2, oS, oJ s3, oS, oI wd, oJ q, oS, oJ t1, oS, oJ t2, oS, oU, oU, oU, oU, oU, oU, oU, oU, oU, oU, oU] [(.long (t2 + (1000001 : Int64)))])) t₀
      refine XS.iload X0.here hx rfl (hb hby at_97) rfl ?_
      show Steps p.tables e below (s₁.setTop (mkF m 99 #[oJ p1, oS, oI p2, oJ p3, oS, oJ p4, oS, oI p5, oI p6, oJ s1, oS, oJ s2, oS, oJ s3, oS, oI wd, oJ q, oS, oJ t1, oS, oJ t2, oS, oU, oU, oU, oU, oU, oU, oU, oU, oU, oU, oU] [(.int p5), (.long (t2 + (1000001 : Int64)))])) t₀
      refine XS.bipush X0.here hx rfl (hb hby at_99) ?_
      show Steps p.tables e below (s₁.setTop (mkF m 101 #[oJ p1, oS, oI p2, oJ p3, oS, oJ p4, oS, oI p5, oI p6, oJ s1, oS, oJ s2, oS, oJ s3, oS, oI wd, oJ q, oS, oJ t1, oS, oJ t2, oS, oU, oU, oU, oU, oU, oU, oU, oU, oU, oU, oU] [(.int (15 : Int32)), (.int p5), (.long (t2 + (1000001 : Int64)))])) t₀
      refine XS.iushr X0.here hx rfl (hb hby at_101) rfl ?_
      show Steps p.tables e below (s₁.setTop (mkF m 102 #[oJ p1, oS, oI p2, oJ p3, oS, oJ p4, oS, oI p5, oI p6, oJ s1, oS, oJ s2, oS, oJ s3, oS, oI wd, oJ q, oS, oJ t1, oS, oJ t2, oS, oU, oU, oU, oU, oU, oU, oU, oU, oU, oU, oU] [(.int ((p5.toUInt32 >>> ((15 : Int32) &&& 31).toUInt32).toInt32)), (.long (t2 + (1000001 : Int64)))])) t₀
      refine XS.sipush X0.here hx rfl (hb hby at_102) ?_
      show Steps p.tables e below (s₁.setTop (mkF m 105 #[oJ p1, oS, oI p2, oJ p3, oS, oJ p4, oS, oI p5, oI p6, oJ s1, oS, oJ s2, oS, oJ s3, oS, oI wd, oJ q, oS, oJ t1, oS, oJ t2, oS, oU, oU, oU, oU, oU, oU, oU, oU, oU, oU, oU] [(.int (32767 : Int32)), (.int ((p5.toUInt32 >>> ((15 : Int32) &&& 31).toUInt32).toInt32)), (.long (t2 + (1000001 : Int64)))])) t₀
      refine XS.iand X0.here hx rfl (hb hby at_105) rfl ?_
      show Steps p.tables e below (s₁.setTop (mkF m 106 #[oJ p1, oS, oI p2, oJ p3, oS, oJ p4, oS, oI p5, oI p6, oJ s1, oS, oJ s2, oS, oJ s3, oS, oI wd, oJ q, oS, oJ t1, oS, oJ t2, oS, oU, oU, oU, oU, oU, oU, oU, oU, oU, oU, oU] [(.int (((p5.toUInt32 >>> ((15 : Int32) &&& 31).toUInt32).toInt32) &&& (32767 : Int32))), (.long (t2 + (1000001 : Int64)))])) t₀
      refine XS.i2l X0.here hx rfl (hb hby at_106) rfl ?_
      show Steps p.tables e below (s₁.setTop (mkF m 107 #[oJ p1, oS, oI p2, oJ p3, oS, oJ p4, oS, oI p5, oI p6, oJ s1, oS, oJ s2, oS, oJ s3, oS, oI wd, oJ q, oS, oJ t1, oS, oJ t2, oS, oU, oU, oU, oU, oU, oU, oU, oU, oU, oU, oU] [(.long ((((p5.toUInt32 >>> ((15 : Int32) &&& 31).toUInt32).toInt32) &&& (32767 : Int32)).toInt64)), (.long (t2 + (1000001 : Int64)))])) t₀
      refine XS.ladd X0.here hx rfl (hb hby at_107) rfl ?_
      show Steps p.tables e below (s₁.setTop (mkF m 108 #[oJ p1, oS, oI p2, oJ p3, oS, oJ p4, oS, oI p5, oI p6, oJ s1, oS, oJ s2, oS, oJ s3, oS, oI wd, oJ q, oS, oJ t1, oS, oJ t2, oS, oU, oU, oU, oU, oU, oU, oU, oU, oU, oU, oU] [(.long ((t2 + (1000001 : Int64)) + ((((p5.toUInt32 >>> ((15 : Int32) &&& 31).toUInt32).toInt32) &&& (32767 : Int32)).toInt64)))])) t₀
      refine XS.lstore X0.here hx rfl (hb hby at_108) rfl (l' := #[oJ p1, oS, oI p2, oJ p3, oS, oJ p4, oS, oI p5, oI p6, oJ s1, oS, oJ s2, oS, oJ s3, oS, oI wd, oJ q, oS, oJ t1, oS, oJ t2, oS, oJ ((t2 + (1000001 : Int64)) + ((((p5.toUInt32 >>> ((15 : Int32) &&& 31).toUInt32).toInt32) &&& (32767 : Int32)).toInt64)), oS, oU, oU, oU, oU, oU, oU, oU, oU, oU]) rfl ?_
      exact k₀
    obtain ⟨t3, ht3⟩ : ∃ z, z = ((t2 + (1000001 : Int64)) + ((((p5.toUInt32 >>> ((15 : Int32) &&& 31).toUInt32).toInt32) &&& (32767 : Int32)).toInt64)) := ⟨_, rfl⟩
    rw [← ht3]
    show G (s₁.setTop (mkF m 110 #[oJ p1, oS, oI p2, oJ p3, oS, oJ p4, oS, oI p5, oI p6, oJ s1, oS, oJ s2, oS, oJ s3, oS, oI wd, oJ q, oS, oJ t1, oS, oJ t2, oS, oJ t3, oS, oU, oU, oU, oU, oU, oU, oU, oU, oU] []))
    refine hG _ (s₁.setTop (mkF m 123 #[oJ p1, oS, oI p2, oJ p3, oS, oJ p4, oS, oI p5, oI p6, oJ s1, oS, oJ s2, oS, oJ s3, oS, oI wd, oJ q, oS, oJ t1, oS, oJ t2, oS, oJ t3, oS, oJ (t3 + ((((p6.toUInt32 >>> ((1 : Int32) &&& 31).toUInt32).toInt32) &&& (4194303 : Int32)).toInt64)), oS, oU, oU, oU, oU, oU, oU, oU] [])) (fun t₀ k₀ => ?_) ?_
    · show Steps p.tables e below (s₁.setTop (mkF m 110 #[oJ p1, oS, oI p2, oJ p3, oS, oJ p4, oS, oI p5, oI p6, oJ s1, oS, oJ s2, oS, oJ s3, oS, oI wd, oJ q, oS, oJ t1, oS, oJ t2, oS, oJ t3, oS, oU, oU, oU, oU, oU, oU, oU, oU, oU] [])) t₀
      refine XS.lload X0.here hx rfl (hb hby at_110) rfl ?_
      show Steps p.tables e below (s₁.setTop (mkF m 112 #[oJ p1, oS, oI p2, oJ p3, oS, oJ p4, oS, oI p5, oI p6, oJ s1, oS, oJ s2, oS, oJ s3, oS, oI wd, oJ q, oS, oJ t1, oS, oJ t2, oS, oJ t3, oS, oU, oU, oU, oU, oU, oU, oU, oU, oU] [(.long t3)])) t₀
      refine XS.iload X0.here hx rfl (hb hby at_112) rfl ?_
      show Steps p.tables e below (s₁.setTop (mkF m 114 #[oJ p1, oS, oI p2, oJ p3, oS, oJ p4, oS, oI p5, oI p6, oJ s1, oS, oJ s2, oS, oJ s3, oS, oI wd, oJ q, oS, oJ t1, oS, oJ t2, oS, oJ t3, oS, oU, oU, oU, oU, oU, oU, oU, oU, oU] [(.int p6), (.long t3)])) t₀
      refine XS.iconst X0.here hx rfl (hb hby at_114) ?_
      show Steps p.tables e below (s₁.setTop (mkF m 115 #[oJ p1, oS, oI p2, oJ p3, oS, oJ p4, oS, oI p5, oI p6, oJ s1, oS, oJ s2, oS, oJ s3, oS, oI wd, oJ q, oS, oJ t1, oS, oJ t2, oS, oJ t3, oS, oU, oU, oU, oU, oU, oU, oU, oU, oU] [(.int (1 : Int32)), (.int p6), (.long t3)])) t₀
      refine XS.iushr X0.here hx rfl (hb hby at_115) rfl ?_
      show Steps p.tables e below (s₁.setTop (mkF m 116 #[oJ p1, oS, oI p2, oJ p3, oS, oJ p4, oS, oI p5, oI p6, oJ s1, oS, oJ s2, oS, oJ s3, oS, oI wd, oJ q, oS, oJ t1, oS, oJ t2, oS, oJ t3, oS, oU, oU, oU, oU, oU, oU, oU, oU, oU] [(.int ((p6.toUInt32 >>> ((1 : Int32) &&& 31).toUInt32).toInt32)), (.long t3)])) t₀
      refine X0.ldcInt hx hown (mvT hZ (hw _ (List.mem_of_getElem? (i := 3) rfl))) (g := (mkF m 116 #[oJ p1, oS, oI p2, oJ p3, oS, oJ p4, oS, oI p5, oI p6, oJ s1, oS, oJ s2, oS, oJ s3, oS, oI wd, oJ q, oS, oJ t1, oS, oJ t2, oS, oJ t3, oS, oU, oU, oU, oU, oU, oU, oU, oU, oU] [(.int ((p6.toUInt32 >>> ((1 : Int32) &&& 31).toUInt32).toInt32)), (.long t3)])) rfl (hb hby at_116) _ ?_
      show Steps p.tables e below (s₁.setTop (mkF m 118 #[oJ p1, oS, oI p2, oJ p3, oS, oJ p4, oS, oI p5, oI p6, oJ s1, oS, oJ s2, oS, oJ s3, oS, oI wd, oJ q, oS, oJ t1, oS, oJ t2, oS, oJ t3, oS, oU, oU, oU, oU, oU, oU, oU, oU, oU] [(.int (4194303 : Int32)), (.int ((p6.toUInt32 >>> ((1 : Int32) &&& 31).toUInt32).toInt32)), (.long t3)])) t₀
      refine XS.iand X0.here hx rfl (hb hby at_118) rfl ?_
      show Steps p.tables e below (s₁.setTop (mkF m 119 #[oJ p1, oS, oI p2, oJ p3, oS, oJ p4, oS, oI p5, oI p6, oJ s1, oS, oJ s2, oS, oJ s3, oS, oI wd, oJ q, oS, oJ t1, oS, oJ t2, oS, oJ t3, oS, oU, oU, oU, oU, oU, oU, oU, oU, oU] [(.int (((p6.toUInt32 >>> ((1 : Int32) &&& 31).toUInt32).toInt32) &&& (4194303 : Int32))), (.long t3)])) t₀
      refine XS.i2l X0.here hx rfl (hb hby at_119) rfl ?_
      show Steps p.tables e below (s₁.setTop (mkF m 120 #[oJ p1, oS, oI p2, oJ p3, oS, oJ p4, oS, oI p5, oI p6, oJ s1, oS, oJ s2, oS, oJ s3, oS, oI wd, oJ q, oS, oJ t1, oS, oJ t2, oS, oJ t3, oS, oU, oU, oU, oU, oU, oU, oU, oU, oU] [(.long ((((p6.toUInt32 >>> ((1 : Int32) &&& 31).toUInt32).toInt32) &&& (4194303 : Int32)).toInt64)), (.long t3)])) t₀
      refine XS.ladd X0.here hx rfl (hb hby at_120) rfl ?_
      show Steps p.tables e below (s₁.setTop (mkF m 121 #[oJ p1, oS, oI p2, oJ p3, oS, oJ p4, oS, oI p5, oI p6, oJ s1, oS, oJ s2, oS, oJ s3, oS, oI wd, oJ q, oS, oJ t1, oS, oJ t2, oS, oJ t3, oS, oU, oU, oU, oU, oU, oU, oU, oU, oU] [(.long (t3 + ((((p6.toUInt32 >>> ((1 : Int32) &&& 31).toUInt32).toInt32) &&& (4194303 : Int32)).toInt64)))])) t₀
      refine XS.lstore X0.here hx rfl (hb hby at_121) rfl (l' := #[oJ p1, oS, oI p2, oJ p3, oS, oJ p4, oS, oI p5, oI p6, oJ s1, oS, oJ s2, oS, oJ s3, oS, oI wd, oJ q, oS, oJ t1, oS, oJ t2, oS, oJ t3, oS, oJ (t3 + ((((p6.toUInt32 >>> ((1 : Int32) &&& 31).toUInt32).toInt32) &&& (4194303 : Int32)).toInt64)), oS, oU, oU, oU, oU, oU, oU, oU]) rfl ?_
      exact k₀
    obtain ⟨tn, htn⟩ : ∃ z, z = (t3 + ((((p6.toUInt32 >>> ((1 : Int32) &&& 31).toUInt32).toInt32) &&& (4194303 : Int32)).toInt64)) := ⟨_, rfl⟩
    rw [← htn]
    show G (s₁.setTop (mkF m 123 #[oJ p1, oS, oI p2, oJ p3, oS, oJ p4, oS, oI p5, oI p6, oJ s1, oS, oJ s2, oS, oJ s3, oS, oI wd, oJ q, oS, oJ t1, oS, oJ t2, oS, oJ t3, oS, oJ tn, oS, oU, oU, oU, oU, oU, oU, oU] []))
    refine hG _ (s₁.setTop (mkF m 140 #[oJ p1, oS, oI p2, oJ p3, oS, oJ p4, oS, oI p5, oI p6, oJ s1, oS, oJ s2, oS, oJ s3, oS, oI wd, oJ q, oS, oJ t1, oS, oJ t2, oS, oJ t3, oS, oJ tn, oS, oJ ((s3 + (1 : Int64)) + ((((p6.toUInt32 >>> ((23 : Int32) &&& 31).toUInt32).toInt32) &&& (255 : Int32)).toInt64)), oS, oU, oU, oU, oU, oU] [])) (fun t₀ k₀ => ?_) ?_
    · show Steps p.tables e below (s₁.setTop (mkF m 123 #[oJ p1, oS, oI p2, oJ p3, oS, oJ p4, oS, oI p5, oI p6, oJ s1, oS, oJ s2, oS, oJ s3, oS, oI wd, oJ q, oS, oJ t1, oS, oJ t2, oS, oJ t3, oS, oJ tn, oS, oU, oU, oU, oU, oU, oU, oU] [])) t₀
      refine XS.lload X0.here hx rfl (hb hby at_123) rfl ?_
      show Steps p.tables e below (s₁.setTop (mkF m 125 #[oJ p1, oS, oI p2, oJ p3, oS, oJ p4, oS, oI p5, oI p6, oJ s1, oS, oJ s2, oS, oJ s3, oS, oI wd, oJ q, oS, oJ t1, oS, oJ t2, oS, oJ t3, oS, oJ tn, oS, oU, oU, oU, oU, oU, oU, oU] [(.long s3)])) t₀
      refine XS.lconst X0.here hx rfl (hb hby at_125) ?_
      show Steps p.tables e below (s₁.setTop (mkF m 126 #[oJ p1, oS, oI p2, oJ p3, oS, oJ p4, oS, oI p5, oI p6, oJ s1, oS, oJ s2, oS, oJ s3, oS, oI wd, oJ q, oS, oJ t1, oS, oJ t2, oS, oJ t3, oS, oJ tn, oS, oU, oU, oU, oU, oU, oU, oU] [(.long (1 : Int64)), (.long s3)])) t₀
      refine XS.ladd X0.here hx rfl (hb hby at_126) rfl ?_
      show Steps p.tables e below (s₁.setTop (mkF m 127 #[oJ p1, oS, oI p2, oJ p3, oS, oJ p4, oS, oI p5, oI p6, oJ s1, oS, oJ s2, oS, oJ s3, oS, oI wd, oJ q, oS, oJ t1, oS, oJ t2, oS, oJ t3, oS, oJ tn, oS, oU, oU, oU, oU, oU, oU, oU] [(.long (s3 + (1 : Int64)))])) t₀
      refine XS.iload X0.here hx rfl (hb hby at_127) rfl ?_
      show Steps p.tables e below (s₁.setTop (mkF m 129 #[oJ p1, oS, oI p2, oJ p3, oS, oJ p4, oS, oI p5, oI p6, oJ s1, oS, oJ s2, oS, oJ s3, oS, oI wd, oJ q, oS, oJ t1, oS, oJ t2, oS, oJ t3, oS, oJ tn, oS, oU, oU, oU, oU, oU, oU, oU] [(.int p6), (.long (s3 + (1 : Int64)))])) t₀
      refine XS.bipush X0.here hx rfl (hb hby at_129) ?_
      show Steps p.tables e below (s₁.setTop (mkF m 131 #[oJ p1, oS, oI p2, oJ p3, oS, oJ p4, oS, oI p5, oI p6, oJ s1, oS, oJ s2, oS, oJ s3, oS, oI wd, oJ q, oS, oJ t1, oS, oJ t2, oS, oJ t3, oS, oJ tn, oS, oU, oU, oU, oU, oU, oU, oU] [(.int (23 : Int32)), (.int p6), (.long (s3 + (1 : Int64)))])) t₀
      refine XS.iushr X0.here hx rfl (hb hby at_131) rfl ?_
      show Steps p.tables e below (s₁.setTop (mkF m 132 #[oJ p1, oS, oI p2, oJ p3, oS, oJ p4, oS, oI p5, oI p6, oJ s1, oS, oJ s2, oS, oJ s3, oS, oI wd, oJ q, oS, oJ t1, oS, oJ t2, oS, oJ t3, oS, oJ tn, oS, oU, oU, oU, oU, oU, oU, oU] [(.int ((p6.toUInt32 >>> ((23 : Int32) &&& 31).toUInt32).toInt32)), (.long (s3 + (1 : Int64)))])) t₀
      refine XS.sipush X0.here hx rfl (hb hby at_132) ?_
      show Steps p.tables e below (s₁.setTop (mkF m 135 #[oJ p1, oS, oI p2, oJ p3, oS, oJ p4, oS, oI p5, oI p6, oJ s1, oS, oJ s2, oS, oJ s3, oS, oI wd, oJ q, oS, oJ t1, oS, oJ t2, oS, oJ t3, oS, oJ tn, oS, oU, oU, oU, oU, oU, oU, oU] [(.int (255 : Int32)), (.int ((p6.toUInt32 >>> ((23 : Int32) &&& 31).toUInt32).toInt32)), (.long (s3 + (1 : Int64)))])) t₀
      refine XS.iand X0.here hx rfl (hb hby at_135) rfl ?_
      show Steps p.tables e below (s₁.setTop (mkF m 136 #[oJ p1, oS, oI p2, oJ p3, oS, oJ p4, oS, oI p5, oI p6, oJ s1, oS, oJ s2, oS, oJ s3, oS, oI wd, oJ q, oS, oJ t1, oS, oJ t2, oS, oJ t3, oS, oJ tn, oS, oU, oU, oU, oU, oU, oU, oU] [(.int (((p6.toUInt32 >>> ((23 : Int32) &&& 31).toUInt32).toInt32) &&& (255 : Int32))), (.long (s3 + (1 : Int64)))])) t₀
      refine XS.i2l X0.here hx rfl (hb hby at_136) rfl ?_
      show Steps p.tables e below (s₁.setTop (mkF m 137 #[oJ p1, oS, oI p2, oJ p3, oS, oJ p4, oS, oI p5, oI p6, oJ s1, oS, oJ s2, oS, oJ s3, oS, oI wd, oJ q, oS, oJ t1, oS, oJ t2, oS, oJ t3, oS, oJ tn, oS, oU, oU, oU, oU, oU, oU, oU] [(.long ((((p6.toUInt32 >>> ((23 : Int32) &&& 31).toUInt32).toInt32) &&& (255 : Int32)).toInt64)), (.long (s3 + (1 : Int64)))])) t₀
      refine XS.ladd X0.here hx rfl (hb hby at_137) rfl ?_
      show Steps p.tables e below (s₁.setTop (mkF m 138 #[oJ p1, oS, oI p2, oJ p3, oS, oJ p4, oS, oI p5, oI p6, oJ s1, oS, oJ s2, oS, oJ s3, oS, oI wd, oJ q, oS, oJ t1, oS, oJ t2, oS, oJ t3, oS, oJ tn, oS, oU, oU, oU, oU, oU, oU, oU] [(.long ((s3 + (1 : Int64)) + ((((p6.toUInt32 >>> ((23 : Int32) &&& 31).toUInt32).toInt32) &&& (255 : Int32)).toInt64)))])) t₀
      refine XS.lstore X0.here hx rfl (hb hby at_138) rfl (l' := #[oJ p1, oS, oI p2, oJ p3, oS, oJ p4, oS, oI p5, oI p6, oJ s1, oS, oJ s2, oS, oJ s3, oS, oI wd, oJ q, oS, oJ t1, oS, oJ t2, oS, oJ t3, oS, oJ tn, oS, oJ ((s3 + (1 : Int64)) + ((((p6.toUInt32 >>> ((23 : Int32) &&& 31).toUInt32).toInt32) &&& (255 : Int32)).toInt64)), oS, oU, oU, oU, oU, oU]) rfl ?_
      exact k₀
    obtain ⟨nn, hnn⟩ : ∃ z, z = ((s3 + (1 : Int64)) + ((((p6.toUInt32 >>> ((23 : Int32) &&& 31).toUInt32).toInt32) &&& (255 : Int32)).toInt64)) := ⟨_, rfl⟩
    rw [← hnn]
    show G (s₁.setTop (mkF m 140 #[oJ p1, oS, oI p2, oJ p3, oS, oJ p4, oS, oI p5, oI p6, oJ s1, oS, oJ s2, oS, oJ s3, oS, oI wd, oJ q, oS, oJ t1, oS, oJ t2, oS, oJ t3, oS, oJ tn, oS, oJ nn, oS, oU, oU, oU, oU, oU] []))
    have b1 : 0 ≤ s1.toInt ∧ s1.toInt ≤ 4611686018427387903 := by
      have m := c_maskL p1 (4611686018427387903 : Int64) 62 (by decide) (by decide)
      rw [hs1]; omega
    have m2 := c_mask p2 (65535 : Int32) 16 (by decide) (by decide)
    have b2 : s2.toInt = s1.toInt + 1 + (p2 &&& (65535 : Int32)).toInt := by rw [hs2]; exact own_adv _ _ (by omega) (by omega) (by omega) (by omega)
    have m3 := c_mask ((p2.toUInt32 >>> ((16 : Int32) &&& 31).toUInt32).toInt32) (65535 : Int32) 16 (by decide) (by decide)
    have b3 : s3.toInt = s2.toInt + 1 + (((p2.toUInt32 >>> ((16 : Int32) &&& 31).toUInt32).toInt32) &&& (65535 : Int32)).toInt := by rw [hs3]; exact own_adv _ _ (by omega) (by omega) (by omega) (by omega)
    have m4 := c_mask ((p6.toUInt32 >>> ((23 : Int32) &&& 31).toUInt32).toInt32) (255 : Int32) 8 (by decide) (by decide)
    have b4 : nn.toInt = s3.toInt + 1 + (((p6.toUInt32 >>> ((23 : Int32) &&& 31).toUInt32).toInt32) &&& (255 : Int32)).toInt := by rw [hnn]; exact own_adv _ _ (by omega) (by omega) (by omega) (by omega)
    have c1 : -2305843009213693952 ≤ t1.toInt ∧ t1.toInt ≤ 2305843009213693952 := by
      have m := c_lshr p4 (2 : Int32) 2 rfl
      have r := rng64 p4
      rw [ht1]; omega
    have m5 := c_mask p5 (32767 : Int32) 15 (by decide) (by decide)
    have d2 := own_tim t1 (p5 &&& (32767 : Int32)) (by omega) (by omega) (by omega) (by omega)
    rw [← ht2] at d2
    have m6 := c_mask ((p5.toUInt32 >>> ((15 : Int32) &&& 31).toUInt32).toInt32) (32767 : Int32) 15 (by decide) (by decide)
    have d3 := own_tim t2 (((p5.toUInt32 >>> ((15 : Int32) &&& 31).toUInt32).toInt32) &&& (32767 : Int32)) (by omega) (by omega) (by omega) (by omega)
    rw [← ht3] at d3
    exact tlA s1 s2 s3 q t1 t2 t3 tn nn wd (own_lt64 (by have e : (-1 : Int64).toInt = -1 := rfl; omega)) (own_lt64 (by omega)) (own_lt64 (by omega)) (own_lt64 (by omega)) d2.2 d3.2
  refine hG _ (s₁.setTop (mkF m 38 #[oJ p1, oS, oI p2, oJ p3, oS, oJ p4, oS, oI p5, oI p6, oJ s1, oS, oJ s2, oS, oJ s3, oS, oU, oU, oU, oU, oU, oU, oU, oU, oU, oU, oU, oU, oU, oU, oU, oU, oU, oU] [(.int (p6 &&& (1 : Int32)))])) (fun t₀ k₀ => ?_) ?_
  · show Steps p.tables e below (s₁.setTop (mkF m 34 #[oJ p1, oS, oI p2, oJ p3, oS, oJ p4, oS, oI p5, oI p6, oJ s1, oS, oJ s2, oS, oJ s3, oS, oU, oU, oU, oU, oU, oU, oU, oU, oU, oU, oU, oU, oU, oU, oU, oU, oU, oU] [])) t₀
    refine XS.iload X0.here hx rfl (hb hby at_34) rfl ?_
    show Steps p.tables e below (s₁.setTop (mkF m 36 #[oJ p1, oS, oI p2, oJ p3, oS, oJ p4, oS, oI p5, oI p6, oJ s1, oS, oJ s2, oS, oJ s3, oS, oU, oU, oU, oU, oU, oU, oU, oU, oU, oU, oU, oU, oU, oU, oU, oU, oU, oU] [(.int p6)])) t₀
    refine XS.iconst X0.here hx rfl (hb hby at_36) ?_
    show Steps p.tables e below (s₁.setTop (mkF m 37 #[oJ p1, oS, oI p2, oJ p3, oS, oJ p4, oS, oI p5, oI p6, oJ s1, oS, oJ s2, oS, oJ s3, oS, oU, oU, oU, oU, oU, oU, oU, oU, oU, oU, oU, oU, oU, oU, oU, oU, oU, oU] [(.int (1 : Int32)), (.int p6)])) t₀
    refine XS.iand X0.here hx rfl (hb hby at_37) rfl ?_
    exact k₀
  by_cases hc38 : (p6 &&& (1 : Int32)) = (0 : Int32)
  ·
    refine hG _ (s₁.setTop (mkF m 69 #[oJ p1, oS, oI p2, oJ p3, oS, oJ p4, oS, oI p5, oI p6, oJ s1, oS, oJ s2, oS, oJ s3, oS, oI (0 : Int32), oJ ((s1 - (1 : Int64)) + (p3 &&& (262143 : Int64))), oS, oU, oU, oU, oU, oU, oU, oU, oU, oU, oU, oU, oU, oU, oU, oU] [])) (fun t₀ k₀ => ?_) ?_
    · show Steps p.tables e below (s₁.setTop (mkF m 38 #[oJ p1, oS, oI p2, oJ p3, oS, oJ p4, oS, oI p5, oI p6, oJ s1, oS, oJ s2, oS, oJ s3, oS, oU, oU, oU, oU, oU, oU, oU, oU, oU, oU, oU, oU, oU, oU, oU, oU, oU, oU] [(.int (p6 &&& (1 : Int32)))])) t₀
      refine XS.ifYes X0.here hx rfl (pc0 := 38) (pc' := 45) rfl (hb hby at_38) rfl ((if0 _ _).trans (teq hc38).1) (by decide) (by decide) ?_
      show Steps p.tables e below (s₁.setTop (mkF m 45 #[oJ p1, oS, oI p2, oJ p3, oS, oJ p4, oS, oI p5, oI p6, oJ s1, oS, oJ s2, oS, oJ s3, oS, oU, oU, oU, oU, oU, oU, oU, oU, oU, oU, oU, oU, oU, oU, oU, oU, oU, oU] [])) t₀
      refine XS.iconst X0.here hx rfl (hb hby at_45) ?_
      show Steps p.tables e below (s₁.setTop (mkF m 46 #[oJ p1, oS, oI p2, oJ p3, oS, oJ p4, oS, oI p5, oI p6, oJ s1, oS, oJ s2, oS, oJ s3, oS, oU, oU, oU, oU, oU, oU, oU, oU, oU, oU, oU, oU, oU, oU, oU, oU, oU, oU] [(.int (0 : Int32))])) t₀
      refine XS.istore X0.here hx rfl (hb hby at_46) rfl (l' := #[oJ p1, oS, oI p2, oJ p3, oS, oJ p4, oS, oI p5, oI p6, oJ s1, oS, oJ s2, oS, oJ s3, oS, oI (0 : Int32), oU, oU, oU, oU, oU, oU, oU, oU, oU, oU, oU, oU, oU, oU, oU, oU, oU]) rfl ?_
      show Steps p.tables e below (s₁.setTop (mkF m 48 #[oJ p1, oS, oI p2, oJ p3, oS, oJ p4, oS, oI p5, oI p6, oJ s1, oS, oJ s2, oS, oJ s3, oS, oI (0 : Int32), oU, oU, oU, oU, oU, oU, oU, oU, oU, oU, oU, oU, oU, oU, oU, oU, oU] [])) t₀
      refine XS.iload X0.here hx rfl (hb hby at_48) rfl ?_
      show Steps p.tables e below (s₁.setTop (mkF m 50 #[oJ p1, oS, oI p2, oJ p3, oS, oJ p4, oS, oI p5, oI p6, oJ s1, oS, oJ s2, oS, oJ s3, oS, oI (0 : Int32), oU, oU, oU, oU, oU, oU, oU, oU, oU, oU, oU, oU, oU, oU, oU, oU, oU] [(.int (0 : Int32))])) t₀
      refine XS.ifYes X0.here hx rfl (pc0 := 50) (pc' := 57) rfl (hb hby at_50) rfl ((if0 _ _).trans (teq (by decide : ((0 : Int32) = (0 : Int32)))).1) (by decide) (by decide) ?_
      show Steps p.tables e below (s₁.setTop (mkF m 57 #[oJ p1, oS, oI p2, oJ p3, oS, oJ p4, oS, oI p5, oI p6, oJ s1, oS, oJ s2, oS, oJ s3, oS, oI (0 : Int32), oU, oU, oU, oU, oU, oU, oU, oU, oU, oU, oU, oU, oU, oU, oU, oU, oU] [])) t₀
      refine XS.lload X0.here hx rfl (hb hby at_57) rfl ?_
      show Steps p.tables e below (s₁.setTop (mkF m 59 #[oJ p1, oS, oI p2, oJ p3, oS, oJ p4, oS, oI p5, oI p6, oJ s1, oS, oJ s2, oS, oJ s3, oS, oI (0 : Int32), oU, oU, oU, oU, oU, oU, oU, oU, oU, oU, oU, oU, oU, oU, oU, oU, oU] [(.long s1)])) t₀
      refine XS.lconst X0.here hx rfl (hb hby at_59) ?_
      show Steps p.tables e below (s₁.setTop (mkF m 60 #[oJ p1, oS, oI p2, oJ p3, oS, oJ p4, oS, oI p5, oI p6, oJ s1, oS, oJ s2, oS, oJ s3, oS, oI (0 : Int32), oU, oU, oU, oU, oU, oU, oU, oU, oU, oU, oU, oU, oU, oU, oU, oU, oU] [(.long (1 : Int64)), (.long s1)])) t₀
      refine XS.lsub X0.here hx rfl (hb hby at_60) rfl ?_
      show Steps p.tables e below (s₁.setTop (mkF m 61 #[oJ p1, oS, oI p2, oJ p3, oS, oJ p4, oS, oI p5, oI p6, oJ s1, oS, oJ s2, oS, oJ s3, oS, oI (0 : Int32), oU, oU, oU, oU, oU, oU, oU, oU, oU, oU, oU, oU, oU, oU, oU, oU, oU] [(.long (s1 - (1 : Int64)))])) t₀
      refine XS.lloadN X0.here hx rfl (hb hby at_61) rfl ?_
      show Steps p.tables e below (s₁.setTop (mkF m 62 #[oJ p1, oS, oI p2, oJ p3, oS, oJ p4, oS, oI p5, oI p6, oJ s1, oS, oJ s2, oS, oJ s3, oS, oI (0 : Int32), oU, oU, oU, oU, oU, oU, oU, oU, oU, oU, oU, oU, oU, oU, oU, oU, oU] [(.long p3), (.long (s1 - (1 : Int64)))])) t₀
      refine X0.ldc2Long hx hown (mvT hZ (hw _ (List.mem_of_getElem? (i := 67) rfl))) (g := (mkF m 62 #[oJ p1, oS, oI p2, oJ p3, oS, oJ p4, oS, oI p5, oI p6, oJ s1, oS, oJ s2, oS, oJ s3, oS, oI (0 : Int32), oU, oU, oU, oU, oU, oU, oU, oU, oU, oU, oU, oU, oU, oU, oU, oU, oU] [(.long p3), (.long (s1 - (1 : Int64)))])) rfl (hb hby at_62) _ ?_
      show Steps p.tables e below (s₁.setTop (mkF m 65 #[oJ p1, oS, oI p2, oJ p3, oS, oJ p4, oS, oI p5, oI p6, oJ s1, oS, oJ s2, oS, oJ s3, oS, oI (0 : Int32), oU, oU, oU, oU, oU, oU, oU, oU, oU, oU, oU, oU, oU, oU, oU, oU, oU] [(.long (262143 : Int64)), (.long p3), (.long (s1 - (1 : Int64)))])) t₀
      refine XS.land X0.here hx rfl (hb hby at_65) rfl ?_
      show Steps p.tables e below (s₁.setTop (mkF m 66 #[oJ p1, oS, oI p2, oJ p3, oS, oJ p4, oS, oI p5, oI p6, oJ s1, oS, oJ s2, oS, oJ s3, oS, oI (0 : Int32), oU, oU, oU, oU, oU, oU, oU, oU, oU, oU, oU, oU, oU, oU, oU, oU, oU] [(.long (p3 &&& (262143 : Int64))), (.long (s1 - (1 : Int64)))])) t₀
      refine XS.ladd X0.here hx rfl (hb hby at_66) rfl ?_
      show Steps p.tables e below (s₁.setTop (mkF m 67 #[oJ p1, oS, oI p2, oJ p3, oS, oJ p4, oS, oI p5, oI p6, oJ s1, oS, oJ s2, oS, oJ s3, oS, oI (0 : Int32), oU, oU, oU, oU, oU, oU, oU, oU, oU, oU, oU, oU, oU, oU, oU, oU, oU] [(.long ((s1 - (1 : Int64)) + (p3 &&& (262143 : Int64))))])) t₀
      refine XS.lstore X0.here hx rfl (hb hby at_67) rfl (l' := #[oJ p1, oS, oI p2, oJ p3, oS, oJ p4, oS, oI p5, oI p6, oJ s1, oS, oJ s2, oS, oJ s3, oS, oI (0 : Int32), oJ ((s1 - (1 : Int64)) + (p3 &&& (262143 : Int64))), oS, oU, oU, oU, oU, oU, oU, oU, oU, oU, oU, oU, oU, oU, oU, oU]) rfl ?_
      exact k₀
    exact tlX ((s1 - (1 : Int64)) + (p3 &&& (262143 : Int64))) (0 : Int32)
  ·
    refine hG _ (s₁.setTop (mkF m 69 #[oJ p1, oS, oI p2, oJ p3, oS, oJ p4, oS, oI p5, oI p6, oJ s1, oS, oJ s2, oS, oJ s3, oS, oI (1 : Int32), oJ p3, oS, oU, oU, oU, oU, oU, oU, oU, oU, oU, oU, oU, oU, oU, oU, oU] [])) (fun t₀ k₀ => ?_) ?_
    · show Steps p.tables e below (s₁.setTop (mkF m 38 #[oJ p1, oS, oI p2, oJ p3, oS, oJ p4, oS, oI p5, oI p6, oJ s1, oS, oJ s2, oS, oJ s3, oS, oU, oU, oU, oU, oU, oU, oU, oU, oU, oU, oU, oU, oU, oU, oU, oU, oU, oU] [(.int (p6 &&& (1 : Int32)))])) t₀
      refine XS.ifNo X0.here hx rfl (hb hby at_38) rfl ((if0 _ _).trans (feq hc38).1) ?_
      show Steps p.tables e below (s₁.setTop (mkF m 41 #[oJ p1, oS, oI p2, oJ p3, oS, oJ p4, oS, oI p5, oI p6, oJ s1, oS, oJ s2, oS, oJ s3, oS, oU, oU, oU, oU, oU, oU, oU, oU, oU, oU, oU, oU, oU, oU, oU, oU, oU, oU] [])) t₀
      refine XS.iconst X0.here hx rfl (hb hby at_41) ?_
      show Steps p.tables e below (s₁.setTop (mkF m 42 #[oJ p1, oS, oI p2, oJ p3, oS, oJ p4, oS, oI p5, oI p6, oJ s1, oS, oJ s2, oS, oJ s3, oS, oU, oU, oU, oU, oU, oU, oU, oU, oU, oU, oU, oU, oU, oU, oU, oU, oU, oU] [(.int (1 : Int32))])) t₀
      refine XS.goto X0.here hx rfl (pc0 := 42) (pc' := 46) rfl (hb hby at_42) (by decide) (by decide) ?_
      show Steps p.tables e below (s₁.setTop (mkF m 46 #[oJ p1, oS, oI p2, oJ p3, oS, oJ p4, oS, oI p5, oI p6, oJ s1, oS, oJ s2, oS, oJ s3, oS, oU, oU, oU, oU, oU, oU, oU, oU, oU, oU, oU, oU, oU, oU, oU, oU, oU, oU] [(.int (1 : Int32))])) t₀
      refine XS.istore X0.here hx rfl (hb hby at_46) rfl (l' := #[oJ p1, oS, oI p2, oJ p3, oS, oJ p4, oS, oI p5, oI p6, oJ s1, oS, oJ s2, oS, oJ s3, oS, oI (1 : Int32), oU, oU, oU, oU, oU, oU, oU, oU, oU, oU, oU, oU, oU, oU, oU, oU, oU]) rfl ?_
      show Steps p.tables e below (s₁.setTop (mkF m 48 #[oJ p1, oS, oI p2, oJ p3, oS, oJ p4, oS, oI p5, oI p6, oJ s1, oS, oJ s2, oS, oJ s3, oS, oI (1 : Int32), oU, oU, oU, oU, oU, oU, oU, oU, oU, oU, oU, oU, oU, oU, oU, oU, oU] [])) t₀
      refine XS.iload X0.here hx rfl (hb hby at_48) rfl ?_
      show Steps p.tables e below (s₁.setTop (mkF m 50 #[oJ p1, oS, oI p2, oJ p3, oS, oJ p4, oS, oI p5, oI p6, oJ s1, oS, oJ s2, oS, oJ s3, oS, oI (1 : Int32), oU, oU, oU, oU, oU, oU, oU, oU, oU, oU, oU, oU, oU, oU, oU, oU, oU] [(.int (1 : Int32))])) t₀
      refine XS.ifNo X0.here hx rfl (hb hby at_50) rfl ((if0 _ _).trans (feq (by decide : ¬ ((1 : Int32) = (0 : Int32)))).1) ?_
      show Steps p.tables e below (s₁.setTop (mkF m 53 #[oJ p1, oS, oI p2, oJ p3, oS, oJ p4, oS, oI p5, oI p6, oJ s1, oS, oJ s2, oS, oJ s3, oS, oI (1 : Int32), oU, oU, oU, oU, oU, oU, oU, oU, oU, oU, oU, oU, oU, oU, oU, oU, oU] [])) t₀
      refine XS.lloadN X0.here hx rfl (hb hby at_53) rfl ?_
      show Steps p.tables e below (s₁.setTop (mkF m 54 #[oJ p1, oS, oI p2, oJ p3, oS, oJ p4, oS, oI p5, oI p6, oJ s1, oS, oJ s2, oS, oJ s3, oS, oI (1 : Int32), oU, oU, oU, oU, oU, oU, oU, oU, oU, oU, oU, oU, oU, oU, oU, oU, oU] [(.long p3)])) t₀
      refine XS.goto X0.here hx rfl (pc0 := 54) (pc' := 67) rfl (hb hby at_54) (by decide) (by decide) ?_
      show Steps p.tables e below (s₁.setTop (mkF m 67 #[oJ p1, oS, oI p2, oJ p3, oS, oJ p4, oS, oI p5, oI p6, oJ s1, oS, oJ s2, oS, oJ s3, oS, oI (1 : Int32), oU, oU, oU, oU, oU, oU, oU, oU, oU, oU, oU, oU, oU, oU, oU, oU, oU] [(.long p3)])) t₀
      refine XS.lstore X0.here hx rfl (hb hby at_67) rfl (l' := #[oJ p1, oS, oI p2, oJ p3, oS, oJ p4, oS, oI p5, oI p6, oJ s1, oS, oJ s2, oS, oJ s3, oS, oI (1 : Int32), oJ p3, oS, oU, oU, oU, oU, oU, oU, oU, oU, oU, oU, oU, oU, oU, oU, oU]) rfl ?_
      exact k₀
    exact tlX p3 (1 : Int32)
set_option maxRecDepth 65536 in
set_option maxHeartbeats 40000000 in
theorem comes_1 {Post : Tables → Env → Array Value → State → Outcome → State → Prop} (hpost : ∀ tb e args s v u, (limb_1_1.after args s (.returned v) u = true ∧ limb_1_2.after args s (.returned v) u = true ∧ True) → FrameEnd s (.returned v) u (Jvm.fieldLocs frame_1_writes args s ++ Jvm.arrayLocs frame_1_arrays args s ++ Jvm.staticLocs frame_1_statics s) 24 192 → Post tb e args s (.returned v) u) :
    ArmFor flags0 classFile x code maxLocals ret World_1 tables_1 room_1 Calls_1 rest_1 Pre_1 Post := by
  intro l hfl _ _ p e ha hc hk s m args below hf hA hF happ hP
  obtain ⟨hcalls, hrest, hpre⟩ := hP
  obtain ⟨-, -, -, hnamed, -, -, -, hat⟩ := (Spec.applies_iff hf).mp happ
  obtain ⟨hg, hn⟩ := and_e (Cond.before_iff.mp (show (Jvm.Cond.and given_1 narrow_1).before args s = true from hpre))
  obtain ⟨hcount, gg⟩ := and_e hg
  obtain ⟨ga0, gg⟩ := and_e gg
  obtain ⟨ga1, gg⟩ := and_e gg
  obtain ⟨ga2, gg⟩ := and_e gg
  obtain ⟨ga3, gg⟩ := and_e gg
  obtain ⟨ga4, gg⟩ := and_e gg
  have ga5 := gg
  obtain ⟨w0, w1, w2, w3, w4, w5, rfl⟩ : ∃ w0 w1 w2 w3 w4 w5 : Value, args = #[w0, w1, w2, w3, w4, w5] := by
    have hs : args.size = 6 := by simpa [Cond.value, given_1] using hcount
    obtain ⟨L⟩ := args
    match L, hs with
    | [w0, w1, w2, w3, w4, w5], _ => exact ⟨w0, w1, w2, w3, w4, w5, rfl⟩
  have hw := fun d (hd : d ∈ tables_1) => atoms_spec (ws := Jvm.Cond.code x code maxLocals ret :: tables_1) hat d (List.mem_cons_of_mem _ hd)
  have hfit : Fit s := fun {y c} hc i hi => by
    obtain ⟨ha, rfl⟩ := Array.getElem?_eq_some_iff.mp hc
    have q := List.all_eq_true.mp ((Array.all_eq_true_iff_forall_mem.mp hF) _ (Array.getElem_mem ha)) i (List.mem_range.mpr hi)
    simpa [Array.getElem?_eq_getElem hi] using q
  obtain ⟨i0, ei0⟩ := isL_v ga0
  obtain rfl : w0 = (.long i0) := Option.some.inj ei0
  obtain ⟨i1, ei1⟩ := is_v ga1
  obtain rfl : w1 = (.int i1) := Option.some.inj ei1
  obtain ⟨i2, ei2⟩ := isL_v ga2
  obtain rfl : w2 = (.long i2) := Option.some.inj ei2
  obtain ⟨i3, ei3⟩ := isL_v ga3
  obtain rfl : w3 = (.long i3) := Option.some.inj ei3
  obtain ⟨i4, ei4⟩ := is_v ga4
  obtain rfl : w4 = (.int i4) := Option.some.inj ei4
  obtain ⟨i5, ei5⟩ := is_v ga5
  obtain rfl : w5 = (.int i5) := Option.some.inj ei5
  obtain ⟨m0, hn⟩ := and_e hn
  obtain ⟨m1, m2⟩ := and_e hn
  obtain ⟨wN, evN⟩ := arr_v m0
  obtain ⟨cl, AN⟩ := Arr.start evN m0
  obtain ⟨hsz, hsize⟩ := Jvm.Free.IntBox.length_fwd (Cond.before_iff.mpr m2) evN AN.1 AN.2.1 AN.2.2
  have VN := Arv.start (dv := .long (0 : Int64)) (vs := []) hfit AN hsz hsize (by decide) rfl trivial
  have S_NO := Sta.start evN (Or.inr ⟨(hw _ (List.mem_of_getElem? (i := 6) rfl)), (hw _ (List.mem_of_getElem? (i := 14) rfl))⟩)
  obtain ⟨n, o, h1, h2, h3, _, L, rfl, ⟨rfl, N⟩, hq⟩ := rm0 l s _ hw tables_1 i0 i1 i2 i3 i4 i5 wN cl.cls s.heap s.heap.size (Nat.le_refl _) (Old.start s) S_NO VN p e ha hc hk s m _ below hf ((Spec.applies_iff_loose hf).mp happ).1 ⟨rfl, State.Warmed39.refl s, rfl⟩ trivial
  refine ⟨n, _, h1, h2, h3, hpost _ _ _ _ _ _ ⟨Cond.after_iff.mpr rfl, Cond.after_iff.mpr (eq_i res_at (Term.int_eval (1)) rfl), trivial⟩ ⟨hq.1, hq.2.1, (hq.2.2.sift fun y hy => Or.inr (N y hy)).mono (by decide) (by decide)⟩⟩
theorem main_1_1 : Claimed_1_1 := comes_1 fun _ _ _ _ _ _ h hF => ⟨h.1, hF⟩
theorem main_1_2 : Claimed_1_2 := comes_1 fun _ _ _ _ _ _ h hF => ⟨h.2.1, hF⟩
end Jvm.Pilot.@@N@@
namespace Jvm.Pilot.@@N@@
open Jvm Jvm.ClassFile Sem Op Lib Jvm.Free Jvm.Stand Jvm.Pilot.@@N@@.Jvm.D
/-! MADE BY PROGRAM (witnessworld.py) out of the Statement's table words and the real class files: 14 classes; the members and pool entries that the words name. The judged class is class 1, her method 1. -/
namespace start1
open Jvm.ClassFile
def u (s : String) : CpInfo := .utf8 (stringToUtf16 s)
/-- a pool by its gaps: so many unusable entries, then the entry; so many at the end -/
def gap : Nat → List CpInfo → List CpInfo
  | 0, r => r
  | n + 1, r => .unusable :: gap n r
def poolList (es : List (Nat × CpInfo)) (last : Nat) : List CpInfo := es.foldr (fun e r => gap e.1 (e.2 :: r)) (gap last [])
def pool (es : List (Nat × CpInfo)) (last : Nat) : Array CpInfo := ⟨poolList es last⟩
def fileOf (pool : Array CpInfo) (this : Nat) (attrs : Array Attribute := #[]) (ms : Array MethodInfo := #[]) (fl : Nat := 33) (sup : Nat := 0) (ifs : Array Nat := #[]) (fds : Array FieldInfo := #[]) : ClassFile where
  minorVersion := 0
  majorVersion := 65
  constantPool := pool
  accessFlags := fl
  thisClass := this
  superClass := sup
  interfaces := ifs
  fields := fds
  methods := ms
  attributes := attrs
def plain (name : String) (sup : Option ClassId) : Class where
  name := name
  kind := .ordinary
  loader := none
  accessFlags := 33
  super := sup
  interfaces := #[]
  cf := none
  fields := #[]
  methods := #[]
  instanceTypes := #[]
  staticTypes := #[]
  resolved := #[]
  callSites := []
  init := .initialized
  statics := none
  mirror := none

def pool0 : Array CpInfo := pool [(5, u "<init>"), (0, u "()V"), (1, .class_ 10), (1, u "java/lang/Object")] 113

def k0c0 : Code := { maxStack := 0, maxLocals := 1, code := object_method_1_code, exceptionTable := #[], attributes := #[] }
def k0m0 : Method := { name := "<init>", desc := "()V", sig := { parameters := [], returnType := none }, accessFlags := 1, code := some k0c0 }
/-- java/lang/Object -/
def k0 : Class := { plain "java/lang/Object" none with
  accessFlags := 33
  interfaces := #[]
  cf := some (fileOf pool0 8 #[] #[{ accessFlags := 1, nameIndex := 5, descriptorIndex := 6, attributes := #[] }] 33 0 #[] #[])
  fields := #[]
  methods := #[k0m0]
  instanceTypes := #[]
  staticTypes := #[]
  resolved := Array.replicate 124 none
  statics := none }

def pool1 : Array CpInfo := pool [(2, .class_ 4), (0, .nameAndType 5 6), (0, u "java/lang/Object"), (0, u "<init>"), (0, u "()V"), (0, .long 4611686018427387903), (1, .integer 65535), (0, .long 262143), (1, .long 1000001), (1, .integer 4194303), (0, .class_ 16), (0, u "com/example/opledger/opledger/AppendTimes"), (0, .methodref 15 3), (0, .methodref 15 19), (0, .nameAndType 20 21), (0, u "record"), (0, u "(JJ)V"), (0, .methodref 15 23), (0, .nameAndType 24 25), (0, u "forgetUpTo"), (0, u "(J)V"), (0, .methodref 15 27), (0, .nameAndType 28 29), (0, u "earliestAbove"), (0, u "(J)J"), (0, .long 1000000), (1, .class_ 33), (0, u "com/example/opledger/opledger/AppendTimesForgetUpToPinLaw"), (2, u "law"), (0, u "(JIJJII)Z")] 3

def k1m0 : Method := { name := "<init>", desc := "()V", sig := { parameters := [], returnType := none }, accessFlags := 1, code := none }
def k1c1 : Code := { maxStack := 6, maxLocals := 33, code := code, exceptionTable := #[], attributes := #[] }
def k1m1 : Method := { name := "law", desc := "(JIJJII)Z", sig := { parameters := [.long, .int, .long, .long, .int, .int], returnType := some .boolean }, accessFlags := 9, code := some k1c1 }
/-- com/example/opledger/opledger/AppendTimesForgetUpToPinLaw -/
def k1 : Class := { plain "com/example/opledger/opledger/AppendTimesForgetUpToPinLaw" (some 0) with
  accessFlags := 49
  interfaces := #[]
  cf := some (fileOf pool1 32 #[] #[{ accessFlags := 1, nameIndex := 5, descriptorIndex := 6, attributes := #[] }, { accessFlags := 9, nameIndex := 36, descriptorIndex := 37, attributes := #[] }] 49 2 #[] #[])
  fields := #[]
  methods := #[k1m0, k1m1]
  instanceTypes := #[]
  staticTypes := #[]
  resolved := Array.replicate 41 none
  statics := none }

def pool2 : Array CpInfo := pool [(1, .methodref 2 3), (0, .class_ 4), (0, .nameAndType 5 6), (0, u "java/lang/Object"), (0, u "<init>"), (0, u "()V"), (0, .fieldref 8 9), (0, .class_ 10), (0, .nameAndType 11 12), (0, u "com/example/opledger/opledger/AppendTimes"), (0, u "NO_ENTRIES"), (0, u "[J"), (0, .fieldref 8 14), (0, .nameAndType 15 12), (0, u "seqNos"), (0, .fieldref 8 17), (0, .nameAndType 18 12), (0, u "starts"), (0, .fieldref 8 20), (0, .nameAndType 21 12), (0, u "ends"), (0, .fieldref 8 23), (0, .nameAndType 24 25), (0, u "last"), (0, u "I"), (2, .long 18446744073709551615), (1, .fieldref 8 31), (0, .nameAndType 32 33), (0, u "maxSeqNo"), (0, u "J"), (0, .fieldref 8 35), (0, .nameAndType 36 25), (0, u "mergeAt"), (0, .fieldref 8 38), (0, .nameAndType 39 25), (0, u "first"), (0, .long 1000000), (1, .methodref 8 43), (0, .nameAndType 44 45), (0, u "add"), (0, u "(JJ)V"), (3, u "(J)V"), (3, .methodref 54 55), (0, .class_ 56), (0, .nameAndType 57 58), (0, u "java/lang/Math"), (0, u "max"), (0, u "(II)I"), (0, .methodref 60 61), (0, .class_ 62), (0, .nameAndType 63 64), (0, u "java/util/Arrays"), (0, u "copyOf"), (0, u "([JI)[J"), (11, u "SPAN_NANOS"), (1, u "AGE_FRACTION"), (0, u "FEWEST_MERGED"), (3, u "record"), (1, u "earliestAbove"), (0, u "(J)J"), (0, u "forgetUpTo")] 3

def k2c0 : Code := { maxStack := 3, maxLocals := 1, code := prog_1_method_1_code, exceptionTable := #[], attributes := #[] }
def k2m0 : Method := { name := "<init>", desc := "()V", sig := { parameters := [], returnType := none }, accessFlags := 0, code := some k2c0 }
def k2c1 : Code := { maxStack := 5, maxLocals := 5, code := prog_1_method_2_code, exceptionTable := #[], attributes := #[] }
def k2m1 : Method := { name := "record", desc := "(JJ)V", sig := { parameters := [.long, .long], returnType := none }, accessFlags := 0, code := some k2c1 }
def k2c2 : Code := { maxStack := 4, maxLocals := 6, code := prog_1_method_3_code, exceptionTable := #[], attributes := #[] }
def k2m2 : Method := { name := "add", desc := "(JJ)V", sig := { parameters := [.long, .long], returnType := none }, accessFlags := 2, code := some k2c2 }
def k2c3 : Code := { maxStack := 4, maxLocals := 6, code := prog_1_method_6_code, exceptionTable := #[], attributes := #[] }
def k2m3 : Method := { name := "earliestAbove", desc := "(J)J", sig := { parameters := [.long], returnType := some .long }, accessFlags := 0, code := some k2c3 }
def k2c4 : Code := { maxStack := 4, maxLocals := 3, code := prog_1_method_7_code, exceptionTable := #[], attributes := #[] }
def k2m4 : Method := { name := "forgetUpTo", desc := "(J)V", sig := { parameters := [.long], returnType := none }, accessFlags := 0, code := some k2c4 }
/-- com/example/opledger/opledger/AppendTimes -/
def k2 : Class := { plain "com/example/opledger/opledger/AppendTimes" (some 0) with
  accessFlags := 48
  interfaces := #[]
  cf := some (fileOf pool2 8 #[] #[{ accessFlags := 0, nameIndex := 5, descriptorIndex := 6, attributes := #[] }, { accessFlags := 0, nameIndex := 83, descriptorIndex := 45, attributes := #[] }, { accessFlags := 2, nameIndex := 44, descriptorIndex := 45, attributes := #[] }, { accessFlags := 0, nameIndex := 85, descriptorIndex := 86, attributes := #[] }, { accessFlags := 0, nameIndex := 87, descriptorIndex := 49, attributes := #[] }] 48 2 #[] #[{ accessFlags := 24, nameIndex := 76, descriptorIndex := 33, attributes := #[] }, { accessFlags := 24, nameIndex := 78, descriptorIndex := 33, attributes := #[] }, { accessFlags := 26, nameIndex := 79, descriptorIndex := 25, attributes := #[] }, { accessFlags := 26, nameIndex := 11, descriptorIndex := 12, attributes := #[] }, { accessFlags := 2, nameIndex := 15, descriptorIndex := 12, attributes := #[] }, { accessFlags := 2, nameIndex := 18, descriptorIndex := 12, attributes := #[] }, { accessFlags := 2, nameIndex := 21, descriptorIndex := 12, attributes := #[] }, { accessFlags := 2, nameIndex := 39, descriptorIndex := 25, attributes := #[] }, { accessFlags := 2, nameIndex := 24, descriptorIndex := 25, attributes := #[] }, { accessFlags := 2, nameIndex := 32, descriptorIndex := 33, attributes := #[] }, { accessFlags := 2, nameIndex := 36, descriptorIndex := 25, attributes := #[] }])
  fields := #[{ name := "SPAN_NANOS", type := .long, accessFlags := 24, slot := 0, constantValue := 0 }, { name := "AGE_FRACTION", type := .long, accessFlags := 24, slot := 1, constantValue := 0 }, { name := "FEWEST_MERGED", type := .int, accessFlags := 26, slot := 2, constantValue := 0 }, { name := "NO_ENTRIES", type := (.array .long), accessFlags := 26, slot := 3, constantValue := 0 }, { name := "seqNos", type := (.array .long), accessFlags := 2, slot := 0, constantValue := 0 }, { name := "starts", type := (.array .long), accessFlags := 2, slot := 1, constantValue := 0 }, { name := "ends", type := (.array .long), accessFlags := 2, slot := 2, constantValue := 0 }, { name := "first", type := .int, accessFlags := 2, slot := 3, constantValue := 0 }, { name := "last", type := .int, accessFlags := 2, slot := 4, constantValue := 0 }, { name := "maxSeqNo", type := .long, accessFlags := 2, slot := 5, constantValue := 0 }, { name := "mergeAt", type := .int, accessFlags := 2, slot := 6, constantValue := 0 }]
  methods := #[k2m0, k2m1, k2m2, k2m3, k2m4]
  instanceTypes := #[(.array .long), (.array .long), (.array .long), .int, .int, .long, .int]
  staticTypes := #[.long, .long, .int, (.array .long)]
  resolved := Array.replicate 91 none
  statics := some 0 }

def pool3 : Array CpInfo := pool [(1, .class_ 2), (0, u "java/lang/Math"), (1, .class_ 6), (1, u "java/lang/Object"), (0, u "<init>"), (0, u "()V"), (89, .class_ 100), (1, u "java/lang/Math$RandomNumberGeneratorHolder"), (71, u "negativeZeroFloatBits"), (0, u "J"), (2, u "negativeZeroDoubleBits"), (21, u "max"), (2, u "min"), (43, u "$assertionsDisabled"), (0, u "Z"), (88, u "(II)I"), (2, u "twoToTheDoubleScaleDown"), (0, u "D"), (4, u "twoToTheDoubleScaleUp"), (9, u "E"), (3, u "PI"), (2, u "TAU"), (2, u "DEGREES_TO_RADIANS"), (0, u "RADIANS_TO_DEGREES")] 94

def k3m0 : Method := { name := "<init>", desc := "()V", sig := { parameters := [], returnType := none }, accessFlags := 2, code := none }
def k3c1 : Code := { maxStack := 2, maxLocals := 2, code := jdk_29_method_65_code, exceptionTable := #[], attributes := #[] }
def k3m1 : Method := { name := "max", desc := "(II)I", sig := { parameters := [.int, .int], returnType := some .int }, accessFlags := 9, code := some k3c1 }
def k3c2 : Code := { maxStack := 2, maxLocals := 2, code := jdk_29_method_69_code, exceptionTable := #[], attributes := #[] }
def k3m2 : Method := { name := "min", desc := "(II)I", sig := { parameters := [.int, .int], returnType := some .int }, accessFlags := 9, code := some k3c2 }
/-- java/lang/Math -/
def k3 : Class := { plain "java/lang/Math" (some 0) with
  accessFlags := 49
  interfaces := #[]
  cf := some (fileOf pool3 1 #[.nestMembers #[98]] #[{ accessFlags := 2, nameIndex := 7, descriptorIndex := 8, attributes := #[] }, { accessFlags := 9, nameIndex := 198, descriptorIndex := 335, attributes := #[] }, { accessFlags := 9, nameIndex := 201, descriptorIndex := 335, attributes := #[] }] 49 4 #[] #[{ accessFlags := 25, nameIndex := 354, descriptorIndex := 339, attributes := #[] }, { accessFlags := 25, nameIndex := 358, descriptorIndex := 339, attributes := #[] }, { accessFlags := 25, nameIndex := 361, descriptorIndex := 339, attributes := #[] }, { accessFlags := 26, nameIndex := 364, descriptorIndex := 339, attributes := #[] }, { accessFlags := 26, nameIndex := 365, descriptorIndex := 339, attributes := #[] }, { accessFlags := 26, nameIndex := 172, descriptorIndex := 173, attributes := #[] }, { accessFlags := 26, nameIndex := 176, descriptorIndex := 173, attributes := #[] }, { accessFlags := 8, nameIndex := 344, descriptorIndex := 339, attributes := #[] }, { accessFlags := 8, nameIndex := 338, descriptorIndex := 339, attributes := #[] }, { accessFlags := 4120, nameIndex := 245, descriptorIndex := 246, attributes := #[] }])
  fields := #[{ name := "E", type := .double, accessFlags := 25, slot := 0, constantValue := 0 }, { name := "PI", type := .double, accessFlags := 25, slot := 1, constantValue := 0 }, { name := "TAU", type := .double, accessFlags := 25, slot := 2, constantValue := 0 }, { name := "DEGREES_TO_RADIANS", type := .double, accessFlags := 26, slot := 3, constantValue := 0 }, { name := "RADIANS_TO_DEGREES", type := .double, accessFlags := 26, slot := 4, constantValue := 0 }, { name := "negativeZeroFloatBits", type := .long, accessFlags := 26, slot := 5, constantValue := 0 }, { name := "negativeZeroDoubleBits", type := .long, accessFlags := 26, slot := 6, constantValue := 0 }, { name := "twoToTheDoubleScaleUp", type := .double, accessFlags := 8, slot := 7, constantValue := 0 }, { name := "twoToTheDoubleScaleDown", type := .double, accessFlags := 8, slot := 8, constantValue := 0 }, { name := "$assertionsDisabled", type := .boolean, accessFlags := 4120, slot := 9, constantValue := 0 }]
  methods := #[k3m0, k3m1, k3m2]
  instanceTypes := #[]
  staticTypes := #[.double, .double, .double, .double, .double, .long, .long, .double, .double, .boolean]
  resolved := Array.replicate 460 none
  statics := none }

def pool4 : Array CpInfo := pool [(2, .class_ 4), (1, u "java/lang/Object"), (0, u "<init>"), (0, u "()V"), (7, .class_ 16), (1, u "java/util/Arrays"), (57, .class_ 76), (1, u "java/util/Arrays$NaturalOrder"), (36, .class_ 115), (1, u "java/util/Arrays$LegacyMergeSort"), (1, u "Z"), (32, .methodref 151 152), (0, .class_ 153), (0, .nameAndType 154 155), (0, u "java/lang/System"), (0, u "arraycopy"), (0, u "(Ljava/lang/Object;ILjava/lang/Object;II)V"), (146, u "copyOf"), (1, .methodref 305 306), (0, .class_ 307), (0, .nameAndType 308 309), (0, u "java/lang/Math"), (0, u "min"), (0, u "(II)I"), (65, .class_ 376), (0, u "java/util/Arrays$ArrayList"), (68, u "$assertionsDisabled"), (269, u "MIN_ARRAY_SORT_GRAN"), (0, u "I"), (2, u "INSERTIONSORT_THRESHOLD"), (152, u "([JI)[J"), (102, .class_ 976), (0, u "java/util/Arrays$ArrayItr")] 52

def k4m0 : Method := { name := "<init>", desc := "()V", sig := { parameters := [], returnType := none }, accessFlags := 2, code := none }
def k4c1 : Code := { maxStack := 6, maxLocals := 3, code := jdk_65_method_124_code, exceptionTable := #[], attributes := #[] }
def k4m1 : Method := { name := "copyOf", desc := "([JI)[J", sig := { parameters := [(.array .long), .int], returnType := some (.array .long) }, accessFlags := 9, code := some k4c1 }
/-- java/util/Arrays -/
def k4 : Class := { plain "java/util/Arrays" (some 0) with
  accessFlags := 49
  interfaces := #[]
  cf := some (fileOf pool4 14 #[.nestMembers #[975, 375, 113, 74]] #[{ accessFlags := 2, nameIndex := 5, descriptorIndex := 6, attributes := #[] }, { accessFlags := 9, nameIndex := 302, descriptorIndex := 872, attributes := #[] }] 49 2 #[] #[{ accessFlags := 26, nameIndex := 715, descriptorIndex := 716, attributes := #[] }, { accessFlags := 26, nameIndex := 719, descriptorIndex := 716, attributes := #[] }, { accessFlags := 4120, nameIndex := 445, descriptorIndex := 117, attributes := #[] }])
  fields := #[{ name := "MIN_ARRAY_SORT_GRAN", type := .int, accessFlags := 26, slot := 0, constantValue := 0 }, { name := "INSERTIONSORT_THRESHOLD", type := .int, accessFlags := 26, slot := 1, constantValue := 0 }, { name := "$assertionsDisabled", type := .boolean, accessFlags := 4120, slot := 2, constantValue := 0 }]
  methods := #[k4m0, k4m1]
  instanceTypes := #[]
  staticTypes := #[.int, .int, .boolean]
  resolved := Array.replicate 1029 none
  statics := none }

def pool5 : Array CpInfo := pool [(2, .class_ 4), (1, u "java/lang/Object"), (0, u "<init>"), (0, u "()V"), (1, .class_ 10), (1, u "java/lang/System"), (0, u "allowSecurityManager"), (0, u "I"), (16, u "cons"), (0, u "Ljava/io/Console;"), (77, .class_ 110), (1, u "java/lang/System$CallersHolder"), (43, u "initialErrStream"), (0, u "Ljava/io/PrintStream;"), (19, u "security"), (0, u "Ljava/lang/SecurityManager;"), (31, .class_ 209), (0, u "java/lang/System$1"), (7, u "props"), (0, u "Ljava/util/Properties;"), (2, u "lineSeparator"), (0, u "Ljava/lang/String;"), (96, .class_ 321), (1, u "java/lang/System$LoggerFinder"), (5, .class_ 328), (0, u "java/lang/System$Logger"), (67, u "err"), (2, u "out"), (91, u "notSupportedJnuEncoding"), (15, u "in"), (17, u "initialIn"), (0, u "Ljava/io/InputStream;"), (35, u "bootLayer"), (0, u "Ljava/lang/ModuleLayer;"), (99, .class_ 664), (0, u "java/lang/System$2"), (9, u "NEVER"), (2, u "MAYBE"), (49, u "arraycopy"), (0, u "(Ljava/lang/Object;ILjava/lang/Object;II)V"), (72, .class_ 802), (0, u "java/lang/System$Logger$Level")] 31

def k5m0 : Method := { name := "<init>", desc := "()V", sig := { parameters := [], returnType := none }, accessFlags := 2, code := none }
def k5m1 : Method := { name := "arraycopy", desc := "(Ljava/lang/Object;ILjava/lang/Object;II)V", sig := { parameters := [(.object "java/lang/Object"), .int, (.object "java/lang/Object"), .int, .int], returnType := none }, accessFlags := 265, code := none }
/-- java/lang/System -/
def k5 : Class := { plain "java/lang/System" (some 0) with
  accessFlags := 49
  interfaces := #[]
  cf := some (fileOf pool5 8 #[.nestMembers #[319, 327, 801, 108, 663, 208]] #[{ accessFlags := 2, nameIndex := 5, descriptorIndex := 6, attributes := #[] }, { accessFlags := 265, nameIndex := 727, descriptorIndex := 728, attributes := #[] }] 49 2 #[] #[{ accessFlags := 25, nameIndex := 507, descriptorIndex := 526, attributes := #[] }, { accessFlags := 25, nameIndex := 399, descriptorIndex := 155, attributes := #[] }, { accessFlags := 25, nameIndex := 396, descriptorIndex := 155, attributes := #[] }, { accessFlags := 10, nameIndex := 525, descriptorIndex := 526, attributes := #[] }, { accessFlags := 26, nameIndex := 674, descriptorIndex := 12, attributes := #[] }, { accessFlags := 26, nameIndex := 677, descriptorIndex := 12, attributes := #[] }, { accessFlags := 10, nameIndex := 11, descriptorIndex := 12, attributes := #[] }, { accessFlags := 74, nameIndex := 175, descriptorIndex := 176, attributes := #[] }, { accessFlags := 10, nameIndex := 491, descriptorIndex := 222, attributes := #[] }, { accessFlags := 74, nameIndex := 29, descriptorIndex := 30, attributes := #[] }, { accessFlags := 74, nameIndex := 154, descriptorIndex := 155, attributes := #[] }, { accessFlags := 10, nameIndex := 217, descriptorIndex := 218, attributes := #[] }, { accessFlags := 10, nameIndex := 221, descriptorIndex := 222, attributes := #[] }, { accessFlags := 8, nameIndex := 562, descriptorIndex := 563, attributes := #[] }])
  fields := #[{ name := "in", type := (.object "java/io/InputStream"), accessFlags := 25, slot := 0, constantValue := 0 }, { name := "out", type := (.object "java/io/PrintStream"), accessFlags := 25, slot := 1, constantValue := 0 }, { name := "err", type := (.object "java/io/PrintStream"), accessFlags := 25, slot := 2, constantValue := 0 }, { name := "initialIn", type := (.object "java/io/InputStream"), accessFlags := 10, slot := 3, constantValue := 0 }, { name := "NEVER", type := .int, accessFlags := 26, slot := 4, constantValue := 0 }, { name := "MAYBE", type := .int, accessFlags := 26, slot := 5, constantValue := 0 }, { name := "allowSecurityManager", type := .int, accessFlags := 10, slot := 6, constantValue := 0 }, { name := "security", type := (.object "java/lang/SecurityManager"), accessFlags := 74, slot := 7, constantValue := 0 }, { name := "notSupportedJnuEncoding", type := (.object "java/lang/String"), accessFlags := 10, slot := 8, constantValue := 0 }, { name := "cons", type := (.object "java/io/Console"), accessFlags := 74, slot := 9, constantValue := 0 }, { name := "initialErrStream", type := (.object "java/io/PrintStream"), accessFlags := 74, slot := 10, constantValue := 0 }, { name := "props", type := (.object "java/util/Properties"), accessFlags := 10, slot := 11, constantValue := 0 }, { name := "lineSeparator", type := (.object "java/lang/String"), accessFlags := 10, slot := 12, constantValue := 0 }, { name := "bootLayer", type := (.object "java/lang/ModuleLayer"), accessFlags := 8, slot := 13, constantValue := 0 }]
  methods := #[k5m0, k5m1]
  instanceTypes := #[]
  staticTypes := #[(.object "java/io/InputStream"), (.object "java/io/PrintStream"), (.object "java/io/PrintStream"), (.object "java/io/InputStream"), .int, .int, .int, (.object "java/lang/SecurityManager"), (.object "java/lang/String"), (.object "java/io/Console"), (.object "java/io/PrintStream"), (.object "java/util/Properties"), (.object "java/lang/String"), (.object "java/lang/ModuleLayer")]
  resolved := Array.replicate 834 none
  statics := none }

def pool6 : Array CpInfo := pool [(1, u "java/lang/Cloneable"), (0, .class_ 1), (0, u "java/lang/Object"), (0, .class_ 3)] 3

/-- java/lang/Cloneable -/
def k6 : Class := { plain "java/lang/Cloneable" (some 0) with
  accessFlags := 1537
  interfaces := #[]
  cf := some (fileOf pool6 2 #[] #[] 1537 4 #[] #[])
  fields := #[]
  methods := #[]
  instanceTypes := #[]
  staticTypes := #[]
  resolved := Array.replicate 8 none
  statics := none }

def pool7 : Array CpInfo := pool [(1, u "java/io/Serializable"), (0, .class_ 1), (0, u "java/lang/Object"), (0, .class_ 3)] 3

/-- java/io/Serializable -/
def k7 : Class := { plain "java/io/Serializable" (some 0) with
  accessFlags := 1537
  interfaces := #[]
  cf := some (fileOf pool7 2 #[] #[] 1537 4 #[] #[])
  fields := #[]
  methods := #[]
  instanceTypes := #[]
  staticTypes := #[]
  resolved := Array.replicate 8 none
  statics := none }

/-- the primitive byte -/
def k8 : Class := { plain "byte" none with kind := .primitive 'B', accessFlags := 0x411 }
/-- [B -/
def k9 : Class := { plain "[B" (some 0) with kind := .array 8 .byte, interfaces := #[6, 7], accessFlags := 1041 }

/-- the primitive int -/
def k10 : Class := { plain "int" none with kind := .primitive 'I', accessFlags := 0x411 }
/-- [I -/
def k11 : Class := { plain "[I" (some 0) with kind := .array 10 .int, interfaces := #[6, 7], accessFlags := 1041 }

/-- the primitive long -/
def k12 : Class := { plain "long" none with kind := .primitive 'J', accessFlags := 0x411 }
/-- [J -/
def k13 : Class := { plain "[J" (some 0) with kind := .array 12 .long, interfaces := #[6, 7], accessFlags := 1041 }

def heap : Heap := #[{ cls := 2, slots := #[.long 0, .long 0, .int 0, .ref 1], vm := .statics 2 },
  { cls := 13, slots := #[], vm := .none }]
def classes : Array Class := #[k0, k1, k2, k3, k4, k5, k6, k7, k8, k9, k10, k11, k12, k13]
def interned : List (Array UInt16 × Addr) := []
def slotsUsed : Nat := 4
def theMethod : MethodId := ⟨1, 1⟩
def args0 : Array Value := #[.long 5, .int 4, .long 5, .long 4, .int 0, .int 7]
def aboutOver (below : List Frame) : State where
  vm := { classes := classes, interned := interned.toArray }
  heap := heap
  slotsUsed := slotsUsed
  threads := #[{ frames := .invoking theMethod args0 :: below }]
def below0 : List Frame := [.native { method := ⟨0, 0⟩, args := #[] }]
def about1 : State := aboutOver below0
def p0 : Program := .bare "" "" ""
def e0 : Env := launch0.env 0 0 0
theorem w_frames : about1.frames = Frame.invoking theMethod args0 :: below0 := rfl
set_option maxRecDepth 65536 in
theorem w_args : argsFit about1.vm theMethod args0 = true := by decide +kernel
set_option maxRecDepth 65536 in
theorem w_heap : heapFits about1 = true := by decide +kernel
set_option maxRecDepth 65536 in
theorem w_runnable : about1.curStatus? = some .runnable := by decide +kernel
set_option maxRecDepth 65536 in
theorem w_alone : about1.alone = true := by decide +kernel
set_option maxRecDepth 65536 in
theorem w_named : about1.methodNamed? x = some theMethod := by decide +kernel
set_option maxRecDepth 65536 in
theorem w_hears : about1.hears theMethod below0 = true := by decide +kernel
set_option maxRecDepth 65536 in
theorem w_ripe : about1.ripe theMethod args0 below0 = true := by decide +kernel
theorem w_running : about1.status = .running := rfl
set_option maxRecDepth 65536 in
theorem w_room : about1.hasRoom e0.platform room_1 = true :=
  launch0.hasRoom_least _ room_1 (by decide +kernel) (by decide +kernel) (by decide +kernel) (by decide +kernel) (by decide +kernel) (by decide +kernel)
theorem allAtoms_all (ts : List Jvm.Cond) (a : Array Jvm.Value) (st : Jvm.State) : (allAtoms ts).before a st = ts.all (fun c => c.before a st) := by
  induction ts with
  | nil => rfl
  | cons c t ih =>
    show (Jvm.Cond.and c (allAtoms t)).before a st = _
    rw [Jvm.Cond.before_and, ih, List.all_cons]
def words1 : List Jvm.Cond := Jvm.Cond.code x code maxLocals ret :: tables_1
/-- a 'code' word, met by the world's own term for the bytes: nothing is compared byte by byte -/
theorem code_word {y : MethodName} {bytes : ByteArray} {mx : Nat} {rt : Option FieldType} {a : Array Value} {s : State} {m : MethodId} {meth : Method} {c : Code} (h1 : s.methodNamed? y = some m) (h2 : s.vm.method? m = some meth) (h3 : meth.code = some c) (h4 : c.code = bytes)
    (h5 : (c.maxLocals == mx && c.exceptionTable.isEmpty && decide (c.maxStack ≤ mostOperands) && decide (meth.sig.returnType = rt) && !meth.locks && decide (parseMethodDescriptor y.desc = some meth.sig)) = true) : (Jvm.Cond.code y bytes mx rt).before a s = true := by
  simp only [Bool.and_eq_true, beq_iff_eq, Bool.not_eq_true', decide_eq_true_eq] at h5
  obtain ⟨⟨⟨⟨⟨g1, g2⟩, g3⟩, g4⟩, g5⟩, g6⟩ := h5
  simp [Cond.before, Cond.holds, Cond.value, h1, h2, h3, h4, g1, g2, g3, g4, g5, g6]
def isCode : Jvm.Cond → Bool
  | .code _ _ _ _ => true
  | _ => false
theorem all_split {L : List Jvm.Cond} {P : Jvm.Cond → Bool} (h1 : L.all (fun c => isCode c || P c) = true) (h2 : ∀ c ∈ L.filter isCode, P c = true) : L.all P = true := by
  refine List.all_eq_true.mpr fun c hc => ?_
  have h := List.all_eq_true.mp h1 c hc
  rcases Bool.eq_false_or_eq_true (isCode c) with hi | hi
  · exact h2 c (List.mem_filter.mpr ⟨hc, hi⟩)
  · simpa [hi] using h
set_option maxRecDepth 65536 in
theorem w_c0 : (Jvm.Cond.code x code maxLocals ret).before args0 about1 = true := code_word (m := ⟨1, 1⟩) (meth := k1m1) (c := k1c1) (by decide +kernel) rfl rfl rfl (by decide +kernel)
set_option maxRecDepth 65536 in
theorem w_c1 : (Jvm.Cond.code ({ cls := "com/example/opledger/opledger/AppendTimes", name := "<init>", desc := "()V" } : Jvm.MethodName) prog_1_method_1_code (1 : Nat) (Option.none : Option Jvm.ClassFile.FieldType)).before args0 about1 = true := code_word (m := ⟨2, 0⟩) (meth := k2m0) (c := k2c0) (by decide +kernel) rfl rfl rfl (by decide +kernel)
set_option maxRecDepth 65536 in
theorem w_c2 : (Jvm.Cond.code ({ cls := "java/lang/Object", name := "<init>", desc := "()V" } : Jvm.MethodName) object_method_1_code (1 : Nat) (Option.none : Option Jvm.ClassFile.FieldType)).before args0 about1 = true := code_word (m := ⟨0, 0⟩) (meth := k0m0) (c := k0c0) (by decide +kernel) rfl rfl rfl (by decide +kernel)
set_option maxRecDepth 65536 in
theorem w_c3 : (Jvm.Cond.code ({ cls := "com/example/opledger/opledger/AppendTimes", name := "record", desc := "(JJ)V" } : Jvm.MethodName) prog_1_method_2_code (5 : Nat) (Option.none : Option Jvm.ClassFile.FieldType)).before args0 about1 = true := code_word (m := ⟨2, 1⟩) (meth := k2m1) (c := k2c1) (by decide +kernel) rfl rfl rfl (by decide +kernel)
set_option maxRecDepth 65536 in
theorem w_c4 : (Jvm.Cond.code ({ cls := "com/example/opledger/opledger/AppendTimes", name := "add", desc := "(JJ)V" } : Jvm.MethodName) prog_1_method_3_code (6 : Nat) (Option.none : Option Jvm.ClassFile.FieldType)).before args0 about1 = true := code_word (m := ⟨2, 2⟩) (meth := k2m2) (c := k2c2) (by decide +kernel) rfl rfl rfl (by decide +kernel)
set_option maxRecDepth 65536 in
theorem w_c5 : (Jvm.Cond.code ({ cls := "java/lang/Math", name := "max", desc := "(II)I" } : Jvm.MethodName) jdk_29_method_65_code (2 : Nat) (Option.some Jvm.ClassFile.FieldType.int)).before args0 about1 = true := code_word (m := ⟨3, 1⟩) (meth := k3m1) (c := k3c1) (by decide +kernel) rfl rfl rfl (by decide +kernel)
set_option maxRecDepth 65536 in
theorem w_c6 : (Jvm.Cond.code ({ cls := "java/util/Arrays", name := "copyOf", desc := "([JI)[J" } : Jvm.MethodName) jdk_65_method_124_code (3 : Nat) (Option.some (Jvm.ClassFile.FieldType.array Jvm.ClassFile.FieldType.long))).before args0 about1 = true := code_word (m := ⟨4, 1⟩) (meth := k4m1) (c := k4c1) (by decide +kernel) rfl rfl rfl (by decide +kernel)
set_option maxRecDepth 65536 in
theorem w_c7 : (Jvm.Cond.code ({ cls := "java/lang/Math", name := "min", desc := "(II)I" } : Jvm.MethodName) jdk_29_method_69_code (2 : Nat) (Option.some Jvm.ClassFile.FieldType.int)).before args0 about1 = true := code_word (m := ⟨3, 2⟩) (meth := k3m2) (c := k3c2) (by decide +kernel) rfl rfl rfl (by decide +kernel)
set_option maxRecDepth 65536 in
theorem w_c8 : (Jvm.Cond.code ({ cls := "com/example/opledger/opledger/AppendTimes", name := "forgetUpTo", desc := "(J)V" } : Jvm.MethodName) prog_1_method_7_code (3 : Nat) (Option.none : Option Jvm.ClassFile.FieldType)).before args0 about1 = true := code_word (m := ⟨2, 4⟩) (meth := k2m4) (c := k2c4) (by decide +kernel) rfl rfl rfl (by decide +kernel)
set_option maxRecDepth 65536 in
theorem w_c9 : (Jvm.Cond.code ({ cls := "com/example/opledger/opledger/AppendTimes", name := "earliestAbove", desc := "(J)J" } : Jvm.MethodName) prog_1_method_6_code (6 : Nat) (Option.some Jvm.ClassFile.FieldType.long)).before args0 about1 = true := code_word (m := ⟨2, 3⟩) (meth := k2m3) (c := k2c3) (by decide +kernel) rfl rfl rfl (by decide +kernel)
def codes1 : List Jvm.Cond := [Jvm.Cond.code x code maxLocals ret, Jvm.Cond.code ({ cls := "com/example/opledger/opledger/AppendTimes", name := "<init>", desc := "()V" } : Jvm.MethodName) prog_1_method_1_code (1 : Nat) (Option.none : Option Jvm.ClassFile.FieldType), Jvm.Cond.code ({ cls := "java/lang/Object", name := "<init>", desc := "()V" } : Jvm.MethodName) object_method_1_code (1 : Nat) (Option.none : Option Jvm.ClassFile.FieldType), Jvm.Cond.code ({ cls := "com/example/opledger/opledger/AppendTimes", name := "record", desc := "(JJ)V" } : Jvm.MethodName) prog_1_method_2_code (5 : Nat) (Option.none : Option Jvm.ClassFile.FieldType), Jvm.Cond.code ({ cls := "com/example/opledger/opledger/AppendTimes", name := "add", desc := "(JJ)V" } : Jvm.MethodName) prog_1_method_3_code (6 : Nat) (Option.none : Option Jvm.ClassFile.FieldType), Jvm.Cond.code ({ cls := "java/lang/Math", name := "max", desc := "(II)I" } : Jvm.MethodName) jdk_29_method_65_code (2 : Nat) (Option.some Jvm.ClassFile.FieldType.int), Jvm.Cond.code ({ cls := "java/util/Arrays", name := "copyOf", desc := "([JI)[J" } : Jvm.MethodName) jdk_65_method_124_code (3 : Nat) (Option.some (Jvm.ClassFile.FieldType.array Jvm.ClassFile.FieldType.long)), Jvm.Cond.code ({ cls := "java/lang/Math", name := "min", desc := "(II)I" } : Jvm.MethodName) jdk_29_method_69_code (2 : Nat) (Option.some Jvm.ClassFile.FieldType.int), Jvm.Cond.code ({ cls := "com/example/opledger/opledger/AppendTimes", name := "forgetUpTo", desc := "(J)V" } : Jvm.MethodName) prog_1_method_7_code (3 : Nat) (Option.none : Option Jvm.ClassFile.FieldType), Jvm.Cond.code ({ cls := "com/example/opledger/opledger/AppendTimes", name := "earliestAbove", desc := "(J)J" } : Jvm.MethodName) prog_1_method_6_code (6 : Nat) (Option.some Jvm.ClassFile.FieldType.long)]
set_option maxRecDepth 65536 in
theorem codes_eq : words1.filter isCode = codes1 := rfl
theorem w_codes : ∀ c ∈ words1.filter isCode, c.before args0 about1 = true := by
  rw [codes_eq]
  intro c hc
  simp only [codes1, List.mem_cons, List.not_mem_nil, or_false] at hc
  rcases hc with rfl | rfl | rfl | rfl | rfl | rfl | rfl | rfl | rfl | rfl
  · exact w_c0
  · exact w_c1
  · exact w_c2
  · exact w_c3
  · exact w_c4
  · exact w_c5
  · exact w_c6
  · exact w_c7
  · exact w_c8
  · exact w_c9
set_option maxRecDepth 65536 in
theorem w_t1 : (words1.take 24).all (fun c => isCode c || c.before args0 about1) = true := by decide +kernel
set_option maxRecDepth 65536 in
theorem w_t2 : ((words1.drop 24).take 24).all (fun c => isCode c || c.before args0 about1) = true := by decide +kernel
set_option maxRecDepth 65536 in
theorem w_t3 : ((words1.drop 24).drop 24).all (fun c => isCode c || c.before args0 about1) = true := by decide +kernel
theorem w_tables : (allAtoms (Jvm.Cond.code x code maxLocals ret :: tables_1)).before args0 about1 = true := by
  rw [allAtoms_all]
  show words1.all (fun c => c.before args0 about1) = true
  refine all_split ?_ w_codes
  rw [← List.take_append_drop 24 words1, List.all_append, w_t1, ← List.take_append_drop 24 (words1.drop 24), List.all_append, w_t2, w_t3]
  rfl
set_option maxRecDepth 65536 in
theorem w_case : (Jvm.Cond.and given_1 narrow_1).before args0 about1 = true := by decide +kernel
theorem w_applies : (headSpec (Jvm.Cond.code x code maxLocals ret :: tables_1) room_1).applies x e0.platform about1 = true :=
  (Spec.applies_iff w_frames).mpr ⟨w_running, w_runnable, w_alone, w_named, w_hears, w_ripe, w_room, w_tables⟩
theorem atStart : AtStart classFile x code maxLocals ret World_1 tables_1 room_1 Calls_1 rest_1 Pre_1 launch0 p0 e0 about1 theMethod args0 below0 :=
  ⟨lists_1, trivial, launch0.admits_env _ _ _, launch0.least_env, fairChoices_fair.cas, fairChoices_fair.clock, w_frames, w_args, w_heap, w_applies, trivial, trivial, w_case⟩
end start1
theorem witness_1 : WitnessClaimed_1 := ⟨start1.p0, start1.e0, start1.about1, start1.theMethod, start1.args0, start1.below0, start1.atStart⟩
end Jvm.Pilot.@@N@@
