import JvmDerived
import JvmDerived.Pilot.@@N@@Statement
import JvmDerived.Pilot.@@N@@Code
set_option linter.unusedVariables false
set_option linter.unusedSimpArgs false
namespace Jvm.Pilot.@@N@@
open Jvm Jvm.ClassFile Sem Op Lib Jvm.Free Jvm.Stand Jvm.LawKit Jvm.RoadKit Bundle Jvm.Pilot.@@N@@.Jvm.D
/-- a predicate that goes backwards over the machine's steps -/
def OwnAdv (p : Program) (e : Env) (below : List Frame) (G : State → Prop) : Prop := ∀ A B : State, (∀ t, Steps p.tables e below B t → Steps p.tables e below A t) → G B → G A
/-- what a return must show -/
def OwnFin (p : Program) (l : Launch) (e : Env) (R : Room) (s : State) (m : MethodId) (args : Array Value) (below : List Frame) (meth : Method) (c : Code) (G : State → Prop) (Q : Option Value → Heap → List Loc → Prop) (kc ks : Nat) : Prop :=
  ∀ (A T : State) (locs : List Loc) (cells slots : Nat) (v : Option Value) (h : Heap), Stand p l e R s m args below meth c T locs cells slots → T.heap = h → (meth.sig.returnType = none → v = none) → cells ≤ kc → slots ≤ ks → Q v h locs →
    (∀ fs : List Frame, (∀ (f : JFrame) (acts : List Action), f.method = m → f.locked = none → f.entered = [] → (doReturn e (T.setTop f) acts v).1 = T.setFrames fs) → Steps p.tables e below A (T.setFrames fs)) → G A
theorem own_body {l : Launch} {y : MethodName} {bytes : ByteArray} {maxL : Nat} {rt : Option FieldType} {ws : List Jvm.Cond} {rm : Room} {as' : Array Value} {Z : State} {h0 : Heap} {Q : Option Value → Heap → List Loc → Prop} (hpl : plainFor y = true)
    (body : ∀ (p : Program) (e : Env) (s : State) (m : MethodId) (below : List Frame) (meth : Method) (c : Code) (s₁ : State) (G : State → Prop), Stand p l e rm s m as' below meth c s₁ [] 0 0 → p.tables.exec = Jvm.exec → Z.Warmed39 s.vm → c.code = bytes → c.maxLocals = maxL → s.vm.findClass y.cls = some m.cls → meth.name = y.name → meth.sig.returnType = rt → s₁.heap = h0 →
      OwnAdv p e below G → OwnFin p l e rm s m as' below meth c G Q rm.cells rm.slots → G (s₁.setTop (entryFrame m as' maxL))) :
    MetFree l y (head1 (Jvm.Cond.code y bytes maxL rt :: ws) rm) (fun a U => a = as' ∧ Z.Warmed39 U.vm ∧ U.heap = h0) (fun _ _ _ _ _ => True) (fun _ U o U' => ∃ v L, o = .returned v ∧ Q v U'.heap L ∧ FrameEnd U o U' L rm.cells rm.slots) := by
  refine MetFree.of_bodySF hpl hisR ?_
  intro p e s m args below meth c s₁ Bd hml0 hP hK
  obtain ⟨rfl, hZ, hh⟩ := hP
  have e0 : s₁.heap = h0 := by rw [← hh, Bd.state]; rfl
  refine body p e s m below meth c s₁ (fun A => ∃ s₂ o, Steps p.tables e below A s₂ ∧ s₂.status = .running ∧ Ended s₂ below o ∧ ∃ v L, o = .returned v ∧ Q v s₂.heap L ∧ FrameEnd s o s₂ L rm.cells rm.slots) (Stand.of_body Bd) Bd.exec hZ Bd.bytes hml0 (findClass_of_methodNamed Bd.named) (name_of_methodNamed Bd.named Bd.method).1 Bd.returns e0 ?_ ?_
  · intro A B h g
    obtain ⟨t, o, st, r⟩ := g
    exact ⟨t, o, h t st, r⟩
  · intro A T locs cells slots v h X eT hv hc hl hQ hs
    obtain ⟨fs, hr, hrun, hended, hW, hsame⟩ := X.leave (v := v) hv Bd.notSynchronized
    exact ⟨_, _, hs fs hr, hrun, hended, v, locs, rfl, (show Q v T.heap locs by rw [eT]; exact hQ), ⟨_, rfl⟩, hW, hsame.mono hc hl⟩
section OwnRet
variable {p : Program} {l : Launch} {e : Env} {R : Room} {s : State} {m : MethodId} {args : Array Value} {below : List Frame} {meth : Method} {c : Code} {T : State} {locs : List Loc} {cells slots : Nat}
theorem own_retI (X : Stand p l e R s m args below meth c T locs cells slots) (hx : p.tables.exec = Jvm.exec) {pc : Nat} {Ls : Array Slot} {z : Int32} {rest : List Value} (hret : meth.sig.returnType = some .int) (hd : decode c.code pc = .ok (.ireturn, 1)) {fs : List Frame}
    (hl : ∀ (f : JFrame) (acts : List Action), f.method = m → f.locked = none → f.entered = [] → (doReturn e (T.setTop f) acts (some (.int z))).1 = T.setFrames fs) : Steps p.tables e below (T.setTop (mkF m pc Ls (.int z :: rest))) (T.setFrames fs) :=
  retOut X hx hret rfl (Or.inl ⟨rfl, Or.inl rfl, z, rfl⟩) hd hl
theorem own_retJ (X : Stand p l e R s m args below meth c T locs cells slots) (hx : p.tables.exec = Jvm.exec) {pc : Nat} {Ls : Array Slot} {z : Int64} {rest : List Value} (hret : meth.sig.returnType = some .long) (hd : decode c.code pc = .ok (.lreturn, 1)) {fs : List Frame}
    (hl : ∀ (f : JFrame) (acts : List Action), f.method = m → f.locked = none → f.entered = [] → (doReturn e (T.setTop f) acts (some (.long z))).1 = T.setFrames fs) : Steps p.tables e below (T.setTop (mkF m pc Ls (.long z :: rest))) (T.setFrames fs) :=
  retOut X hx hret rfl (Or.inr (Or.inl ⟨rfl, rfl, z, rfl⟩)) hd hl
theorem own_retA (X : Stand p l e R s m args below meth c T locs cells slots) (hx : p.tables.exec = Jvm.exec) {pc : Nat} {Ls : Array Slot} {w : Value} {t : FieldType} {rest : List Value} (hret : meth.sig.returnType = some t) (ht : t.isReference = true) (hn : narrow t w = w) (hw : w.isRef = true) (hd : decode c.code pc = .ok (.areturn, 1)) {fs : List Frame}
    (hl : ∀ (f : JFrame) (acts : List Action), f.method = m → f.locked = none → f.entered = [] → (doReturn e (T.setTop f) acts (some w)).1 = T.setFrames fs) : Steps p.tables e below (T.setTop (mkF m pc Ls (w :: rest))) (T.setFrames fs) :=
  retOut X hx hret hn (Or.inr (Or.inr (Or.inr (Or.inr ⟨rfl, ht, hw⟩)))) hd hl
end OwnRet

theorem pd_0 : parseMethodDescriptor "(I)Lcom/example/concordat/concordat/core/Access;" = some ⟨[.int], some (.object "com/example/concordat/concordat/core/Access")⟩ := by decide +kernel
theorem pd_1 : parseMethodDescriptor "(Lcom/example/concordat/concordat/core/Access;)Z" = some ⟨[(.object "com/example/concordat/concordat/core/Access")], some .boolean⟩ := by decide +kernel
theorem own_a11 (x : Int32) : x &&& (1 : Int32) &&& (1 : Int32) = x &&& (1 : Int32) := by rw [Int32.and_assoc, Int32.and_self]
theorem d1_0 : decode method_2_code 0 = .ok (.iload_n 0, 1) := by decide +kernel
theorem d1_1 : decode method_2_code 1 = .ok (.iconst 1, 1) := by decide +kernel
theorem d1_2 : decode method_2_code 2 = .ok (.iand, 1) := by decide +kernel
theorem d1_3 : decode method_2_code 3 = .ok (.ifCond .ne 7, 3) := by decide +kernel
theorem d1_6 : decode method_2_code 6 = .ok (.getstatic 7, 3) := by decide +kernel
theorem d1_9 : decode method_2_code 9 = .ok (.areturn, 1) := by decide +kernel
theorem d1_10 : decode method_2_code 10 = .ok (.getstatic 13, 3) := by decide +kernel
theorem d1_13 : decode method_2_code 13 = .ok (.areturn, 1) := by decide +kernel
theorem pn_1 : plainFor (⟨"com/example/concordat/concordat/core/AccessIncludesPinLaw", "pick", "(I)Lcom/example/concordat/concordat/core/Access;"⟩ : MethodName) = true := plainFor_of_name (by first | (simp [plainName, overriddenIn]; done) | decide +kernel)
theorem ef_rm1 (m : MethodId) (x0 : Int32) : entryFrame m #[(.int x0)] 1 = mkF m 0 #[.val (.int x0)] [] := by first | (simp [entryFrame, mkF, argsToLocals, Value.category]; done) | rfl
def Q_rm1 (Z : State) (k : Int32) (wR wW r : Addr) (h0 : Heap) (n0 : Nat) (v : Option Value) (h : Heap) (L : List Loc) : Prop := v = some (.ref r) ∧ Fr n0 L ∧ h = h0
set_option maxRecDepth 65536 in
set_option maxHeartbeats 40000000 in
theorem rm1 (l : Launch) (Z : State) (a0 : Array Value) (hw : ∀ d ∈ tables_1, d.before a0 Z = true) (ws : List Jvm.Cond) (k : Int32) (wR wW r : Addr) (h0 : Heap) (n0 : Nat) (Z0 : n0 ≤ h0.size) (S_READ : Sta Z h0 "com/example/concordat/concordat/core/Access" "READ" "Lcom/example/concordat/concordat/core/Access;" (.ref wR)) (S_WRITE : Sta Z h0 "com/example/concordat/concordat/core/Access" "WRITE" "Lcom/example/concordat/concordat/core/Access;" (.ref wW)) (hr : (if k &&& (1 : Int32) = (0 : Int32) then wR else wW) = r) :
    MetFree l (⟨"com/example/concordat/concordat/core/AccessIncludesPinLaw", "pick", "(I)Lcom/example/concordat/concordat/core/Access;"⟩ : MethodName) (head1 (Jvm.Cond.code (⟨"com/example/concordat/concordat/core/AccessIncludesPinLaw", "pick", "(I)Lcom/example/concordat/concordat/core/Access;"⟩ : MethodName) method_2_code 1 (some (.object "com/example/concordat/concordat/core/Access")) :: ws) ({ frames := 0, cells := 0, slots := 0, locals := 0 } : Room)) (fun a U => a = #[(.int k)] ∧ Z.Warmed39 U.vm ∧ U.heap = h0) (fun _ _ _ _ _ => True) (fun _ U o U' => ∃ v L, o = .returned v ∧ Q_rm1 Z k wR wW r h0 n0 v U'.heap L ∧ FrameEnd U o U' L ({ frames := 0, cells := 0, slots := 0, locals := 0 } : Room).cells ({ frames := 0, cells := 0, slots := 0, locals := 0 } : Room).slots) := by
  refine own_body (Q := fun v h L => Q_rm1 Z k wR wW r h0 n0 v h L) pn_1 ?_
  intro p e s m below meth c s₁ G X0 hx hZ hby hml hown hnm hrt e0 hG hF
  have hown : s.vm.findClass "com/example/concordat/concordat/core/AccessIncludesPinLaw" = some m.cls := hown
  have N0 := Fr.nil n0
  rw [ef_rm1 m k]
  show G (s₁.setTop (mkF m 0 #[.val (.int k)] []))
  refine hG _ (s₁.setTop (mkF m 3 #[.val (.int k)] [(.int (k &&& (1 : Int32)))])) (fun t₀ k₀ => ?_) ?_
  · show Steps p.tables e below (s₁.setTop (mkF m 0 #[.val (.int k)] [])) t₀
    refine XS.iloadN X0.here hx rfl (hb hby d1_0) rfl ?_
    show Steps p.tables e below (s₁.setTop (mkF m 1 #[.val (.int k)] [(.int k)])) t₀
    refine XS.iconst X0.here hx rfl (hb hby d1_1) ?_
    show Steps p.tables e below (s₁.setTop (mkF m 2 #[.val (.int k)] [(.int (1 : Int32)), (.int k)])) t₀
    refine XS.iand X0.here hx rfl (hb hby d1_2) rfl ?_
    exact k₀
  by_cases hc3 : (k &&& (1 : Int32)) = (0 : Int32)
  ·
    refine hG _ (s₁.setTop (mkF m 6 #[.val (.int k)] [])) (fun t₀ k₀ => ?_) ?_
    · show Steps p.tables e below (s₁.setTop (mkF m 3 #[.val (.int k)] [(.int (k &&& (1 : Int32)))])) t₀
      refine XS.ifNo X0.here hx rfl (hb hby d1_3) rfl ((if0 _ _).trans (teq hc3).2) ?_
      exact k₀
    obtain ⟨T1, X1, e1, st1⟩ := getS2 X0 hx hZ hown (host := "") (Or.inl (hw _ (List.mem_of_getElem? (i := 4) rfl))) Via.refl e0 S_READ (g := (mkF m 6 #[.val (.int k)] [])) rfl (hb hby d1_6)
    refine hG _ _ (fun t₀ k₀ => st1 _ k₀) ?_
    show G (T1.setTop (mkF m 9 #[.val (.int k)] [(.ref wR)]))
    refine hF _ T1 _ _ _ (some (.ref wR)) _ X1 e1 (fun h => by rw [hrt] at h; cases h) (by decide) (by decide) ?_ (fun fs hr => own_retA X1 hx hrt rfl rfl rfl (hb hby d1_9) hr)
    exact ⟨by rw [← hr]; simp [hc3], N0, rfl⟩
  ·
    refine hG _ (s₁.setTop (mkF m 10 #[.val (.int k)] [])) (fun t₀ k₀ => ?_) ?_
    · show Steps p.tables e below (s₁.setTop (mkF m 3 #[.val (.int k)] [(.int (k &&& (1 : Int32)))])) t₀
      refine XS.ifYes X0.here hx rfl (pc0 := 3) (pc' := 10) rfl (hb hby d1_3) rfl ((if0 _ _).trans (feq hc3).2) (by decide) (by decide) ?_
      exact k₀
    obtain ⟨T2, X2, e2, st2⟩ := getS2 X0 hx hZ hown (host := "") (Or.inl (hw _ (List.mem_of_getElem? (i := 7) rfl))) Via.refl e0 S_WRITE (g := (mkF m 10 #[.val (.int k)] [])) rfl (hb hby d1_10)
    refine hG _ _ (fun t₀ k₀ => st2 _ k₀) ?_
    show G (T2.setTop (mkF m 13 #[.val (.int k)] [(.ref wW)]))
    refine hF _ T2 _ _ _ (some (.ref wW)) _ X2 e2 (fun h => by rw [hrt] at h; cases h) (by decide) (by decide) ?_ (fun fs hr => own_retA X2 hx hrt rfl rfl rfl (hb hby d1_13) hr)
    exact ⟨by rw [← hr]; simp [hc3], N0, rfl⟩
theorem d2_0 : decode prog_1_method_5_code 0 = .ok (.aload_n 0, 1) := by decide +kernel
theorem d2_1 : decode prog_1_method_5_code 1 = .ok (.getstatic 7, 3) := by decide +kernel
theorem d2_4 : decode prog_1_method_5_code 4 = .ok (.if_acmp .eq 10, 3) := by decide +kernel
theorem d2_7 : decode prog_1_method_5_code 7 = .ok (.aload_n 1, 1) := by decide +kernel
theorem d2_8 : decode prog_1_method_5_code 8 = .ok (.getstatic 3, 3) := by decide +kernel
theorem d2_11 : decode prog_1_method_5_code 11 = .ok (.if_acmp .ne 7, 3) := by decide +kernel
theorem d2_14 : decode prog_1_method_5_code 14 = .ok (.iconst 1, 1) := by decide +kernel
theorem d2_15 : decode prog_1_method_5_code 15 = .ok (.goto 4, 3) := by decide +kernel
theorem d2_18 : decode prog_1_method_5_code 18 = .ok (.iconst 0, 1) := by decide +kernel
theorem d2_19 : decode prog_1_method_5_code 19 = .ok (.ireturn, 1) := by decide +kernel
theorem pn_2 : plainFor (⟨"com/example/concordat/concordat/core/Access", "includes", "(Lcom/example/concordat/concordat/core/Access;)Z"⟩ : MethodName) = true := plainFor_of_name (by first | (simp [plainName, overriddenIn]; done) | decide +kernel)
theorem ef_rm2 (m : MethodId) (x0 : Addr) (x1 : Addr) : entryFrame m #[(.ref x0), (.ref x1)] 2 = mkF m 0 #[.val (.ref x0), .val (.ref x1)] [] := by first | (simp [entryFrame, mkF, argsToLocals, Value.category]; done) | rfl
def Q_rm2 (Z : State) (a1 a2 wR wW : Addr) (r : Int32) (h0 : Heap) (n0 : Nat) (v : Option Value) (h : Heap) (L : List Loc) : Prop := v = some (.int r) ∧ Fr n0 L ∧ h = h0
set_option maxRecDepth 65536 in
set_option maxHeartbeats 40000000 in
theorem rm2 (l : Launch) (Z : State) (a0 : Array Value) (hw : ∀ d ∈ tables_1, d.before a0 Z = true) (ws : List Jvm.Cond) (a1 a2 wR wW : Addr) (r : Int32) (h0 : Heap) (n0 : Nat) (Z0 : n0 ≤ h0.size) (S_READ : Sta Z h0 "com/example/concordat/concordat/core/Access" "READ" "Lcom/example/concordat/concordat/core/Access;" (.ref wR)) (S_WRITE : Sta Z h0 "com/example/concordat/concordat/core/Access" "WRITE" "Lcom/example/concordat/concordat/core/Access;" (.ref wW)) (hr : (if a1 = wW ∨ a2 = wR then (1 : Int32) else 0) = r) :
    MetFree l (⟨"com/example/concordat/concordat/core/Access", "includes", "(Lcom/example/concordat/concordat/core/Access;)Z"⟩ : MethodName) (head1 (Jvm.Cond.code (⟨"com/example/concordat/concordat/core/Access", "includes", "(Lcom/example/concordat/concordat/core/Access;)Z"⟩ : MethodName) prog_1_method_5_code 2 (some .boolean) :: ws) ({ frames := 0, cells := 0, slots := 0, locals := 0 } : Room)) (fun a U => a = #[(.ref a1), (.ref a2)] ∧ Z.Warmed39 U.vm ∧ U.heap = h0) (fun _ _ _ _ _ => True) (fun _ U o U' => ∃ v L, o = .returned v ∧ Q_rm2 Z a1 a2 wR wW r h0 n0 v U'.heap L ∧ FrameEnd U o U' L ({ frames := 0, cells := 0, slots := 0, locals := 0 } : Room).cells ({ frames := 0, cells := 0, slots := 0, locals := 0 } : Room).slots) := by
  refine own_body (Q := fun v h L => Q_rm2 Z a1 a2 wR wW r h0 n0 v h L) pn_2 ?_
  intro p e s m below meth c s₁ G X0 hx hZ hby hml hown hnm hrt e0 hG hF
  have hown : s.vm.findClass "com/example/concordat/concordat/core/Access" = some m.cls := hown
  have N0 := Fr.nil n0
  rw [ef_rm2 m a1 a2]
  show G (s₁.setTop (mkF m 0 #[.val (.ref a1), .val (.ref a2)] []))
  refine hG _ (s₁.setTop (mkF m 1 #[.val (.ref a1), .val (.ref a2)] [(.ref a1)])) (fun t₀ k₀ => ?_) ?_
  · show Steps p.tables e below (s₁.setTop (mkF m 0 #[.val (.ref a1), .val (.ref a2)] [])) t₀
    refine XS.aloadN X0.here hx rfl (hb hby d2_0) rfl rfl ?_
    exact k₀
  obtain ⟨T1, X1, e1, st1⟩ := getS2 X0 hx hZ hown (host := "") (Or.inl (hw _ (List.mem_of_getElem? (i := 14) rfl))) Via.refl e0 S_WRITE (g := (mkF m 1 #[.val (.ref a1), .val (.ref a2)] [(.ref a1)])) rfl (hb hby d2_1)
  refine hG _ _ (fun t₀ k₀ => st1 _ k₀) ?_
  show G (T1.setTop (mkF m 4 #[.val (.ref a1), .val (.ref a2)] [(.ref wW), (.ref a1)]))
  by_cases hc4 : a1 = wW
  ·
    refine hG _ (T1.setTop (mkF m 19 #[.val (.ref a1), .val (.ref a2)] [(.int (1 : Int32))])) (fun t₀ k₀ => ?_) ?_
    · show Steps p.tables e below (T1.setTop (mkF m 4 #[.val (.ref a1), .val (.ref a2)] [(.ref wW), (.ref a1)])) t₀
      refine Jvm.RoadKit.acmp (g := (mkF m 4 #[.val (.ref a1), .val (.ref a2)] [(.ref wW), (.ref a1)])) X1 hx rfl rfl rfl (pc0 := 4) (pc' := 14) (same := true) rfl (hb hby d2_4) rfl (decide_eq_true (congrArg Value.ref hc4)) (by decide) (by decide) ?_
      show Steps p.tables e below (T1.setTop (mkF m 14 #[.val (.ref a1), .val (.ref a2)] [])) t₀
      refine XS.iconst X1.here hx rfl (hb hby d2_14) ?_
      show Steps p.tables e below (T1.setTop (mkF m 15 #[.val (.ref a1), .val (.ref a2)] [(.int (1 : Int32))])) t₀
      refine XS.goto X1.here hx rfl (pc0 := 15) (pc' := 19) rfl (hb hby d2_15) (by decide) (by decide) ?_
      exact k₀
    refine hF _ T1 _ _ _ (some (.int (1 : Int32))) _ X1 e1 (fun h => by rw [hrt] at h; cases h) (by decide) (by decide) ?_ (fun fs hr => retN X1 hx (t := .boolean) hrt (by simp) (hb hby d2_19) hr)
    exact ⟨by rw [← hr]; simp [hc4], N0, rfl⟩
  ·
    refine hG _ (T1.setTop (mkF m 8 #[.val (.ref a1), .val (.ref a2)] [(.ref a2)])) (fun t₀ k₀ => ?_) ?_
    · show Steps p.tables e below (T1.setTop (mkF m 4 #[.val (.ref a1), .val (.ref a2)] [(.ref wW), (.ref a1)])) t₀
      refine Jvm.RoadKit.acmp (g := (mkF m 4 #[.val (.ref a1), .val (.ref a2)] [(.ref wW), (.ref a1)])) X1 hx rfl rfl rfl (pc0 := 4) (pc' := 7) (same := false) rfl (hb hby d2_4) rfl (decide_eq_false fun q => hc4 (Value.ref.inj q)) (by decide) (by decide) ?_
      show Steps p.tables e below (T1.setTop (mkF m 7 #[.val (.ref a1), .val (.ref a2)] [])) t₀
      refine XS.aloadN X1.here hx rfl (hb hby d2_7) rfl rfl ?_
      exact k₀
    obtain ⟨T2, X2, e2, st2⟩ := getS2 X1 hx hZ hown (host := "") (Or.inl (hw _ (List.mem_of_getElem? (i := 15) rfl))) Via.refl e1 S_READ (g := (mkF m 8 #[.val (.ref a1), .val (.ref a2)] [(.ref a2)])) rfl (hb hby d2_8)
    refine hG _ _ (fun t₀ k₀ => st2 _ k₀) ?_
    show G (T2.setTop (mkF m 11 #[.val (.ref a1), .val (.ref a2)] [(.ref wR), (.ref a2)]))
    by_cases hc11 : a2 = wR
    ·
      refine hG _ (T2.setTop (mkF m 19 #[.val (.ref a1), .val (.ref a2)] [(.int (1 : Int32))])) (fun t₀ k₀ => ?_) ?_
      · show Steps p.tables e below (T2.setTop (mkF m 11 #[.val (.ref a1), .val (.ref a2)] [(.ref wR), (.ref a2)])) t₀
        refine Jvm.RoadKit.acmp (g := (mkF m 11 #[.val (.ref a1), .val (.ref a2)] [(.ref wR), (.ref a2)])) X2 hx rfl rfl rfl (pc0 := 11) (pc' := 14) (same := true) rfl (hb hby d2_11) rfl (decide_eq_true (congrArg Value.ref hc11)) (by decide) (by decide) ?_
        show Steps p.tables e below (T2.setTop (mkF m 14 #[.val (.ref a1), .val (.ref a2)] [])) t₀
        refine XS.iconst X2.here hx rfl (hb hby d2_14) ?_
        show Steps p.tables e below (T2.setTop (mkF m 15 #[.val (.ref a1), .val (.ref a2)] [(.int (1 : Int32))])) t₀
        refine XS.goto X2.here hx rfl (pc0 := 15) (pc' := 19) rfl (hb hby d2_15) (by decide) (by decide) ?_
        exact k₀
      refine hF _ T2 _ _ _ (some (.int (1 : Int32))) _ X2 e2 (fun h => by rw [hrt] at h; cases h) (by decide) (by decide) ?_ (fun fs hr => retN X2 hx (t := .boolean) hrt (by simp) (hb hby d2_19) hr)
      exact ⟨by rw [← hr]; simp [hc4, hc11], N0, rfl⟩
    ·
      refine hG _ (T2.setTop (mkF m 19 #[.val (.ref a1), .val (.ref a2)] [(.int (0 : Int32))])) (fun t₀ k₀ => ?_) ?_
      · show Steps p.tables e below (T2.setTop (mkF m 11 #[.val (.ref a1), .val (.ref a2)] [(.ref wR), (.ref a2)])) t₀
        refine Jvm.RoadKit.acmp (g := (mkF m 11 #[.val (.ref a1), .val (.ref a2)] [(.ref wR), (.ref a2)])) X2 hx rfl rfl rfl (pc0 := 11) (pc' := 18) (same := false) rfl (hb hby d2_11) rfl (decide_eq_false fun q => hc11 (Value.ref.inj q)) (by decide) (by decide) ?_
        show Steps p.tables e below (T2.setTop (mkF m 18 #[.val (.ref a1), .val (.ref a2)] [])) t₀
        refine XS.iconst X2.here hx rfl (hb hby d2_18) ?_
        exact k₀
      refine hF _ T2 _ _ _ (some (.int (0 : Int32))) _ X2 e2 (fun h => by rw [hrt] at h; cases h) (by decide) (by decide) ?_ (fun fs hr => retN X2 hx (t := .boolean) hrt (by simp) (hb hby d2_19) hr)
      exact ⟨by rw [← hr]; simp [hc4, hc11], N0, rfl⟩
theorem pn_0 : plainFor (⟨"com/example/concordat/concordat/core/AccessIncludesPinLaw", "law", "(II)Z"⟩ : MethodName) = true := plainFor_of_name (by first | (simp [plainName, overriddenIn]; done) | decide +kernel)
theorem ef_rm0 (m : MethodId) (x0 : Int32) (x1 : Int32) : entryFrame m #[(.int x0), (.int x1)] maxLocals = mkF m 0 #[.val (.int x0), .val (.int x1), .unset, .unset, .unset, .unset, .unset, .unset, .unset] [] := by first | (simp [entryFrame, mkF, argsToLocals, Value.category, maxLocals]; done) | rfl
def Q_rm0 (Z : State) (p1 p2 : Int32) (wR wW : Addr) (h0 : Heap) (n0 : Nat) (v : Option Value) (h : Heap) (L : List Loc) : Prop := v = some (.int (1 : Int32)) ∧ Fr n0 L
set_option maxRecDepth 65536 in
set_option maxHeartbeats 40000000 in
theorem rm0 (l : Launch) (Z : State) (a0 : Array Value) (hw : ∀ d ∈ tables_1, d.before a0 Z = true) (ws : List Jvm.Cond) (p1 p2 : Int32) (wR wW : Addr) (h0 : Heap) (n0 : Nat) (Z0 : n0 ≤ h0.size) (S_READ : Sta Z h0 "com/example/concordat/concordat/core/Access" "READ" "Lcom/example/concordat/concordat/core/Access;" (.ref wR)) (S_WRITE : Sta Z h0 "com/example/concordat/concordat/core/Access" "WRITE" "Lcom/example/concordat/concordat/core/Access;" (.ref wW)) (E_R : Exa Z h0 wR "com/example/concordat/concordat/core/Access") (E_W : Exa Z h0 wW "com/example/concordat/concordat/core/Access") (hne : wR ≠ wW) :
    MetFree l x (head1 (Jvm.Cond.code x code maxLocals ret :: ws) room_1) (fun a U => a = #[(.int p1), (.int p2)] ∧ Z.Warmed39 U.vm ∧ U.heap = h0) (fun _ _ _ _ _ => True) (fun _ U o U' => ∃ v L, o = .returned v ∧ Q_rm0 Z p1 p2 wR wW h0 n0 v U'.heap L ∧ FrameEnd U o U' L room_1.cells room_1.slots) := by
  refine own_body (Q := fun v h L => Q_rm0 Z p1 p2 wR wW h0 n0 v h L) pn_0 ?_
  intro p e s m below meth c s₁ G X0 hx hZ hby hml hown hnm hrt e0 hG hF
  have hml : c.maxLocals = 9 := hml
  have hrt : meth.sig.returnType = some .boolean := hrt
  have hown : s.vm.findClass "com/example/concordat/concordat/core/AccessIncludesPinLaw" = some m.cls := hown
  have N0 := Fr.nil n0
  rw [ef_rm0 m p1 p2]
  show G (s₁.setTop (mkF m 0 #[.val (.int p1), .val (.int p2), .unset, .unset, .unset, .unset, .unset, .unset, .unset] []))
  by_cases hi : (p1 &&& (1 : Int32)) = (0 : Int32)
  ·
    by_cases hj : (p2 &&& (1 : Int32)) = (0 : Int32)
    ·
      refine hG _ (s₁.setTop (mkF m 9 #[.val (.int p1), .val (.int p2), .val (.int (p1 &&& (1 : Int32))), .val (.int (p2 &&& (1 : Int32))), .unset, .unset, .unset, .unset, .unset] [(.int (p1 &&& (1 : Int32)))])) (fun t₀ k₀ => ?_) ?_
      · show Steps p.tables e below (s₁.setTop (mkF m 0 #[.val (.int p1), .val (.int p2), .unset, .unset, .unset, .unset, .unset, .unset, .unset] [])) t₀
        refine XS.iloadN X0.here hx rfl (hb hby at_0) rfl ?_
        show Steps p.tables e below (s₁.setTop (mkF m 1 #[.val (.int p1), .val (.int p2), .unset, .unset, .unset, .unset, .unset, .unset, .unset] [(.int p1)])) t₀
        refine XS.iconst X0.here hx rfl (hb hby at_1) ?_
        show Steps p.tables e below (s₁.setTop (mkF m 2 #[.val (.int p1), .val (.int p2), .unset, .unset, .unset, .unset, .unset, .unset, .unset] [(.int (1 : Int32)), (.int p1)])) t₀
        refine XS.iand X0.here hx rfl (hb hby at_2) rfl ?_
        show Steps p.tables e below (s₁.setTop (mkF m 3 #[.val (.int p1), .val (.int p2), .unset, .unset, .unset, .unset, .unset, .unset, .unset] [(.int (p1 &&& (1 : Int32)))])) t₀
        refine XS.istoreN X0.here hx rfl (hb hby at_3) rfl (l' := #[.val (.int p1), .val (.int p2), .val (.int (p1 &&& (1 : Int32))), .unset, .unset, .unset, .unset, .unset, .unset]) rfl ?_
        show Steps p.tables e below (s₁.setTop (mkF m 4 #[.val (.int p1), .val (.int p2), .val (.int (p1 &&& (1 : Int32))), .unset, .unset, .unset, .unset, .unset, .unset] [])) t₀
        refine XS.iloadN X0.here hx rfl (hb hby at_4) rfl ?_
        show Steps p.tables e below (s₁.setTop (mkF m 5 #[.val (.int p1), .val (.int p2), .val (.int (p1 &&& (1 : Int32))), .unset, .unset, .unset, .unset, .unset, .unset] [(.int p2)])) t₀
        refine XS.iconst X0.here hx rfl (hb hby at_5) ?_
        show Steps p.tables e below (s₁.setTop (mkF m 6 #[.val (.int p1), .val (.int p2), .val (.int (p1 &&& (1 : Int32))), .unset, .unset, .unset, .unset, .unset, .unset] [(.int (1 : Int32)), (.int p2)])) t₀
        refine XS.iand X0.here hx rfl (hb hby at_6) rfl ?_
        show Steps p.tables e below (s₁.setTop (mkF m 7 #[.val (.int p1), .val (.int p2), .val (.int (p1 &&& (1 : Int32))), .unset, .unset, .unset, .unset, .unset, .unset] [(.int (p2 &&& (1 : Int32)))])) t₀
        refine XS.istoreN X0.here hx rfl (hb hby at_7) rfl (l' := #[.val (.int p1), .val (.int p2), .val (.int (p1 &&& (1 : Int32))), .val (.int (p2 &&& (1 : Int32))), .unset, .unset, .unset, .unset, .unset]) rfl ?_
        show Steps p.tables e below (s₁.setTop (mkF m 8 #[.val (.int p1), .val (.int p2), .val (.int (p1 &&& (1 : Int32))), .val (.int (p2 &&& (1 : Int32))), .unset, .unset, .unset, .unset, .unset] [])) t₀
        refine XS.iloadN X0.here hx rfl (hb hby at_8) rfl ?_
        exact k₀
      obtain ⟨_, _, ⟨T1, L1, k1, n1⟩, -, X1, ⟨Lc1, hQ1, l1, y1, z1⟩, st1⟩ := Jvm.LawKit.callS X0 hx (y := (⟨"com/example/concordat/concordat/core/AccessIncludesPinLaw", "pick", "(I)Lcom/example/concordat/concordat/core/Access;"⟩ : MethodName)) hown (mvT hZ (hw _ (List.mem_of_getElem? (i := 0) rfl))) (mvT hZ (hw _ (List.mem_of_getElem? (i := 1) rfl))) (mvT hZ (hw _ (List.mem_of_getElem? (i := 2) rfl))) (mvT hZ (hw _ (List.mem_of_getElem? (i := 3) rfl))) (by decide) (backOf (W := 0) (rm1 l Z a0 hw [] (p1 &&& (1 : Int32)) wR wW wR h0 n0 Z0 S_READ S_WRITE (by rw [own_a11]; simp [hi])) hZ (hw _ (List.mem_of_getElem? (i := 3) rfl)) (hw _ (List.mem_of_getElem? (i := 2) rfl)) (by decide) (by decide)) (g := (mkF m 9 #[.val (.int p1), .val (.int p2), .val (.int (p1 &&& (1 : Int32))), .val (.int (p2 &&& (1 : Int32))), .unset, .unset, .unset, .unset, .unset] [(.int (p1 &&& (1 : Int32)))])) rfl (by rw [hml]; rfl) (argsL := [(.int (p1 &&& (1 : Int32)))]) (rest := []) (lenOf pd_0 rfl) rfl (by show 2 * 0 + _ ≤ _; exact Nat.le_of_eq rfl) (hb hby at_9) (fun _ _ => ⟨rfl, e0, (by decide : 0 + 0 ≤ _), (by decide : 0 + 0 ≤ _)⟩)
      dsimp only [Pt.U, Pt.locs, Pt.cells, Pt.slots] at X1 l1 y1 z1 st1 hQ1
      subst l1 y1 z1
      obtain ⟨rfl, N1q, e1⟩ := hQ1
      have N1 := Fr.app N0 N1q
      refine hG _ _ (fun t₀ k₀ => st1 _ k₀) ?_
      show G (T1.setTop (mkF m 12 #[.val (.int p1), .val (.int p2), .val (.int (p1 &&& (1 : Int32))), .val (.int (p2 &&& (1 : Int32))), .unset, .unset, .unset, .unset, .unset] [(.ref wR)]))
      refine hG _ (T1.setTop (mkF m 15 #[.val (.int p1), .val (.int p2), .val (.int (p1 &&& (1 : Int32))), .val (.int (p2 &&& (1 : Int32))), .val (.ref wR), .unset, .unset, .unset, .unset] [(.int (p2 &&& (1 : Int32)))])) (fun t₀ k₀ => ?_) ?_
      · show Steps p.tables e below (T1.setTop (mkF m 12 #[.val (.int p1), .val (.int p2), .val (.int (p1 &&& (1 : Int32))), .val (.int (p2 &&& (1 : Int32))), .unset, .unset, .unset, .unset, .unset] [(.ref wR)])) t₀
        refine XS.astore X1.here hx rfl (hb hby at_12) rfl rfl (l' := #[.val (.int p1), .val (.int p2), .val (.int (p1 &&& (1 : Int32))), .val (.int (p2 &&& (1 : Int32))), .val (.ref wR), .unset, .unset, .unset, .unset]) rfl ?_
        show Steps p.tables e below (T1.setTop (mkF m 14 #[.val (.int p1), .val (.int p2), .val (.int (p1 &&& (1 : Int32))), .val (.int (p2 &&& (1 : Int32))), .val (.ref wR), .unset, .unset, .unset, .unset] [])) t₀
        refine XS.iloadN X1.here hx rfl (hb hby at_14) rfl ?_
        exact k₀
      obtain ⟨_, _, ⟨T2, L2, k2, n2⟩, -, X2, ⟨Lc2, hQ2, l2, y2, z2⟩, st2⟩ := Jvm.LawKit.callS X1 hx (y := (⟨"com/example/concordat/concordat/core/AccessIncludesPinLaw", "pick", "(I)Lcom/example/concordat/concordat/core/Access;"⟩ : MethodName)) hown (mvT hZ (hw _ (List.mem_of_getElem? (i := 0) rfl))) (mvT hZ (hw _ (List.mem_of_getElem? (i := 1) rfl))) (mvT hZ (hw _ (List.mem_of_getElem? (i := 2) rfl))) (mvT hZ (hw _ (List.mem_of_getElem? (i := 3) rfl))) (by decide) (backOf (W := 0) (rm1 l Z a0 hw [] (p2 &&& (1 : Int32)) wR wW wR h0 n0 Z0 S_READ S_WRITE (by rw [own_a11]; simp [hj])) hZ (hw _ (List.mem_of_getElem? (i := 3) rfl)) (hw _ (List.mem_of_getElem? (i := 2) rfl)) (by decide) (by decide)) (g := (mkF m 15 #[.val (.int p1), .val (.int p2), .val (.int (p1 &&& (1 : Int32))), .val (.int (p2 &&& (1 : Int32))), .val (.ref wR), .unset, .unset, .unset, .unset] [(.int (p2 &&& (1 : Int32)))])) rfl (by rw [hml]; rfl) (argsL := [(.int (p2 &&& (1 : Int32)))]) (rest := []) (lenOf pd_0 rfl) rfl (by show 2 * 0 + _ ≤ _; exact Nat.le_of_eq rfl) (hb hby at_15) (fun _ _ => ⟨rfl, e1, (by decide : 0 + 0 ≤ _), (by decide : 0 + 0 ≤ _)⟩)
      dsimp only [Pt.U, Pt.locs, Pt.cells, Pt.slots] at X2 l2 y2 z2 st2 hQ2
      subst l2 y2 z2
      obtain ⟨rfl, N2q, e2⟩ := hQ2
      have N2 := Fr.app N1 N2q
      refine hG _ _ (fun t₀ k₀ => st2 _ k₀) ?_
      show G (T2.setTop (mkF m 18 #[.val (.int p1), .val (.int p2), .val (.int (p1 &&& (1 : Int32))), .val (.int (p2 &&& (1 : Int32))), .val (.ref wR), .unset, .unset, .unset, .unset] [(.ref wR)]))
      refine hG _ (T2.setTop (mkF m 47 #[.val (.int p1), .val (.int p2), .val (.int (p1 &&& (1 : Int32))), .val (.int (p2 &&& (1 : Int32))), .val (.ref wR), .val (.ref wR), .val (.int (1 : Int32)), .unset, .unset] [(.ref wR), (.ref wR)])) (fun t₀ k₀ => ?_) ?_
      · show Steps p.tables e below (T2.setTop (mkF m 18 #[.val (.int p1), .val (.int p2), .val (.int (p1 &&& (1 : Int32))), .val (.int (p2 &&& (1 : Int32))), .val (.ref wR), .unset, .unset, .unset, .unset] [(.ref wR)])) t₀
        refine XS.astore X2.here hx rfl (hb hby at_18) rfl rfl (l' := #[.val (.int p1), .val (.int p2), .val (.int (p1 &&& (1 : Int32))), .val (.int (p2 &&& (1 : Int32))), .val (.ref wR), .val (.ref wR), .unset, .unset, .unset]) rfl ?_
        show Steps p.tables e below (T2.setTop (mkF m 20 #[.val (.int p1), .val (.int p2), .val (.int (p1 &&& (1 : Int32))), .val (.int (p2 &&& (1 : Int32))), .val (.ref wR), .val (.ref wR), .unset, .unset, .unset] [])) t₀
        refine XS.iloadN X2.here hx rfl (hb hby at_20) rfl ?_
        show Steps p.tables e below (T2.setTop (mkF m 21 #[.val (.int p1), .val (.int p2), .val (.int (p1 &&& (1 : Int32))), .val (.int (p2 &&& (1 : Int32))), .val (.ref wR), .val (.ref wR), .unset, .unset, .unset] [(.int (p1 &&& (1 : Int32)))])) t₀
        refine XS.ifNo X2.here hx rfl (hb hby at_21) rfl ((if0 _ _).trans (teq hi).2) ?_
        show Steps p.tables e below (T2.setTop (mkF m 24 #[.val (.int p1), .val (.int p2), .val (.int (p1 &&& (1 : Int32))), .val (.int (p2 &&& (1 : Int32))), .val (.ref wR), .val (.ref wR), .unset, .unset, .unset] [])) t₀
        refine XS.iloadN X2.here hx rfl (hb hby at_24) rfl ?_
        show Steps p.tables e below (T2.setTop (mkF m 25 #[.val (.int p1), .val (.int p2), .val (.int (p1 &&& (1 : Int32))), .val (.int (p2 &&& (1 : Int32))), .val (.ref wR), .val (.ref wR), .unset, .unset, .unset] [(.int (p2 &&& (1 : Int32)))])) t₀
        refine XS.ifNo X2.here hx rfl (hb hby at_25) rfl ((if0 _ _).trans (teq hj).2) ?_
        show Steps p.tables e below (T2.setTop (mkF m 28 #[.val (.int p1), .val (.int p2), .val (.int (p1 &&& (1 : Int32))), .val (.int (p2 &&& (1 : Int32))), .val (.ref wR), .val (.ref wR), .unset, .unset, .unset] [])) t₀
        refine XS.iconst X2.here hx rfl (hb hby at_28) ?_
        show Steps p.tables e below (T2.setTop (mkF m 29 #[.val (.int p1), .val (.int p2), .val (.int (p1 &&& (1 : Int32))), .val (.int (p2 &&& (1 : Int32))), .val (.ref wR), .val (.ref wR), .unset, .unset, .unset] [(.int (1 : Int32))])) t₀
        refine XS.istore X2.here hx rfl (hb hby at_29) rfl (l' := #[.val (.int p1), .val (.int p2), .val (.int (p1 &&& (1 : Int32))), .val (.int (p2 &&& (1 : Int32))), .val (.ref wR), .val (.ref wR), .val (.int (1 : Int32)), .unset, .unset]) rfl ?_
        show Steps p.tables e below (T2.setTop (mkF m 31 #[.val (.int p1), .val (.int p2), .val (.int (p1 &&& (1 : Int32))), .val (.int (p2 &&& (1 : Int32))), .val (.ref wR), .val (.ref wR), .val (.int (1 : Int32)), .unset, .unset] [])) t₀
        refine XS.goto X2.here hx rfl (pc0 := 31) (pc' := 43) rfl (hb hby at_31) (by decide) (by decide) ?_
        show Steps p.tables e below (T2.setTop (mkF m 43 #[.val (.int p1), .val (.int p2), .val (.int (p1 &&& (1 : Int32))), .val (.int (p2 &&& (1 : Int32))), .val (.ref wR), .val (.ref wR), .val (.int (1 : Int32)), .unset, .unset] [])) t₀
        refine XS.aload X2.here hx rfl (hb hby at_43) rfl rfl ?_
        show Steps p.tables e below (T2.setTop (mkF m 45 #[.val (.int p1), .val (.int p2), .val (.int (p1 &&& (1 : Int32))), .val (.int (p2 &&& (1 : Int32))), .val (.ref wR), .val (.ref wR), .val (.int (1 : Int32)), .unset, .unset] [(.ref wR)])) t₀
        refine XS.aload X2.here hx rfl (hb hby at_45) rfl rfl ?_
        exact k₀
      obtain ⟨cq3, kq3, q3a, q3b, q3c⟩ := isOf hZ e2 E_R
      obtain ⟨_, _, ⟨T3, L3, k3, n3⟩, -, X3, ⟨Lc3, hQ3, l3, y3, z3⟩, st3⟩ := X2.virtualBack hx (y := (⟨"com/example/concordat/concordat/core/Access", "includes", "(Lcom/example/concordat/concordat/core/Access;)Z"⟩ : MethodName)) (z := (⟨"com/example/concordat/concordat/core/Access", "includes", "(Lcom/example/concordat/concordat/core/Access;)Z"⟩ : MethodName)) hown (mvT hZ (hw _ (List.mem_of_getElem? (i := 9) rfl))) (mvT hZ (hw _ (List.mem_of_getElem? (i := 10) rfl))) (notFace_of_selects (args := #[]) (mvT hZ (hw _ (List.mem_of_getElem? (i := 12) rfl)))) (mvT hZ (hw _ (List.mem_of_getElem? (i := 12) rfl))) (mvT hZ (hw _ (List.mem_of_getElem? (i := 11) rfl))) (by decide) (backOf (W := 0) (rm2 l Z a0 hw [] wR wR wR wW (1 : Int32) h0 n0 Z0 S_READ S_WRITE (by simp [hne, hne.symm])) hZ (hw _ (List.mem_of_getElem? (i := 13) rfl)) (hw _ (List.mem_of_getElem? (i := 5) rfl)) (by decide) (by decide)) q3a q3c (g := (mkF m 47 #[.val (.int p1), .val (.int p2), .val (.int (p1 &&& (1 : Int32))), .val (.int (p2 &&& (1 : Int32))), .val (.ref wR), .val (.ref wR), .val (.int (1 : Int32)), .unset, .unset] [(.ref wR), (.ref wR)])) rfl (by rw [hml]; rfl) (Steps.refl _) (argsL := [(.ref wR)]) (rest := []) (lenOf pd_1 rfl) rfl (by show 2 * 0 + _ ≤ _; exact Nat.le_of_eq rfl) (hb hby at_47) (fun _ _ => ⟨rfl, e2, (by decide : 0 + 0 ≤ _), (by decide : 0 + 0 ≤ _)⟩)
      dsimp only [Pt.U, Pt.locs, Pt.cells, Pt.slots] at X3 l3 y3 z3 st3 hQ3
      subst l3 y3 z3
      obtain ⟨rfl, N3q, e3⟩ := hQ3
      have N3 := Fr.app N2 N3q
      refine hG _ _ (fun t₀ k₀ => st3.trans k₀) ?_
      show G (T3.setTop (mkF m 50 #[.val (.int p1), .val (.int p2), .val (.int (p1 &&& (1 : Int32))), .val (.int (p2 &&& (1 : Int32))), .val (.ref wR), .val (.ref wR), .val (.int (1 : Int32)), .unset, .unset] [(.int (1 : Int32))]))
      refine hG _ (T3.setTop (mkF m 56 #[.val (.int p1), .val (.int p2), .val (.int (p1 &&& (1 : Int32))), .val (.int (p2 &&& (1 : Int32))), .val (.ref wR), .val (.ref wR), .val (.int (1 : Int32)), .val (.int (1 : Int32)), .unset] [(.ref wR), (.ref wR)])) (fun t₀ k₀ => ?_) ?_
      · show Steps p.tables e below (T3.setTop (mkF m 50 #[.val (.int p1), .val (.int p2), .val (.int (p1 &&& (1 : Int32))), .val (.int (p2 &&& (1 : Int32))), .val (.ref wR), .val (.ref wR), .val (.int (1 : Int32)), .unset, .unset] [(.int (1 : Int32))])) t₀
        refine XS.istore X3.here hx rfl (hb hby at_50) rfl (l' := #[.val (.int p1), .val (.int p2), .val (.int (p1 &&& (1 : Int32))), .val (.int (p2 &&& (1 : Int32))), .val (.ref wR), .val (.ref wR), .val (.int (1 : Int32)), .val (.int (1 : Int32)), .unset]) rfl ?_
        show Steps p.tables e below (T3.setTop (mkF m 52 #[.val (.int p1), .val (.int p2), .val (.int (p1 &&& (1 : Int32))), .val (.int (p2 &&& (1 : Int32))), .val (.ref wR), .val (.ref wR), .val (.int (1 : Int32)), .val (.int (1 : Int32)), .unset] [])) t₀
        refine XS.aload X3.here hx rfl (hb hby at_52) rfl rfl ?_
        show Steps p.tables e below (T3.setTop (mkF m 54 #[.val (.int p1), .val (.int p2), .val (.int (p1 &&& (1 : Int32))), .val (.int (p2 &&& (1 : Int32))), .val (.ref wR), .val (.ref wR), .val (.int (1 : Int32)), .val (.int (1 : Int32)), .unset] [(.ref wR)])) t₀
        refine XS.aload X3.here hx rfl (hb hby at_54) rfl rfl ?_
        exact k₀
      obtain ⟨cq4, kq4, q4a, q4b, q4c⟩ := isOf hZ e3 E_R
      obtain ⟨_, _, ⟨T4, L4, k4, n4⟩, -, X4, ⟨Lc4, hQ4, l4, y4, z4⟩, st4⟩ := X3.virtualBack hx (y := (⟨"com/example/concordat/concordat/core/Access", "includes", "(Lcom/example/concordat/concordat/core/Access;)Z"⟩ : MethodName)) (z := (⟨"com/example/concordat/concordat/core/Access", "includes", "(Lcom/example/concordat/concordat/core/Access;)Z"⟩ : MethodName)) hown (mvT hZ (hw _ (List.mem_of_getElem? (i := 9) rfl))) (mvT hZ (hw _ (List.mem_of_getElem? (i := 10) rfl))) (notFace_of_selects (args := #[]) (mvT hZ (hw _ (List.mem_of_getElem? (i := 12) rfl)))) (mvT hZ (hw _ (List.mem_of_getElem? (i := 12) rfl))) (mvT hZ (hw _ (List.mem_of_getElem? (i := 11) rfl))) (by decide) (backOf (W := 0) (rm2 l Z a0 hw [] wR wR wR wW (1 : Int32) h0 n0 Z0 S_READ S_WRITE (by simp [hne, hne.symm])) hZ (hw _ (List.mem_of_getElem? (i := 13) rfl)) (hw _ (List.mem_of_getElem? (i := 5) rfl)) (by decide) (by decide)) q4a q4c (g := (mkF m 56 #[.val (.int p1), .val (.int p2), .val (.int (p1 &&& (1 : Int32))), .val (.int (p2 &&& (1 : Int32))), .val (.ref wR), .val (.ref wR), .val (.int (1 : Int32)), .val (.int (1 : Int32)), .unset] [(.ref wR), (.ref wR)])) rfl (by rw [hml]; rfl) (Steps.refl _) (argsL := [(.ref wR)]) (rest := []) (lenOf pd_1 rfl) rfl (by show 2 * 0 + _ ≤ _; exact Nat.le_of_eq rfl) (hb hby at_56) (fun _ _ => ⟨rfl, e3, (by decide : 0 + 0 ≤ _), (by decide : 0 + 0 ≤ _)⟩)
      dsimp only [Pt.U, Pt.locs, Pt.cells, Pt.slots] at X4 l4 y4 z4 st4 hQ4
      subst l4 y4 z4
      obtain ⟨rfl, N4q, e4⟩ := hQ4
      have N4 := Fr.app N3 N4q
      refine hG _ _ (fun t₀ k₀ => st4.trans k₀) ?_
      show G (T4.setTop (mkF m 59 #[.val (.int p1), .val (.int p2), .val (.int (p1 &&& (1 : Int32))), .val (.int (p2 &&& (1 : Int32))), .val (.ref wR), .val (.ref wR), .val (.int (1 : Int32)), .val (.int (1 : Int32)), .unset] [(.int (1 : Int32))]))
      refine hG _ (T4.setTop (mkF m 78 #[.val (.int p1), .val (.int p2), .val (.int (p1 &&& (1 : Int32))), .val (.int (p2 &&& (1 : Int32))), .val (.ref wR), .val (.ref wR), .val (.int (1 : Int32)), .val (.int (1 : Int32)), .val (.int (1 : Int32))] [(.int (1 : Int32))])) (fun t₀ k₀ => ?_) ?_
      · show Steps p.tables e below (T4.setTop (mkF m 59 #[.val (.int p1), .val (.int p2), .val (.int (p1 &&& (1 : Int32))), .val (.int (p2 &&& (1 : Int32))), .val (.ref wR), .val (.ref wR), .val (.int (1 : Int32)), .val (.int (1 : Int32)), .unset] [(.int (1 : Int32))])) t₀
        refine XS.istore X4.here hx rfl (hb hby at_59) rfl (l' := #[.val (.int p1), .val (.int p2), .val (.int (p1 &&& (1 : Int32))), .val (.int (p2 &&& (1 : Int32))), .val (.ref wR), .val (.ref wR), .val (.int (1 : Int32)), .val (.int (1 : Int32)), .val (.int (1 : Int32))]) rfl ?_
        show Steps p.tables e below (T4.setTop (mkF m 61 #[.val (.int p1), .val (.int p2), .val (.int (p1 &&& (1 : Int32))), .val (.int (p2 &&& (1 : Int32))), .val (.ref wR), .val (.ref wR), .val (.int (1 : Int32)), .val (.int (1 : Int32)), .val (.int (1 : Int32))] [])) t₀
        refine XS.iload X4.here hx rfl (hb hby at_61) rfl ?_
        show Steps p.tables e below (T4.setTop (mkF m 63 #[.val (.int p1), .val (.int p2), .val (.int (p1 &&& (1 : Int32))), .val (.int (p2 &&& (1 : Int32))), .val (.ref wR), .val (.ref wR), .val (.int (1 : Int32)), .val (.int (1 : Int32)), .val (.int (1 : Int32))] [(.int (1 : Int32))])) t₀
        refine XS.iload X4.here hx rfl (hb hby at_63) rfl ?_
        show Steps p.tables e below (T4.setTop (mkF m 65 #[.val (.int p1), .val (.int p2), .val (.int (p1 &&& (1 : Int32))), .val (.int (p2 &&& (1 : Int32))), .val (.ref wR), .val (.ref wR), .val (.int (1 : Int32)), .val (.int (1 : Int32)), .val (.int (1 : Int32))] [(.int (1 : Int32)), (.int (1 : Int32))])) t₀
        refine XS.icmpNo X4.here hx rfl (hb hby at_65) rfl (teq (by decide : ((1 : Int32) = (1 : Int32)))).2 ?_
        show Steps p.tables e below (T4.setTop (mkF m 68 #[.val (.int p1), .val (.int p2), .val (.int (p1 &&& (1 : Int32))), .val (.int (p2 &&& (1 : Int32))), .val (.ref wR), .val (.ref wR), .val (.int (1 : Int32)), .val (.int (1 : Int32)), .val (.int (1 : Int32))] [])) t₀
        refine XS.iload X4.here hx rfl (hb hby at_68) rfl ?_
        show Steps p.tables e below (T4.setTop (mkF m 70 #[.val (.int p1), .val (.int p2), .val (.int (p1 &&& (1 : Int32))), .val (.int (p2 &&& (1 : Int32))), .val (.ref wR), .val (.ref wR), .val (.int (1 : Int32)), .val (.int (1 : Int32)), .val (.int (1 : Int32))] [(.int (1 : Int32))])) t₀
        refine XS.ifNo X4.here hx rfl (hb hby at_70) rfl ((if0 _ _).trans (feq (by decide : ¬ ((1 : Int32) = (0 : Int32)))).1) ?_
        show Steps p.tables e below (T4.setTop (mkF m 73 #[.val (.int p1), .val (.int p2), .val (.int (p1 &&& (1 : Int32))), .val (.int (p2 &&& (1 : Int32))), .val (.ref wR), .val (.ref wR), .val (.int (1 : Int32)), .val (.int (1 : Int32)), .val (.int (1 : Int32))] [])) t₀
        refine XS.iconst X4.here hx rfl (hb hby at_73) ?_
        show Steps p.tables e below (T4.setTop (mkF m 74 #[.val (.int p1), .val (.int p2), .val (.int (p1 &&& (1 : Int32))), .val (.int (p2 &&& (1 : Int32))), .val (.ref wR), .val (.ref wR), .val (.int (1 : Int32)), .val (.int (1 : Int32)), .val (.int (1 : Int32))] [(.int (1 : Int32))])) t₀
        refine XS.goto X4.here hx rfl (pc0 := 74) (pc' := 78) rfl (hb hby at_74) (by decide) (by decide) ?_
        exact k₀
      refine hF _ T4 _ _ _ (some (.int (1 : Int32))) _ X4 e4 (fun h => by rw [hrt] at h; cases h) (by decide) (by decide) ?_ (fun fs hr => retN X4 hx (t := .boolean) hrt (by simp) (hb hby at_78) hr)
      exact ⟨rfl, N4⟩
    ·
      refine hG _ (s₁.setTop (mkF m 9 #[.val (.int p1), .val (.int p2), .val (.int (p1 &&& (1 : Int32))), .val (.int (p2 &&& (1 : Int32))), .unset, .unset, .unset, .unset, .unset] [(.int (p1 &&& (1 : Int32)))])) (fun t₀ k₀ => ?_) ?_
      · show Steps p.tables e below (s₁.setTop (mkF m 0 #[.val (.int p1), .val (.int p2), .unset, .unset, .unset, .unset, .unset, .unset, .unset] [])) t₀
        refine XS.iloadN X0.here hx rfl (hb hby at_0) rfl ?_
        show Steps p.tables e below (s₁.setTop (mkF m 1 #[.val (.int p1), .val (.int p2), .unset, .unset, .unset, .unset, .unset, .unset, .unset] [(.int p1)])) t₀
        refine XS.iconst X0.here hx rfl (hb hby at_1) ?_
        show Steps p.tables e below (s₁.setTop (mkF m 2 #[.val (.int p1), .val (.int p2), .unset, .unset, .unset, .unset, .unset, .unset, .unset] [(.int (1 : Int32)), (.int p1)])) t₀
        refine XS.iand X0.here hx rfl (hb hby at_2) rfl ?_
        show Steps p.tables e below (s₁.setTop (mkF m 3 #[.val (.int p1), .val (.int p2), .unset, .unset, .unset, .unset, .unset, .unset, .unset] [(.int (p1 &&& (1 : Int32)))])) t₀
        refine XS.istoreN X0.here hx rfl (hb hby at_3) rfl (l' := #[.val (.int p1), .val (.int p2), .val (.int (p1 &&& (1 : Int32))), .unset, .unset, .unset, .unset, .unset, .unset]) rfl ?_
        show Steps p.tables e below (s₁.setTop (mkF m 4 #[.val (.int p1), .val (.int p2), .val (.int (p1 &&& (1 : Int32))), .unset, .unset, .unset, .unset, .unset, .unset] [])) t₀
        refine XS.iloadN X0.here hx rfl (hb hby at_4) rfl ?_
        show Steps p.tables e below (s₁.setTop (mkF m 5 #[.val (.int p1), .val (.int p2), .val (.int (p1 &&& (1 : Int32))), .unset, .unset, .unset, .unset, .unset, .unset] [(.int p2)])) t₀
        refine XS.iconst X0.here hx rfl (hb hby at_5) ?_
        show Steps p.tables e below (s₁.setTop (mkF m 6 #[.val (.int p1), .val (.int p2), .val (.int (p1 &&& (1 : Int32))), .unset, .unset, .unset, .unset, .unset, .unset] [(.int (1 : Int32)), (.int p2)])) t₀
        refine XS.iand X0.here hx rfl (hb hby at_6) rfl ?_
        show Steps p.tables e below (s₁.setTop (mkF m 7 #[.val (.int p1), .val (.int p2), .val (.int (p1 &&& (1 : Int32))), .unset, .unset, .unset, .unset, .unset, .unset] [(.int (p2 &&& (1 : Int32)))])) t₀
        refine XS.istoreN X0.here hx rfl (hb hby at_7) rfl (l' := #[.val (.int p1), .val (.int p2), .val (.int (p1 &&& (1 : Int32))), .val (.int (p2 &&& (1 : Int32))), .unset, .unset, .unset, .unset, .unset]) rfl ?_
        show Steps p.tables e below (s₁.setTop (mkF m 8 #[.val (.int p1), .val (.int p2), .val (.int (p1 &&& (1 : Int32))), .val (.int (p2 &&& (1 : Int32))), .unset, .unset, .unset, .unset, .unset] [])) t₀
        refine XS.iloadN X0.here hx rfl (hb hby at_8) rfl ?_
        exact k₀
      obtain ⟨_, _, ⟨T5, L5, k5, n5⟩, -, X5, ⟨Lc5, hQ5, l5, y5, z5⟩, st5⟩ := Jvm.LawKit.callS X0 hx (y := (⟨"com/example/concordat/concordat/core/AccessIncludesPinLaw", "pick", "(I)Lcom/example/concordat/concordat/core/Access;"⟩ : MethodName)) hown (mvT hZ (hw _ (List.mem_of_getElem? (i := 0) rfl))) (mvT hZ (hw _ (List.mem_of_getElem? (i := 1) rfl))) (mvT hZ (hw _ (List.mem_of_getElem? (i := 2) rfl))) (mvT hZ (hw _ (List.mem_of_getElem? (i := 3) rfl))) (by decide) (backOf (W := 0) (rm1 l Z a0 hw [] (p1 &&& (1 : Int32)) wR wW wR h0 n0 Z0 S_READ S_WRITE (by rw [own_a11]; simp [hi])) hZ (hw _ (List.mem_of_getElem? (i := 3) rfl)) (hw _ (List.mem_of_getElem? (i := 2) rfl)) (by decide) (by decide)) (g := (mkF m 9 #[.val (.int p1), .val (.int p2), .val (.int (p1 &&& (1 : Int32))), .val (.int (p2 &&& (1 : Int32))), .unset, .unset, .unset, .unset, .unset] [(.int (p1 &&& (1 : Int32)))])) rfl (by rw [hml]; rfl) (argsL := [(.int (p1 &&& (1 : Int32)))]) (rest := []) (lenOf pd_0 rfl) rfl (by show 2 * 0 + _ ≤ _; exact Nat.le_of_eq rfl) (hb hby at_9) (fun _ _ => ⟨rfl, e0, (by decide : 0 + 0 ≤ _), (by decide : 0 + 0 ≤ _)⟩)
      dsimp only [Pt.U, Pt.locs, Pt.cells, Pt.slots] at X5 l5 y5 z5 st5 hQ5
      subst l5 y5 z5
      obtain ⟨rfl, N5q, e5⟩ := hQ5
      have N5 := Fr.app N0 N5q
      refine hG _ _ (fun t₀ k₀ => st5 _ k₀) ?_
      show G (T5.setTop (mkF m 12 #[.val (.int p1), .val (.int p2), .val (.int (p1 &&& (1 : Int32))), .val (.int (p2 &&& (1 : Int32))), .unset, .unset, .unset, .unset, .unset] [(.ref wR)]))
      refine hG _ (T5.setTop (mkF m 15 #[.val (.int p1), .val (.int p2), .val (.int (p1 &&& (1 : Int32))), .val (.int (p2 &&& (1 : Int32))), .val (.ref wR), .unset, .unset, .unset, .unset] [(.int (p2 &&& (1 : Int32)))])) (fun t₀ k₀ => ?_) ?_
      · show Steps p.tables e below (T5.setTop (mkF m 12 #[.val (.int p1), .val (.int p2), .val (.int (p1 &&& (1 : Int32))), .val (.int (p2 &&& (1 : Int32))), .unset, .unset, .unset, .unset, .unset] [(.ref wR)])) t₀
        refine XS.astore X5.here hx rfl (hb hby at_12) rfl rfl (l' := #[.val (.int p1), .val (.int p2), .val (.int (p1 &&& (1 : Int32))), .val (.int (p2 &&& (1 : Int32))), .val (.ref wR), .unset, .unset, .unset, .unset]) rfl ?_
        show Steps p.tables e below (T5.setTop (mkF m 14 #[.val (.int p1), .val (.int p2), .val (.int (p1 &&& (1 : Int32))), .val (.int (p2 &&& (1 : Int32))), .val (.ref wR), .unset, .unset, .unset, .unset] [])) t₀
        refine XS.iloadN X5.here hx rfl (hb hby at_14) rfl ?_
        exact k₀
      obtain ⟨_, _, ⟨T6, L6, k6, n6⟩, -, X6, ⟨Lc6, hQ6, l6, y6, z6⟩, st6⟩ := Jvm.LawKit.callS X5 hx (y := (⟨"com/example/concordat/concordat/core/AccessIncludesPinLaw", "pick", "(I)Lcom/example/concordat/concordat/core/Access;"⟩ : MethodName)) hown (mvT hZ (hw _ (List.mem_of_getElem? (i := 0) rfl))) (mvT hZ (hw _ (List.mem_of_getElem? (i := 1) rfl))) (mvT hZ (hw _ (List.mem_of_getElem? (i := 2) rfl))) (mvT hZ (hw _ (List.mem_of_getElem? (i := 3) rfl))) (by decide) (backOf (W := 0) (rm1 l Z a0 hw [] (p2 &&& (1 : Int32)) wR wW wW h0 n0 Z0 S_READ S_WRITE (by rw [own_a11]; simp [hj])) hZ (hw _ (List.mem_of_getElem? (i := 3) rfl)) (hw _ (List.mem_of_getElem? (i := 2) rfl)) (by decide) (by decide)) (g := (mkF m 15 #[.val (.int p1), .val (.int p2), .val (.int (p1 &&& (1 : Int32))), .val (.int (p2 &&& (1 : Int32))), .val (.ref wR), .unset, .unset, .unset, .unset] [(.int (p2 &&& (1 : Int32)))])) rfl (by rw [hml]; rfl) (argsL := [(.int (p2 &&& (1 : Int32)))]) (rest := []) (lenOf pd_0 rfl) rfl (by show 2 * 0 + _ ≤ _; exact Nat.le_of_eq rfl) (hb hby at_15) (fun _ _ => ⟨rfl, e5, (by decide : 0 + 0 ≤ _), (by decide : 0 + 0 ≤ _)⟩)
      dsimp only [Pt.U, Pt.locs, Pt.cells, Pt.slots] at X6 l6 y6 z6 st6 hQ6
      subst l6 y6 z6
      obtain ⟨rfl, N6q, e6⟩ := hQ6
      have N6 := Fr.app N5 N6q
      refine hG _ _ (fun t₀ k₀ => st6 _ k₀) ?_
      show G (T6.setTop (mkF m 18 #[.val (.int p1), .val (.int p2), .val (.int (p1 &&& (1 : Int32))), .val (.int (p2 &&& (1 : Int32))), .val (.ref wR), .unset, .unset, .unset, .unset] [(.ref wW)]))
      refine hG _ (T6.setTop (mkF m 47 #[.val (.int p1), .val (.int p2), .val (.int (p1 &&& (1 : Int32))), .val (.int (p2 &&& (1 : Int32))), .val (.ref wR), .val (.ref wW), .val (.int (0 : Int32)), .unset, .unset] [(.ref wW), (.ref wR)])) (fun t₀ k₀ => ?_) ?_
      · show Steps p.tables e below (T6.setTop (mkF m 18 #[.val (.int p1), .val (.int p2), .val (.int (p1 &&& (1 : Int32))), .val (.int (p2 &&& (1 : Int32))), .val (.ref wR), .unset, .unset, .unset, .unset] [(.ref wW)])) t₀
        refine XS.astore X6.here hx rfl (hb hby at_18) rfl rfl (l' := #[.val (.int p1), .val (.int p2), .val (.int (p1 &&& (1 : Int32))), .val (.int (p2 &&& (1 : Int32))), .val (.ref wR), .val (.ref wW), .unset, .unset, .unset]) rfl ?_
        show Steps p.tables e below (T6.setTop (mkF m 20 #[.val (.int p1), .val (.int p2), .val (.int (p1 &&& (1 : Int32))), .val (.int (p2 &&& (1 : Int32))), .val (.ref wR), .val (.ref wW), .unset, .unset, .unset] [])) t₀
        refine XS.iloadN X6.here hx rfl (hb hby at_20) rfl ?_
        show Steps p.tables e below (T6.setTop (mkF m 21 #[.val (.int p1), .val (.int p2), .val (.int (p1 &&& (1 : Int32))), .val (.int (p2 &&& (1 : Int32))), .val (.ref wR), .val (.ref wW), .unset, .unset, .unset] [(.int (p1 &&& (1 : Int32)))])) t₀
        refine XS.ifNo X6.here hx rfl (hb hby at_21) rfl ((if0 _ _).trans (teq hi).2) ?_
        show Steps p.tables e below (T6.setTop (mkF m 24 #[.val (.int p1), .val (.int p2), .val (.int (p1 &&& (1 : Int32))), .val (.int (p2 &&& (1 : Int32))), .val (.ref wR), .val (.ref wW), .unset, .unset, .unset] [])) t₀
        refine XS.iloadN X6.here hx rfl (hb hby at_24) rfl ?_
        show Steps p.tables e below (T6.setTop (mkF m 25 #[.val (.int p1), .val (.int p2), .val (.int (p1 &&& (1 : Int32))), .val (.int (p2 &&& (1 : Int32))), .val (.ref wR), .val (.ref wW), .unset, .unset, .unset] [(.int (p2 &&& (1 : Int32)))])) t₀
        refine XS.ifYes X6.here hx rfl (pc0 := 25) (pc' := 34) rfl (hb hby at_25) rfl ((if0 _ _).trans (feq hj).2) (by decide) (by decide) ?_
        show Steps p.tables e below (T6.setTop (mkF m 34 #[.val (.int p1), .val (.int p2), .val (.int (p1 &&& (1 : Int32))), .val (.int (p2 &&& (1 : Int32))), .val (.ref wR), .val (.ref wW), .unset, .unset, .unset] [])) t₀
        refine XS.iconst X6.here hx rfl (hb hby at_34) ?_
        show Steps p.tables e below (T6.setTop (mkF m 35 #[.val (.int p1), .val (.int p2), .val (.int (p1 &&& (1 : Int32))), .val (.int (p2 &&& (1 : Int32))), .val (.ref wR), .val (.ref wW), .unset, .unset, .unset] [(.int (0 : Int32))])) t₀
        refine XS.istore X6.here hx rfl (hb hby at_35) rfl (l' := #[.val (.int p1), .val (.int p2), .val (.int (p1 &&& (1 : Int32))), .val (.int (p2 &&& (1 : Int32))), .val (.ref wR), .val (.ref wW), .val (.int (0 : Int32)), .unset, .unset]) rfl ?_
        show Steps p.tables e below (T6.setTop (mkF m 37 #[.val (.int p1), .val (.int p2), .val (.int (p1 &&& (1 : Int32))), .val (.int (p2 &&& (1 : Int32))), .val (.ref wR), .val (.ref wW), .val (.int (0 : Int32)), .unset, .unset] [])) t₀
        refine XS.goto X6.here hx rfl (pc0 := 37) (pc' := 43) rfl (hb hby at_37) (by decide) (by decide) ?_
        show Steps p.tables e below (T6.setTop (mkF m 43 #[.val (.int p1), .val (.int p2), .val (.int (p1 &&& (1 : Int32))), .val (.int (p2 &&& (1 : Int32))), .val (.ref wR), .val (.ref wW), .val (.int (0 : Int32)), .unset, .unset] [])) t₀
        refine XS.aload X6.here hx rfl (hb hby at_43) rfl rfl ?_
        show Steps p.tables e below (T6.setTop (mkF m 45 #[.val (.int p1), .val (.int p2), .val (.int (p1 &&& (1 : Int32))), .val (.int (p2 &&& (1 : Int32))), .val (.ref wR), .val (.ref wW), .val (.int (0 : Int32)), .unset, .unset] [(.ref wR)])) t₀
        refine XS.aload X6.here hx rfl (hb hby at_45) rfl rfl ?_
        exact k₀
      obtain ⟨cq7, kq7, q7a, q7b, q7c⟩ := isOf hZ e6 E_R
      obtain ⟨_, _, ⟨T7, L7, k7, n7⟩, -, X7, ⟨Lc7, hQ7, l7, y7, z7⟩, st7⟩ := X6.virtualBack hx (y := (⟨"com/example/concordat/concordat/core/Access", "includes", "(Lcom/example/concordat/concordat/core/Access;)Z"⟩ : MethodName)) (z := (⟨"com/example/concordat/concordat/core/Access", "includes", "(Lcom/example/concordat/concordat/core/Access;)Z"⟩ : MethodName)) hown (mvT hZ (hw _ (List.mem_of_getElem? (i := 9) rfl))) (mvT hZ (hw _ (List.mem_of_getElem? (i := 10) rfl))) (notFace_of_selects (args := #[]) (mvT hZ (hw _ (List.mem_of_getElem? (i := 12) rfl)))) (mvT hZ (hw _ (List.mem_of_getElem? (i := 12) rfl))) (mvT hZ (hw _ (List.mem_of_getElem? (i := 11) rfl))) (by decide) (backOf (W := 0) (rm2 l Z a0 hw [] wR wW wR wW (0 : Int32) h0 n0 Z0 S_READ S_WRITE (by simp [hne, hne.symm])) hZ (hw _ (List.mem_of_getElem? (i := 13) rfl)) (hw _ (List.mem_of_getElem? (i := 5) rfl)) (by decide) (by decide)) q7a q7c (g := (mkF m 47 #[.val (.int p1), .val (.int p2), .val (.int (p1 &&& (1 : Int32))), .val (.int (p2 &&& (1 : Int32))), .val (.ref wR), .val (.ref wW), .val (.int (0 : Int32)), .unset, .unset] [(.ref wW), (.ref wR)])) rfl (by rw [hml]; rfl) (Steps.refl _) (argsL := [(.ref wW)]) (rest := []) (lenOf pd_1 rfl) rfl (by show 2 * 0 + _ ≤ _; exact Nat.le_of_eq rfl) (hb hby at_47) (fun _ _ => ⟨rfl, e6, (by decide : 0 + 0 ≤ _), (by decide : 0 + 0 ≤ _)⟩)
      dsimp only [Pt.U, Pt.locs, Pt.cells, Pt.slots] at X7 l7 y7 z7 st7 hQ7
      subst l7 y7 z7
      obtain ⟨rfl, N7q, e7⟩ := hQ7
      have N7 := Fr.app N6 N7q
      refine hG _ _ (fun t₀ k₀ => st7.trans k₀) ?_
      show G (T7.setTop (mkF m 50 #[.val (.int p1), .val (.int p2), .val (.int (p1 &&& (1 : Int32))), .val (.int (p2 &&& (1 : Int32))), .val (.ref wR), .val (.ref wW), .val (.int (0 : Int32)), .unset, .unset] [(.int (0 : Int32))]))
      refine hG _ (T7.setTop (mkF m 56 #[.val (.int p1), .val (.int p2), .val (.int (p1 &&& (1 : Int32))), .val (.int (p2 &&& (1 : Int32))), .val (.ref wR), .val (.ref wW), .val (.int (0 : Int32)), .val (.int (0 : Int32)), .unset] [(.ref wR), (.ref wR)])) (fun t₀ k₀ => ?_) ?_
      · show Steps p.tables e below (T7.setTop (mkF m 50 #[.val (.int p1), .val (.int p2), .val (.int (p1 &&& (1 : Int32))), .val (.int (p2 &&& (1 : Int32))), .val (.ref wR), .val (.ref wW), .val (.int (0 : Int32)), .unset, .unset] [(.int (0 : Int32))])) t₀
        refine XS.istore X7.here hx rfl (hb hby at_50) rfl (l' := #[.val (.int p1), .val (.int p2), .val (.int (p1 &&& (1 : Int32))), .val (.int (p2 &&& (1 : Int32))), .val (.ref wR), .val (.ref wW), .val (.int (0 : Int32)), .val (.int (0 : Int32)), .unset]) rfl ?_
        show Steps p.tables e below (T7.setTop (mkF m 52 #[.val (.int p1), .val (.int p2), .val (.int (p1 &&& (1 : Int32))), .val (.int (p2 &&& (1 : Int32))), .val (.ref wR), .val (.ref wW), .val (.int (0 : Int32)), .val (.int (0 : Int32)), .unset] [])) t₀
        refine XS.aload X7.here hx rfl (hb hby at_52) rfl rfl ?_
        show Steps p.tables e below (T7.setTop (mkF m 54 #[.val (.int p1), .val (.int p2), .val (.int (p1 &&& (1 : Int32))), .val (.int (p2 &&& (1 : Int32))), .val (.ref wR), .val (.ref wW), .val (.int (0 : Int32)), .val (.int (0 : Int32)), .unset] [(.ref wR)])) t₀
        refine XS.aload X7.here hx rfl (hb hby at_54) rfl rfl ?_
        exact k₀
      obtain ⟨cq8, kq8, q8a, q8b, q8c⟩ := isOf hZ e7 E_R
      obtain ⟨_, _, ⟨T8, L8, k8, n8⟩, -, X8, ⟨Lc8, hQ8, l8, y8, z8⟩, st8⟩ := X7.virtualBack hx (y := (⟨"com/example/concordat/concordat/core/Access", "includes", "(Lcom/example/concordat/concordat/core/Access;)Z"⟩ : MethodName)) (z := (⟨"com/example/concordat/concordat/core/Access", "includes", "(Lcom/example/concordat/concordat/core/Access;)Z"⟩ : MethodName)) hown (mvT hZ (hw _ (List.mem_of_getElem? (i := 9) rfl))) (mvT hZ (hw _ (List.mem_of_getElem? (i := 10) rfl))) (notFace_of_selects (args := #[]) (mvT hZ (hw _ (List.mem_of_getElem? (i := 12) rfl)))) (mvT hZ (hw _ (List.mem_of_getElem? (i := 12) rfl))) (mvT hZ (hw _ (List.mem_of_getElem? (i := 11) rfl))) (by decide) (backOf (W := 0) (rm2 l Z a0 hw [] wR wR wR wW (1 : Int32) h0 n0 Z0 S_READ S_WRITE (by simp [hne, hne.symm])) hZ (hw _ (List.mem_of_getElem? (i := 13) rfl)) (hw _ (List.mem_of_getElem? (i := 5) rfl)) (by decide) (by decide)) q8a q8c (g := (mkF m 56 #[.val (.int p1), .val (.int p2), .val (.int (p1 &&& (1 : Int32))), .val (.int (p2 &&& (1 : Int32))), .val (.ref wR), .val (.ref wW), .val (.int (0 : Int32)), .val (.int (0 : Int32)), .unset] [(.ref wR), (.ref wR)])) rfl (by rw [hml]; rfl) (Steps.refl _) (argsL := [(.ref wR)]) (rest := []) (lenOf pd_1 rfl) rfl (by show 2 * 0 + _ ≤ _; exact Nat.le_of_eq rfl) (hb hby at_56) (fun _ _ => ⟨rfl, e7, (by decide : 0 + 0 ≤ _), (by decide : 0 + 0 ≤ _)⟩)
      dsimp only [Pt.U, Pt.locs, Pt.cells, Pt.slots] at X8 l8 y8 z8 st8 hQ8
      subst l8 y8 z8
      obtain ⟨rfl, N8q, e8⟩ := hQ8
      have N8 := Fr.app N7 N8q
      refine hG _ _ (fun t₀ k₀ => st8.trans k₀) ?_
      show G (T8.setTop (mkF m 59 #[.val (.int p1), .val (.int p2), .val (.int (p1 &&& (1 : Int32))), .val (.int (p2 &&& (1 : Int32))), .val (.ref wR), .val (.ref wW), .val (.int (0 : Int32)), .val (.int (0 : Int32)), .unset] [(.int (1 : Int32))]))
      refine hG _ (T8.setTop (mkF m 78 #[.val (.int p1), .val (.int p2), .val (.int (p1 &&& (1 : Int32))), .val (.int (p2 &&& (1 : Int32))), .val (.ref wR), .val (.ref wW), .val (.int (0 : Int32)), .val (.int (0 : Int32)), .val (.int (1 : Int32))] [(.int (1 : Int32))])) (fun t₀ k₀ => ?_) ?_
      · show Steps p.tables e below (T8.setTop (mkF m 59 #[.val (.int p1), .val (.int p2), .val (.int (p1 &&& (1 : Int32))), .val (.int (p2 &&& (1 : Int32))), .val (.ref wR), .val (.ref wW), .val (.int (0 : Int32)), .val (.int (0 : Int32)), .unset] [(.int (1 : Int32))])) t₀
        refine XS.istore X8.here hx rfl (hb hby at_59) rfl (l' := #[.val (.int p1), .val (.int p2), .val (.int (p1 &&& (1 : Int32))), .val (.int (p2 &&& (1 : Int32))), .val (.ref wR), .val (.ref wW), .val (.int (0 : Int32)), .val (.int (0 : Int32)), .val (.int (1 : Int32))]) rfl ?_
        show Steps p.tables e below (T8.setTop (mkF m 61 #[.val (.int p1), .val (.int p2), .val (.int (p1 &&& (1 : Int32))), .val (.int (p2 &&& (1 : Int32))), .val (.ref wR), .val (.ref wW), .val (.int (0 : Int32)), .val (.int (0 : Int32)), .val (.int (1 : Int32))] [])) t₀
        refine XS.iload X8.here hx rfl (hb hby at_61) rfl ?_
        show Steps p.tables e below (T8.setTop (mkF m 63 #[.val (.int p1), .val (.int p2), .val (.int (p1 &&& (1 : Int32))), .val (.int (p2 &&& (1 : Int32))), .val (.ref wR), .val (.ref wW), .val (.int (0 : Int32)), .val (.int (0 : Int32)), .val (.int (1 : Int32))] [(.int (0 : Int32))])) t₀
        refine XS.iload X8.here hx rfl (hb hby at_63) rfl ?_
        show Steps p.tables e below (T8.setTop (mkF m 65 #[.val (.int p1), .val (.int p2), .val (.int (p1 &&& (1 : Int32))), .val (.int (p2 &&& (1 : Int32))), .val (.ref wR), .val (.ref wW), .val (.int (0 : Int32)), .val (.int (0 : Int32)), .val (.int (1 : Int32))] [(.int (0 : Int32)), (.int (0 : Int32))])) t₀
        refine XS.icmpNo X8.here hx rfl (hb hby at_65) rfl (teq (by decide : ((0 : Int32) = (0 : Int32)))).2 ?_
        show Steps p.tables e below (T8.setTop (mkF m 68 #[.val (.int p1), .val (.int p2), .val (.int (p1 &&& (1 : Int32))), .val (.int (p2 &&& (1 : Int32))), .val (.ref wR), .val (.ref wW), .val (.int (0 : Int32)), .val (.int (0 : Int32)), .val (.int (1 : Int32))] [])) t₀
        refine XS.iload X8.here hx rfl (hb hby at_68) rfl ?_
        show Steps p.tables e below (T8.setTop (mkF m 70 #[.val (.int p1), .val (.int p2), .val (.int (p1 &&& (1 : Int32))), .val (.int (p2 &&& (1 : Int32))), .val (.ref wR), .val (.ref wW), .val (.int (0 : Int32)), .val (.int (0 : Int32)), .val (.int (1 : Int32))] [(.int (1 : Int32))])) t₀
        refine XS.ifNo X8.here hx rfl (hb hby at_70) rfl ((if0 _ _).trans (feq (by decide : ¬ ((1 : Int32) = (0 : Int32)))).1) ?_
        show Steps p.tables e below (T8.setTop (mkF m 73 #[.val (.int p1), .val (.int p2), .val (.int (p1 &&& (1 : Int32))), .val (.int (p2 &&& (1 : Int32))), .val (.ref wR), .val (.ref wW), .val (.int (0 : Int32)), .val (.int (0 : Int32)), .val (.int (1 : Int32))] [])) t₀
        refine XS.iconst X8.here hx rfl (hb hby at_73) ?_
        show Steps p.tables e below (T8.setTop (mkF m 74 #[.val (.int p1), .val (.int p2), .val (.int (p1 &&& (1 : Int32))), .val (.int (p2 &&& (1 : Int32))), .val (.ref wR), .val (.ref wW), .val (.int (0 : Int32)), .val (.int (0 : Int32)), .val (.int (1 : Int32))] [(.int (1 : Int32))])) t₀
        refine XS.goto X8.here hx rfl (pc0 := 74) (pc' := 78) rfl (hb hby at_74) (by decide) (by decide) ?_
        exact k₀
      refine hF _ T8 _ _ _ (some (.int (1 : Int32))) _ X8 e8 (fun h => by rw [hrt] at h; cases h) (by decide) (by decide) ?_ (fun fs hr => retN X8 hx (t := .boolean) hrt (by simp) (hb hby at_78) hr)
      exact ⟨rfl, N8⟩
  ·
    by_cases hj : (p2 &&& (1 : Int32)) = (0 : Int32)
    ·
      refine hG _ (s₁.setTop (mkF m 9 #[.val (.int p1), .val (.int p2), .val (.int (p1 &&& (1 : Int32))), .val (.int (p2 &&& (1 : Int32))), .unset, .unset, .unset, .unset, .unset] [(.int (p1 &&& (1 : Int32)))])) (fun t₀ k₀ => ?_) ?_
      · show Steps p.tables e below (s₁.setTop (mkF m 0 #[.val (.int p1), .val (.int p2), .unset, .unset, .unset, .unset, .unset, .unset, .unset] [])) t₀
        refine XS.iloadN X0.here hx rfl (hb hby at_0) rfl ?_
        show Steps p.tables e below (s₁.setTop (mkF m 1 #[.val (.int p1), .val (.int p2), .unset, .unset, .unset, .unset, .unset, .unset, .unset] [(.int p1)])) t₀
        refine XS.iconst X0.here hx rfl (hb hby at_1) ?_
        show Steps p.tables e below (s₁.setTop (mkF m 2 #[.val (.int p1), .val (.int p2), .unset, .unset, .unset, .unset, .unset, .unset, .unset] [(.int (1 : Int32)), (.int p1)])) t₀
        refine XS.iand X0.here hx rfl (hb hby at_2) rfl ?_
        show Steps p.tables e below (s₁.setTop (mkF m 3 #[.val (.int p1), .val (.int p2), .unset, .unset, .unset, .unset, .unset, .unset, .unset] [(.int (p1 &&& (1 : Int32)))])) t₀
        refine XS.istoreN X0.here hx rfl (hb hby at_3) rfl (l' := #[.val (.int p1), .val (.int p2), .val (.int (p1 &&& (1 : Int32))), .unset, .unset, .unset, .unset, .unset, .unset]) rfl ?_
        show Steps p.tables e below (s₁.setTop (mkF m 4 #[.val (.int p1), .val (.int p2), .val (.int (p1 &&& (1 : Int32))), .unset, .unset, .unset, .unset, .unset, .unset] [])) t₀
        refine XS.iloadN X0.here hx rfl (hb hby at_4) rfl ?_
        show Steps p.tables e below (s₁.setTop (mkF m 5 #[.val (.int p1), .val (.int p2), .val (.int (p1 &&& (1 : Int32))), .unset, .unset, .unset, .unset, .unset, .unset] [(.int p2)])) t₀
        refine XS.iconst X0.here hx rfl (hb hby at_5) ?_
        show Steps p.tables e below (s₁.setTop (mkF m 6 #[.val (.int p1), .val (.int p2), .val (.int (p1 &&& (1 : Int32))), .unset, .unset, .unset, .unset, .unset, .unset] [(.int (1 : Int32)), (.int p2)])) t₀
        refine XS.iand X0.here hx rfl (hb hby at_6) rfl ?_
        show Steps p.tables e below (s₁.setTop (mkF m 7 #[.val (.int p1), .val (.int p2), .val (.int (p1 &&& (1 : Int32))), .unset, .unset, .unset, .unset, .unset, .unset] [(.int (p2 &&& (1 : Int32)))])) t₀
        refine XS.istoreN X0.here hx rfl (hb hby at_7) rfl (l' := #[.val (.int p1), .val (.int p2), .val (.int (p1 &&& (1 : Int32))), .val (.int (p2 &&& (1 : Int32))), .unset, .unset, .unset, .unset, .unset]) rfl ?_
        show Steps p.tables e below (s₁.setTop (mkF m 8 #[.val (.int p1), .val (.int p2), .val (.int (p1 &&& (1 : Int32))), .val (.int (p2 &&& (1 : Int32))), .unset, .unset, .unset, .unset, .unset] [])) t₀
        refine XS.iloadN X0.here hx rfl (hb hby at_8) rfl ?_
        exact k₀
      obtain ⟨_, _, ⟨T9, L9, k9, n9⟩, -, X9, ⟨Lc9, hQ9, l9, y9, z9⟩, st9⟩ := Jvm.LawKit.callS X0 hx (y := (⟨"com/example/concordat/concordat/core/AccessIncludesPinLaw", "pick", "(I)Lcom/example/concordat/concordat/core/Access;"⟩ : MethodName)) hown (mvT hZ (hw _ (List.mem_of_getElem? (i := 0) rfl))) (mvT hZ (hw _ (List.mem_of_getElem? (i := 1) rfl))) (mvT hZ (hw _ (List.mem_of_getElem? (i := 2) rfl))) (mvT hZ (hw _ (List.mem_of_getElem? (i := 3) rfl))) (by decide) (backOf (W := 0) (rm1 l Z a0 hw [] (p1 &&& (1 : Int32)) wR wW wW h0 n0 Z0 S_READ S_WRITE (by rw [own_a11]; simp [hi])) hZ (hw _ (List.mem_of_getElem? (i := 3) rfl)) (hw _ (List.mem_of_getElem? (i := 2) rfl)) (by decide) (by decide)) (g := (mkF m 9 #[.val (.int p1), .val (.int p2), .val (.int (p1 &&& (1 : Int32))), .val (.int (p2 &&& (1 : Int32))), .unset, .unset, .unset, .unset, .unset] [(.int (p1 &&& (1 : Int32)))])) rfl (by rw [hml]; rfl) (argsL := [(.int (p1 &&& (1 : Int32)))]) (rest := []) (lenOf pd_0 rfl) rfl (by show 2 * 0 + _ ≤ _; exact Nat.le_of_eq rfl) (hb hby at_9) (fun _ _ => ⟨rfl, e0, (by decide : 0 + 0 ≤ _), (by decide : 0 + 0 ≤ _)⟩)
      dsimp only [Pt.U, Pt.locs, Pt.cells, Pt.slots] at X9 l9 y9 z9 st9 hQ9
      subst l9 y9 z9
      obtain ⟨rfl, N9q, e9⟩ := hQ9
      have N9 := Fr.app N0 N9q
      refine hG _ _ (fun t₀ k₀ => st9 _ k₀) ?_
      show G (T9.setTop (mkF m 12 #[.val (.int p1), .val (.int p2), .val (.int (p1 &&& (1 : Int32))), .val (.int (p2 &&& (1 : Int32))), .unset, .unset, .unset, .unset, .unset] [(.ref wW)]))
      refine hG _ (T9.setTop (mkF m 15 #[.val (.int p1), .val (.int p2), .val (.int (p1 &&& (1 : Int32))), .val (.int (p2 &&& (1 : Int32))), .val (.ref wW), .unset, .unset, .unset, .unset] [(.int (p2 &&& (1 : Int32)))])) (fun t₀ k₀ => ?_) ?_
      · show Steps p.tables e below (T9.setTop (mkF m 12 #[.val (.int p1), .val (.int p2), .val (.int (p1 &&& (1 : Int32))), .val (.int (p2 &&& (1 : Int32))), .unset, .unset, .unset, .unset, .unset] [(.ref wW)])) t₀
        refine XS.astore X9.here hx rfl (hb hby at_12) rfl rfl (l' := #[.val (.int p1), .val (.int p2), .val (.int (p1 &&& (1 : Int32))), .val (.int (p2 &&& (1 : Int32))), .val (.ref wW), .unset, .unset, .unset, .unset]) rfl ?_
        show Steps p.tables e below (T9.setTop (mkF m 14 #[.val (.int p1), .val (.int p2), .val (.int (p1 &&& (1 : Int32))), .val (.int (p2 &&& (1 : Int32))), .val (.ref wW), .unset, .unset, .unset, .unset] [])) t₀
        refine XS.iloadN X9.here hx rfl (hb hby at_14) rfl ?_
        exact k₀
      obtain ⟨_, _, ⟨T10, L10, k10, n10⟩, -, X10, ⟨Lc10, hQ10, l10, y10, z10⟩, st10⟩ := Jvm.LawKit.callS X9 hx (y := (⟨"com/example/concordat/concordat/core/AccessIncludesPinLaw", "pick", "(I)Lcom/example/concordat/concordat/core/Access;"⟩ : MethodName)) hown (mvT hZ (hw _ (List.mem_of_getElem? (i := 0) rfl))) (mvT hZ (hw _ (List.mem_of_getElem? (i := 1) rfl))) (mvT hZ (hw _ (List.mem_of_getElem? (i := 2) rfl))) (mvT hZ (hw _ (List.mem_of_getElem? (i := 3) rfl))) (by decide) (backOf (W := 0) (rm1 l Z a0 hw [] (p2 &&& (1 : Int32)) wR wW wR h0 n0 Z0 S_READ S_WRITE (by rw [own_a11]; simp [hj])) hZ (hw _ (List.mem_of_getElem? (i := 3) rfl)) (hw _ (List.mem_of_getElem? (i := 2) rfl)) (by decide) (by decide)) (g := (mkF m 15 #[.val (.int p1), .val (.int p2), .val (.int (p1 &&& (1 : Int32))), .val (.int (p2 &&& (1 : Int32))), .val (.ref wW), .unset, .unset, .unset, .unset] [(.int (p2 &&& (1 : Int32)))])) rfl (by rw [hml]; rfl) (argsL := [(.int (p2 &&& (1 : Int32)))]) (rest := []) (lenOf pd_0 rfl) rfl (by show 2 * 0 + _ ≤ _; exact Nat.le_of_eq rfl) (hb hby at_15) (fun _ _ => ⟨rfl, e9, (by decide : 0 + 0 ≤ _), (by decide : 0 + 0 ≤ _)⟩)
      dsimp only [Pt.U, Pt.locs, Pt.cells, Pt.slots] at X10 l10 y10 z10 st10 hQ10
      subst l10 y10 z10
      obtain ⟨rfl, N10q, e10⟩ := hQ10
      have N10 := Fr.app N9 N10q
      refine hG _ _ (fun t₀ k₀ => st10 _ k₀) ?_
      show G (T10.setTop (mkF m 18 #[.val (.int p1), .val (.int p2), .val (.int (p1 &&& (1 : Int32))), .val (.int (p2 &&& (1 : Int32))), .val (.ref wW), .unset, .unset, .unset, .unset] [(.ref wR)]))
      refine hG _ (T10.setTop (mkF m 47 #[.val (.int p1), .val (.int p2), .val (.int (p1 &&& (1 : Int32))), .val (.int (p2 &&& (1 : Int32))), .val (.ref wW), .val (.ref wR), .val (.int (1 : Int32)), .unset, .unset] [(.ref wR), (.ref wW)])) (fun t₀ k₀ => ?_) ?_
      · show Steps p.tables e below (T10.setTop (mkF m 18 #[.val (.int p1), .val (.int p2), .val (.int (p1 &&& (1 : Int32))), .val (.int (p2 &&& (1 : Int32))), .val (.ref wW), .unset, .unset, .unset, .unset] [(.ref wR)])) t₀
        refine XS.astore X10.here hx rfl (hb hby at_18) rfl rfl (l' := #[.val (.int p1), .val (.int p2), .val (.int (p1 &&& (1 : Int32))), .val (.int (p2 &&& (1 : Int32))), .val (.ref wW), .val (.ref wR), .unset, .unset, .unset]) rfl ?_
        show Steps p.tables e below (T10.setTop (mkF m 20 #[.val (.int p1), .val (.int p2), .val (.int (p1 &&& (1 : Int32))), .val (.int (p2 &&& (1 : Int32))), .val (.ref wW), .val (.ref wR), .unset, .unset, .unset] [])) t₀
        refine XS.iloadN X10.here hx rfl (hb hby at_20) rfl ?_
        show Steps p.tables e below (T10.setTop (mkF m 21 #[.val (.int p1), .val (.int p2), .val (.int (p1 &&& (1 : Int32))), .val (.int (p2 &&& (1 : Int32))), .val (.ref wW), .val (.ref wR), .unset, .unset, .unset] [(.int (p1 &&& (1 : Int32)))])) t₀
        refine XS.ifYes X10.here hx rfl (pc0 := 21) (pc' := 40) rfl (hb hby at_21) rfl ((if0 _ _).trans (feq hi).2) (by decide) (by decide) ?_
        show Steps p.tables e below (T10.setTop (mkF m 40 #[.val (.int p1), .val (.int p2), .val (.int (p1 &&& (1 : Int32))), .val (.int (p2 &&& (1 : Int32))), .val (.ref wW), .val (.ref wR), .unset, .unset, .unset] [])) t₀
        refine XS.iconst X10.here hx rfl (hb hby at_40) ?_
        show Steps p.tables e below (T10.setTop (mkF m 41 #[.val (.int p1), .val (.int p2), .val (.int (p1 &&& (1 : Int32))), .val (.int (p2 &&& (1 : Int32))), .val (.ref wW), .val (.ref wR), .unset, .unset, .unset] [(.int (1 : Int32))])) t₀
        refine XS.istore X10.here hx rfl (hb hby at_41) rfl (l' := #[.val (.int p1), .val (.int p2), .val (.int (p1 &&& (1 : Int32))), .val (.int (p2 &&& (1 : Int32))), .val (.ref wW), .val (.ref wR), .val (.int (1 : Int32)), .unset, .unset]) rfl ?_
        show Steps p.tables e below (T10.setTop (mkF m 43 #[.val (.int p1), .val (.int p2), .val (.int (p1 &&& (1 : Int32))), .val (.int (p2 &&& (1 : Int32))), .val (.ref wW), .val (.ref wR), .val (.int (1 : Int32)), .unset, .unset] [])) t₀
        refine XS.aload X10.here hx rfl (hb hby at_43) rfl rfl ?_
        show Steps p.tables e below (T10.setTop (mkF m 45 #[.val (.int p1), .val (.int p2), .val (.int (p1 &&& (1 : Int32))), .val (.int (p2 &&& (1 : Int32))), .val (.ref wW), .val (.ref wR), .val (.int (1 : Int32)), .unset, .unset] [(.ref wW)])) t₀
        refine XS.aload X10.here hx rfl (hb hby at_45) rfl rfl ?_
        exact k₀
      obtain ⟨cq11, kq11, q11a, q11b, q11c⟩ := isOf hZ e10 E_W
      obtain ⟨_, _, ⟨T11, L11, k11, n11⟩, -, X11, ⟨Lc11, hQ11, l11, y11, z11⟩, st11⟩ := X10.virtualBack hx (y := (⟨"com/example/concordat/concordat/core/Access", "includes", "(Lcom/example/concordat/concordat/core/Access;)Z"⟩ : MethodName)) (z := (⟨"com/example/concordat/concordat/core/Access", "includes", "(Lcom/example/concordat/concordat/core/Access;)Z"⟩ : MethodName)) hown (mvT hZ (hw _ (List.mem_of_getElem? (i := 9) rfl))) (mvT hZ (hw _ (List.mem_of_getElem? (i := 10) rfl))) (notFace_of_selects (args := #[]) (mvT hZ (hw _ (List.mem_of_getElem? (i := 12) rfl)))) (mvT hZ (hw _ (List.mem_of_getElem? (i := 12) rfl))) (mvT hZ (hw _ (List.mem_of_getElem? (i := 11) rfl))) (by decide) (backOf (W := 0) (rm2 l Z a0 hw [] wW wR wR wW (1 : Int32) h0 n0 Z0 S_READ S_WRITE (by simp [hne, hne.symm])) hZ (hw _ (List.mem_of_getElem? (i := 13) rfl)) (hw _ (List.mem_of_getElem? (i := 5) rfl)) (by decide) (by decide)) q11a q11c (g := (mkF m 47 #[.val (.int p1), .val (.int p2), .val (.int (p1 &&& (1 : Int32))), .val (.int (p2 &&& (1 : Int32))), .val (.ref wW), .val (.ref wR), .val (.int (1 : Int32)), .unset, .unset] [(.ref wR), (.ref wW)])) rfl (by rw [hml]; rfl) (Steps.refl _) (argsL := [(.ref wR)]) (rest := []) (lenOf pd_1 rfl) rfl (by show 2 * 0 + _ ≤ _; exact Nat.le_of_eq rfl) (hb hby at_47) (fun _ _ => ⟨rfl, e10, (by decide : 0 + 0 ≤ _), (by decide : 0 + 0 ≤ _)⟩)
      dsimp only [Pt.U, Pt.locs, Pt.cells, Pt.slots] at X11 l11 y11 z11 st11 hQ11
      subst l11 y11 z11
      obtain ⟨rfl, N11q, e11⟩ := hQ11
      have N11 := Fr.app N10 N11q
      refine hG _ _ (fun t₀ k₀ => st11.trans k₀) ?_
      show G (T11.setTop (mkF m 50 #[.val (.int p1), .val (.int p2), .val (.int (p1 &&& (1 : Int32))), .val (.int (p2 &&& (1 : Int32))), .val (.ref wW), .val (.ref wR), .val (.int (1 : Int32)), .unset, .unset] [(.int (1 : Int32))]))
      refine hG _ (T11.setTop (mkF m 56 #[.val (.int p1), .val (.int p2), .val (.int (p1 &&& (1 : Int32))), .val (.int (p2 &&& (1 : Int32))), .val (.ref wW), .val (.ref wR), .val (.int (1 : Int32)), .val (.int (1 : Int32)), .unset] [(.ref wW), (.ref wW)])) (fun t₀ k₀ => ?_) ?_
      · show Steps p.tables e below (T11.setTop (mkF m 50 #[.val (.int p1), .val (.int p2), .val (.int (p1 &&& (1 : Int32))), .val (.int (p2 &&& (1 : Int32))), .val (.ref wW), .val (.ref wR), .val (.int (1 : Int32)), .unset, .unset] [(.int (1 : Int32))])) t₀
        refine XS.istore X11.here hx rfl (hb hby at_50) rfl (l' := #[.val (.int p1), .val (.int p2), .val (.int (p1 &&& (1 : Int32))), .val (.int (p2 &&& (1 : Int32))), .val (.ref wW), .val (.ref wR), .val (.int (1 : Int32)), .val (.int (1 : Int32)), .unset]) rfl ?_
        show Steps p.tables e below (T11.setTop (mkF m 52 #[.val (.int p1), .val (.int p2), .val (.int (p1 &&& (1 : Int32))), .val (.int (p2 &&& (1 : Int32))), .val (.ref wW), .val (.ref wR), .val (.int (1 : Int32)), .val (.int (1 : Int32)), .unset] [])) t₀
        refine XS.aload X11.here hx rfl (hb hby at_52) rfl rfl ?_
        show Steps p.tables e below (T11.setTop (mkF m 54 #[.val (.int p1), .val (.int p2), .val (.int (p1 &&& (1 : Int32))), .val (.int (p2 &&& (1 : Int32))), .val (.ref wW), .val (.ref wR), .val (.int (1 : Int32)), .val (.int (1 : Int32)), .unset] [(.ref wW)])) t₀
        refine XS.aload X11.here hx rfl (hb hby at_54) rfl rfl ?_
        exact k₀
      obtain ⟨cq12, kq12, q12a, q12b, q12c⟩ := isOf hZ e11 E_W
      obtain ⟨_, _, ⟨T12, L12, k12, n12⟩, -, X12, ⟨Lc12, hQ12, l12, y12, z12⟩, st12⟩ := X11.virtualBack hx (y := (⟨"com/example/concordat/concordat/core/Access", "includes", "(Lcom/example/concordat/concordat/core/Access;)Z"⟩ : MethodName)) (z := (⟨"com/example/concordat/concordat/core/Access", "includes", "(Lcom/example/concordat/concordat/core/Access;)Z"⟩ : MethodName)) hown (mvT hZ (hw _ (List.mem_of_getElem? (i := 9) rfl))) (mvT hZ (hw _ (List.mem_of_getElem? (i := 10) rfl))) (notFace_of_selects (args := #[]) (mvT hZ (hw _ (List.mem_of_getElem? (i := 12) rfl)))) (mvT hZ (hw _ (List.mem_of_getElem? (i := 12) rfl))) (mvT hZ (hw _ (List.mem_of_getElem? (i := 11) rfl))) (by decide) (backOf (W := 0) (rm2 l Z a0 hw [] wW wW wR wW (1 : Int32) h0 n0 Z0 S_READ S_WRITE (by simp [hne, hne.symm])) hZ (hw _ (List.mem_of_getElem? (i := 13) rfl)) (hw _ (List.mem_of_getElem? (i := 5) rfl)) (by decide) (by decide)) q12a q12c (g := (mkF m 56 #[.val (.int p1), .val (.int p2), .val (.int (p1 &&& (1 : Int32))), .val (.int (p2 &&& (1 : Int32))), .val (.ref wW), .val (.ref wR), .val (.int (1 : Int32)), .val (.int (1 : Int32)), .unset] [(.ref wW), (.ref wW)])) rfl (by rw [hml]; rfl) (Steps.refl _) (argsL := [(.ref wW)]) (rest := []) (lenOf pd_1 rfl) rfl (by show 2 * 0 + _ ≤ _; exact Nat.le_of_eq rfl) (hb hby at_56) (fun _ _ => ⟨rfl, e11, (by decide : 0 + 0 ≤ _), (by decide : 0 + 0 ≤ _)⟩)
      dsimp only [Pt.U, Pt.locs, Pt.cells, Pt.slots] at X12 l12 y12 z12 st12 hQ12
      subst l12 y12 z12
      obtain ⟨rfl, N12q, e12⟩ := hQ12
      have N12 := Fr.app N11 N12q
      refine hG _ _ (fun t₀ k₀ => st12.trans k₀) ?_
      show G (T12.setTop (mkF m 59 #[.val (.int p1), .val (.int p2), .val (.int (p1 &&& (1 : Int32))), .val (.int (p2 &&& (1 : Int32))), .val (.ref wW), .val (.ref wR), .val (.int (1 : Int32)), .val (.int (1 : Int32)), .unset] [(.int (1 : Int32))]))
      refine hG _ (T12.setTop (mkF m 78 #[.val (.int p1), .val (.int p2), .val (.int (p1 &&& (1 : Int32))), .val (.int (p2 &&& (1 : Int32))), .val (.ref wW), .val (.ref wR), .val (.int (1 : Int32)), .val (.int (1 : Int32)), .val (.int (1 : Int32))] [(.int (1 : Int32))])) (fun t₀ k₀ => ?_) ?_
      · show Steps p.tables e below (T12.setTop (mkF m 59 #[.val (.int p1), .val (.int p2), .val (.int (p1 &&& (1 : Int32))), .val (.int (p2 &&& (1 : Int32))), .val (.ref wW), .val (.ref wR), .val (.int (1 : Int32)), .val (.int (1 : Int32)), .unset] [(.int (1 : Int32))])) t₀
        refine XS.istore X12.here hx rfl (hb hby at_59) rfl (l' := #[.val (.int p1), .val (.int p2), .val (.int (p1 &&& (1 : Int32))), .val (.int (p2 &&& (1 : Int32))), .val (.ref wW), .val (.ref wR), .val (.int (1 : Int32)), .val (.int (1 : Int32)), .val (.int (1 : Int32))]) rfl ?_
        show Steps p.tables e below (T12.setTop (mkF m 61 #[.val (.int p1), .val (.int p2), .val (.int (p1 &&& (1 : Int32))), .val (.int (p2 &&& (1 : Int32))), .val (.ref wW), .val (.ref wR), .val (.int (1 : Int32)), .val (.int (1 : Int32)), .val (.int (1 : Int32))] [])) t₀
        refine XS.iload X12.here hx rfl (hb hby at_61) rfl ?_
        show Steps p.tables e below (T12.setTop (mkF m 63 #[.val (.int p1), .val (.int p2), .val (.int (p1 &&& (1 : Int32))), .val (.int (p2 &&& (1 : Int32))), .val (.ref wW), .val (.ref wR), .val (.int (1 : Int32)), .val (.int (1 : Int32)), .val (.int (1 : Int32))] [(.int (1 : Int32))])) t₀
        refine XS.iload X12.here hx rfl (hb hby at_63) rfl ?_
        show Steps p.tables e below (T12.setTop (mkF m 65 #[.val (.int p1), .val (.int p2), .val (.int (p1 &&& (1 : Int32))), .val (.int (p2 &&& (1 : Int32))), .val (.ref wW), .val (.ref wR), .val (.int (1 : Int32)), .val (.int (1 : Int32)), .val (.int (1 : Int32))] [(.int (1 : Int32)), (.int (1 : Int32))])) t₀
        refine XS.icmpNo X12.here hx rfl (hb hby at_65) rfl (teq (by decide : ((1 : Int32) = (1 : Int32)))).2 ?_
        show Steps p.tables e below (T12.setTop (mkF m 68 #[.val (.int p1), .val (.int p2), .val (.int (p1 &&& (1 : Int32))), .val (.int (p2 &&& (1 : Int32))), .val (.ref wW), .val (.ref wR), .val (.int (1 : Int32)), .val (.int (1 : Int32)), .val (.int (1 : Int32))] [])) t₀
        refine XS.iload X12.here hx rfl (hb hby at_68) rfl ?_
        show Steps p.tables e below (T12.setTop (mkF m 70 #[.val (.int p1), .val (.int p2), .val (.int (p1 &&& (1 : Int32))), .val (.int (p2 &&& (1 : Int32))), .val (.ref wW), .val (.ref wR), .val (.int (1 : Int32)), .val (.int (1 : Int32)), .val (.int (1 : Int32))] [(.int (1 : Int32))])) t₀
        refine XS.ifNo X12.here hx rfl (hb hby at_70) rfl ((if0 _ _).trans (feq (by decide : ¬ ((1 : Int32) = (0 : Int32)))).1) ?_
        show Steps p.tables e below (T12.setTop (mkF m 73 #[.val (.int p1), .val (.int p2), .val (.int (p1 &&& (1 : Int32))), .val (.int (p2 &&& (1 : Int32))), .val (.ref wW), .val (.ref wR), .val (.int (1 : Int32)), .val (.int (1 : Int32)), .val (.int (1 : Int32))] [])) t₀
        refine XS.iconst X12.here hx rfl (hb hby at_73) ?_
        show Steps p.tables e below (T12.setTop (mkF m 74 #[.val (.int p1), .val (.int p2), .val (.int (p1 &&& (1 : Int32))), .val (.int (p2 &&& (1 : Int32))), .val (.ref wW), .val (.ref wR), .val (.int (1 : Int32)), .val (.int (1 : Int32)), .val (.int (1 : Int32))] [(.int (1 : Int32))])) t₀
        refine XS.goto X12.here hx rfl (pc0 := 74) (pc' := 78) rfl (hb hby at_74) (by decide) (by decide) ?_
        exact k₀
      refine hF _ T12 _ _ _ (some (.int (1 : Int32))) _ X12 e12 (fun h => by rw [hrt] at h; cases h) (by decide) (by decide) ?_ (fun fs hr => retN X12 hx (t := .boolean) hrt (by simp) (hb hby at_78) hr)
      exact ⟨rfl, N12⟩
    ·
      refine hG _ (s₁.setTop (mkF m 9 #[.val (.int p1), .val (.int p2), .val (.int (p1 &&& (1 : Int32))), .val (.int (p2 &&& (1 : Int32))), .unset, .unset, .unset, .unset, .unset] [(.int (p1 &&& (1 : Int32)))])) (fun t₀ k₀ => ?_) ?_
      · show Steps p.tables e below (s₁.setTop (mkF m 0 #[.val (.int p1), .val (.int p2), .unset, .unset, .unset, .unset, .unset, .unset, .unset] [])) t₀
        refine XS.iloadN X0.here hx rfl (hb hby at_0) rfl ?_
        show Steps p.tables e below (s₁.setTop (mkF m 1 #[.val (.int p1), .val (.int p2), .unset, .unset, .unset, .unset, .unset, .unset, .unset] [(.int p1)])) t₀
        refine XS.iconst X0.here hx rfl (hb hby at_1) ?_
        show Steps p.tables e below (s₁.setTop (mkF m 2 #[.val (.int p1), .val (.int p2), .unset, .unset, .unset, .unset, .unset, .unset, .unset] [(.int (1 : Int32)), (.int p1)])) t₀
        refine XS.iand X0.here hx rfl (hb hby at_2) rfl ?_
        show Steps p.tables e below (s₁.setTop (mkF m 3 #[.val (.int p1), .val (.int p2), .unset, .unset, .unset, .unset, .unset, .unset, .unset] [(.int (p1 &&& (1 : Int32)))])) t₀
        refine XS.istoreN X0.here hx rfl (hb hby at_3) rfl (l' := #[.val (.int p1), .val (.int p2), .val (.int (p1 &&& (1 : Int32))), .unset, .unset, .unset, .unset, .unset, .unset]) rfl ?_
        show Steps p.tables e below (s₁.setTop (mkF m 4 #[.val (.int p1), .val (.int p2), .val (.int (p1 &&& (1 : Int32))), .unset, .unset, .unset, .unset, .unset, .unset] [])) t₀
        refine XS.iloadN X0.here hx rfl (hb hby at_4) rfl ?_
        show Steps p.tables e below (s₁.setTop (mkF m 5 #[.val (.int p1), .val (.int p2), .val (.int (p1 &&& (1 : Int32))), .unset, .unset, .unset, .unset, .unset, .unset] [(.int p2)])) t₀
        refine XS.iconst X0.here hx rfl (hb hby at_5) ?_
        show Steps p.tables e below (s₁.setTop (mkF m 6 #[.val (.int p1), .val (.int p2), .val (.int (p1 &&& (1 : Int32))), .unset, .unset, .unset, .unset, .unset, .unset] [(.int (1 : Int32)), (.int p2)])) t₀
        refine XS.iand X0.here hx rfl (hb hby at_6) rfl ?_
        show Steps p.tables e below (s₁.setTop (mkF m 7 #[.val (.int p1), .val (.int p2), .val (.int (p1 &&& (1 : Int32))), .unset, .unset, .unset, .unset, .unset, .unset] [(.int (p2 &&& (1 : Int32)))])) t₀
        refine XS.istoreN X0.here hx rfl (hb hby at_7) rfl (l' := #[.val (.int p1), .val (.int p2), .val (.int (p1 &&& (1 : Int32))), .val (.int (p2 &&& (1 : Int32))), .unset, .unset, .unset, .unset, .unset]) rfl ?_
        show Steps p.tables e below (s₁.setTop (mkF m 8 #[.val (.int p1), .val (.int p2), .val (.int (p1 &&& (1 : Int32))), .val (.int (p2 &&& (1 : Int32))), .unset, .unset, .unset, .unset, .unset] [])) t₀
        refine XS.iloadN X0.here hx rfl (hb hby at_8) rfl ?_
        exact k₀
      obtain ⟨_, _, ⟨T13, L13, k13, n13⟩, -, X13, ⟨Lc13, hQ13, l13, y13, z13⟩, st13⟩ := Jvm.LawKit.callS X0 hx (y := (⟨"com/example/concordat/concordat/core/AccessIncludesPinLaw", "pick", "(I)Lcom/example/concordat/concordat/core/Access;"⟩ : MethodName)) hown (mvT hZ (hw _ (List.mem_of_getElem? (i := 0) rfl))) (mvT hZ (hw _ (List.mem_of_getElem? (i := 1) rfl))) (mvT hZ (hw _ (List.mem_of_getElem? (i := 2) rfl))) (mvT hZ (hw _ (List.mem_of_getElem? (i := 3) rfl))) (by decide) (backOf (W := 0) (rm1 l Z a0 hw [] (p1 &&& (1 : Int32)) wR wW wW h0 n0 Z0 S_READ S_WRITE (by rw [own_a11]; simp [hi])) hZ (hw _ (List.mem_of_getElem? (i := 3) rfl)) (hw _ (List.mem_of_getElem? (i := 2) rfl)) (by decide) (by decide)) (g := (mkF m 9 #[.val (.int p1), .val (.int p2), .val (.int (p1 &&& (1 : Int32))), .val (.int (p2 &&& (1 : Int32))), .unset, .unset, .unset, .unset, .unset] [(.int (p1 &&& (1 : Int32)))])) rfl (by rw [hml]; rfl) (argsL := [(.int (p1 &&& (1 : Int32)))]) (rest := []) (lenOf pd_0 rfl) rfl (by show 2 * 0 + _ ≤ _; exact Nat.le_of_eq rfl) (hb hby at_9) (fun _ _ => ⟨rfl, e0, (by decide : 0 + 0 ≤ _), (by decide : 0 + 0 ≤ _)⟩)
      dsimp only [Pt.U, Pt.locs, Pt.cells, Pt.slots] at X13 l13 y13 z13 st13 hQ13
      subst l13 y13 z13
      obtain ⟨rfl, N13q, e13⟩ := hQ13
      have N13 := Fr.app N0 N13q
      refine hG _ _ (fun t₀ k₀ => st13 _ k₀) ?_
      show G (T13.setTop (mkF m 12 #[.val (.int p1), .val (.int p2), .val (.int (p1 &&& (1 : Int32))), .val (.int (p2 &&& (1 : Int32))), .unset, .unset, .unset, .unset, .unset] [(.ref wW)]))
      refine hG _ (T13.setTop (mkF m 15 #[.val (.int p1), .val (.int p2), .val (.int (p1 &&& (1 : Int32))), .val (.int (p2 &&& (1 : Int32))), .val (.ref wW), .unset, .unset, .unset, .unset] [(.int (p2 &&& (1 : Int32)))])) (fun t₀ k₀ => ?_) ?_
      · show Steps p.tables e below (T13.setTop (mkF m 12 #[.val (.int p1), .val (.int p2), .val (.int (p1 &&& (1 : Int32))), .val (.int (p2 &&& (1 : Int32))), .unset, .unset, .unset, .unset, .unset] [(.ref wW)])) t₀
        refine XS.astore X13.here hx rfl (hb hby at_12) rfl rfl (l' := #[.val (.int p1), .val (.int p2), .val (.int (p1 &&& (1 : Int32))), .val (.int (p2 &&& (1 : Int32))), .val (.ref wW), .unset, .unset, .unset, .unset]) rfl ?_
        show Steps p.tables e below (T13.setTop (mkF m 14 #[.val (.int p1), .val (.int p2), .val (.int (p1 &&& (1 : Int32))), .val (.int (p2 &&& (1 : Int32))), .val (.ref wW), .unset, .unset, .unset, .unset] [])) t₀
        refine XS.iloadN X13.here hx rfl (hb hby at_14) rfl ?_
        exact k₀
      obtain ⟨_, _, ⟨T14, L14, k14, n14⟩, -, X14, ⟨Lc14, hQ14, l14, y14, z14⟩, st14⟩ := Jvm.LawKit.callS X13 hx (y := (⟨"com/example/concordat/concordat/core/AccessIncludesPinLaw", "pick", "(I)Lcom/example/concordat/concordat/core/Access;"⟩ : MethodName)) hown (mvT hZ (hw _ (List.mem_of_getElem? (i := 0) rfl))) (mvT hZ (hw _ (List.mem_of_getElem? (i := 1) rfl))) (mvT hZ (hw _ (List.mem_of_getElem? (i := 2) rfl))) (mvT hZ (hw _ (List.mem_of_getElem? (i := 3) rfl))) (by decide) (backOf (W := 0) (rm1 l Z a0 hw [] (p2 &&& (1 : Int32)) wR wW wW h0 n0 Z0 S_READ S_WRITE (by rw [own_a11]; simp [hj])) hZ (hw _ (List.mem_of_getElem? (i := 3) rfl)) (hw _ (List.mem_of_getElem? (i := 2) rfl)) (by decide) (by decide)) (g := (mkF m 15 #[.val (.int p1), .val (.int p2), .val (.int (p1 &&& (1 : Int32))), .val (.int (p2 &&& (1 : Int32))), .val (.ref wW), .unset, .unset, .unset, .unset] [(.int (p2 &&& (1 : Int32)))])) rfl (by rw [hml]; rfl) (argsL := [(.int (p2 &&& (1 : Int32)))]) (rest := []) (lenOf pd_0 rfl) rfl (by show 2 * 0 + _ ≤ _; exact Nat.le_of_eq rfl) (hb hby at_15) (fun _ _ => ⟨rfl, e13, (by decide : 0 + 0 ≤ _), (by decide : 0 + 0 ≤ _)⟩)
      dsimp only [Pt.U, Pt.locs, Pt.cells, Pt.slots] at X14 l14 y14 z14 st14 hQ14
      subst l14 y14 z14
      obtain ⟨rfl, N14q, e14⟩ := hQ14
      have N14 := Fr.app N13 N14q
      refine hG _ _ (fun t₀ k₀ => st14 _ k₀) ?_
      show G (T14.setTop (mkF m 18 #[.val (.int p1), .val (.int p2), .val (.int (p1 &&& (1 : Int32))), .val (.int (p2 &&& (1 : Int32))), .val (.ref wW), .unset, .unset, .unset, .unset] [(.ref wW)]))
      refine hG _ (T14.setTop (mkF m 47 #[.val (.int p1), .val (.int p2), .val (.int (p1 &&& (1 : Int32))), .val (.int (p2 &&& (1 : Int32))), .val (.ref wW), .val (.ref wW), .val (.int (1 : Int32)), .unset, .unset] [(.ref wW), (.ref wW)])) (fun t₀ k₀ => ?_) ?_
      · show Steps p.tables e below (T14.setTop (mkF m 18 #[.val (.int p1), .val (.int p2), .val (.int (p1 &&& (1 : Int32))), .val (.int (p2 &&& (1 : Int32))), .val (.ref wW), .unset, .unset, .unset, .unset] [(.ref wW)])) t₀
        refine XS.astore X14.here hx rfl (hb hby at_18) rfl rfl (l' := #[.val (.int p1), .val (.int p2), .val (.int (p1 &&& (1 : Int32))), .val (.int (p2 &&& (1 : Int32))), .val (.ref wW), .val (.ref wW), .unset, .unset, .unset]) rfl ?_
        show Steps p.tables e below (T14.setTop (mkF m 20 #[.val (.int p1), .val (.int p2), .val (.int (p1 &&& (1 : Int32))), .val (.int (p2 &&& (1 : Int32))), .val (.ref wW), .val (.ref wW), .unset, .unset, .unset] [])) t₀
        refine XS.iloadN X14.here hx rfl (hb hby at_20) rfl ?_
        show Steps p.tables e below (T14.setTop (mkF m 21 #[.val (.int p1), .val (.int p2), .val (.int (p1 &&& (1 : Int32))), .val (.int (p2 &&& (1 : Int32))), .val (.ref wW), .val (.ref wW), .unset, .unset, .unset] [(.int (p1 &&& (1 : Int32)))])) t₀
        refine XS.ifYes X14.here hx rfl (pc0 := 21) (pc' := 40) rfl (hb hby at_21) rfl ((if0 _ _).trans (feq hi).2) (by decide) (by decide) ?_
        show Steps p.tables e below (T14.setTop (mkF m 40 #[.val (.int p1), .val (.int p2), .val (.int (p1 &&& (1 : Int32))), .val (.int (p2 &&& (1 : Int32))), .val (.ref wW), .val (.ref wW), .unset, .unset, .unset] [])) t₀
        refine XS.iconst X14.here hx rfl (hb hby at_40) ?_
        show Steps p.tables e below (T14.setTop (mkF m 41 #[.val (.int p1), .val (.int p2), .val (.int (p1 &&& (1 : Int32))), .val (.int (p2 &&& (1 : Int32))), .val (.ref wW), .val (.ref wW), .unset, .unset, .unset] [(.int (1 : Int32))])) t₀
        refine XS.istore X14.here hx rfl (hb hby at_41) rfl (l' := #[.val (.int p1), .val (.int p2), .val (.int (p1 &&& (1 : Int32))), .val (.int (p2 &&& (1 : Int32))), .val (.ref wW), .val (.ref wW), .val (.int (1 : Int32)), .unset, .unset]) rfl ?_
        show Steps p.tables e below (T14.setTop (mkF m 43 #[.val (.int p1), .val (.int p2), .val (.int (p1 &&& (1 : Int32))), .val (.int (p2 &&& (1 : Int32))), .val (.ref wW), .val (.ref wW), .val (.int (1 : Int32)), .unset, .unset] [])) t₀
        refine XS.aload X14.here hx rfl (hb hby at_43) rfl rfl ?_
        show Steps p.tables e below (T14.setTop (mkF m 45 #[.val (.int p1), .val (.int p2), .val (.int (p1 &&& (1 : Int32))), .val (.int (p2 &&& (1 : Int32))), .val (.ref wW), .val (.ref wW), .val (.int (1 : Int32)), .unset, .unset] [(.ref wW)])) t₀
        refine XS.aload X14.here hx rfl (hb hby at_45) rfl rfl ?_
        exact k₀
      obtain ⟨cq15, kq15, q15a, q15b, q15c⟩ := isOf hZ e14 E_W
      obtain ⟨_, _, ⟨T15, L15, k15, n15⟩, -, X15, ⟨Lc15, hQ15, l15, y15, z15⟩, st15⟩ := X14.virtualBack hx (y := (⟨"com/example/concordat/concordat/core/Access", "includes", "(Lcom/example/concordat/concordat/core/Access;)Z"⟩ : MethodName)) (z := (⟨"com/example/concordat/concordat/core/Access", "includes", "(Lcom/example/concordat/concordat/core/Access;)Z"⟩ : MethodName)) hown (mvT hZ (hw _ (List.mem_of_getElem? (i := 9) rfl))) (mvT hZ (hw _ (List.mem_of_getElem? (i := 10) rfl))) (notFace_of_selects (args := #[]) (mvT hZ (hw _ (List.mem_of_getElem? (i := 12) rfl)))) (mvT hZ (hw _ (List.mem_of_getElem? (i := 12) rfl))) (mvT hZ (hw _ (List.mem_of_getElem? (i := 11) rfl))) (by decide) (backOf (W := 0) (rm2 l Z a0 hw [] wW wW wR wW (1 : Int32) h0 n0 Z0 S_READ S_WRITE (by simp [hne, hne.symm])) hZ (hw _ (List.mem_of_getElem? (i := 13) rfl)) (hw _ (List.mem_of_getElem? (i := 5) rfl)) (by decide) (by decide)) q15a q15c (g := (mkF m 47 #[.val (.int p1), .val (.int p2), .val (.int (p1 &&& (1 : Int32))), .val (.int (p2 &&& (1 : Int32))), .val (.ref wW), .val (.ref wW), .val (.int (1 : Int32)), .unset, .unset] [(.ref wW), (.ref wW)])) rfl (by rw [hml]; rfl) (Steps.refl _) (argsL := [(.ref wW)]) (rest := []) (lenOf pd_1 rfl) rfl (by show 2 * 0 + _ ≤ _; exact Nat.le_of_eq rfl) (hb hby at_47) (fun _ _ => ⟨rfl, e14, (by decide : 0 + 0 ≤ _), (by decide : 0 + 0 ≤ _)⟩)
      dsimp only [Pt.U, Pt.locs, Pt.cells, Pt.slots] at X15 l15 y15 z15 st15 hQ15
      subst l15 y15 z15
      obtain ⟨rfl, N15q, e15⟩ := hQ15
      have N15 := Fr.app N14 N15q
      refine hG _ _ (fun t₀ k₀ => st15.trans k₀) ?_
      show G (T15.setTop (mkF m 50 #[.val (.int p1), .val (.int p2), .val (.int (p1 &&& (1 : Int32))), .val (.int (p2 &&& (1 : Int32))), .val (.ref wW), .val (.ref wW), .val (.int (1 : Int32)), .unset, .unset] [(.int (1 : Int32))]))
      refine hG _ (T15.setTop (mkF m 56 #[.val (.int p1), .val (.int p2), .val (.int (p1 &&& (1 : Int32))), .val (.int (p2 &&& (1 : Int32))), .val (.ref wW), .val (.ref wW), .val (.int (1 : Int32)), .val (.int (1 : Int32)), .unset] [(.ref wW), (.ref wW)])) (fun t₀ k₀ => ?_) ?_
      · show Steps p.tables e below (T15.setTop (mkF m 50 #[.val (.int p1), .val (.int p2), .val (.int (p1 &&& (1 : Int32))), .val (.int (p2 &&& (1 : Int32))), .val (.ref wW), .val (.ref wW), .val (.int (1 : Int32)), .unset, .unset] [(.int (1 : Int32))])) t₀
        refine XS.istore X15.here hx rfl (hb hby at_50) rfl (l' := #[.val (.int p1), .val (.int p2), .val (.int (p1 &&& (1 : Int32))), .val (.int (p2 &&& (1 : Int32))), .val (.ref wW), .val (.ref wW), .val (.int (1 : Int32)), .val (.int (1 : Int32)), .unset]) rfl ?_
        show Steps p.tables e below (T15.setTop (mkF m 52 #[.val (.int p1), .val (.int p2), .val (.int (p1 &&& (1 : Int32))), .val (.int (p2 &&& (1 : Int32))), .val (.ref wW), .val (.ref wW), .val (.int (1 : Int32)), .val (.int (1 : Int32)), .unset] [])) t₀
        refine XS.aload X15.here hx rfl (hb hby at_52) rfl rfl ?_
        show Steps p.tables e below (T15.setTop (mkF m 54 #[.val (.int p1), .val (.int p2), .val (.int (p1 &&& (1 : Int32))), .val (.int (p2 &&& (1 : Int32))), .val (.ref wW), .val (.ref wW), .val (.int (1 : Int32)), .val (.int (1 : Int32)), .unset] [(.ref wW)])) t₀
        refine XS.aload X15.here hx rfl (hb hby at_54) rfl rfl ?_
        exact k₀
      obtain ⟨cq16, kq16, q16a, q16b, q16c⟩ := isOf hZ e15 E_W
      obtain ⟨_, _, ⟨T16, L16, k16, n16⟩, -, X16, ⟨Lc16, hQ16, l16, y16, z16⟩, st16⟩ := X15.virtualBack hx (y := (⟨"com/example/concordat/concordat/core/Access", "includes", "(Lcom/example/concordat/concordat/core/Access;)Z"⟩ : MethodName)) (z := (⟨"com/example/concordat/concordat/core/Access", "includes", "(Lcom/example/concordat/concordat/core/Access;)Z"⟩ : MethodName)) hown (mvT hZ (hw _ (List.mem_of_getElem? (i := 9) rfl))) (mvT hZ (hw _ (List.mem_of_getElem? (i := 10) rfl))) (notFace_of_selects (args := #[]) (mvT hZ (hw _ (List.mem_of_getElem? (i := 12) rfl)))) (mvT hZ (hw _ (List.mem_of_getElem? (i := 12) rfl))) (mvT hZ (hw _ (List.mem_of_getElem? (i := 11) rfl))) (by decide) (backOf (W := 0) (rm2 l Z a0 hw [] wW wW wR wW (1 : Int32) h0 n0 Z0 S_READ S_WRITE (by simp [hne, hne.symm])) hZ (hw _ (List.mem_of_getElem? (i := 13) rfl)) (hw _ (List.mem_of_getElem? (i := 5) rfl)) (by decide) (by decide)) q16a q16c (g := (mkF m 56 #[.val (.int p1), .val (.int p2), .val (.int (p1 &&& (1 : Int32))), .val (.int (p2 &&& (1 : Int32))), .val (.ref wW), .val (.ref wW), .val (.int (1 : Int32)), .val (.int (1 : Int32)), .unset] [(.ref wW), (.ref wW)])) rfl (by rw [hml]; rfl) (Steps.refl _) (argsL := [(.ref wW)]) (rest := []) (lenOf pd_1 rfl) rfl (by show 2 * 0 + _ ≤ _; exact Nat.le_of_eq rfl) (hb hby at_56) (fun _ _ => ⟨rfl, e15, (by decide : 0 + 0 ≤ _), (by decide : 0 + 0 ≤ _)⟩)
      dsimp only [Pt.U, Pt.locs, Pt.cells, Pt.slots] at X16 l16 y16 z16 st16 hQ16
      subst l16 y16 z16
      obtain ⟨rfl, N16q, e16⟩ := hQ16
      have N16 := Fr.app N15 N16q
      refine hG _ _ (fun t₀ k₀ => st16.trans k₀) ?_
      show G (T16.setTop (mkF m 59 #[.val (.int p1), .val (.int p2), .val (.int (p1 &&& (1 : Int32))), .val (.int (p2 &&& (1 : Int32))), .val (.ref wW), .val (.ref wW), .val (.int (1 : Int32)), .val (.int (1 : Int32)), .unset] [(.int (1 : Int32))]))
      refine hG _ (T16.setTop (mkF m 78 #[.val (.int p1), .val (.int p2), .val (.int (p1 &&& (1 : Int32))), .val (.int (p2 &&& (1 : Int32))), .val (.ref wW), .val (.ref wW), .val (.int (1 : Int32)), .val (.int (1 : Int32)), .val (.int (1 : Int32))] [(.int (1 : Int32))])) (fun t₀ k₀ => ?_) ?_
      · show Steps p.tables e below (T16.setTop (mkF m 59 #[.val (.int p1), .val (.int p2), .val (.int (p1 &&& (1 : Int32))), .val (.int (p2 &&& (1 : Int32))), .val (.ref wW), .val (.ref wW), .val (.int (1 : Int32)), .val (.int (1 : Int32)), .unset] [(.int (1 : Int32))])) t₀
        refine XS.istore X16.here hx rfl (hb hby at_59) rfl (l' := #[.val (.int p1), .val (.int p2), .val (.int (p1 &&& (1 : Int32))), .val (.int (p2 &&& (1 : Int32))), .val (.ref wW), .val (.ref wW), .val (.int (1 : Int32)), .val (.int (1 : Int32)), .val (.int (1 : Int32))]) rfl ?_
        show Steps p.tables e below (T16.setTop (mkF m 61 #[.val (.int p1), .val (.int p2), .val (.int (p1 &&& (1 : Int32))), .val (.int (p2 &&& (1 : Int32))), .val (.ref wW), .val (.ref wW), .val (.int (1 : Int32)), .val (.int (1 : Int32)), .val (.int (1 : Int32))] [])) t₀
        refine XS.iload X16.here hx rfl (hb hby at_61) rfl ?_
        show Steps p.tables e below (T16.setTop (mkF m 63 #[.val (.int p1), .val (.int p2), .val (.int (p1 &&& (1 : Int32))), .val (.int (p2 &&& (1 : Int32))), .val (.ref wW), .val (.ref wW), .val (.int (1 : Int32)), .val (.int (1 : Int32)), .val (.int (1 : Int32))] [(.int (1 : Int32))])) t₀
        refine XS.iload X16.here hx rfl (hb hby at_63) rfl ?_
        show Steps p.tables e below (T16.setTop (mkF m 65 #[.val (.int p1), .val (.int p2), .val (.int (p1 &&& (1 : Int32))), .val (.int (p2 &&& (1 : Int32))), .val (.ref wW), .val (.ref wW), .val (.int (1 : Int32)), .val (.int (1 : Int32)), .val (.int (1 : Int32))] [(.int (1 : Int32)), (.int (1 : Int32))])) t₀
        refine XS.icmpNo X16.here hx rfl (hb hby at_65) rfl (teq (by decide : ((1 : Int32) = (1 : Int32)))).2 ?_
        show Steps p.tables e below (T16.setTop (mkF m 68 #[.val (.int p1), .val (.int p2), .val (.int (p1 &&& (1 : Int32))), .val (.int (p2 &&& (1 : Int32))), .val (.ref wW), .val (.ref wW), .val (.int (1 : Int32)), .val (.int (1 : Int32)), .val (.int (1 : Int32))] [])) t₀
        refine XS.iload X16.here hx rfl (hb hby at_68) rfl ?_
        show Steps p.tables e below (T16.setTop (mkF m 70 #[.val (.int p1), .val (.int p2), .val (.int (p1 &&& (1 : Int32))), .val (.int (p2 &&& (1 : Int32))), .val (.ref wW), .val (.ref wW), .val (.int (1 : Int32)), .val (.int (1 : Int32)), .val (.int (1 : Int32))] [(.int (1 : Int32))])) t₀
        refine XS.ifNo X16.here hx rfl (hb hby at_70) rfl ((if0 _ _).trans (feq (by decide : ¬ ((1 : Int32) = (0 : Int32)))).1) ?_
        show Steps p.tables e below (T16.setTop (mkF m 73 #[.val (.int p1), .val (.int p2), .val (.int (p1 &&& (1 : Int32))), .val (.int (p2 &&& (1 : Int32))), .val (.ref wW), .val (.ref wW), .val (.int (1 : Int32)), .val (.int (1 : Int32)), .val (.int (1 : Int32))] [])) t₀
        refine XS.iconst X16.here hx rfl (hb hby at_73) ?_
        show Steps p.tables e below (T16.setTop (mkF m 74 #[.val (.int p1), .val (.int p2), .val (.int (p1 &&& (1 : Int32))), .val (.int (p2 &&& (1 : Int32))), .val (.ref wW), .val (.ref wW), .val (.int (1 : Int32)), .val (.int (1 : Int32)), .val (.int (1 : Int32))] [(.int (1 : Int32))])) t₀
        refine XS.goto X16.here hx rfl (pc0 := 74) (pc' := 78) rfl (hb hby at_74) (by decide) (by decide) ?_
        exact k₀
      refine hF _ T16 _ _ _ (some (.int (1 : Int32))) _ X16 e16 (fun h => by rw [hrt] at h; cases h) (by decide) (by decide) ?_ (fun fs hr => retN X16 hx (t := .boolean) hrt (by simp) (hb hby at_78) hr)
      exact ⟨rfl, N16⟩
theorem own_fldI {s : State} {args : Array Value} {t : Term} {C n d : String} {k : Int32} {a : Addr} (h : (Jvm.Cond.eq (.field t C n d) (.int k)).value args s none s [] = some true) (ev : t.eval args s none [] s = some (.ref a)) : Fld s s.heap a C n d (.int k) := by
  obtain ⟨x, y, hx, hy, k1, k2⟩ := cmp_v (Or.inl h)
  cases (Term.int_eval (args := args) (first := s) (o := none) (idx := []) (s := s) k).symm.trans hy
  obtain ⟨z, rfl⟩ : ∃ z, x = .int z := k2
  have e := gotT (Cond.eq_ints hx hy) h
  subst e
  exact Fld.start ((fld_at ev).symm.trans hx)

set_option maxRecDepth 65536 in
set_option maxHeartbeats 40000000 in
theorem comes_1 {Post : Tables → Env → Array Value → State → Outcome → State → Prop} (hpost : ∀ tb e args s v u, (limb_1_1.after args s (.returned v) u = true ∧ limb_1_2.after args s (.returned v) u = true ∧ True) → FrameEnd s (.returned v) u (Jvm.fieldLocs frame_1_writes args s ++ Jvm.arrayLocs frame_1_arrays args s ++ Jvm.staticLocs frame_1_statics s) 0 0 → Post tb e args s (.returned v) u) :
    ArmFor flags0 classFile x code maxLocals ret World_1 tables_1 room_1 Calls_1 rest_1 Pre_1 Post := by
  intro l hfl _ _ p e ha hc hk s m args below hf hA hF happ hP
  obtain ⟨hcalls, hrest, hpre⟩ := hP
  obtain ⟨-, -, -, hnamed, -, -, -, hat⟩ := (Spec.applies_iff hf).mp happ
  obtain ⟨hg, hn⟩ := and_e (Cond.before_iff.mp (show (Jvm.Cond.and given_1 narrow_1).before args s = true from hpre))
  obtain ⟨hcount, gg⟩ := and_e hg
  obtain ⟨ga0, gg⟩ := and_e gg
  have ga1 := gg
  obtain ⟨w0, w1, rfl⟩ : ∃ w0 w1 : Value, args = #[w0, w1] := by
    have hs : args.size = 2 := by simpa [Cond.value, given_1] using hcount
    obtain ⟨L⟩ := args
    match L, hs with
    | [w0, w1], _ => exact ⟨w0, w1, rfl⟩
  have hw := fun d (hd : d ∈ tables_1) => atoms_spec (ws := Jvm.Cond.code x code maxLocals ret :: tables_1) hat d (List.mem_cons_of_mem _ hd)
  have hfit : Fit s := fun {y c} hc i hi => by
    obtain ⟨ha, rfl⟩ := Array.getElem?_eq_some_iff.mp hc
    have q := List.all_eq_true.mp ((Array.all_eq_true_iff_forall_mem.mp hF) _ (Array.getElem_mem ha)) i (List.mem_range.mpr hi)
    simpa [Array.getElem?_eq_getElem hi] using q
  obtain ⟨i0, ei0⟩ := is_v ga0
  obtain rfl : w0 = (.int i0) := Option.some.inj ei0
  obtain ⟨i1, ei1⟩ := is_v ga1
  obtain rfl : w1 = (.int i1) := Option.some.inj ei1
  obtain ⟨n1, hn⟩ := and_e hn
  obtain ⟨n2, hn⟩ := and_e hn
  obtain ⟨n3, n4⟩ := and_e hn
  obtain ⟨wR, evR⟩ := exa_v n1
  obtain ⟨wW, evW⟩ := exa_v n2
  have SR := Sta.start evR (Or.inr ⟨(hw _ (List.mem_of_getElem? (i := 5) rfl)), (hw _ (List.mem_of_getElem? (i := 6) rfl))⟩)
  have SW := Sta.start evW (Or.inr ⟨(hw _ (List.mem_of_getElem? (i := 5) rfl)), (hw _ (List.mem_of_getElem? (i := 8) rfl))⟩)
  have hne : wR ≠ wW := (own_fldI n3 evR).ne (own_fldI n4 evW) (by decide)
  obtain ⟨n, o, h1, h2, h3, _, L, rfl, ⟨rfl, N⟩, hq⟩ := rm0 l s _ hw tables_1 i0 i1 wR wW s.heap s.heap.size (Nat.le_refl _) SR SW (Exa.start evR n1) (Exa.start evW n2) hne p e ha hc hk s m _ below hf ((Spec.applies_iff_loose hf).mp happ).1 ⟨rfl, State.Warmed39.refl s, rfl⟩ trivial
  refine ⟨n, _, h1, h2, h3, hpost _ _ _ _ _ _ ⟨Cond.after_iff.mpr rfl, Cond.after_iff.mpr (eq_i res_at (Term.int_eval (1)) rfl), trivial⟩ ⟨hq.1, hq.2.1, (hq.2.2.sift fun y hy => Or.inr (N y hy)).mono (by decide) (by decide)⟩⟩
theorem main_1_1 : Claimed_1_1 := comes_1 fun _ _ _ _ _ _ h hF => ⟨h.1, hF⟩
theorem main_1_2 : Claimed_1_2 := comes_1 fun _ _ _ _ _ _ h hF => ⟨h.2.1, hF⟩
end Jvm.Pilot.@@N@@
namespace Jvm.Pilot.@@N@@
open Jvm Jvm.ClassFile Sem Op Lib Jvm.Free Jvm.Stand Jvm.Pilot.@@N@@.Jvm.D
/-! MADE BY PROGRAM (witnessworld.py) out of the Statement's table words and the real class files: 12 classes; the members and pool entries that the words name. The judged class is class 1, her method 2. -/
namespace start1
open Jvm.ClassFile
def u (s : String) : CpInfo := .utf8 (stringToUtf16 s)
/-- a pool by its gaps: so many unusable entries, then the entry; so many at the end -/
def gap : Nat → List CpInfo → List CpInfo
  | 0, r => r
  | n + 1, r => .unusable :: gap n r
def poolList (es : List (Nat × CpInfo)) (last : Nat) : List CpInfo := es.foldr (fun e r => gap e.1 (e.2 :: r)) (gap last [])
def pool (es : List (Nat × CpInfo)) (last : Nat) : Array CpInfo := ⟨poolList es last⟩
def fileOf (pool : Array CpInfo) (this : Nat) (attrs : Array Attribute := #[]) (ms : Array MethodInfo := #[]) (fl : Nat := 33) (sup : Nat := 0) (ifs : Array Nat := #[]) (fds : Array FieldInfo := #[]) : ClassFile where
  minorVersion := 0
  majorVersion := 65
  constantPool := pool
  accessFlags := fl
  thisClass := this
  superClass := sup
  interfaces := ifs
  fields := fds
  methods := ms
  attributes := attrs
def plain (name : String) (sup : Option ClassId) : Class where
  name := name
  kind := .ordinary
  loader := none
  accessFlags := 33
  super := sup
  interfaces := #[]
  cf := none
  fields := #[]
  methods := #[]
  instanceTypes := #[]
  staticTypes := #[]
  resolved := #[]
  callSites := []
  init := .initialized
  statics := none
  mirror := none

def pool0 : Array CpInfo := pool [(5, u "<init>"), (0, u "()V"), (1, .class_ 10), (1, u "java/lang/Object")] 113

def k0m0 : Method := { name := "<init>", desc := "()V", sig := { parameters := [], returnType := none }, accessFlags := 1, code := none }
/-- java/lang/Object -/
def k0 : Class := { plain "java/lang/Object" none with
  accessFlags := 33
  interfaces := #[]
  cf := some (fileOf pool0 8 #[] #[{ accessFlags := 1, nameIndex := 5, descriptorIndex := 6, attributes := #[] }] 33 0 #[] #[])
  fields := #[]
  methods := #[k0m0]
  instanceTypes := #[]
  staticTypes := #[]
  resolved := Array.replicate 124 none
  statics := none }

def pool1 : Array CpInfo := pool [(2, .class_ 4), (1, u "java/lang/Object"), (0, u "<init>"), (0, u "()V"), (0, .fieldref 8 9), (0, .class_ 10), (0, .nameAndType 11 12), (0, u "com/example/concordat/concordat/core/Access"), (0, u "READ"), (0, u "Lcom/example/concordat/concordat/core/Access;"), (0, .fieldref 8 14), (0, .nameAndType 15 12), (0, u "WRITE"), (0, .methodref 17 18), (0, .class_ 19), (0, .nameAndType 20 21), (0, u "com/example/concordat/concordat/core/AccessIncludesPinLaw"), (0, u "pick"), (0, u "(I)Lcom/example/concordat/concordat/core/Access;"), (0, .methodref 8 23), (0, .nameAndType 24 25), (0, u "includes"), (0, u "(Lcom/example/concordat/concordat/core/Access;)Z"), (3, u "law"), (0, u "(II)Z")] 2

def k1m0 : Method := { name := "<init>", desc := "()V", sig := { parameters := [], returnType := none }, accessFlags := 2, code := none }
def k1c1 : Code := { maxStack := 2, maxLocals := 1, code := method_2_code, exceptionTable := #[], attributes := #[] }
def k1m1 : Method := { name := "pick", desc := "(I)Lcom/example/concordat/concordat/core/Access;", sig := { parameters := [.int], returnType := some (.object "com/example/concordat/concordat/core/Access") }, accessFlags := 10, code := some k1c1 }
def k1c2 : Code := { maxStack := 2, maxLocals := 9, code := code, exceptionTable := #[], attributes := #[] }
def k1m2 : Method := { name := "law", desc := "(II)Z", sig := { parameters := [.int, .int], returnType := some .boolean }, accessFlags := 9, code := some k1c2 }
/-- com/example/concordat/concordat/core/AccessIncludesPinLaw -/
def k1 : Class := { plain "com/example/concordat/concordat/core/AccessIncludesPinLaw" (some 0) with
  accessFlags := 49
  interfaces := #[]
  cf := some (fileOf pool1 17 #[] #[{ accessFlags := 2, nameIndex := 5, descriptorIndex := 6, attributes := #[] }, { accessFlags := 10, nameIndex := 20, descriptorIndex := 21, attributes := #[] }, { accessFlags := 9, nameIndex := 29, descriptorIndex := 30, attributes := #[] }] 49 2 #[] #[])
  fields := #[]
  methods := #[k1m0, k1m1, k1m2]
  instanceTypes := #[]
  staticTypes := #[]
  resolved := Array.replicate 33 none
  statics := none }

def pool2 : Array CpInfo := pool [(1, .class_ 2), (0, u "java/lang/constant/Constable"), (0, .class_ 4), (0, u "java/lang/Object")] 6

/-- java/lang/constant/Constable -/
def k2 : Class := { plain "java/lang/constant/Constable" (some 0) with
  accessFlags := 1537
  interfaces := #[]
  cf := some (fileOf pool2 1 #[] #[] 1537 3 #[] #[])
  fields := #[]
  methods := #[]
  instanceTypes := #[]
  staticTypes := #[]
  resolved := Array.replicate 11 none
  statics := none }

def pool3 : Array CpInfo := pool [(1, .class_ 2), (0, u "java/lang/Comparable"), (0, .class_ 4), (0, u "java/lang/Object")] 7

/-- java/lang/Comparable -/
def k3 : Class := { plain "java/lang/Comparable" (some 0) with
  accessFlags := 1537
  interfaces := #[]
  cf := some (fileOf pool3 1 #[] #[] 1537 3 #[] #[])
  fields := #[]
  methods := #[]
  instanceTypes := #[]
  staticTypes := #[]
  resolved := Array.replicate 12 none
  statics := none }

def pool4 : Array CpInfo := pool [(1, .class_ 2), (0, u "java/io/Serializable"), (0, .class_ 4), (0, u "java/lang/Object")] 2

/-- java/io/Serializable -/
def k4 : Class := { plain "java/io/Serializable" (some 0) with
  accessFlags := 1537
  interfaces := #[]
  cf := some (fileOf pool4 1 #[] #[] 1537 3 #[] #[])
  fields := #[]
  methods := #[]
  instanceTypes := #[]
  staticTypes := #[]
  resolved := Array.replicate 7 none
  statics := none }

def pool5 : Array CpInfo := pool [(2, .class_ 4), (1, u "java/lang/Enum"), (0, u "name"), (0, u "Ljava/lang/String;"), (2, u "ordinal"), (0, u "I"), (1, .class_ 14), (1, u "java/lang/Object"), (4, u "hash"), (86, .class_ 108), (1, u "java/lang/Enum$EnumDesc"), (2, .class_ 112), (0, u "java/lang/constant/Constable"), (0, .class_ 114), (0, u "java/lang/Comparable"), (0, .class_ 116), (0, u "java/io/Serializable")] 87

/-- java/lang/Enum -/
def k5 : Class := { plain "java/lang/Enum" (some 0) with
  accessFlags := 1057
  interfaces := #[2, 3, 4]
  cf := some (fileOf pool5 2 #[.nestMembers #[106]] #[] 1057 12 #[111, 113, 115] #[{ accessFlags := 18, nameIndex := 5, descriptorIndex := 6, attributes := #[] }, { accessFlags := 18, nameIndex := 9, descriptorIndex := 10, attributes := #[] }, { accessFlags := 2, nameIndex := 19, descriptorIndex := 10, attributes := #[] }])
  fields := #[{ name := "name", type := (.object "java/lang/String"), accessFlags := 18, slot := 0, constantValue := 0 }, { name := "ordinal", type := .int, accessFlags := 18, slot := 1, constantValue := 0 }, { name := "hash", type := .int, accessFlags := 2, slot := 2, constantValue := 0 }]
  methods := #[]
  instanceTypes := #[(.object "java/lang/String"), .int, .int]
  staticTypes := #[]
  resolved := Array.replicate 204 none
  statics := none }

def pool6 : Array CpInfo := pool [(1, .class_ 2), (0, u "com/example/concordat/concordat/core/Access"), (0, .fieldref 1 4), (0, .nameAndType 5 6), (0, u "READ"), (0, u "Lcom/example/concordat/concordat/core/Access;"), (0, .fieldref 1 8), (0, .nameAndType 9 6), (0, u "WRITE"), (2, u "$VALUES"), (0, u "[Lcom/example/concordat/concordat/core/Access;"), (6, .class_ 22), (1, u "java/lang/Enum"), (21, u "(Lcom/example/concordat/concordat/core/Access;)Z"), (1, u "includes")] 4

def k6c0 : Code := { maxStack := 2, maxLocals := 2, code := prog_1_method_5_code, exceptionTable := #[], attributes := #[] }
def k6m0 : Method := { name := "includes", desc := "(Lcom/example/concordat/concordat/core/Access;)Z", sig := { parameters := [(.object "com/example/concordat/concordat/core/Access")], returnType := some .boolean }, accessFlags := 1, code := some k6c0 }
/-- com/example/concordat/concordat/core/Access -/
def k6 : Class := { plain "com/example/concordat/concordat/core/Access" (some 5) with
  accessFlags := 16433
  interfaces := #[]
  cf := some (fileOf pool6 1 #[] #[{ accessFlags := 1, nameIndex := 46, descriptorIndex := 44, attributes := #[] }] 16433 20 #[] #[{ accessFlags := 16409, nameIndex := 5, descriptorIndex := 6, attributes := #[] }, { accessFlags := 16409, nameIndex := 9, descriptorIndex := 6, attributes := #[] }, { accessFlags := 4122, nameIndex := 12, descriptorIndex := 13, attributes := #[] }])
  fields := #[{ name := "READ", type := (.object "com/example/concordat/concordat/core/Access"), accessFlags := 16409, slot := 0, constantValue := 0 }, { name := "WRITE", type := (.object "com/example/concordat/concordat/core/Access"), accessFlags := 16409, slot := 1, constantValue := 0 }, { name := "$VALUES", type := (.array (.object "com/example/concordat/concordat/core/Access")), accessFlags := 4122, slot := 2, constantValue := 0 }]
  methods := #[k6m0]
  instanceTypes := #[(.object "java/lang/String"), .int, .int]
  staticTypes := #[(.object "com/example/concordat/concordat/core/Access"), (.object "com/example/concordat/concordat/core/Access"), (.array (.object "com/example/concordat/concordat/core/Access"))]
  resolved := Array.replicate 51 none
  statics := some 0 }

def pool7 : Array CpInfo := pool [(1, u "java/lang/Cloneable"), (0, .class_ 1), (0, u "java/lang/Object"), (0, .class_ 3)] 3

/-- java/lang/Cloneable -/
def k7 : Class := { plain "java/lang/Cloneable" (some 0) with
  accessFlags := 1537
  interfaces := #[]
  cf := some (fileOf pool7 2 #[] #[] 1537 4 #[] #[])
  fields := #[]
  methods := #[]
  instanceTypes := #[]
  staticTypes := #[]
  resolved := Array.replicate 8 none
  statics := none }

/-- the primitive byte -/
def k8 : Class := { plain "byte" none with kind := .primitive 'B', accessFlags := 0x411 }
/-- [B -/
def k9 : Class := { plain "[B" (some 0) with kind := .array 8 .byte, interfaces := #[7, 4], accessFlags := 1041 }

/-- the primitive int -/
def k10 : Class := { plain "int" none with kind := .primitive 'I', accessFlags := 0x411 }
/-- [I -/
def k11 : Class := { plain "[I" (some 0) with kind := .array 10 .int, interfaces := #[7, 4], accessFlags := 1041 }

def heap : Heap := #[{ cls := 6, slots := #[.ref 1, .ref 2, .null], vm := .statics 6 },
  { cls := 6, slots := #[.null, .int 0, .int 0], vm := .none },
  { cls := 6, slots := #[.null, .int 1, .int 0], vm := .none }]
def classes : Array Class := #[k0, k1, k2, k3, k4, k5, k6, k7, k8, k9, k10, k11]
def interned : List (Array UInt16 × Addr) := []
def slotsUsed : Nat := 9
def theMethod : MethodId := ⟨1, 2⟩
def args0 : Array Value := #[.int 5, .int 4]
def aboutOver (below : List Frame) : State where
  vm := { classes := classes, interned := interned.toArray }
  heap := heap
  slotsUsed := slotsUsed
  threads := #[{ frames := .invoking theMethod args0 :: below }]
def below0 : List Frame := [.native { method := ⟨0, 0⟩, args := #[] }]
def about1 : State := aboutOver below0
def p0 : Program := .bare "" "" ""
def e0 : Env := launch0.env 0 0 0
theorem w_frames : about1.frames = Frame.invoking theMethod args0 :: below0 := rfl
set_option maxRecDepth 65536 in
theorem w_args : argsFit about1.vm theMethod args0 = true := by decide +kernel
set_option maxRecDepth 65536 in
theorem w_heap : heapFits about1 = true := by decide +kernel
set_option maxRecDepth 65536 in
theorem w_runnable : about1.curStatus? = some .runnable := by decide +kernel
set_option maxRecDepth 65536 in
theorem w_alone : about1.alone = true := by decide +kernel
set_option maxRecDepth 65536 in
theorem w_named : about1.methodNamed? x = some theMethod := by decide +kernel
set_option maxRecDepth 65536 in
theorem w_hears : about1.hears theMethod below0 = true := by decide +kernel
set_option maxRecDepth 65536 in
theorem w_ripe : about1.ripe theMethod args0 below0 = true := by decide +kernel
theorem w_running : about1.status = .running := rfl
set_option maxRecDepth 65536 in
theorem w_room : about1.hasRoom e0.platform room_1 = true :=
  launch0.hasRoom_least _ room_1 (by decide +kernel) (by decide +kernel) (by decide +kernel) (by decide +kernel) (by decide +kernel) (by decide +kernel)
theorem allAtoms_all (ts : List Jvm.Cond) (a : Array Jvm.Value) (st : Jvm.State) : (allAtoms ts).before a st = ts.all (fun c => c.before a st) := by
  induction ts with
  | nil => rfl
  | cons c t ih =>
    show (Jvm.Cond.and c (allAtoms t)).before a st = _
    rw [Jvm.Cond.before_and, ih, List.all_cons]
def words1 : List Jvm.Cond := Jvm.Cond.code x code maxLocals ret :: tables_1
/-- a 'code' word, met by the world's own term for the bytes: nothing is compared byte by byte -/
theorem code_word {y : MethodName} {bytes : ByteArray} {mx : Nat} {rt : Option FieldType} {a : Array Value} {s : State} {m : MethodId} {meth : Method} {c : Code} (h1 : s.methodNamed? y = some m) (h2 : s.vm.method? m = some meth) (h3 : meth.code = some c) (h4 : c.code = bytes)
    (h5 : (c.maxLocals == mx && c.exceptionTable.isEmpty && decide (c.maxStack ≤ mostOperands) && decide (meth.sig.returnType = rt) && !meth.locks && decide (parseMethodDescriptor y.desc = some meth.sig)) = true) : (Jvm.Cond.code y bytes mx rt).before a s = true := by
  simp only [Bool.and_eq_true, beq_iff_eq, Bool.not_eq_true', decide_eq_true_eq] at h5
  obtain ⟨⟨⟨⟨⟨g1, g2⟩, g3⟩, g4⟩, g5⟩, g6⟩ := h5
  simp [Cond.before, Cond.holds, Cond.value, h1, h2, h3, h4, g1, g2, g3, g4, g5, g6]
def isCode : Jvm.Cond → Bool
  | .code _ _ _ _ => true
  | _ => false
theorem all_split {L : List Jvm.Cond} {P : Jvm.Cond → Bool} (h1 : L.all (fun c => isCode c || P c) = true) (h2 : ∀ c ∈ L.filter isCode, P c = true) : L.all P = true := by
  refine List.all_eq_true.mpr fun c hc => ?_
  have h := List.all_eq_true.mp h1 c hc
  rcases Bool.eq_false_or_eq_true (isCode c) with hi | hi
  · exact h2 c (List.mem_filter.mpr ⟨hc, hi⟩)
  · simpa [hi] using h
set_option maxRecDepth 65536 in
theorem w_c0 : (Jvm.Cond.code x code maxLocals ret).before args0 about1 = true := code_word (m := ⟨1, 2⟩) (meth := k1m2) (c := k1c2) (by decide +kernel) rfl rfl rfl (by decide +kernel)
set_option maxRecDepth 65536 in
theorem w_c1 : (Jvm.Cond.code ({ cls := "com/example/concordat/concordat/core/AccessIncludesPinLaw", name := "pick", desc := "(I)Lcom/example/concordat/concordat/core/Access;" } : Jvm.MethodName) method_2_code (1 : Nat) (Option.some (Jvm.ClassFile.FieldType.object "com/example/concordat/concordat/core/Access"))).before args0 about1 = true := code_word (m := ⟨1, 1⟩) (meth := k1m1) (c := k1c1) (by decide +kernel) rfl rfl rfl (by decide +kernel)
set_option maxRecDepth 65536 in
theorem w_c2 : (Jvm.Cond.code ({ cls := "com/example/concordat/concordat/core/Access", name := "includes", desc := "(Lcom/example/concordat/concordat/core/Access;)Z" } : Jvm.MethodName) prog_1_method_5_code (2 : Nat) (Option.some Jvm.ClassFile.FieldType.boolean)).before args0 about1 = true := code_word (m := ⟨6, 0⟩) (meth := k6m0) (c := k6c0) (by decide +kernel) rfl rfl rfl (by decide +kernel)
def codes1 : List Jvm.Cond := [Jvm.Cond.code x code maxLocals ret, Jvm.Cond.code ({ cls := "com/example/concordat/concordat/core/AccessIncludesPinLaw", name := "pick", desc := "(I)Lcom/example/concordat/concordat/core/Access;" } : Jvm.MethodName) method_2_code (1 : Nat) (Option.some (Jvm.ClassFile.FieldType.object "com/example/concordat/concordat/core/Access")), Jvm.Cond.code ({ cls := "com/example/concordat/concordat/core/Access", name := "includes", desc := "(Lcom/example/concordat/concordat/core/Access;)Z" } : Jvm.MethodName) prog_1_method_5_code (2 : Nat) (Option.some Jvm.ClassFile.FieldType.boolean)]
set_option maxRecDepth 65536 in
theorem codes_eq : words1.filter isCode = codes1 := rfl
theorem w_codes : ∀ c ∈ words1.filter isCode, c.before args0 about1 = true := by
  rw [codes_eq]
  intro c hc
  simp only [codes1, List.mem_cons, List.not_mem_nil, or_false] at hc
  rcases hc with rfl | rfl | rfl
  · exact w_c0
  · exact w_c1
  · exact w_c2
set_option maxRecDepth 65536 in
theorem w_t1 : words1.all (fun c => isCode c || c.before args0 about1) = true := by decide +kernel
theorem w_tables : (allAtoms (Jvm.Cond.code x code maxLocals ret :: tables_1)).before args0 about1 = true := by
  rw [allAtoms_all]
  show words1.all (fun c => c.before args0 about1) = true
  refine all_split ?_ w_codes
  rw [w_t1]
set_option maxRecDepth 65536 in
theorem w_case : (Jvm.Cond.and given_1 narrow_1).before args0 about1 = true := by decide +kernel
theorem w_applies : (headSpec (Jvm.Cond.code x code maxLocals ret :: tables_1) room_1).applies x e0.platform about1 = true :=
  (Spec.applies_iff w_frames).mpr ⟨w_running, w_runnable, w_alone, w_named, w_hears, w_ripe, w_room, w_tables⟩
theorem atStart : AtStart classFile x code maxLocals ret World_1 tables_1 room_1 Calls_1 rest_1 Pre_1 launch0 p0 e0 about1 theMethod args0 below0 :=
  ⟨lists_1, trivial, launch0.admits_env _ _ _, launch0.least_env, fairChoices_fair.cas, fairChoices_fair.clock, w_frames, w_args, w_heap, w_applies, trivial, trivial, w_case⟩
end start1
theorem witness_1 : WitnessClaimed_1 := ⟨start1.p0, start1.e0, start1.about1, start1.theMethod, start1.args0, start1.below0, start1.atStart⟩
end Jvm.Pilot.@@N@@
