import JvmDerived
import JvmDerived.Pilot.@@N@@Statement
import JvmDerived.Pilot.@@N@@Code
set_option linter.unusedVariables false
set_option linter.unusedSimpArgs false
namespace Jvm.Pilot.@@N@@
open Jvm Jvm.ClassFile Sem Op Lib Jvm.Free Jvm.Stand Jvm.LawKit Jvm.RoadKit Bundle Jvm.Pilot.@@N@@.Jvm.D
/-- a predicate that goes backwards over the machine's steps -/
def OwnAdv (p : Program) (e : Env) (below : List Frame) (G : State → Prop) : Prop := ∀ A B : State, (∀ t, Steps p.tables e below B t → Steps p.tables e below A t) → G B → G A
/-- what a return must show -/
def OwnFin (p : Program) (l : Launch) (e : Env) (R : Room) (s : State) (m : MethodId) (args : Array Value) (below : List Frame) (meth : Method) (c : Code) (G : State → Prop) (Q : Option Value → Heap → List Loc → Prop) (kc ks : Nat) : Prop :=
  ∀ (A T : State) (locs : List Loc) (cells slots : Nat) (v : Option Value) (h : Heap), Stand p l e R s m args below meth c T locs cells slots → T.heap = h → (meth.sig.returnType = none → v = none) → cells ≤ kc → slots ≤ ks → Q v h locs →
    (∀ fs : List Frame, (∀ (f : JFrame) (acts : List Action), f.method = m → f.locked = none → f.entered = [] → (doReturn e (T.setTop f) acts v).1 = T.setFrames fs) → Steps p.tables e below A (T.setFrames fs)) → G A
theorem own_body {l : Launch} {y : MethodName} {bytes : ByteArray} {maxL : Nat} {rt : Option FieldType} {ws : List Jvm.Cond} {rm : Room} {as' : Array Value} {Z : State} {h0 : Heap} {Q : Option Value → Heap → List Loc → Prop} (hpl : plainFor y = true)
    (body : ∀ (p : Program) (e : Env) (s : State) (m : MethodId) (below : List Frame) (meth : Method) (c : Code) (s₁ : State) (G : State → Prop), Stand p l e rm s m as' below meth c s₁ [] 0 0 → p.tables.exec = Jvm.exec → Z.Warmed39 s.vm → c.code = bytes → c.maxLocals = maxL → s.vm.findClass y.cls = some m.cls → meth.name = y.name → meth.sig.returnType = rt → s₁.heap = h0 →
      OwnAdv p e below G → OwnFin p l e rm s m as' below meth c G Q rm.cells rm.slots → G (s₁.setTop (entryFrame m as' maxL))) :
    MetFree l y (head1 (Jvm.Cond.code y bytes maxL rt :: ws) rm) (fun a U => a = as' ∧ Z.Warmed39 U.vm ∧ U.heap = h0) (fun _ _ _ _ _ => True) (fun _ U o U' => ∃ v L, o = .returned v ∧ Q v U'.heap L ∧ FrameEnd U o U' L rm.cells rm.slots) := by
  refine MetFree.of_bodySF hpl hisR ?_
  intro p e s m args below meth c s₁ Bd hml0 hP hK
  obtain ⟨rfl, hZ, hh⟩ := hP
  have e0 : s₁.heap = h0 := by rw [← hh, Bd.state]; rfl
  refine body p e s m below meth c s₁ (fun A => ∃ s₂ o, Steps p.tables e below A s₂ ∧ s₂.status = .running ∧ Ended s₂ below o ∧ ∃ v L, o = .returned v ∧ Q v s₂.heap L ∧ FrameEnd s o s₂ L rm.cells rm.slots) (Stand.of_body Bd) Bd.exec hZ Bd.bytes hml0 (findClass_of_methodNamed Bd.named) (name_of_methodNamed Bd.named Bd.method).1 Bd.returns e0 ?_ ?_
  · intro A B h g
    obtain ⟨t, o, st, r⟩ := g
    exact ⟨t, o, h t st, r⟩
  · intro A T locs cells slots v h X eT hv hc hl hQ hs
    obtain ⟨fs, hr, hrun, hended, hW, hsame⟩ := X.leave (v := v) hv Bd.notSynchronized
    exact ⟨_, _, hs fs hr, hrun, hended, v, locs, rfl, (show Q v T.heap locs by rw [eT]; exact hQ), ⟨_, rfl⟩, hW, hsame.mono hc hl⟩
section OwnRet
variable {p : Program} {l : Launch} {e : Env} {R : Room} {s : State} {m : MethodId} {args : Array Value} {below : List Frame} {meth : Method} {c : Code} {T : State} {locs : List Loc} {cells slots : Nat}
theorem own_retI (X : Stand p l e R s m args below meth c T locs cells slots) (hx : p.tables.exec = Jvm.exec) {pc : Nat} {Ls : Array Slot} {z : Int32} {rest : List Value} (hret : meth.sig.returnType = some .int) (hd : decode c.code pc = .ok (.ireturn, 1)) {fs : List Frame}
    (hl : ∀ (f : JFrame) (acts : List Action), f.method = m → f.locked = none → f.entered = [] → (doReturn e (T.setTop f) acts (some (.int z))).1 = T.setFrames fs) : Steps p.tables e below (T.setTop (mkF m pc Ls (.int z :: rest))) (T.setFrames fs) :=
  retOut X hx hret rfl (Or.inl ⟨rfl, Or.inl rfl, z, rfl⟩) hd hl
theorem own_retJ (X : Stand p l e R s m args below meth c T locs cells slots) (hx : p.tables.exec = Jvm.exec) {pc : Nat} {Ls : Array Slot} {z : Int64} {rest : List Value} (hret : meth.sig.returnType = some .long) (hd : decode c.code pc = .ok (.lreturn, 1)) {fs : List Frame}
    (hl : ∀ (f : JFrame) (acts : List Action), f.method = m → f.locked = none → f.entered = [] → (doReturn e (T.setTop f) acts (some (.long z))).1 = T.setFrames fs) : Steps p.tables e below (T.setTop (mkF m pc Ls (.long z :: rest))) (T.setFrames fs) :=
  retOut X hx hret rfl (Or.inr (Or.inl ⟨rfl, rfl, z, rfl⟩)) hd hl
theorem own_retA (X : Stand p l e R s m args below meth c T locs cells slots) (hx : p.tables.exec = Jvm.exec) {pc : Nat} {Ls : Array Slot} {w : Value} {t : FieldType} {rest : List Value} (hret : meth.sig.returnType = some t) (ht : t.isReference = true) (hn : narrow t w = w) (hw : w.isRef = true) (hd : decode c.code pc = .ok (.areturn, 1)) {fs : List Frame}
    (hl : ∀ (f : JFrame) (acts : List Action), f.method = m → f.locked = none → f.entered = [] → (doReturn e (T.setTop f) acts (some w)).1 = T.setFrames fs) : Steps p.tables e below (T.setTop (mkF m pc Ls (w :: rest))) (T.setFrames fs) :=
  retOut X hx hret hn (Or.inr (Or.inr (Or.inr (Or.inr ⟨rfl, ht, hw⟩)))) hd hl
end OwnRet

theorem pd_0 : parseMethodDescriptor "([B)Z" = some ⟨[(.array .byte)], some .boolean⟩ := by decide +kernel
theorem own_i2b (x : Int32) : x.toInt8.toInt32.toInt8.toInt32 = x.toInt8.toInt32 := by simp
theorem own_5 (x : Int32) : ((x &&& (2147483647 : Int32)) % (5 : Int32)) = (0 : Int32) ∨ ((x &&& (2147483647 : Int32)) % (5 : Int32)) = (1 : Int32) ∨ ((x &&& (2147483647 : Int32)) % (5 : Int32)) = (2 : Int32) ∨ ((x &&& (2147483647 : Int32)) % (5 : Int32)) = (3 : Int32) ∨ ((x &&& (2147483647 : Int32)) % (5 : Int32)) = (4 : Int32) := by
  have h := (c_and x (2147483647 : Int32) (by decide)).1
  have q := (c_irem (x &&& (2147483647 : Int32)) (5 : Int32) 5 rfl).1 h
  have e0 : (0 : Int32).toInt = 0 := rfl
  have e1 : (1 : Int32).toInt = 1 := rfl
  have e2 : (2 : Int32).toInt = 2 := rfl
  have e3 : (3 : Int32).toInt = 3 := rfl
  have e4 : (4 : Int32).toInt = 4 := rfl
  simp only [← Int32.toInt_inj]
  omega
theorem d1_0 : decode prog_190_method_24_code 0 = .ok (.aload_n 0, 1) := by decide +kernel
theorem d1_1 : decode prog_190_method_24_code 1 = .ok (.astore_n 1, 1) := by decide +kernel
theorem d1_2 : decode prog_190_method_24_code 2 = .ok (.aload_n 1, 1) := by decide +kernel
theorem d1_3 : decode prog_190_method_24_code 3 = .ok (.arraylength, 1) := by decide +kernel
theorem d1_4 : decode prog_190_method_24_code 4 = .ok (.istore_n 2, 1) := by decide +kernel
theorem d1_5 : decode prog_190_method_24_code 5 = .ok (.iconst 0, 1) := by decide +kernel
theorem d1_6 : decode prog_190_method_24_code 6 = .ok (.istore_n 3, 1) := by decide +kernel
theorem d1_7 : decode prog_190_method_24_code 7 = .ok (.iload_n 3, 1) := by decide +kernel
theorem d1_8 : decode prog_190_method_24_code 8 = .ok (.iload_n 2, 1) := by decide +kernel
theorem d1_9 : decode prog_190_method_24_code 9 = .ok (.if_icmp .ge 21, 3) := by decide +kernel
theorem d1_12 : decode prog_190_method_24_code 12 = .ok (.aload_n 1, 1) := by decide +kernel
theorem d1_13 : decode prog_190_method_24_code 13 = .ok (.iload_n 3, 1) := by decide +kernel
theorem d1_14 : decode prog_190_method_24_code 14 = .ok (.baload, 1) := by decide +kernel
theorem d1_15 : decode prog_190_method_24_code 15 = .ok (.istore 4, 2) := by decide +kernel
theorem d1_17 : decode prog_190_method_24_code 17 = .ok (.iload 4, 2) := by decide +kernel
theorem d1_19 : decode prog_190_method_24_code 19 = .ok (.ifCond .eq 5, 3) := by decide +kernel
theorem d1_22 : decode prog_190_method_24_code 22 = .ok (.iconst 0, 1) := by decide +kernel
theorem d1_23 : decode prog_190_method_24_code 23 = .ok (.ireturn, 1) := by decide +kernel
theorem d1_24 : decode prog_190_method_24_code 24 = .ok (.iinc 3 1, 3) := by decide +kernel
theorem d1_27 : decode prog_190_method_24_code 27 = .ok (.goto (-20), 3) := by decide +kernel
theorem d1_30 : decode prog_190_method_24_code 30 = .ok (.iconst 1, 1) := by decide +kernel
theorem d1_31 : decode prog_190_method_24_code 31 = .ok (.ireturn, 1) := by decide +kernel
theorem pn_1 : plainFor (⟨"com/example/ordercast/ordercast/history/History", "isInitial", "([B)Z"⟩ : MethodName) = true := plainFor_of_name (by first | (simp [plainName, overriddenIn]; done) | decide +kernel)
theorem ef_rmL0 (m : MethodId) (x0 : Addr) : entryFrame m #[(.ref x0)] 5 = mkF m 0 #[.val (.ref x0), .unset, .unset, .unset, .unset] [] := by first | (simp [entryFrame, mkF, argsToLocals, Value.category]; done) | rfl
def Q_rmL0 (Z : State) (a1 : Addr) (k : ClassId)  (r : Int32) (h0 : Heap) (n0 : Nat) (v : Option Value) (h : Heap) (L : List Loc) : Prop := v = some (.int r) ∧ Fr n0 L ∧ h = h0
set_option maxRecDepth 65536 in
set_option maxHeartbeats 40000000 in
theorem rmL0 (l : Launch) (Z : State) (a0 : Array Value) (hw : ∀ d ∈ tables_1, d.before a0 Z = true) (ws : List Jvm.Cond) (a1 : Addr) (k : ClassId)  (r : Int32) (h0 : Heap) (n0 : Nat) (Z0 : n0 ≤ h0.size) (V1 : Arv Z h0 a1 k .byte (0 : Int32) [] (.int (0 : Int32))) (hr : (if True then (1 : Int32) else 0) = r) :
    MetFree l (⟨"com/example/ordercast/ordercast/history/History", "isInitial", "([B)Z"⟩ : MethodName) (head1 (Jvm.Cond.code (⟨"com/example/ordercast/ordercast/history/History", "isInitial", "([B)Z"⟩ : MethodName) prog_190_method_24_code 5 (some .boolean) :: ws) ({ frames := 0, cells := 0, slots := 0, locals := 0 } : Room)) (fun a U => a = #[(.ref a1)] ∧ Z.Warmed39 U.vm ∧ U.heap = h0) (fun _ _ _ _ _ => True) (fun _ U o U' => ∃ v L, o = .returned v ∧ Q_rmL0 Z a1 k r h0 n0 v U'.heap L ∧ FrameEnd U o U' L ({ frames := 0, cells := 0, slots := 0, locals := 0 } : Room).cells ({ frames := 0, cells := 0, slots := 0, locals := 0 } : Room).slots) := by
  refine own_body (Q := fun v h L => Q_rmL0 Z a1 k r h0 n0 v h L) pn_1 ?_
  intro p e s m below meth c s₁ G X0 hx hZ hby hml hown hnm hrt e0 hG hF
  have hown : s.vm.findClass "com/example/ordercast/ordercast/history/History" = some m.cls := hown
  have N0 := Fr.nil n0
  rw [ef_rmL0 m a1]
  show G (s₁.setTop (mkF m 0 #[.val (.ref a1), .unset, .unset, .unset, .unset] []))
  refine hG _ (s₁.setTop (mkF m 3 #[.val (.ref a1), .val (.ref a1), .unset, .unset, .unset] [(.ref a1)])) (fun t₀ k₀ => ?_) ?_
  · show Steps p.tables e below (s₁.setTop (mkF m 0 #[.val (.ref a1), .unset, .unset, .unset, .unset] [])) t₀
    refine XS.aloadN X0.here hx rfl (hb hby d1_0) rfl rfl ?_
    show Steps p.tables e below (s₁.setTop (mkF m 1 #[.val (.ref a1), .unset, .unset, .unset, .unset] [(.ref a1)])) t₀
    refine XS.astoreN X0.here hx rfl (hb hby d1_1) rfl rfl (l' := #[.val (.ref a1), .val (.ref a1), .unset, .unset, .unset]) rfl ?_
    show Steps p.tables e below (s₁.setTop (mkF m 2 #[.val (.ref a1), .val (.ref a1), .unset, .unset, .unset] [])) t₀
    refine XS.aloadN X0.here hx rfl (hb hby d1_2) rfl rfl ?_
    exact k₀
  have ov1 := V1
  obtain ⟨cl1, Ar1, q1, S1, N_1, H_1, G_1⟩ := ov1
  refine hG _ (s₁.setTop (mkF m 31 #[.val (.ref a1), .val (.ref a1), .val (.int (0 : Int32)), .val (.int (0 : Int32)), .unset] [(.int (1 : Int32))])) (fun t₀ k₀ => ?_) ?_
  · show Steps p.tables e below (s₁.setTop (mkF m 3 #[.val (.ref a1), .val (.ref a1), .unset, .unset, .unset] [(.ref a1)])) t₀
    refine X0.arraylength hx (by rw [e0]; exact Ar1.1) (State.isArrayOf_alike hZ.alike Ar1.2.1) (g := (mkF m 3 #[.val (.ref a1), .val (.ref a1), .unset, .unset, .unset] [(.ref a1)])) rfl rfl (hb hby d1_3) _ ?_
    rw [len_of S1 N_1]
    show Steps p.tables e below (s₁.setTop (mkF m 4 #[.val (.ref a1), .val (.ref a1), .unset, .unset, .unset] [(.int (0 : Int32))])) t₀
    refine XS.istoreN X0.here hx rfl (hb hby d1_4) rfl (l' := #[.val (.ref a1), .val (.ref a1), .val (.int (0 : Int32)), .unset, .unset]) rfl ?_
    show Steps p.tables e below (s₁.setTop (mkF m 5 #[.val (.ref a1), .val (.ref a1), .val (.int (0 : Int32)), .unset, .unset] [])) t₀
    refine XS.iconst X0.here hx rfl (hb hby d1_5) ?_
    show Steps p.tables e below (s₁.setTop (mkF m 6 #[.val (.ref a1), .val (.ref a1), .val (.int (0 : Int32)), .unset, .unset] [(.int (0 : Int32))])) t₀
    refine XS.istoreN X0.here hx rfl (hb hby d1_6) rfl (l' := #[.val (.ref a1), .val (.ref a1), .val (.int (0 : Int32)), .val (.int (0 : Int32)), .unset]) rfl ?_
    show Steps p.tables e below (s₁.setTop (mkF m 7 #[.val (.ref a1), .val (.ref a1), .val (.int (0 : Int32)), .val (.int (0 : Int32)), .unset] [])) t₀
    refine XS.iloadN X0.here hx rfl (hb hby d1_7) rfl ?_
    show Steps p.tables e below (s₁.setTop (mkF m 8 #[.val (.ref a1), .val (.ref a1), .val (.int (0 : Int32)), .val (.int (0 : Int32)), .unset] [(.int (0 : Int32))])) t₀
    refine XS.iloadN X0.here hx rfl (hb hby d1_8) rfl ?_
    show Steps p.tables e below (s₁.setTop (mkF m 9 #[.val (.ref a1), .val (.ref a1), .val (.int (0 : Int32)), .val (.int (0 : Int32)), .unset] [(.int (0 : Int32)), (.int (0 : Int32))])) t₀
    refine XS.icmpYes X0.here hx rfl (pc0 := 9) (pc' := 30) rfl (hb hby d1_9) rfl (flt (by decide : ¬ ((0 : Int32) < (0 : Int32)))).2.1 (by decide) (by decide) ?_
    show Steps p.tables e below (s₁.setTop (mkF m 30 #[.val (.ref a1), .val (.ref a1), .val (.int (0 : Int32)), .val (.int (0 : Int32)), .unset] [])) t₀
    refine XS.iconst X0.here hx rfl (hb hby d1_30) ?_
    exact k₀
  refine hF _ s₁ _ _ _ (some (.int (1 : Int32))) _ X0 e0 (fun h => by rw [hrt] at h; cases h) (by decide) (by decide) ?_ (fun fs hr => retN X0 hx (t := .boolean) hrt (by simp) (hb hby d1_31) hr)
  exact ⟨by rw [← hr]; simp [], N0, rfl⟩
theorem ef_rmL1 (m : MethodId) (x0 : Addr) : entryFrame m #[(.ref x0)] 5 = mkF m 0 #[.val (.ref x0), .unset, .unset, .unset, .unset] [] := by first | (simp [entryFrame, mkF, argsToLocals, Value.category]; done) | rfl
def Q_rmL1 (Z : State) (a1 : Addr) (k : ClassId) (x0 : Int32) (r : Int32) (h0 : Heap) (n0 : Nat) (v : Option Value) (h : Heap) (L : List Loc) : Prop := v = some (.int r) ∧ Fr n0 L ∧ h = h0
set_option maxRecDepth 65536 in
set_option maxHeartbeats 40000000 in
theorem rmL1 (l : Launch) (Z : State) (a0 : Array Value) (hw : ∀ d ∈ tables_1, d.before a0 Z = true) (ws : List Jvm.Cond) (a1 : Addr) (k : ClassId) (x0 : Int32) (r : Int32) (h0 : Heap) (n0 : Nat) (Z0 : n0 ≤ h0.size) (V1 : Arv Z h0 a1 k .byte (1 : Int32) [(.int x0)] (.int (0 : Int32))) (hr : (if x0 = (0 : Int32) then (1 : Int32) else 0) = r) :
    MetFree l (⟨"com/example/ordercast/ordercast/history/History", "isInitial", "([B)Z"⟩ : MethodName) (head1 (Jvm.Cond.code (⟨"com/example/ordercast/ordercast/history/History", "isInitial", "([B)Z"⟩ : MethodName) prog_190_method_24_code 5 (some .boolean) :: ws) ({ frames := 0, cells := 0, slots := 0, locals := 0 } : Room)) (fun a U => a = #[(.ref a1)] ∧ Z.Warmed39 U.vm ∧ U.heap = h0) (fun _ _ _ _ _ => True) (fun _ U o U' => ∃ v L, o = .returned v ∧ Q_rmL1 Z a1 k x0 r h0 n0 v U'.heap L ∧ FrameEnd U o U' L ({ frames := 0, cells := 0, slots := 0, locals := 0 } : Room).cells ({ frames := 0, cells := 0, slots := 0, locals := 0 } : Room).slots) := by
  refine own_body (Q := fun v h L => Q_rmL1 Z a1 k x0 r h0 n0 v h L) pn_1 ?_
  intro p e s m below meth c s₁ G X0 hx hZ hby hml hown hnm hrt e0 hG hF
  have hown : s.vm.findClass "com/example/ordercast/ordercast/history/History" = some m.cls := hown
  have N0 := Fr.nil n0
  rw [ef_rmL1 m a1]
  show G (s₁.setTop (mkF m 0 #[.val (.ref a1), .unset, .unset, .unset, .unset] []))
  refine hG _ (s₁.setTop (mkF m 3 #[.val (.ref a1), .val (.ref a1), .unset, .unset, .unset] [(.ref a1)])) (fun t₀ k₀ => ?_) ?_
  · show Steps p.tables e below (s₁.setTop (mkF m 0 #[.val (.ref a1), .unset, .unset, .unset, .unset] [])) t₀
    refine XS.aloadN X0.here hx rfl (hb hby d1_0) rfl rfl ?_
    show Steps p.tables e below (s₁.setTop (mkF m 1 #[.val (.ref a1), .unset, .unset, .unset, .unset] [(.ref a1)])) t₀
    refine XS.astoreN X0.here hx rfl (hb hby d1_1) rfl rfl (l' := #[.val (.ref a1), .val (.ref a1), .unset, .unset, .unset]) rfl ?_
    show Steps p.tables e below (s₁.setTop (mkF m 2 #[.val (.ref a1), .val (.ref a1), .unset, .unset, .unset] [])) t₀
    refine XS.aloadN X0.here hx rfl (hb hby d1_2) rfl rfl ?_
    exact k₀
  have ov1 := V1
  obtain ⟨cl1, Ar1, q1, S1, N_1, H_1, G_1⟩ := ov1
  refine hG _ (s₁.setTop (mkF m 14 #[.val (.ref a1), .val (.ref a1), .val (.int (1 : Int32)), .val (.int (0 : Int32)), .unset] [(.int (0 : Int32)), (.ref a1)])) (fun t₀ k₀ => ?_) ?_
  · show Steps p.tables e below (s₁.setTop (mkF m 3 #[.val (.ref a1), .val (.ref a1), .unset, .unset, .unset] [(.ref a1)])) t₀
    refine X0.arraylength hx (by rw [e0]; exact Ar1.1) (State.isArrayOf_alike hZ.alike Ar1.2.1) (g := (mkF m 3 #[.val (.ref a1), .val (.ref a1), .unset, .unset, .unset] [(.ref a1)])) rfl rfl (hb hby d1_3) _ ?_
    rw [len_of S1 N_1]
    show Steps p.tables e below (s₁.setTop (mkF m 4 #[.val (.ref a1), .val (.ref a1), .unset, .unset, .unset] [(.int (1 : Int32))])) t₀
    refine XS.istoreN X0.here hx rfl (hb hby d1_4) rfl (l' := #[.val (.ref a1), .val (.ref a1), .val (.int (1 : Int32)), .unset, .unset]) rfl ?_
    show Steps p.tables e below (s₁.setTop (mkF m 5 #[.val (.ref a1), .val (.ref a1), .val (.int (1 : Int32)), .unset, .unset] [])) t₀
    refine XS.iconst X0.here hx rfl (hb hby d1_5) ?_
    show Steps p.tables e below (s₁.setTop (mkF m 6 #[.val (.ref a1), .val (.ref a1), .val (.int (1 : Int32)), .unset, .unset] [(.int (0 : Int32))])) t₀
    refine XS.istoreN X0.here hx rfl (hb hby d1_6) rfl (l' := #[.val (.ref a1), .val (.ref a1), .val (.int (1 : Int32)), .val (.int (0 : Int32)), .unset]) rfl ?_
    show Steps p.tables e below (s₁.setTop (mkF m 7 #[.val (.ref a1), .val (.ref a1), .val (.int (1 : Int32)), .val (.int (0 : Int32)), .unset] [])) t₀
    refine XS.iloadN X0.here hx rfl (hb hby d1_7) rfl ?_
    show Steps p.tables e below (s₁.setTop (mkF m 8 #[.val (.ref a1), .val (.ref a1), .val (.int (1 : Int32)), .val (.int (0 : Int32)), .unset] [(.int (0 : Int32))])) t₀
    refine XS.iloadN X0.here hx rfl (hb hby d1_8) rfl ?_
    show Steps p.tables e below (s₁.setTop (mkF m 9 #[.val (.ref a1), .val (.ref a1), .val (.int (1 : Int32)), .val (.int (0 : Int32)), .unset] [(.int (1 : Int32)), (.int (0 : Int32))])) t₀
    refine XS.icmpNo X0.here hx rfl (hb hby d1_9) rfl (tlt (by decide : ((0 : Int32) < (1 : Int32)))).2.1 ?_
    show Steps p.tables e below (s₁.setTop (mkF m 12 #[.val (.ref a1), .val (.ref a1), .val (.int (1 : Int32)), .val (.int (0 : Int32)), .unset] [])) t₀
    refine XS.aloadN X0.here hx rfl (hb hby d1_12) rfl rfl ?_
    show Steps p.tables e below (s₁.setTop (mkF m 13 #[.val (.ref a1), .val (.ref a1), .val (.int (1 : Int32)), .val (.int (0 : Int32)), .unset] [(.ref a1)])) t₀
    refine XS.iloadN X0.here hx rfl (hb hby d1_13) rfl ?_
    exact k₀
  have ov2 := V1
  obtain ⟨cl2, Ar2, q2, S2, N_2, H_2, G_2⟩ := ov2
  have hin2 : ¬ ((0 : Int32) < 0 ∨ cl2.slots.size ≤ ((0 : Int32)).toNatClampNeg) := inb_of S2 ⟨by decide, by decide⟩
  have hat2 : cl2.slots[((0 : Int32)).toNatClampNeg]? = some (.int x0) := H_2.at hin2 rfl
  refine hG _ (s₁.setTop (mkF m 19 #[.val (.ref a1), .val (.ref a1), .val (.int (1 : Int32)), .val (.int (0 : Int32)), .val (.int x0)] [(.int x0)])) (fun t₀ k₀ => ?_) ?_
  · show Steps p.tables e below (s₁.setTop (mkF m 14 #[.val (.ref a1), .val (.ref a1), .val (.int (1 : Int32)), .val (.int (0 : Int32)), .unset] [(.int (0 : Int32)), (.ref a1)])) t₀
    refine X0.baloadBytes hx (j := (0 : Int32)) (v := (.int x0)) (by rw [e0]; exact Ar2.1) (State.isArrayOf_alike hZ.alike Ar2.2.1) Ar2.2.2 hin2 hat2 (g := (mkF m 14 #[.val (.ref a1), .val (.ref a1), .val (.int (1 : Int32)), .val (.int (0 : Int32)), .unset] [(.int (0 : Int32)), (.ref a1)])) rfl rfl (hb hby d1_14) _ ?_
    show Steps p.tables e below (s₁.setTop (mkF m 15 #[.val (.ref a1), .val (.ref a1), .val (.int (1 : Int32)), .val (.int (0 : Int32)), .unset] [(.int x0)])) t₀
    refine XS.istore X0.here hx rfl (hb hby d1_15) rfl (l' := #[.val (.ref a1), .val (.ref a1), .val (.int (1 : Int32)), .val (.int (0 : Int32)), .val (.int x0)]) rfl ?_
    show Steps p.tables e below (s₁.setTop (mkF m 17 #[.val (.ref a1), .val (.ref a1), .val (.int (1 : Int32)), .val (.int (0 : Int32)), .val (.int x0)] [])) t₀
    refine XS.iload X0.here hx rfl (hb hby d1_17) rfl ?_
    exact k₀
  by_cases hc_x0 : x0 = (0 : Int32)
  ·
    refine hG _ (s₁.setTop (mkF m 31 #[.val (.ref a1), .val (.ref a1), .val (.int (1 : Int32)), .val (.int (1 : Int32)), .val (.int x0)] [(.int (1 : Int32))])) (fun t₀ k₀ => ?_) ?_
    · show Steps p.tables e below (s₁.setTop (mkF m 19 #[.val (.ref a1), .val (.ref a1), .val (.int (1 : Int32)), .val (.int (0 : Int32)), .val (.int x0)] [(.int x0)])) t₀
      refine XS.ifYes X0.here hx rfl (pc0 := 19) (pc' := 24) rfl (hb hby d1_19) rfl ((if0 _ _).trans (teq hc_x0).1) (by decide) (by decide) ?_
      show Steps p.tables e below (s₁.setTop (mkF m 24 #[.val (.ref a1), .val (.ref a1), .val (.int (1 : Int32)), .val (.int (0 : Int32)), .val (.int x0)] [])) t₀
      refine XS.iinc X0.here hx rfl (hb hby d1_24) rfl (l' := #[.val (.ref a1), .val (.ref a1), .val (.int (1 : Int32)), .val (.int (1 : Int32)), .val (.int x0)]) rfl ?_
      show Steps p.tables e below (s₁.setTop (mkF m 27 #[.val (.ref a1), .val (.ref a1), .val (.int (1 : Int32)), .val (.int (1 : Int32)), .val (.int x0)] [])) t₀
      refine XS.goto X0.here hx rfl (pc0 := 27) (pc' := 7) rfl (hb hby d1_27) (by decide) (by decide) ?_
      show Steps p.tables e below (s₁.setTop (mkF m 7 #[.val (.ref a1), .val (.ref a1), .val (.int (1 : Int32)), .val (.int (1 : Int32)), .val (.int x0)] [])) t₀
      refine XS.iloadN X0.here hx rfl (hb hby d1_7) rfl ?_
      show Steps p.tables e below (s₁.setTop (mkF m 8 #[.val (.ref a1), .val (.ref a1), .val (.int (1 : Int32)), .val (.int (1 : Int32)), .val (.int x0)] [(.int (1 : Int32))])) t₀
      refine XS.iloadN X0.here hx rfl (hb hby d1_8) rfl ?_
      show Steps p.tables e below (s₁.setTop (mkF m 9 #[.val (.ref a1), .val (.ref a1), .val (.int (1 : Int32)), .val (.int (1 : Int32)), .val (.int x0)] [(.int (1 : Int32)), (.int (1 : Int32))])) t₀
      refine XS.icmpYes X0.here hx rfl (pc0 := 9) (pc' := 30) rfl (hb hby d1_9) rfl (flt (by decide : ¬ ((1 : Int32) < (1 : Int32)))).2.1 (by decide) (by decide) ?_
      show Steps p.tables e below (s₁.setTop (mkF m 30 #[.val (.ref a1), .val (.ref a1), .val (.int (1 : Int32)), .val (.int (1 : Int32)), .val (.int x0)] [])) t₀
      refine XS.iconst X0.here hx rfl (hb hby d1_30) ?_
      exact k₀
    refine hF _ s₁ _ _ _ (some (.int (1 : Int32))) _ X0 e0 (fun h => by rw [hrt] at h; cases h) (by decide) (by decide) ?_ (fun fs hr => retN X0 hx (t := .boolean) hrt (by simp) (hb hby d1_31) hr)
    exact ⟨by rw [← hr]; simp [hc_x0], N0, rfl⟩
  ·
    refine hG _ (s₁.setTop (mkF m 23 #[.val (.ref a1), .val (.ref a1), .val (.int (1 : Int32)), .val (.int (0 : Int32)), .val (.int x0)] [(.int (0 : Int32))])) (fun t₀ k₀ => ?_) ?_
    · show Steps p.tables e below (s₁.setTop (mkF m 19 #[.val (.ref a1), .val (.ref a1), .val (.int (1 : Int32)), .val (.int (0 : Int32)), .val (.int x0)] [(.int x0)])) t₀
      refine XS.ifNo X0.here hx rfl (hb hby d1_19) rfl ((if0 _ _).trans (feq hc_x0).1) ?_
      show Steps p.tables e below (s₁.setTop (mkF m 22 #[.val (.ref a1), .val (.ref a1), .val (.int (1 : Int32)), .val (.int (0 : Int32)), .val (.int x0)] [])) t₀
      refine XS.iconst X0.here hx rfl (hb hby d1_22) ?_
      exact k₀
    refine hF _ s₁ _ _ _ (some (.int (0 : Int32))) _ X0 e0 (fun h => by rw [hrt] at h; cases h) (by decide) (by decide) ?_ (fun fs hr => retN X0 hx (t := .boolean) hrt (by simp) (hb hby d1_23) hr)
    exact ⟨by rw [← hr]; simp [hc_x0], N0, rfl⟩
theorem ef_rmL2 (m : MethodId) (x0 : Addr) : entryFrame m #[(.ref x0)] 5 = mkF m 0 #[.val (.ref x0), .unset, .unset, .unset, .unset] [] := by first | (simp [entryFrame, mkF, argsToLocals, Value.category]; done) | rfl
def Q_rmL2 (Z : State) (a1 : Addr) (k : ClassId) (x0 x1 : Int32) (r : Int32) (h0 : Heap) (n0 : Nat) (v : Option Value) (h : Heap) (L : List Loc) : Prop := v = some (.int r) ∧ Fr n0 L ∧ h = h0
set_option maxRecDepth 65536 in
set_option maxHeartbeats 40000000 in
theorem rmL2 (l : Launch) (Z : State) (a0 : Array Value) (hw : ∀ d ∈ tables_1, d.before a0 Z = true) (ws : List Jvm.Cond) (a1 : Addr) (k : ClassId) (x0 x1 : Int32) (r : Int32) (h0 : Heap) (n0 : Nat) (Z0 : n0 ≤ h0.size) (V1 : Arv Z h0 a1 k .byte (2 : Int32) [(.int x0), (.int x1)] (.int (0 : Int32))) (hr : (if x0 = (0 : Int32) ∧ x1 = (0 : Int32) then (1 : Int32) else 0) = r) :
    MetFree l (⟨"com/example/ordercast/ordercast/history/History", "isInitial", "([B)Z"⟩ : MethodName) (head1 (Jvm.Cond.code (⟨"com/example/ordercast/ordercast/history/History", "isInitial", "([B)Z"⟩ : MethodName) prog_190_method_24_code 5 (some .boolean) :: ws) ({ frames := 0, cells := 0, slots := 0, locals := 0 } : Room)) (fun a U => a = #[(.ref a1)] ∧ Z.Warmed39 U.vm ∧ U.heap = h0) (fun _ _ _ _ _ => True) (fun _ U o U' => ∃ v L, o = .returned v ∧ Q_rmL2 Z a1 k x0 x1 r h0 n0 v U'.heap L ∧ FrameEnd U o U' L ({ frames := 0, cells := 0, slots := 0, locals := 0 } : Room).cells ({ frames := 0, cells := 0, slots := 0, locals := 0 } : Room).slots) := by
  refine own_body (Q := fun v h L => Q_rmL2 Z a1 k x0 x1 r h0 n0 v h L) pn_1 ?_
  intro p e s m below meth c s₁ G X0 hx hZ hby hml hown hnm hrt e0 hG hF
  have hown : s.vm.findClass "com/example/ordercast/ordercast/history/History" = some m.cls := hown
  have N0 := Fr.nil n0
  rw [ef_rmL2 m a1]
  show G (s₁.setTop (mkF m 0 #[.val (.ref a1), .unset, .unset, .unset, .unset] []))
  refine hG _ (s₁.setTop (mkF m 3 #[.val (.ref a1), .val (.ref a1), .unset, .unset, .unset] [(.ref a1)])) (fun t₀ k₀ => ?_) ?_
  · show Steps p.tables e below (s₁.setTop (mkF m 0 #[.val (.ref a1), .unset, .unset, .unset, .unset] [])) t₀
    refine XS.aloadN X0.here hx rfl (hb hby d1_0) rfl rfl ?_
    show Steps p.tables e below (s₁.setTop (mkF m 1 #[.val (.ref a1), .unset, .unset, .unset, .unset] [(.ref a1)])) t₀
    refine XS.astoreN X0.here hx rfl (hb hby d1_1) rfl rfl (l' := #[.val (.ref a1), .val (.ref a1), .unset, .unset, .unset]) rfl ?_
    show Steps p.tables e below (s₁.setTop (mkF m 2 #[.val (.ref a1), .val (.ref a1), .unset, .unset, .unset] [])) t₀
    refine XS.aloadN X0.here hx rfl (hb hby d1_2) rfl rfl ?_
    exact k₀
  have ov1 := V1
  obtain ⟨cl1, Ar1, q1, S1, N_1, H_1, G_1⟩ := ov1
  refine hG _ (s₁.setTop (mkF m 14 #[.val (.ref a1), .val (.ref a1), .val (.int (2 : Int32)), .val (.int (0 : Int32)), .unset] [(.int (0 : Int32)), (.ref a1)])) (fun t₀ k₀ => ?_) ?_
  · show Steps p.tables e below (s₁.setTop (mkF m 3 #[.val (.ref a1), .val (.ref a1), .unset, .unset, .unset] [(.ref a1)])) t₀
    refine X0.arraylength hx (by rw [e0]; exact Ar1.1) (State.isArrayOf_alike hZ.alike Ar1.2.1) (g := (mkF m 3 #[.val (.ref a1), .val (.ref a1), .unset, .unset, .unset] [(.ref a1)])) rfl rfl (hb hby d1_3) _ ?_
    rw [len_of S1 N_1]
    show Steps p.tables e below (s₁.setTop (mkF m 4 #[.val (.ref a1), .val (.ref a1), .unset, .unset, .unset] [(.int (2 : Int32))])) t₀
    refine XS.istoreN X0.here hx rfl (hb hby d1_4) rfl (l' := #[.val (.ref a1), .val (.ref a1), .val (.int (2 : Int32)), .unset, .unset]) rfl ?_
    show Steps p.tables e below (s₁.setTop (mkF m 5 #[.val (.ref a1), .val (.ref a1), .val (.int (2 : Int32)), .unset, .unset] [])) t₀
    refine XS.iconst X0.here hx rfl (hb hby d1_5) ?_
    show Steps p.tables e below (s₁.setTop (mkF m 6 #[.val (.ref a1), .val (.ref a1), .val (.int (2 : Int32)), .unset, .unset] [(.int (0 : Int32))])) t₀
    refine XS.istoreN X0.here hx rfl (hb hby d1_6) rfl (l' := #[.val (.ref a1), .val (.ref a1), .val (.int (2 : Int32)), .val (.int (0 : Int32)), .unset]) rfl ?_
    show Steps p.tables e below (s₁.setTop (mkF m 7 #[.val (.ref a1), .val (.ref a1), .val (.int (2 : Int32)), .val (.int (0 : Int32)), .unset] [])) t₀
    refine XS.iloadN X0.here hx rfl (hb hby d1_7) rfl ?_
    show Steps p.tables e below (s₁.setTop (mkF m 8 #[.val (.ref a1), .val (.ref a1), .val (.int (2 : Int32)), .val (.int (0 : Int32)), .unset] [(.int (0 : Int32))])) t₀
    refine XS.iloadN X0.here hx rfl (hb hby d1_8) rfl ?_
    show Steps p.tables e below (s₁.setTop (mkF m 9 #[.val (.ref a1), .val (.ref a1), .val (.int (2 : Int32)), .val (.int (0 : Int32)), .unset] [(.int (2 : Int32)), (.int (0 : Int32))])) t₀
    refine XS.icmpNo X0.here hx rfl (hb hby d1_9) rfl (tlt (by decide : ((0 : Int32) < (2 : Int32)))).2.1 ?_
    show Steps p.tables e below (s₁.setTop (mkF m 12 #[.val (.ref a1), .val (.ref a1), .val (.int (2 : Int32)), .val (.int (0 : Int32)), .unset] [])) t₀
    refine XS.aloadN X0.here hx rfl (hb hby d1_12) rfl rfl ?_
    show Steps p.tables e below (s₁.setTop (mkF m 13 #[.val (.ref a1), .val (.ref a1), .val (.int (2 : Int32)), .val (.int (0 : Int32)), .unset] [(.ref a1)])) t₀
    refine XS.iloadN X0.here hx rfl (hb hby d1_13) rfl ?_
    exact k₀
  have ov2 := V1
  obtain ⟨cl2, Ar2, q2, S2, N_2, H_2, G_2⟩ := ov2
  have hin2 : ¬ ((0 : Int32) < 0 ∨ cl2.slots.size ≤ ((0 : Int32)).toNatClampNeg) := inb_of S2 ⟨by decide, by decide⟩
  have hat2 : cl2.slots[((0 : Int32)).toNatClampNeg]? = some (.int x0) := H_2.at hin2 rfl
  refine hG _ (s₁.setTop (mkF m 19 #[.val (.ref a1), .val (.ref a1), .val (.int (2 : Int32)), .val (.int (0 : Int32)), .val (.int x0)] [(.int x0)])) (fun t₀ k₀ => ?_) ?_
  · show Steps p.tables e below (s₁.setTop (mkF m 14 #[.val (.ref a1), .val (.ref a1), .val (.int (2 : Int32)), .val (.int (0 : Int32)), .unset] [(.int (0 : Int32)), (.ref a1)])) t₀
    refine X0.baloadBytes hx (j := (0 : Int32)) (v := (.int x0)) (by rw [e0]; exact Ar2.1) (State.isArrayOf_alike hZ.alike Ar2.2.1) Ar2.2.2 hin2 hat2 (g := (mkF m 14 #[.val (.ref a1), .val (.ref a1), .val (.int (2 : Int32)), .val (.int (0 : Int32)), .unset] [(.int (0 : Int32)), (.ref a1)])) rfl rfl (hb hby d1_14) _ ?_
    show Steps p.tables e below (s₁.setTop (mkF m 15 #[.val (.ref a1), .val (.ref a1), .val (.int (2 : Int32)), .val (.int (0 : Int32)), .unset] [(.int x0)])) t₀
    refine XS.istore X0.here hx rfl (hb hby d1_15) rfl (l' := #[.val (.ref a1), .val (.ref a1), .val (.int (2 : Int32)), .val (.int (0 : Int32)), .val (.int x0)]) rfl ?_
    show Steps p.tables e below (s₁.setTop (mkF m 17 #[.val (.ref a1), .val (.ref a1), .val (.int (2 : Int32)), .val (.int (0 : Int32)), .val (.int x0)] [])) t₀
    refine XS.iload X0.here hx rfl (hb hby d1_17) rfl ?_
    exact k₀
  by_cases hc_x0 : x0 = (0 : Int32)
  ·
    refine hG _ (s₁.setTop (mkF m 14 #[.val (.ref a1), .val (.ref a1), .val (.int (2 : Int32)), .val (.int (1 : Int32)), .val (.int x0)] [(.int (1 : Int32)), (.ref a1)])) (fun t₀ k₀ => ?_) ?_
    · show Steps p.tables e below (s₁.setTop (mkF m 19 #[.val (.ref a1), .val (.ref a1), .val (.int (2 : Int32)), .val (.int (0 : Int32)), .val (.int x0)] [(.int x0)])) t₀
      refine XS.ifYes X0.here hx rfl (pc0 := 19) (pc' := 24) rfl (hb hby d1_19) rfl ((if0 _ _).trans (teq hc_x0).1) (by decide) (by decide) ?_
      show Steps p.tables e below (s₁.setTop (mkF m 24 #[.val (.ref a1), .val (.ref a1), .val (.int (2 : Int32)), .val (.int (0 : Int32)), .val (.int x0)] [])) t₀
      refine XS.iinc X0.here hx rfl (hb hby d1_24) rfl (l' := #[.val (.ref a1), .val (.ref a1), .val (.int (2 : Int32)), .val (.int (1 : Int32)), .val (.int x0)]) rfl ?_
      show Steps p.tables e below (s₁.setTop (mkF m 27 #[.val (.ref a1), .val (.ref a1), .val (.int (2 : Int32)), .val (.int (1 : Int32)), .val (.int x0)] [])) t₀
      refine XS.goto X0.here hx rfl (pc0 := 27) (pc' := 7) rfl (hb hby d1_27) (by decide) (by decide) ?_
      show Steps p.tables e below (s₁.setTop (mkF m 7 #[.val (.ref a1), .val (.ref a1), .val (.int (2 : Int32)), .val (.int (1 : Int32)), .val (.int x0)] [])) t₀
      refine XS.iloadN X0.here hx rfl (hb hby d1_7) rfl ?_
      show Steps p.tables e below (s₁.setTop (mkF m 8 #[.val (.ref a1), .val (.ref a1), .val (.int (2 : Int32)), .val (.int (1 : Int32)), .val (.int x0)] [(.int (1 : Int32))])) t₀
      refine XS.iloadN X0.here hx rfl (hb hby d1_8) rfl ?_
      show Steps p.tables e below (s₁.setTop (mkF m 9 #[.val (.ref a1), .val (.ref a1), .val (.int (2 : Int32)), .val (.int (1 : Int32)), .val (.int x0)] [(.int (2 : Int32)), (.int (1 : Int32))])) t₀
      refine XS.icmpNo X0.here hx rfl (hb hby d1_9) rfl (tlt (by decide : ((1 : Int32) < (2 : Int32)))).2.1 ?_
      show Steps p.tables e below (s₁.setTop (mkF m 12 #[.val (.ref a1), .val (.ref a1), .val (.int (2 : Int32)), .val (.int (1 : Int32)), .val (.int x0)] [])) t₀
      refine XS.aloadN X0.here hx rfl (hb hby d1_12) rfl rfl ?_
      show Steps p.tables e below (s₁.setTop (mkF m 13 #[.val (.ref a1), .val (.ref a1), .val (.int (2 : Int32)), .val (.int (1 : Int32)), .val (.int x0)] [(.ref a1)])) t₀
      refine XS.iloadN X0.here hx rfl (hb hby d1_13) rfl ?_
      exact k₀
    have ov3 := V1
    obtain ⟨cl3, Ar3, q3, S3, N_3, H_3, G_3⟩ := ov3
    have hin3 : ¬ ((1 : Int32) < 0 ∨ cl3.slots.size ≤ ((1 : Int32)).toNatClampNeg) := inb_of S3 ⟨by decide, by decide⟩
    have hat3 : cl3.slots[((1 : Int32)).toNatClampNeg]? = some (.int x1) := H_3.at hin3 rfl
    refine hG _ (s₁.setTop (mkF m 19 #[.val (.ref a1), .val (.ref a1), .val (.int (2 : Int32)), .val (.int (1 : Int32)), .val (.int x1)] [(.int x1)])) (fun t₀ k₀ => ?_) ?_
    · show Steps p.tables e below (s₁.setTop (mkF m 14 #[.val (.ref a1), .val (.ref a1), .val (.int (2 : Int32)), .val (.int (1 : Int32)), .val (.int x0)] [(.int (1 : Int32)), (.ref a1)])) t₀
      refine X0.baloadBytes hx (j := (1 : Int32)) (v := (.int x1)) (by rw [e0]; exact Ar3.1) (State.isArrayOf_alike hZ.alike Ar3.2.1) Ar3.2.2 hin3 hat3 (g := (mkF m 14 #[.val (.ref a1), .val (.ref a1), .val (.int (2 : Int32)), .val (.int (1 : Int32)), .val (.int x0)] [(.int (1 : Int32)), (.ref a1)])) rfl rfl (hb hby d1_14) _ ?_
      show Steps p.tables e below (s₁.setTop (mkF m 15 #[.val (.ref a1), .val (.ref a1), .val (.int (2 : Int32)), .val (.int (1 : Int32)), .val (.int x0)] [(.int x1)])) t₀
      refine XS.istore X0.here hx rfl (hb hby d1_15) rfl (l' := #[.val (.ref a1), .val (.ref a1), .val (.int (2 : Int32)), .val (.int (1 : Int32)), .val (.int x1)]) rfl ?_
      show Steps p.tables e below (s₁.setTop (mkF m 17 #[.val (.ref a1), .val (.ref a1), .val (.int (2 : Int32)), .val (.int (1 : Int32)), .val (.int x1)] [])) t₀
      refine XS.iload X0.here hx rfl (hb hby d1_17) rfl ?_
      exact k₀
    by_cases hc_x1 : x1 = (0 : Int32)
    ·
      refine hG _ (s₁.setTop (mkF m 31 #[.val (.ref a1), .val (.ref a1), .val (.int (2 : Int32)), .val (.int (2 : Int32)), .val (.int x1)] [(.int (1 : Int32))])) (fun t₀ k₀ => ?_) ?_
      · show Steps p.tables e below (s₁.setTop (mkF m 19 #[.val (.ref a1), .val (.ref a1), .val (.int (2 : Int32)), .val (.int (1 : Int32)), .val (.int x1)] [(.int x1)])) t₀
        refine XS.ifYes X0.here hx rfl (pc0 := 19) (pc' := 24) rfl (hb hby d1_19) rfl ((if0 _ _).trans (teq hc_x1).1) (by decide) (by decide) ?_
        show Steps p.tables e below (s₁.setTop (mkF m 24 #[.val (.ref a1), .val (.ref a1), .val (.int (2 : Int32)), .val (.int (1 : Int32)), .val (.int x1)] [])) t₀
        refine XS.iinc X0.here hx rfl (hb hby d1_24) rfl (l' := #[.val (.ref a1), .val (.ref a1), .val (.int (2 : Int32)), .val (.int (2 : Int32)), .val (.int x1)]) rfl ?_
        show Steps p.tables e below (s₁.setTop (mkF m 27 #[.val (.ref a1), .val (.ref a1), .val (.int (2 : Int32)), .val (.int (2 : Int32)), .val (.int x1)] [])) t₀
        refine XS.goto X0.here hx rfl (pc0 := 27) (pc' := 7) rfl (hb hby d1_27) (by decide) (by decide) ?_
        show Steps p.tables e below (s₁.setTop (mkF m 7 #[.val (.ref a1), .val (.ref a1), .val (.int (2 : Int32)), .val (.int (2 : Int32)), .val (.int x1)] [])) t₀
        refine XS.iloadN X0.here hx rfl (hb hby d1_7) rfl ?_
        show Steps p.tables e below (s₁.setTop (mkF m 8 #[.val (.ref a1), .val (.ref a1), .val (.int (2 : Int32)), .val (.int (2 : Int32)), .val (.int x1)] [(.int (2 : Int32))])) t₀
        refine XS.iloadN X0.here hx rfl (hb hby d1_8) rfl ?_
        show Steps p.tables e below (s₁.setTop (mkF m 9 #[.val (.ref a1), .val (.ref a1), .val (.int (2 : Int32)), .val (.int (2 : Int32)), .val (.int x1)] [(.int (2 : Int32)), (.int (2 : Int32))])) t₀
        refine XS.icmpYes X0.here hx rfl (pc0 := 9) (pc' := 30) rfl (hb hby d1_9) rfl (flt (by decide : ¬ ((2 : Int32) < (2 : Int32)))).2.1 (by decide) (by decide) ?_
        show Steps p.tables e below (s₁.setTop (mkF m 30 #[.val (.ref a1), .val (.ref a1), .val (.int (2 : Int32)), .val (.int (2 : Int32)), .val (.int x1)] [])) t₀
        refine XS.iconst X0.here hx rfl (hb hby d1_30) ?_
        exact k₀
      refine hF _ s₁ _ _ _ (some (.int (1 : Int32))) _ X0 e0 (fun h => by rw [hrt] at h; cases h) (by decide) (by decide) ?_ (fun fs hr => retN X0 hx (t := .boolean) hrt (by simp) (hb hby d1_31) hr)
      exact ⟨by rw [← hr]; simp [hc_x0, hc_x1], N0, rfl⟩
    ·
      refine hG _ (s₁.setTop (mkF m 23 #[.val (.ref a1), .val (.ref a1), .val (.int (2 : Int32)), .val (.int (1 : Int32)), .val (.int x1)] [(.int (0 : Int32))])) (fun t₀ k₀ => ?_) ?_
      · show Steps p.tables e below (s₁.setTop (mkF m 19 #[.val (.ref a1), .val (.ref a1), .val (.int (2 : Int32)), .val (.int (1 : Int32)), .val (.int x1)] [(.int x1)])) t₀
        refine XS.ifNo X0.here hx rfl (hb hby d1_19) rfl ((if0 _ _).trans (feq hc_x1).1) ?_
        show Steps p.tables e below (s₁.setTop (mkF m 22 #[.val (.ref a1), .val (.ref a1), .val (.int (2 : Int32)), .val (.int (1 : Int32)), .val (.int x1)] [])) t₀
        refine XS.iconst X0.here hx rfl (hb hby d1_22) ?_
        exact k₀
      refine hF _ s₁ _ _ _ (some (.int (0 : Int32))) _ X0 e0 (fun h => by rw [hrt] at h; cases h) (by decide) (by decide) ?_ (fun fs hr => retN X0 hx (t := .boolean) hrt (by simp) (hb hby d1_23) hr)
      exact ⟨by rw [← hr]; simp [hc_x0, hc_x1], N0, rfl⟩
  ·
    refine hG _ (s₁.setTop (mkF m 23 #[.val (.ref a1), .val (.ref a1), .val (.int (2 : Int32)), .val (.int (0 : Int32)), .val (.int x0)] [(.int (0 : Int32))])) (fun t₀ k₀ => ?_) ?_
    · show Steps p.tables e below (s₁.setTop (mkF m 19 #[.val (.ref a1), .val (.ref a1), .val (.int (2 : Int32)), .val (.int (0 : Int32)), .val (.int x0)] [(.int x0)])) t₀
      refine XS.ifNo X0.here hx rfl (hb hby d1_19) rfl ((if0 _ _).trans (feq hc_x0).1) ?_
      show Steps p.tables e below (s₁.setTop (mkF m 22 #[.val (.ref a1), .val (.ref a1), .val (.int (2 : Int32)), .val (.int (0 : Int32)), .val (.int x0)] [])) t₀
      refine XS.iconst X0.here hx rfl (hb hby d1_22) ?_
      exact k₀
    refine hF _ s₁ _ _ _ (some (.int (0 : Int32))) _ X0 e0 (fun h => by rw [hrt] at h; cases h) (by decide) (by decide) ?_ (fun fs hr => retN X0 hx (t := .boolean) hrt (by simp) (hb hby d1_23) hr)
    exact ⟨by rw [← hr]; simp [hc_x0], N0, rfl⟩
theorem ef_rmL3 (m : MethodId) (x0 : Addr) : entryFrame m #[(.ref x0)] 5 = mkF m 0 #[.val (.ref x0), .unset, .unset, .unset, .unset] [] := by first | (simp [entryFrame, mkF, argsToLocals, Value.category]; done) | rfl
def Q_rmL3 (Z : State) (a1 : Addr) (k : ClassId) (x0 x1 x2 : Int32) (r : Int32) (h0 : Heap) (n0 : Nat) (v : Option Value) (h : Heap) (L : List Loc) : Prop := v = some (.int r) ∧ Fr n0 L ∧ h = h0
set_option maxRecDepth 65536 in
set_option maxHeartbeats 40000000 in
theorem rmL3 (l : Launch) (Z : State) (a0 : Array Value) (hw : ∀ d ∈ tables_1, d.before a0 Z = true) (ws : List Jvm.Cond) (a1 : Addr) (k : ClassId) (x0 x1 x2 : Int32) (r : Int32) (h0 : Heap) (n0 : Nat) (Z0 : n0 ≤ h0.size) (V1 : Arv Z h0 a1 k .byte (3 : Int32) [(.int x0), (.int x1), (.int x2)] (.int (0 : Int32))) (hr : (if x0 = (0 : Int32) ∧ x1 = (0 : Int32) ∧ x2 = (0 : Int32) then (1 : Int32) else 0) = r) :
    MetFree l (⟨"com/example/ordercast/ordercast/history/History", "isInitial", "([B)Z"⟩ : MethodName) (head1 (Jvm.Cond.code (⟨"com/example/ordercast/ordercast/history/History", "isInitial", "([B)Z"⟩ : MethodName) prog_190_method_24_code 5 (some .boolean) :: ws) ({ frames := 0, cells := 0, slots := 0, locals := 0 } : Room)) (fun a U => a = #[(.ref a1)] ∧ Z.Warmed39 U.vm ∧ U.heap = h0) (fun _ _ _ _ _ => True) (fun _ U o U' => ∃ v L, o = .returned v ∧ Q_rmL3 Z a1 k x0 x1 x2 r h0 n0 v U'.heap L ∧ FrameEnd U o U' L ({ frames := 0, cells := 0, slots := 0, locals := 0 } : Room).cells ({ frames := 0, cells := 0, slots := 0, locals := 0 } : Room).slots) := by
  refine own_body (Q := fun v h L => Q_rmL3 Z a1 k x0 x1 x2 r h0 n0 v h L) pn_1 ?_
  intro p e s m below meth c s₁ G X0 hx hZ hby hml hown hnm hrt e0 hG hF
  have hown : s.vm.findClass "com/example/ordercast/ordercast/history/History" = some m.cls := hown
  have N0 := Fr.nil n0
  rw [ef_rmL3 m a1]
  show G (s₁.setTop (mkF m 0 #[.val (.ref a1), .unset, .unset, .unset, .unset] []))
  refine hG _ (s₁.setTop (mkF m 3 #[.val (.ref a1), .val (.ref a1), .unset, .unset, .unset] [(.ref a1)])) (fun t₀ k₀ => ?_) ?_
  · show Steps p.tables e below (s₁.setTop (mkF m 0 #[.val (.ref a1), .unset, .unset, .unset, .unset] [])) t₀
    refine XS.aloadN X0.here hx rfl (hb hby d1_0) rfl rfl ?_
    show Steps p.tables e below (s₁.setTop (mkF m 1 #[.val (.ref a1), .unset, .unset, .unset, .unset] [(.ref a1)])) t₀
    refine XS.astoreN X0.here hx rfl (hb hby d1_1) rfl rfl (l' := #[.val (.ref a1), .val (.ref a1), .unset, .unset, .unset]) rfl ?_
    show Steps p.tables e below (s₁.setTop (mkF m 2 #[.val (.ref a1), .val (.ref a1), .unset, .unset, .unset] [])) t₀
    refine XS.aloadN X0.here hx rfl (hb hby d1_2) rfl rfl ?_
    exact k₀
  have ov1 := V1
  obtain ⟨cl1, Ar1, q1, S1, N_1, H_1, G_1⟩ := ov1
  refine hG _ (s₁.setTop (mkF m 14 #[.val (.ref a1), .val (.ref a1), .val (.int (3 : Int32)), .val (.int (0 : Int32)), .unset] [(.int (0 : Int32)), (.ref a1)])) (fun t₀ k₀ => ?_) ?_
  · show Steps p.tables e below (s₁.setTop (mkF m 3 #[.val (.ref a1), .val (.ref a1), .unset, .unset, .unset] [(.ref a1)])) t₀
    refine X0.arraylength hx (by rw [e0]; exact Ar1.1) (State.isArrayOf_alike hZ.alike Ar1.2.1) (g := (mkF m 3 #[.val (.ref a1), .val (.ref a1), .unset, .unset, .unset] [(.ref a1)])) rfl rfl (hb hby d1_3) _ ?_
    rw [len_of S1 N_1]
    show Steps p.tables e below (s₁.setTop (mkF m 4 #[.val (.ref a1), .val (.ref a1), .unset, .unset, .unset] [(.int (3 : Int32))])) t₀
    refine XS.istoreN X0.here hx rfl (hb hby d1_4) rfl (l' := #[.val (.ref a1), .val (.ref a1), .val (.int (3 : Int32)), .unset, .unset]) rfl ?_
    show Steps p.tables e below (s₁.setTop (mkF m 5 #[.val (.ref a1), .val (.ref a1), .val (.int (3 : Int32)), .unset, .unset] [])) t₀
    refine XS.iconst X0.here hx rfl (hb hby d1_5) ?_
    show Steps p.tables e below (s₁.setTop (mkF m 6 #[.val (.ref a1), .val (.ref a1), .val (.int (3 : Int32)), .unset, .unset] [(.int (0 : Int32))])) t₀
    refine XS.istoreN X0.here hx rfl (hb hby d1_6) rfl (l' := #[.val (.ref a1), .val (.ref a1), .val (.int (3 : Int32)), .val (.int (0 : Int32)), .unset]) rfl ?_
    show Steps p.tables e below (s₁.setTop (mkF m 7 #[.val (.ref a1), .val (.ref a1), .val (.int (3 : Int32)), .val (.int (0 : Int32)), .unset] [])) t₀
    refine XS.iloadN X0.here hx rfl (hb hby d1_7) rfl ?_
    show Steps p.tables e below (s₁.setTop (mkF m 8 #[.val (.ref a1), .val (.ref a1), .val (.int (3 : Int32)), .val (.int (0 : Int32)), .unset] [(.int (0 : Int32))])) t₀
    refine XS.iloadN X0.here hx rfl (hb hby d1_8) rfl ?_
    show Steps p.tables e below (s₁.setTop (mkF m 9 #[.val (.ref a1), .val (.ref a1), .val (.int (3 : Int32)), .val (.int (0 : Int32)), .unset] [(.int (3 : Int32)), (.int (0 : Int32))])) t₀
    refine XS.icmpNo X0.here hx rfl (hb hby d1_9) rfl (tlt (by decide : ((0 : Int32) < (3 : Int32)))).2.1 ?_
    show Steps p.tables e below (s₁.setTop (mkF m 12 #[.val (.ref a1), .val (.ref a1), .val (.int (3 : Int32)), .val (.int (0 : Int32)), .unset] [])) t₀
    refine XS.aloadN X0.here hx rfl (hb hby d1_12) rfl rfl ?_
    show Steps p.tables e below (s₁.setTop (mkF m 13 #[.val (.ref a1), .val (.ref a1), .val (.int (3 : Int32)), .val (.int (0 : Int32)), .unset] [(.ref a1)])) t₀
    refine XS.iloadN X0.here hx rfl (hb hby d1_13) rfl ?_
    exact k₀
  have ov2 := V1
  obtain ⟨cl2, Ar2, q2, S2, N_2, H_2, G_2⟩ := ov2
  have hin2 : ¬ ((0 : Int32) < 0 ∨ cl2.slots.size ≤ ((0 : Int32)).toNatClampNeg) := inb_of S2 ⟨by decide, by decide⟩
  have hat2 : cl2.slots[((0 : Int32)).toNatClampNeg]? = some (.int x0) := H_2.at hin2 rfl
  refine hG _ (s₁.setTop (mkF m 19 #[.val (.ref a1), .val (.ref a1), .val (.int (3 : Int32)), .val (.int (0 : Int32)), .val (.int x0)] [(.int x0)])) (fun t₀ k₀ => ?_) ?_
  · show Steps p.tables e below (s₁.setTop (mkF m 14 #[.val (.ref a1), .val (.ref a1), .val (.int (3 : Int32)), .val (.int (0 : Int32)), .unset] [(.int (0 : Int32)), (.ref a1)])) t₀
    refine X0.baloadBytes hx (j := (0 : Int32)) (v := (.int x0)) (by rw [e0]; exact Ar2.1) (State.isArrayOf_alike hZ.alike Ar2.2.1) Ar2.2.2 hin2 hat2 (g := (mkF m 14 #[.val (.ref a1), .val (.ref a1), .val (.int (3 : Int32)), .val (.int (0 : Int32)), .unset] [(.int (0 : Int32)), (.ref a1)])) rfl rfl (hb hby d1_14) _ ?_
    show Steps p.tables e below (s₁.setTop (mkF m 15 #[.val (.ref a1), .val (.ref a1), .val (.int (3 : Int32)), .val (.int (0 : Int32)), .unset] [(.int x0)])) t₀
    refine XS.istore X0.here hx rfl (hb hby d1_15) rfl (l' := #[.val (.ref a1), .val (.ref a1), .val (.int (3 : Int32)), .val (.int (0 : Int32)), .val (.int x0)]) rfl ?_
    show Steps p.tables e below (s₁.setTop (mkF m 17 #[.val (.ref a1), .val (.ref a1), .val (.int (3 : Int32)), .val (.int (0 : Int32)), .val (.int x0)] [])) t₀
    refine XS.iload X0.here hx rfl (hb hby d1_17) rfl ?_
    exact k₀
  by_cases hc_x0 : x0 = (0 : Int32)
  ·
    refine hG _ (s₁.setTop (mkF m 14 #[.val (.ref a1), .val (.ref a1), .val (.int (3 : Int32)), .val (.int (1 : Int32)), .val (.int x0)] [(.int (1 : Int32)), (.ref a1)])) (fun t₀ k₀ => ?_) ?_
    · show Steps p.tables e below (s₁.setTop (mkF m 19 #[.val (.ref a1), .val (.ref a1), .val (.int (3 : Int32)), .val (.int (0 : Int32)), .val (.int x0)] [(.int x0)])) t₀
      refine XS.ifYes X0.here hx rfl (pc0 := 19) (pc' := 24) rfl (hb hby d1_19) rfl ((if0 _ _).trans (teq hc_x0).1) (by decide) (by decide) ?_
      show Steps p.tables e below (s₁.setTop (mkF m 24 #[.val (.ref a1), .val (.ref a1), .val (.int (3 : Int32)), .val (.int (0 : Int32)), .val (.int x0)] [])) t₀
      refine XS.iinc X0.here hx rfl (hb hby d1_24) rfl (l' := #[.val (.ref a1), .val (.ref a1), .val (.int (3 : Int32)), .val (.int (1 : Int32)), .val (.int x0)]) rfl ?_
      show Steps p.tables e below (s₁.setTop (mkF m 27 #[.val (.ref a1), .val (.ref a1), .val (.int (3 : Int32)), .val (.int (1 : Int32)), .val (.int x0)] [])) t₀
      refine XS.goto X0.here hx rfl (pc0 := 27) (pc' := 7) rfl (hb hby d1_27) (by decide) (by decide) ?_
      show Steps p.tables e below (s₁.setTop (mkF m 7 #[.val (.ref a1), .val (.ref a1), .val (.int (3 : Int32)), .val (.int (1 : Int32)), .val (.int x0)] [])) t₀
      refine XS.iloadN X0.here hx rfl (hb hby d1_7) rfl ?_
      show Steps p.tables e below (s₁.setTop (mkF m 8 #[.val (.ref a1), .val (.ref a1), .val (.int (3 : Int32)), .val (.int (1 : Int32)), .val (.int x0)] [(.int (1 : Int32))])) t₀
      refine XS.iloadN X0.here hx rfl (hb hby d1_8) rfl ?_
      show Steps p.tables e below (s₁.setTop (mkF m 9 #[.val (.ref a1), .val (.ref a1), .val (.int (3 : Int32)), .val (.int (1 : Int32)), .val (.int x0)] [(.int (3 : Int32)), (.int (1 : Int32))])) t₀
      refine XS.icmpNo X0.here hx rfl (hb hby d1_9) rfl (tlt (by decide : ((1 : Int32) < (3 : Int32)))).2.1 ?_
      show Steps p.tables e below (s₁.setTop (mkF m 12 #[.val (.ref a1), .val (.ref a1), .val (.int (3 : Int32)), .val (.int (1 : Int32)), .val (.int x0)] [])) t₀
      refine XS.aloadN X0.here hx rfl (hb hby d1_12) rfl rfl ?_
      show Steps p.tables e below (s₁.setTop (mkF m 13 #[.val (.ref a1), .val (.ref a1), .val (.int (3 : Int32)), .val (.int (1 : Int32)), .val (.int x0)] [(.ref a1)])) t₀
      refine XS.iloadN X0.here hx rfl (hb hby d1_13) rfl ?_
      exact k₀
    have ov3 := V1
    obtain ⟨cl3, Ar3, q3, S3, N_3, H_3, G_3⟩ := ov3
    have hin3 : ¬ ((1 : Int32) < 0 ∨ cl3.slots.size ≤ ((1 : Int32)).toNatClampNeg) := inb_of S3 ⟨by decide, by decide⟩
    have hat3 : cl3.slots[((1 : Int32)).toNatClampNeg]? = some (.int x1) := H_3.at hin3 rfl
    refine hG _ (s₁.setTop (mkF m 19 #[.val (.ref a1), .val (.ref a1), .val (.int (3 : Int32)), .val (.int (1 : Int32)), .val (.int x1)] [(.int x1)])) (fun t₀ k₀ => ?_) ?_
    · show Steps p.tables e below (s₁.setTop (mkF m 14 #[.val (.ref a1), .val (.ref a1), .val (.int (3 : Int32)), .val (.int (1 : Int32)), .val (.int x0)] [(.int (1 : Int32)), (.ref a1)])) t₀
      refine X0.baloadBytes hx (j := (1 : Int32)) (v := (.int x1)) (by rw [e0]; exact Ar3.1) (State.isArrayOf_alike hZ.alike Ar3.2.1) Ar3.2.2 hin3 hat3 (g := (mkF m 14 #[.val (.ref a1), .val (.ref a1), .val (.int (3 : Int32)), .val (.int (1 : Int32)), .val (.int x0)] [(.int (1 : Int32)), (.ref a1)])) rfl rfl (hb hby d1_14) _ ?_
      show Steps p.tables e below (s₁.setTop (mkF m 15 #[.val (.ref a1), .val (.ref a1), .val (.int (3 : Int32)), .val (.int (1 : Int32)), .val (.int x0)] [(.int x1)])) t₀
      refine XS.istore X0.here hx rfl (hb hby d1_15) rfl (l' := #[.val (.ref a1), .val (.ref a1), .val (.int (3 : Int32)), .val (.int (1 : Int32)), .val (.int x1)]) rfl ?_
      show Steps p.tables e below (s₁.setTop (mkF m 17 #[.val (.ref a1), .val (.ref a1), .val (.int (3 : Int32)), .val (.int (1 : Int32)), .val (.int x1)] [])) t₀
      refine XS.iload X0.here hx rfl (hb hby d1_17) rfl ?_
      exact k₀
    by_cases hc_x1 : x1 = (0 : Int32)
    ·
      refine hG _ (s₁.setTop (mkF m 14 #[.val (.ref a1), .val (.ref a1), .val (.int (3 : Int32)), .val (.int (2 : Int32)), .val (.int x1)] [(.int (2 : Int32)), (.ref a1)])) (fun t₀ k₀ => ?_) ?_
      · show Steps p.tables e below (s₁.setTop (mkF m 19 #[.val (.ref a1), .val (.ref a1), .val (.int (3 : Int32)), .val (.int (1 : Int32)), .val (.int x1)] [(.int x1)])) t₀
        refine XS.ifYes X0.here hx rfl (pc0 := 19) (pc' := 24) rfl (hb hby d1_19) rfl ((if0 _ _).trans (teq hc_x1).1) (by decide) (by decide) ?_
        show Steps p.tables e below (s₁.setTop (mkF m 24 #[.val (.ref a1), .val (.ref a1), .val (.int (3 : Int32)), .val (.int (1 : Int32)), .val (.int x1)] [])) t₀
        refine XS.iinc X0.here hx rfl (hb hby d1_24) rfl (l' := #[.val (.ref a1), .val (.ref a1), .val (.int (3 : Int32)), .val (.int (2 : Int32)), .val (.int x1)]) rfl ?_
        show Steps p.tables e below (s₁.setTop (mkF m 27 #[.val (.ref a1), .val (.ref a1), .val (.int (3 : Int32)), .val (.int (2 : Int32)), .val (.int x1)] [])) t₀
        refine XS.goto X0.here hx rfl (pc0 := 27) (pc' := 7) rfl (hb hby d1_27) (by decide) (by decide) ?_
        show Steps p.tables e below (s₁.setTop (mkF m 7 #[.val (.ref a1), .val (.ref a1), .val (.int (3 : Int32)), .val (.int (2 : Int32)), .val (.int x1)] [])) t₀
        refine XS.iloadN X0.here hx rfl (hb hby d1_7) rfl ?_
        show Steps p.tables e below (s₁.setTop (mkF m 8 #[.val (.ref a1), .val (.ref a1), .val (.int (3 : Int32)), .val (.int (2 : Int32)), .val (.int x1)] [(.int (2 : Int32))])) t₀
        refine XS.iloadN X0.here hx rfl (hb hby d1_8) rfl ?_
        show Steps p.tables e below (s₁.setTop (mkF m 9 #[.val (.ref a1), .val (.ref a1), .val (.int (3 : Int32)), .val (.int (2 : Int32)), .val (.int x1)] [(.int (3 : Int32)), (.int (2 : Int32))])) t₀
        refine XS.icmpNo X0.here hx rfl (hb hby d1_9) rfl (tlt (by decide : ((2 : Int32) < (3 : Int32)))).2.1 ?_
        show Steps p.tables e below (s₁.setTop (mkF m 12 #[.val (.ref a1), .val (.ref a1), .val (.int (3 : Int32)), .val (.int (2 : Int32)), .val (.int x1)] [])) t₀
        refine XS.aloadN X0.here hx rfl (hb hby d1_12) rfl rfl ?_
        show Steps p.tables e below (s₁.setTop (mkF m 13 #[.val (.ref a1), .val (.ref a1), .val (.int (3 : Int32)), .val (.int (2 : Int32)), .val (.int x1)] [(.ref a1)])) t₀
        refine XS.iloadN X0.here hx rfl (hb hby d1_13) rfl ?_
        exact k₀
      have ov4 := V1
      obtain ⟨cl4, Ar4, q4, S4, N_4, H_4, G_4⟩ := ov4
      have hin4 : ¬ ((2 : Int32) < 0 ∨ cl4.slots.size ≤ ((2 : Int32)).toNatClampNeg) := inb_of S4 ⟨by decide, by decide⟩
      have hat4 : cl4.slots[((2 : Int32)).toNatClampNeg]? = some (.int x2) := H_4.at hin4 rfl
      refine hG _ (s₁.setTop (mkF m 19 #[.val (.ref a1), .val (.ref a1), .val (.int (3 : Int32)), .val (.int (2 : Int32)), .val (.int x2)] [(.int x2)])) (fun t₀ k₀ => ?_) ?_
      · show Steps p.tables e below (s₁.setTop (mkF m 14 #[.val (.ref a1), .val (.ref a1), .val (.int (3 : Int32)), .val (.int (2 : Int32)), .val (.int x1)] [(.int (2 : Int32)), (.ref a1)])) t₀
        refine X0.baloadBytes hx (j := (2 : Int32)) (v := (.int x2)) (by rw [e0]; exact Ar4.1) (State.isArrayOf_alike hZ.alike Ar4.2.1) Ar4.2.2 hin4 hat4 (g := (mkF m 14 #[.val (.ref a1), .val (.ref a1), .val (.int (3 : Int32)), .val (.int (2 : Int32)), .val (.int x1)] [(.int (2 : Int32)), (.ref a1)])) rfl rfl (hb hby d1_14) _ ?_
        show Steps p.tables e below (s₁.setTop (mkF m 15 #[.val (.ref a1), .val (.ref a1), .val (.int (3 : Int32)), .val (.int (2 : Int32)), .val (.int x1)] [(.int x2)])) t₀
        refine XS.istore X0.here hx rfl (hb hby d1_15) rfl (l' := #[.val (.ref a1), .val (.ref a1), .val (.int (3 : Int32)), .val (.int (2 : Int32)), .val (.int x2)]) rfl ?_
        show Steps p.tables e below (s₁.setTop (mkF m 17 #[.val (.ref a1), .val (.ref a1), .val (.int (3 : Int32)), .val (.int (2 : Int32)), .val (.int x2)] [])) t₀
        refine XS.iload X0.here hx rfl (hb hby d1_17) rfl ?_
        exact k₀
      by_cases hc_x2 : x2 = (0 : Int32)
      ·
        refine hG _ (s₁.setTop (mkF m 31 #[.val (.ref a1), .val (.ref a1), .val (.int (3 : Int32)), .val (.int (3 : Int32)), .val (.int x2)] [(.int (1 : Int32))])) (fun t₀ k₀ => ?_) ?_
        · show Steps p.tables e below (s₁.setTop (mkF m 19 #[.val (.ref a1), .val (.ref a1), .val (.int (3 : Int32)), .val (.int (2 : Int32)), .val (.int x2)] [(.int x2)])) t₀
          refine XS.ifYes X0.here hx rfl (pc0 := 19) (pc' := 24) rfl (hb hby d1_19) rfl ((if0 _ _).trans (teq hc_x2).1) (by decide) (by decide) ?_
          show Steps p.tables e below (s₁.setTop (mkF m 24 #[.val (.ref a1), .val (.ref a1), .val (.int (3 : Int32)), .val (.int (2 : Int32)), .val (.int x2)] [])) t₀
          refine XS.iinc X0.here hx rfl (hb hby d1_24) rfl (l' := #[.val (.ref a1), .val (.ref a1), .val (.int (3 : Int32)), .val (.int (3 : Int32)), .val (.int x2)]) rfl ?_
          show Steps p.tables e below (s₁.setTop (mkF m 27 #[.val (.ref a1), .val (.ref a1), .val (.int (3 : Int32)), .val (.int (3 : Int32)), .val (.int x2)] [])) t₀
          refine XS.goto X0.here hx rfl (pc0 := 27) (pc' := 7) rfl (hb hby d1_27) (by decide) (by decide) ?_
          show Steps p.tables e below (s₁.setTop (mkF m 7 #[.val (.ref a1), .val (.ref a1), .val (.int (3 : Int32)), .val (.int (3 : Int32)), .val (.int x2)] [])) t₀
          refine XS.iloadN X0.here hx rfl (hb hby d1_7) rfl ?_
          show Steps p.tables e below (s₁.setTop (mkF m 8 #[.val (.ref a1), .val (.ref a1), .val (.int (3 : Int32)), .val (.int (3 : Int32)), .val (.int x2)] [(.int (3 : Int32))])) t₀
          refine XS.iloadN X0.here hx rfl (hb hby d1_8) rfl ?_
          show Steps p.tables e below (s₁.setTop (mkF m 9 #[.val (.ref a1), .val (.ref a1), .val (.int (3 : Int32)), .val (.int (3 : Int32)), .val (.int x2)] [(.int (3 : Int32)), (.int (3 : Int32))])) t₀
          refine XS.icmpYes X0.here hx rfl (pc0 := 9) (pc' := 30) rfl (hb hby d1_9) rfl (flt (by decide : ¬ ((3 : Int32) < (3 : Int32)))).2.1 (by decide) (by decide) ?_
          show Steps p.tables e below (s₁.setTop (mkF m 30 #[.val (.ref a1), .val (.ref a1), .val (.int (3 : Int32)), .val (.int (3 : Int32)), .val (.int x2)] [])) t₀
          refine XS.iconst X0.here hx rfl (hb hby d1_30) ?_
          exact k₀
        refine hF _ s₁ _ _ _ (some (.int (1 : Int32))) _ X0 e0 (fun h => by rw [hrt] at h; cases h) (by decide) (by decide) ?_ (fun fs hr => retN X0 hx (t := .boolean) hrt (by simp) (hb hby d1_31) hr)
        exact ⟨by rw [← hr]; simp [hc_x0, hc_x1, hc_x2], N0, rfl⟩
      ·
        refine hG _ (s₁.setTop (mkF m 23 #[.val (.ref a1), .val (.ref a1), .val (.int (3 : Int32)), .val (.int (2 : Int32)), .val (.int x2)] [(.int (0 : Int32))])) (fun t₀ k₀ => ?_) ?_
        · show Steps p.tables e below (s₁.setTop (mkF m 19 #[.val (.ref a1), .val (.ref a1), .val (.int (3 : Int32)), .val (.int (2 : Int32)), .val (.int x2)] [(.int x2)])) t₀
          refine XS.ifNo X0.here hx rfl (hb hby d1_19) rfl ((if0 _ _).trans (feq hc_x2).1) ?_
          show Steps p.tables e below (s₁.setTop (mkF m 22 #[.val (.ref a1), .val (.ref a1), .val (.int (3 : Int32)), .val (.int (2 : Int32)), .val (.int x2)] [])) t₀
          refine XS.iconst X0.here hx rfl (hb hby d1_22) ?_
          exact k₀
        refine hF _ s₁ _ _ _ (some (.int (0 : Int32))) _ X0 e0 (fun h => by rw [hrt] at h; cases h) (by decide) (by decide) ?_ (fun fs hr => retN X0 hx (t := .boolean) hrt (by simp) (hb hby d1_23) hr)
        exact ⟨by rw [← hr]; simp [hc_x0, hc_x1, hc_x2], N0, rfl⟩
    ·
      refine hG _ (s₁.setTop (mkF m 23 #[.val (.ref a1), .val (.ref a1), .val (.int (3 : Int32)), .val (.int (1 : Int32)), .val (.int x1)] [(.int (0 : Int32))])) (fun t₀ k₀ => ?_) ?_
      · show Steps p.tables e below (s₁.setTop (mkF m 19 #[.val (.ref a1), .val (.ref a1), .val (.int (3 : Int32)), .val (.int (1 : Int32)), .val (.int x1)] [(.int x1)])) t₀
        refine XS.ifNo X0.here hx rfl (hb hby d1_19) rfl ((if0 _ _).trans (feq hc_x1).1) ?_
        show Steps p.tables e below (s₁.setTop (mkF m 22 #[.val (.ref a1), .val (.ref a1), .val (.int (3 : Int32)), .val (.int (1 : Int32)), .val (.int x1)] [])) t₀
        refine XS.iconst X0.here hx rfl (hb hby d1_22) ?_
        exact k₀
      refine hF _ s₁ _ _ _ (some (.int (0 : Int32))) _ X0 e0 (fun h => by rw [hrt] at h; cases h) (by decide) (by decide) ?_ (fun fs hr => retN X0 hx (t := .boolean) hrt (by simp) (hb hby d1_23) hr)
      exact ⟨by rw [← hr]; simp [hc_x0, hc_x1], N0, rfl⟩
  ·
    refine hG _ (s₁.setTop (mkF m 23 #[.val (.ref a1), .val (.ref a1), .val (.int (3 : Int32)), .val (.int (0 : Int32)), .val (.int x0)] [(.int (0 : Int32))])) (fun t₀ k₀ => ?_) ?_
    · show Steps p.tables e below (s₁.setTop (mkF m 19 #[.val (.ref a1), .val (.ref a1), .val (.int (3 : Int32)), .val (.int (0 : Int32)), .val (.int x0)] [(.int x0)])) t₀
      refine XS.ifNo X0.here hx rfl (hb hby d1_19) rfl ((if0 _ _).trans (feq hc_x0).1) ?_
      show Steps p.tables e below (s₁.setTop (mkF m 22 #[.val (.ref a1), .val (.ref a1), .val (.int (3 : Int32)), .val (.int (0 : Int32)), .val (.int x0)] [])) t₀
      refine XS.iconst X0.here hx rfl (hb hby d1_22) ?_
      exact k₀
    refine hF _ s₁ _ _ _ (some (.int (0 : Int32))) _ X0 e0 (fun h => by rw [hrt] at h; cases h) (by decide) (by decide) ?_ (fun fs hr => retN X0 hx (t := .boolean) hrt (by simp) (hb hby d1_23) hr)
    exact ⟨by rw [← hr]; simp [hc_x0], N0, rfl⟩
theorem ef_rmL4 (m : MethodId) (x0 : Addr) : entryFrame m #[(.ref x0)] 5 = mkF m 0 #[.val (.ref x0), .unset, .unset, .unset, .unset] [] := by first | (simp [entryFrame, mkF, argsToLocals, Value.category]; done) | rfl
def Q_rmL4 (Z : State) (a1 : Addr) (k : ClassId) (x0 x1 x2 x3 : Int32) (r : Int32) (h0 : Heap) (n0 : Nat) (v : Option Value) (h : Heap) (L : List Loc) : Prop := v = some (.int r) ∧ Fr n0 L ∧ h = h0
set_option maxRecDepth 65536 in
set_option maxHeartbeats 40000000 in
theorem rmL4 (l : Launch) (Z : State) (a0 : Array Value) (hw : ∀ d ∈ tables_1, d.before a0 Z = true) (ws : List Jvm.Cond) (a1 : Addr) (k : ClassId) (x0 x1 x2 x3 : Int32) (r : Int32) (h0 : Heap) (n0 : Nat) (Z0 : n0 ≤ h0.size) (V1 : Arv Z h0 a1 k .byte (4 : Int32) [(.int x0), (.int x1), (.int x2), (.int x3)] (.int (0 : Int32))) (hr : (if x0 = (0 : Int32) ∧ x1 = (0 : Int32) ∧ x2 = (0 : Int32) ∧ x3 = (0 : Int32) then (1 : Int32) else 0) = r) :
    MetFree l (⟨"com/example/ordercast/ordercast/history/History", "isInitial", "([B)Z"⟩ : MethodName) (head1 (Jvm.Cond.code (⟨"com/example/ordercast/ordercast/history/History", "isInitial", "([B)Z"⟩ : MethodName) prog_190_method_24_code 5 (some .boolean) :: ws) ({ frames := 0, cells := 0, slots := 0, locals := 0 } : Room)) (fun a U => a = #[(.ref a1)] ∧ Z.Warmed39 U.vm ∧ U.heap = h0) (fun _ _ _ _ _ => True) (fun _ U o U' => ∃ v L, o = .returned v ∧ Q_rmL4 Z a1 k x0 x1 x2 x3 r h0 n0 v U'.heap L ∧ FrameEnd U o U' L ({ frames := 0, cells := 0, slots := 0, locals := 0 } : Room).cells ({ frames := 0, cells := 0, slots := 0, locals := 0 } : Room).slots) := by
  refine own_body (Q := fun v h L => Q_rmL4 Z a1 k x0 x1 x2 x3 r h0 n0 v h L) pn_1 ?_
  intro p e s m below meth c s₁ G X0 hx hZ hby hml hown hnm hrt e0 hG hF
  have hown : s.vm.findClass "com/example/ordercast/ordercast/history/History" = some m.cls := hown
  have N0 := Fr.nil n0
  rw [ef_rmL4 m a1]
  show G (s₁.setTop (mkF m 0 #[.val (.ref a1), .unset, .unset, .unset, .unset] []))
  refine hG _ (s₁.setTop (mkF m 3 #[.val (.ref a1), .val (.ref a1), .unset, .unset, .unset] [(.ref a1)])) (fun t₀ k₀ => ?_) ?_
  · show Steps p.tables e below (s₁.setTop (mkF m 0 #[.val (.ref a1), .unset, .unset, .unset, .unset] [])) t₀
    refine XS.aloadN X0.here hx rfl (hb hby d1_0) rfl rfl ?_
    show Steps p.tables e below (s₁.setTop (mkF m 1 #[.val (.ref a1), .unset, .unset, .unset, .unset] [(.ref a1)])) t₀
    refine XS.astoreN X0.here hx rfl (hb hby d1_1) rfl rfl (l' := #[.val (.ref a1), .val (.ref a1), .unset, .unset, .unset]) rfl ?_
    show Steps p.tables e below (s₁.setTop (mkF m 2 #[.val (.ref a1), .val (.ref a1), .unset, .unset, .unset] [])) t₀
    refine XS.aloadN X0.here hx rfl (hb hby d1_2) rfl rfl ?_
    exact k₀
  have ov1 := V1
  obtain ⟨cl1, Ar1, q1, S1, N_1, H_1, G_1⟩ := ov1
  refine hG _ (s₁.setTop (mkF m 14 #[.val (.ref a1), .val (.ref a1), .val (.int (4 : Int32)), .val (.int (0 : Int32)), .unset] [(.int (0 : Int32)), (.ref a1)])) (fun t₀ k₀ => ?_) ?_
  · show Steps p.tables e below (s₁.setTop (mkF m 3 #[.val (.ref a1), .val (.ref a1), .unset, .unset, .unset] [(.ref a1)])) t₀
    refine X0.arraylength hx (by rw [e0]; exact Ar1.1) (State.isArrayOf_alike hZ.alike Ar1.2.1) (g := (mkF m 3 #[.val (.ref a1), .val (.ref a1), .unset, .unset, .unset] [(.ref a1)])) rfl rfl (hb hby d1_3) _ ?_
    rw [len_of S1 N_1]
    show Steps p.tables e below (s₁.setTop (mkF m 4 #[.val (.ref a1), .val (.ref a1), .unset, .unset, .unset] [(.int (4 : Int32))])) t₀
    refine XS.istoreN X0.here hx rfl (hb hby d1_4) rfl (l' := #[.val (.ref a1), .val (.ref a1), .val (.int (4 : Int32)), .unset, .unset]) rfl ?_
    show Steps p.tables e below (s₁.setTop (mkF m 5 #[.val (.ref a1), .val (.ref a1), .val (.int (4 : Int32)), .unset, .unset] [])) t₀
    refine XS.iconst X0.here hx rfl (hb hby d1_5) ?_
    show Steps p.tables e below (s₁.setTop (mkF m 6 #[.val (.ref a1), .val (.ref a1), .val (.int (4 : Int32)), .unset, .unset] [(.int (0 : Int32))])) t₀
    refine XS.istoreN X0.here hx rfl (hb hby d1_6) rfl (l' := #[.val (.ref a1), .val (.ref a1), .val (.int (4 : Int32)), .val (.int (0 : Int32)), .unset]) rfl ?_
    show Steps p.tables e below (s₁.setTop (mkF m 7 #[.val (.ref a1), .val (.ref a1), .val (.int (4 : Int32)), .val (.int (0 : Int32)), .unset] [])) t₀
    refine XS.iloadN X0.here hx rfl (hb hby d1_7) rfl ?_
    show Steps p.tables e below (s₁.setTop (mkF m 8 #[.val (.ref a1), .val (.ref a1), .val (.int (4 : Int32)), .val (.int (0 : Int32)), .unset] [(.int (0 : Int32))])) t₀
    refine XS.iloadN X0.here hx rfl (hb hby d1_8) rfl ?_
    show Steps p.tables e below (s₁.setTop (mkF m 9 #[.val (.ref a1), .val (.ref a1), .val (.int (4 : Int32)), .val (.int (0 : Int32)), .unset] [(.int (4 : Int32)), (.int (0 : Int32))])) t₀
    refine XS.icmpNo X0.here hx rfl (hb hby d1_9) rfl (tlt (by decide : ((0 : Int32) < (4 : Int32)))).2.1 ?_
    show Steps p.tables e below (s₁.setTop (mkF m 12 #[.val (.ref a1), .val (.ref a1), .val (.int (4 : Int32)), .val (.int (0 : Int32)), .unset] [])) t₀
    refine XS.aloadN X0.here hx rfl (hb hby d1_12) rfl rfl ?_
    show Steps p.tables e below (s₁.setTop (mkF m 13 #[.val (.ref a1), .val (.ref a1), .val (.int (4 : Int32)), .val (.int (0 : Int32)), .unset] [(.ref a1)])) t₀
    refine XS.iloadN X0.here hx rfl (hb hby d1_13) rfl ?_
    exact k₀
  have ov2 := V1
  obtain ⟨cl2, Ar2, q2, S2, N_2, H_2, G_2⟩ := ov2
  have hin2 : ¬ ((0 : Int32) < 0 ∨ cl2.slots.size ≤ ((0 : Int32)).toNatClampNeg) := inb_of S2 ⟨by decide, by decide⟩
  have hat2 : cl2.slots[((0 : Int32)).toNatClampNeg]? = some (.int x0) := H_2.at hin2 rfl
  refine hG _ (s₁.setTop (mkF m 19 #[.val (.ref a1), .val (.ref a1), .val (.int (4 : Int32)), .val (.int (0 : Int32)), .val (.int x0)] [(.int x0)])) (fun t₀ k₀ => ?_) ?_
  · show Steps p.tables e below (s₁.setTop (mkF m 14 #[.val (.ref a1), .val (.ref a1), .val (.int (4 : Int32)), .val (.int (0 : Int32)), .unset] [(.int (0 : Int32)), (.ref a1)])) t₀
    refine X0.baloadBytes hx (j := (0 : Int32)) (v := (.int x0)) (by rw [e0]; exact Ar2.1) (State.isArrayOf_alike hZ.alike Ar2.2.1) Ar2.2.2 hin2 hat2 (g := (mkF m 14 #[.val (.ref a1), .val (.ref a1), .val (.int (4 : Int32)), .val (.int (0 : Int32)), .unset] [(.int (0 : Int32)), (.ref a1)])) rfl rfl (hb hby d1_14) _ ?_
    show Steps p.tables e below (s₁.setTop (mkF m 15 #[.val (.ref a1), .val (.ref a1), .val (.int (4 : Int32)), .val (.int (0 : Int32)), .unset] [(.int x0)])) t₀
    refine XS.istore X0.here hx rfl (hb hby d1_15) rfl (l' := #[.val (.ref a1), .val (.ref a1), .val (.int (4 : Int32)), .val (.int (0 : Int32)), .val (.int x0)]) rfl ?_
    show Steps p.tables e below (s₁.setTop (mkF m 17 #[.val (.ref a1), .val (.ref a1), .val (.int (4 : Int32)), .val (.int (0 : Int32)), .val (.int x0)] [])) t₀
    refine XS.iload X0.here hx rfl (hb hby d1_17) rfl ?_
    exact k₀
  by_cases hc_x0 : x0 = (0 : Int32)
  ·
    refine hG _ (s₁.setTop (mkF m 14 #[.val (.ref a1), .val (.ref a1), .val (.int (4 : Int32)), .val (.int (1 : Int32)), .val (.int x0)] [(.int (1 : Int32)), (.ref a1)])) (fun t₀ k₀ => ?_) ?_
    · show Steps p.tables e below (s₁.setTop (mkF m 19 #[.val (.ref a1), .val (.ref a1), .val (.int (4 : Int32)), .val (.int (0 : Int32)), .val (.int x0)] [(.int x0)])) t₀
      refine XS.ifYes X0.here hx rfl (pc0 := 19) (pc' := 24) rfl (hb hby d1_19) rfl ((if0 _ _).trans (teq hc_x0).1) (by decide) (by decide) ?_
      show Steps p.tables e below (s₁.setTop (mkF m 24 #[.val (.ref a1), .val (.ref a1), .val (.int (4 : Int32)), .val (.int (0 : Int32)), .val (.int x0)] [])) t₀
      refine XS.iinc X0.here hx rfl (hb hby d1_24) rfl (l' := #[.val (.ref a1), .val (.ref a1), .val (.int (4 : Int32)), .val (.int (1 : Int32)), .val (.int x0)]) rfl ?_
      show Steps p.tables e below (s₁.setTop (mkF m 27 #[.val (.ref a1), .val (.ref a1), .val (.int (4 : Int32)), .val (.int (1 : Int32)), .val (.int x0)] [])) t₀
      refine XS.goto X0.here hx rfl (pc0 := 27) (pc' := 7) rfl (hb hby d1_27) (by decide) (by decide) ?_
      show Steps p.tables e below (s₁.setTop (mkF m 7 #[.val (.ref a1), .val (.ref a1), .val (.int (4 : Int32)), .val (.int (1 : Int32)), .val (.int x0)] [])) t₀
      refine XS.iloadN X0.here hx rfl (hb hby d1_7) rfl ?_
      show Steps p.tables e below (s₁.setTop (mkF m 8 #[.val (.ref a1), .val (.ref a1), .val (.int (4 : Int32)), .val (.int (1 : Int32)), .val (.int x0)] [(.int (1 : Int32))])) t₀
      refine XS.iloadN X0.here hx rfl (hb hby d1_8) rfl ?_
      show Steps p.tables e below (s₁.setTop (mkF m 9 #[.val (.ref a1), .val (.ref a1), .val (.int (4 : Int32)), .val (.int (1 : Int32)), .val (.int x0)] [(.int (4 : Int32)), (.int (1 : Int32))])) t₀
      refine XS.icmpNo X0.here hx rfl (hb hby d1_9) rfl (tlt (by decide : ((1 : Int32) < (4 : Int32)))).2.1 ?_
      show Steps p.tables e below (s₁.setTop (mkF m 12 #[.val (.ref a1), .val (.ref a1), .val (.int (4 : Int32)), .val (.int (1 : Int32)), .val (.int x0)] [])) t₀
      refine XS.aloadN X0.here hx rfl (hb hby d1_12) rfl rfl ?_
      show Steps p.tables e below (s₁.setTop (mkF m 13 #[.val (.ref a1), .val (.ref a1), .val (.int (4 : Int32)), .val (.int (1 : Int32)), .val (.int x0)] [(.ref a1)])) t₀
      refine XS.iloadN X0.here hx rfl (hb hby d1_13) rfl ?_
      exact k₀
    have ov3 := V1
    obtain ⟨cl3, Ar3, q3, S3, N_3, H_3, G_3⟩ := ov3
    have hin3 : ¬ ((1 : Int32) < 0 ∨ cl3.slots.size ≤ ((1 : Int32)).toNatClampNeg) := inb_of S3 ⟨by decide, by decide⟩
    have hat3 : cl3.slots[((1 : Int32)).toNatClampNeg]? = some (.int x1) := H_3.at hin3 rfl
    refine hG _ (s₁.setTop (mkF m 19 #[.val (.ref a1), .val (.ref a1), .val (.int (4 : Int32)), .val (.int (1 : Int32)), .val (.int x1)] [(.int x1)])) (fun t₀ k₀ => ?_) ?_
    · show Steps p.tables e below (s₁.setTop (mkF m 14 #[.val (.ref a1), .val (.ref a1), .val (.int (4 : Int32)), .val (.int (1 : Int32)), .val (.int x0)] [(.int (1 : Int32)), (.ref a1)])) t₀
      refine X0.baloadBytes hx (j := (1 : Int32)) (v := (.int x1)) (by rw [e0]; exact Ar3.1) (State.isArrayOf_alike hZ.alike Ar3.2.1) Ar3.2.2 hin3 hat3 (g := (mkF m 14 #[.val (.ref a1), .val (.ref a1), .val (.int (4 : Int32)), .val (.int (1 : Int32)), .val (.int x0)] [(.int (1 : Int32)), (.ref a1)])) rfl rfl (hb hby d1_14) _ ?_
      show Steps p.tables e below (s₁.setTop (mkF m 15 #[.val (.ref a1), .val (.ref a1), .val (.int (4 : Int32)), .val (.int (1 : Int32)), .val (.int x0)] [(.int x1)])) t₀
      refine XS.istore X0.here hx rfl (hb hby d1_15) rfl (l' := #[.val (.ref a1), .val (.ref a1), .val (.int (4 : Int32)), .val (.int (1 : Int32)), .val (.int x1)]) rfl ?_
      show Steps p.tables e below (s₁.setTop (mkF m 17 #[.val (.ref a1), .val (.ref a1), .val (.int (4 : Int32)), .val (.int (1 : Int32)), .val (.int x1)] [])) t₀
      refine XS.iload X0.here hx rfl (hb hby d1_17) rfl ?_
      exact k₀
    by_cases hc_x1 : x1 = (0 : Int32)
    ·
      refine hG _ (s₁.setTop (mkF m 14 #[.val (.ref a1), .val (.ref a1), .val (.int (4 : Int32)), .val (.int (2 : Int32)), .val (.int x1)] [(.int (2 : Int32)), (.ref a1)])) (fun t₀ k₀ => ?_) ?_
      · show Steps p.tables e below (s₁.setTop (mkF m 19 #[.val (.ref a1), .val (.ref a1), .val (.int (4 : Int32)), .val (.int (1 : Int32)), .val (.int x1)] [(.int x1)])) t₀
        refine XS.ifYes X0.here hx rfl (pc0 := 19) (pc' := 24) rfl (hb hby d1_19) rfl ((if0 _ _).trans (teq hc_x1).1) (by decide) (by decide) ?_
        show Steps p.tables e below (s₁.setTop (mkF m 24 #[.val (.ref a1), .val (.ref a1), .val (.int (4 : Int32)), .val (.int (1 : Int32)), .val (.int x1)] [])) t₀
        refine XS.iinc X0.here hx rfl (hb hby d1_24) rfl (l' := #[.val (.ref a1), .val (.ref a1), .val (.int (4 : Int32)), .val (.int (2 : Int32)), .val (.int x1)]) rfl ?_
        show Steps p.tables e below (s₁.setTop (mkF m 27 #[.val (.ref a1), .val (.ref a1), .val (.int (4 : Int32)), .val (.int (2 : Int32)), .val (.int x1)] [])) t₀
        refine XS.goto X0.here hx rfl (pc0 := 27) (pc' := 7) rfl (hb hby d1_27) (by decide) (by decide) ?_
        show Steps p.tables e below (s₁.setTop (mkF m 7 #[.val (.ref a1), .val (.ref a1), .val (.int (4 : Int32)), .val (.int (2 : Int32)), .val (.int x1)] [])) t₀
        refine XS.iloadN X0.here hx rfl (hb hby d1_7) rfl ?_
        show Steps p.tables e below (s₁.setTop (mkF m 8 #[.val (.ref a1), .val (.ref a1), .val (.int (4 : Int32)), .val (.int (2 : Int32)), .val (.int x1)] [(.int (2 : Int32))])) t₀
        refine XS.iloadN X0.here hx rfl (hb hby d1_8) rfl ?_
        show Steps p.tables e below (s₁.setTop (mkF m 9 #[.val (.ref a1), .val (.ref a1), .val (.int (4 : Int32)), .val (.int (2 : Int32)), .val (.int x1)] [(.int (4 : Int32)), (.int (2 : Int32))])) t₀
        refine XS.icmpNo X0.here hx rfl (hb hby d1_9) rfl (tlt (by decide : ((2 : Int32) < (4 : Int32)))).2.1 ?_
        show Steps p.tables e below (s₁.setTop (mkF m 12 #[.val (.ref a1), .val (.ref a1), .val (.int (4 : Int32)), .val (.int (2 : Int32)), .val (.int x1)] [])) t₀
        refine XS.aloadN X0.here hx rfl (hb hby d1_12) rfl rfl ?_
        show Steps p.tables e below (s₁.setTop (mkF m 13 #[.val (.ref a1), .val (.ref a1), .val (.int (4 : Int32)), .val (.int (2 : Int32)), .val (.int x1)] [(.ref a1)])) t₀
        refine XS.iloadN X0.here hx rfl (hb hby d1_13) rfl ?_
        exact k₀
      have ov4 := V1
      obtain ⟨cl4, Ar4, q4, S4, N_4, H_4, G_4⟩ := ov4
      have hin4 : ¬ ((2 : Int32) < 0 ∨ cl4.slots.size ≤ ((2 : Int32)).toNatClampNeg) := inb_of S4 ⟨by decide, by decide⟩
      have hat4 : cl4.slots[((2 : Int32)).toNatClampNeg]? = some (.int x2) := H_4.at hin4 rfl
      refine hG _ (s₁.setTop (mkF m 19 #[.val (.ref a1), .val (.ref a1), .val (.int (4 : Int32)), .val (.int (2 : Int32)), .val (.int x2)] [(.int x2)])) (fun t₀ k₀ => ?_) ?_
      · show Steps p.tables e below (s₁.setTop (mkF m 14 #[.val (.ref a1), .val (.ref a1), .val (.int (4 : Int32)), .val (.int (2 : Int32)), .val (.int x1)] [(.int (2 : Int32)), (.ref a1)])) t₀
        refine X0.baloadBytes hx (j := (2 : Int32)) (v := (.int x2)) (by rw [e0]; exact Ar4.1) (State.isArrayOf_alike hZ.alike Ar4.2.1) Ar4.2.2 hin4 hat4 (g := (mkF m 14 #[.val (.ref a1), .val (.ref a1), .val (.int (4 : Int32)), .val (.int (2 : Int32)), .val (.int x1)] [(.int (2 : Int32)), (.ref a1)])) rfl rfl (hb hby d1_14) _ ?_
        show Steps p.tables e below (s₁.setTop (mkF m 15 #[.val (.ref a1), .val (.ref a1), .val (.int (4 : Int32)), .val (.int (2 : Int32)), .val (.int x1)] [(.int x2)])) t₀
        refine XS.istore X0.here hx rfl (hb hby d1_15) rfl (l' := #[.val (.ref a1), .val (.ref a1), .val (.int (4 : Int32)), .val (.int (2 : Int32)), .val (.int x2)]) rfl ?_
        show Steps p.tables e below (s₁.setTop (mkF m 17 #[.val (.ref a1), .val (.ref a1), .val (.int (4 : Int32)), .val (.int (2 : Int32)), .val (.int x2)] [])) t₀
        refine XS.iload X0.here hx rfl (hb hby d1_17) rfl ?_
        exact k₀
      by_cases hc_x2 : x2 = (0 : Int32)
      ·
        refine hG _ (s₁.setTop (mkF m 14 #[.val (.ref a1), .val (.ref a1), .val (.int (4 : Int32)), .val (.int (3 : Int32)), .val (.int x2)] [(.int (3 : Int32)), (.ref a1)])) (fun t₀ k₀ => ?_) ?_
        · show Steps p.tables e below (s₁.setTop (mkF m 19 #[.val (.ref a1), .val (.ref a1), .val (.int (4 : Int32)), .val (.int (2 : Int32)), .val (.int x2)] [(.int x2)])) t₀
          refine XS.ifYes X0.here hx rfl (pc0 := 19) (pc' := 24) rfl (hb hby d1_19) rfl ((if0 _ _).trans (teq hc_x2).1) (by decide) (by decide) ?_
          show Steps p.tables e below (s₁.setTop (mkF m 24 #[.val (.ref a1), .val (.ref a1), .val (.int (4 : Int32)), .val (.int (2 : Int32)), .val (.int x2)] [])) t₀
          refine XS.iinc X0.here hx rfl (hb hby d1_24) rfl (l' := #[.val (.ref a1), .val (.ref a1), .val (.int (4 : Int32)), .val (.int (3 : Int32)), .val (.int x2)]) rfl ?_
          show Steps p.tables e below (s₁.setTop (mkF m 27 #[.val (.ref a1), .val (.ref a1), .val (.int (4 : Int32)), .val (.int (3 : Int32)), .val (.int x2)] [])) t₀
          refine XS.goto X0.here hx rfl (pc0 := 27) (pc' := 7) rfl (hb hby d1_27) (by decide) (by decide) ?_
          show Steps p.tables e below (s₁.setTop (mkF m 7 #[.val (.ref a1), .val (.ref a1), .val (.int (4 : Int32)), .val (.int (3 : Int32)), .val (.int x2)] [])) t₀
          refine XS.iloadN X0.here hx rfl (hb hby d1_7) rfl ?_
          show Steps p.tables e below (s₁.setTop (mkF m 8 #[.val (.ref a1), .val (.ref a1), .val (.int (4 : Int32)), .val (.int (3 : Int32)), .val (.int x2)] [(.int (3 : Int32))])) t₀
          refine XS.iloadN X0.here hx rfl (hb hby d1_8) rfl ?_
          show Steps p.tables e below (s₁.setTop (mkF m 9 #[.val (.ref a1), .val (.ref a1), .val (.int (4 : Int32)), .val (.int (3 : Int32)), .val (.int x2)] [(.int (4 : Int32)), (.int (3 : Int32))])) t₀
          refine XS.icmpNo X0.here hx rfl (hb hby d1_9) rfl (tlt (by decide : ((3 : Int32) < (4 : Int32)))).2.1 ?_
          show Steps p.tables e below (s₁.setTop (mkF m 12 #[.val (.ref a1), .val (.ref a1), .val (.int (4 : Int32)), .val (.int (3 : Int32)), .val (.int x2)] [])) t₀
          refine XS.aloadN X0.here hx rfl (hb hby d1_12) rfl rfl ?_
          show Steps p.tables e below (s₁.setTop (mkF m 13 #[.val (.ref a1), .val (.ref a1), .val (.int (4 : Int32)), .val (.int (3 : Int32)), .val (.int x2)] [(.ref a1)])) t₀
          refine XS.iloadN X0.here hx rfl (hb hby d1_13) rfl ?_
          exact k₀
        have ov5 := V1
        obtain ⟨cl5, Ar5, q5, S5, N_5, H_5, G_5⟩ := ov5
        have hin5 : ¬ ((3 : Int32) < 0 ∨ cl5.slots.size ≤ ((3 : Int32)).toNatClampNeg) := inb_of S5 ⟨by decide, by decide⟩
        have hat5 : cl5.slots[((3 : Int32)).toNatClampNeg]? = some (.int x3) := H_5.at hin5 rfl
        refine hG _ (s₁.setTop (mkF m 19 #[.val (.ref a1), .val (.ref a1), .val (.int (4 : Int32)), .val (.int (3 : Int32)), .val (.int x3)] [(.int x3)])) (fun t₀ k₀ => ?_) ?_
        · show Steps p.tables e below (s₁.setTop (mkF m 14 #[.val (.ref a1), .val (.ref a1), .val (.int (4 : Int32)), .val (.int (3 : Int32)), .val (.int x2)] [(.int (3 : Int32)), (.ref a1)])) t₀
          refine X0.baloadBytes hx (j := (3 : Int32)) (v := (.int x3)) (by rw [e0]; exact Ar5.1) (State.isArrayOf_alike hZ.alike Ar5.2.1) Ar5.2.2 hin5 hat5 (g := (mkF m 14 #[.val (.ref a1), .val (.ref a1), .val (.int (4 : Int32)), .val (.int (3 : Int32)), .val (.int x2)] [(.int (3 : Int32)), (.ref a1)])) rfl rfl (hb hby d1_14) _ ?_
          show Steps p.tables e below (s₁.setTop (mkF m 15 #[.val (.ref a1), .val (.ref a1), .val (.int (4 : Int32)), .val (.int (3 : Int32)), .val (.int x2)] [(.int x3)])) t₀
          refine XS.istore X0.here hx rfl (hb hby d1_15) rfl (l' := #[.val (.ref a1), .val (.ref a1), .val (.int (4 : Int32)), .val (.int (3 : Int32)), .val (.int x3)]) rfl ?_
          show Steps p.tables e below (s₁.setTop (mkF m 17 #[.val (.ref a1), .val (.ref a1), .val (.int (4 : Int32)), .val (.int (3 : Int32)), .val (.int x3)] [])) t₀
          refine XS.iload X0.here hx rfl (hb hby d1_17) rfl ?_
          exact k₀
        by_cases hc_x3 : x3 = (0 : Int32)
        ·
          refine hG _ (s₁.setTop (mkF m 31 #[.val (.ref a1), .val (.ref a1), .val (.int (4 : Int32)), .val (.int (4 : Int32)), .val (.int x3)] [(.int (1 : Int32))])) (fun t₀ k₀ => ?_) ?_
          · show Steps p.tables e below (s₁.setTop (mkF m 19 #[.val (.ref a1), .val (.ref a1), .val (.int (4 : Int32)), .val (.int (3 : Int32)), .val (.int x3)] [(.int x3)])) t₀
            refine XS.ifYes X0.here hx rfl (pc0 := 19) (pc' := 24) rfl (hb hby d1_19) rfl ((if0 _ _).trans (teq hc_x3).1) (by decide) (by decide) ?_
            show Steps p.tables e below (s₁.setTop (mkF m 24 #[.val (.ref a1), .val (.ref a1), .val (.int (4 : Int32)), .val (.int (3 : Int32)), .val (.int x3)] [])) t₀
            refine XS.iinc X0.here hx rfl (hb hby d1_24) rfl (l' := #[.val (.ref a1), .val (.ref a1), .val (.int (4 : Int32)), .val (.int (4 : Int32)), .val (.int x3)]) rfl ?_
            show Steps p.tables e below (s₁.setTop (mkF m 27 #[.val (.ref a1), .val (.ref a1), .val (.int (4 : Int32)), .val (.int (4 : Int32)), .val (.int x3)] [])) t₀
            refine XS.goto X0.here hx rfl (pc0 := 27) (pc' := 7) rfl (hb hby d1_27) (by decide) (by decide) ?_
            show Steps p.tables e below (s₁.setTop (mkF m 7 #[.val (.ref a1), .val (.ref a1), .val (.int (4 : Int32)), .val (.int (4 : Int32)), .val (.int x3)] [])) t₀
            refine XS.iloadN X0.here hx rfl (hb hby d1_7) rfl ?_
            show Steps p.tables e below (s₁.setTop (mkF m 8 #[.val (.ref a1), .val (.ref a1), .val (.int (4 : Int32)), .val (.int (4 : Int32)), .val (.int x3)] [(.int (4 : Int32))])) t₀
            refine XS.iloadN X0.here hx rfl (hb hby d1_8) rfl ?_
            show Steps p.tables e below (s₁.setTop (mkF m 9 #[.val (.ref a1), .val (.ref a1), .val (.int (4 : Int32)), .val (.int (4 : Int32)), .val (.int x3)] [(.int (4 : Int32)), (.int (4 : Int32))])) t₀
            refine XS.icmpYes X0.here hx rfl (pc0 := 9) (pc' := 30) rfl (hb hby d1_9) rfl (flt (by decide : ¬ ((4 : Int32) < (4 : Int32)))).2.1 (by decide) (by decide) ?_
            show Steps p.tables e below (s₁.setTop (mkF m 30 #[.val (.ref a1), .val (.ref a1), .val (.int (4 : Int32)), .val (.int (4 : Int32)), .val (.int x3)] [])) t₀
            refine XS.iconst X0.here hx rfl (hb hby d1_30) ?_
            exact k₀
          refine hF _ s₁ _ _ _ (some (.int (1 : Int32))) _ X0 e0 (fun h => by rw [hrt] at h; cases h) (by decide) (by decide) ?_ (fun fs hr => retN X0 hx (t := .boolean) hrt (by simp) (hb hby d1_31) hr)
          exact ⟨by rw [← hr]; simp [hc_x0, hc_x1, hc_x2, hc_x3], N0, rfl⟩
        ·
          refine hG _ (s₁.setTop (mkF m 23 #[.val (.ref a1), .val (.ref a1), .val (.int (4 : Int32)), .val (.int (3 : Int32)), .val (.int x3)] [(.int (0 : Int32))])) (fun t₀ k₀ => ?_) ?_
          · show Steps p.tables e below (s₁.setTop (mkF m 19 #[.val (.ref a1), .val (.ref a1), .val (.int (4 : Int32)), .val (.int (3 : Int32)), .val (.int x3)] [(.int x3)])) t₀
            refine XS.ifNo X0.here hx rfl (hb hby d1_19) rfl ((if0 _ _).trans (feq hc_x3).1) ?_
            show Steps p.tables e below (s₁.setTop (mkF m 22 #[.val (.ref a1), .val (.ref a1), .val (.int (4 : Int32)), .val (.int (3 : Int32)), .val (.int x3)] [])) t₀
            refine XS.iconst X0.here hx rfl (hb hby d1_22) ?_
            exact k₀
          refine hF _ s₁ _ _ _ (some (.int (0 : Int32))) _ X0 e0 (fun h => by rw [hrt] at h; cases h) (by decide) (by decide) ?_ (fun fs hr => retN X0 hx (t := .boolean) hrt (by simp) (hb hby d1_23) hr)
          exact ⟨by rw [← hr]; simp [hc_x0, hc_x1, hc_x2, hc_x3], N0, rfl⟩
      ·
        refine hG _ (s₁.setTop (mkF m 23 #[.val (.ref a1), .val (.ref a1), .val (.int (4 : Int32)), .val (.int (2 : Int32)), .val (.int x2)] [(.int (0 : Int32))])) (fun t₀ k₀ => ?_) ?_
        · show Steps p.tables e below (s₁.setTop (mkF m 19 #[.val (.ref a1), .val (.ref a1), .val (.int (4 : Int32)), .val (.int (2 : Int32)), .val (.int x2)] [(.int x2)])) t₀
          refine XS.ifNo X0.here hx rfl (hb hby d1_19) rfl ((if0 _ _).trans (feq hc_x2).1) ?_
          show Steps p.tables e below (s₁.setTop (mkF m 22 #[.val (.ref a1), .val (.ref a1), .val (.int (4 : Int32)), .val (.int (2 : Int32)), .val (.int x2)] [])) t₀
          refine XS.iconst X0.here hx rfl (hb hby d1_22) ?_
          exact k₀
        refine hF _ s₁ _ _ _ (some (.int (0 : Int32))) _ X0 e0 (fun h => by rw [hrt] at h; cases h) (by decide) (by decide) ?_ (fun fs hr => retN X0 hx (t := .boolean) hrt (by simp) (hb hby d1_23) hr)
        exact ⟨by rw [← hr]; simp [hc_x0, hc_x1, hc_x2], N0, rfl⟩
    ·
      refine hG _ (s₁.setTop (mkF m 23 #[.val (.ref a1), .val (.ref a1), .val (.int (4 : Int32)), .val (.int (1 : Int32)), .val (.int x1)] [(.int (0 : Int32))])) (fun t₀ k₀ => ?_) ?_
      · show Steps p.tables e below (s₁.setTop (mkF m 19 #[.val (.ref a1), .val (.ref a1), .val (.int (4 : Int32)), .val (.int (1 : Int32)), .val (.int x1)] [(.int x1)])) t₀
        refine XS.ifNo X0.here hx rfl (hb hby d1_19) rfl ((if0 _ _).trans (feq hc_x1).1) ?_
        show Steps p.tables e below (s₁.setTop (mkF m 22 #[.val (.ref a1), .val (.ref a1), .val (.int (4 : Int32)), .val (.int (1 : Int32)), .val (.int x1)] [])) t₀
        refine XS.iconst X0.here hx rfl (hb hby d1_22) ?_
        exact k₀
      refine hF _ s₁ _ _ _ (some (.int (0 : Int32))) _ X0 e0 (fun h => by rw [hrt] at h; cases h) (by decide) (by decide) ?_ (fun fs hr => retN X0 hx (t := .boolean) hrt (by simp) (hb hby d1_23) hr)
      exact ⟨by rw [← hr]; simp [hc_x0, hc_x1], N0, rfl⟩
  ·
    refine hG _ (s₁.setTop (mkF m 23 #[.val (.ref a1), .val (.ref a1), .val (.int (4 : Int32)), .val (.int (0 : Int32)), .val (.int x0)] [(.int (0 : Int32))])) (fun t₀ k₀ => ?_) ?_
    · show Steps p.tables e below (s₁.setTop (mkF m 19 #[.val (.ref a1), .val (.ref a1), .val (.int (4 : Int32)), .val (.int (0 : Int32)), .val (.int x0)] [(.int x0)])) t₀
      refine XS.ifNo X0.here hx rfl (hb hby d1_19) rfl ((if0 _ _).trans (feq hc_x0).1) ?_
      show Steps p.tables e below (s₁.setTop (mkF m 22 #[.val (.ref a1), .val (.ref a1), .val (.int (4 : Int32)), .val (.int (0 : Int32)), .val (.int x0)] [])) t₀
      refine XS.iconst X0.here hx rfl (hb hby d1_22) ?_
      exact k₀
    refine hF _ s₁ _ _ _ (some (.int (0 : Int32))) _ X0 e0 (fun h => by rw [hrt] at h; cases h) (by decide) (by decide) ?_ (fun fs hr => retN X0 hx (t := .boolean) hrt (by simp) (hb hby d1_23) hr)
    exact ⟨by rw [← hr]; simp [hc_x0], N0, rfl⟩
theorem pn_0 : plainFor (⟨"com/example/ordercast/ordercast/history/HistoryIsInitialPinLaw", "law", "(III)Z"⟩ : MethodName) = true := plainFor_of_name (by first | (simp [plainName, overriddenIn]; done) | decide +kernel)
theorem ef_rm0 (m : MethodId) (x0 : Int32) (x1 : Int32) (x2 : Int32) : entryFrame m #[(.int x0), (.int x1), (.int x2)] maxLocals = mkF m 0 #[.val (.int x0), .val (.int x1), .val (.int x2), .unset, .unset, .unset, .unset, .unset, .unset, .unset, .unset, .unset] [] := by first | (simp [entryFrame, mkF, argsToLocals, Value.category, maxLocals]; done) | rfl
def Q_rm0 (Z : State) (p1 p2 p3 : Int32) (h0 : Heap) (n0 : Nat) (v : Option Value) (h : Heap) (L : List Loc) : Prop := v = some (.int (1 : Int32)) ∧ Fr n0 L
set_option maxRecDepth 65536 in
set_option maxHeartbeats 40000000 in
theorem rm0 (l : Launch) (Z : State) (a0 : Array Value) (hw : ∀ d ∈ tables_1, d.before a0 Z = true) (ws : List Jvm.Cond) (p1 p2 p3 : Int32) (h0 : Heap) (n0 : Nat) (Z0 : n0 ≤ h0.size)  :
    MetFree l x (head1 (Jvm.Cond.code x code maxLocals ret :: ws) room_1) (fun a U => a = #[(.int p1), (.int p2), (.int p3)] ∧ Z.Warmed39 U.vm ∧ U.heap = h0) (fun _ _ _ _ _ => True) (fun _ U o U' => ∃ v L, o = .returned v ∧ Q_rm0 Z p1 p2 p3 h0 n0 v U'.heap L ∧ FrameEnd U o U' L room_1.cells room_1.slots) := by
  refine own_body (Q := fun v h L => Q_rm0 Z p1 p2 p3 h0 n0 v h L) pn_0 ?_
  intro p e s m below meth c s₁ G X0 hx hZ hby hml hown hnm hrt e0 hG hF
  have hml : c.maxLocals = 12 := hml
  have hrt : meth.sig.returnType = some .boolean := hrt
  have hown : s.vm.findClass "com/example/ordercast/ordercast/history/HistoryIsInitialPinLaw" = some m.cls := hown
  have N0 := Fr.nil n0
  rw [ef_rm0 m p1 p2 p3]
  show G (s₁.setTop (mkF m 0 #[.val (.int p1), .val (.int p2), .val (.int p3), .unset, .unset, .unset, .unset, .unset, .unset, .unset, .unset, .unset] []))
  have tl4 : ∀  (n b0 b1 b2 b3 : Int32) (hn : n = (0 : Int32) ∨ n = (1 : Int32) ∨ n = (2 : Int32) ∨ n = (3 : Int32) ∨ n = (4 : Int32)) (hb0 : b0.toInt8.toInt32 = b0) (hb1 : b1.toInt8.toInt32 = b1) (hb2 : b2.toInt8.toInt32 = b2) (hb3 : b3.toInt8.toInt32 = b3), G (s₁.setTop (mkF m 73 #[.val (.int p1), .val (.int p2), .val (.int p3), .val (.int n), .val (.int b0), .val (.int b1), .val (.int b2), .val (.int b3), .unset, .unset, .unset, .unset] [])) := by
    intro n b0 b1 b2 b3 hn hb0 hb1 hb2 hb3
    rcases hn with hn | hn | hn | hn | hn
    ·
      subst hn
      show G (s₁.setTop (mkF m 73 #[.val (.int p1), .val (.int p2), .val (.int p3), .val (.int (0 : Int32)), .val (.int b0), .val (.int b1), .val (.int b2), .val (.int b3), .unset, .unset, .unset, .unset] []))
      refine hG _ (s₁.setTop (mkF m 78 #[.val (.int p1), .val (.int p2), .val (.int p3), .val (.int (0 : Int32)), .val (.int b0), .val (.int b1), .val (.int b2), .val (.int b3), .unset, .unset, .unset, .unset] [(.int (0 : Int32))])) (fun t₀ k₀ => ?_) ?_
      · show Steps p.tables e below (s₁.setTop (mkF m 73 #[.val (.int p1), .val (.int p2), .val (.int p3), .val (.int (0 : Int32)), .val (.int b0), .val (.int b1), .val (.int b2), .val (.int b3), .unset, .unset, .unset, .unset] [])) t₀
        refine XS.iloadN X0.here hx rfl (hb hby at_73) rfl ?_
        show Steps p.tables e below (s₁.setTop (mkF m 74 #[.val (.int p1), .val (.int p2), .val (.int p3), .val (.int (0 : Int32)), .val (.int b0), .val (.int b1), .val (.int b2), .val (.int b3), .unset, .unset, .unset, .unset] [(.int (0 : Int32))])) t₀
        refine XS.ifNo X0.here hx rfl (hb hby at_74) rfl ((if0 _ _).trans (teq (by decide : ((0 : Int32) = (0 : Int32)))).2) ?_
        show Steps p.tables e below (s₁.setTop (mkF m 77 #[.val (.int p1), .val (.int p2), .val (.int p3), .val (.int (0 : Int32)), .val (.int b0), .val (.int b1), .val (.int b2), .val (.int b3), .unset, .unset, .unset, .unset] [])) t₀
        refine XS.iconst X0.here hx rfl (hb hby at_77) ?_
        exact k₀
      obtain ⟨T1, h1, k1, X1, e1, E1, A1, st1⟩ := newP X0 hx hZ (hw _ (List.mem_of_getElem? (i := 1) rfl)) e0 (g := (mkF m 78 #[.val (.int p1), .val (.int p2), .val (.int p3), .val (.int (0 : Int32)), .val (.int b0), .val (.int b1), .val (.int b2), .val (.int b3), .unset, .unset, .unset, .unset] [(.int (0 : Int32))])) rfl (hb hby at_78) rfl (by decide) (cap := 0) (by decide) (by decide) (by decide) (by decide)
      obtain ⟨ob1, g1⟩ : ∃ z, z = h0.size := ⟨_, rfl⟩
      rw [← g1] at A1 st1
      have g_ob1 : n0 ≤ ob1 := Nat.le_trans Z0 (Nat.le_of_eq g1.symm)
      have z_1 : n0 ≤ h1.size := Nat.le_trans Z0 E1.1
      have V_ob1 : Arv Z h1 ob1 k1 .byte (0 : Int32) [] (.int (0 : Int32)) := (Arv.new A1 (by decide)).pad (pad_rep [] (.int (0 : Int32)) 0)
      refine hG _ _ (fun t₀ k₀ => st1 _ k₀) ?_
      show G (T1.setTop (mkF m 80 #[.val (.int p1), .val (.int p2), .val (.int p3), .val (.int (0 : Int32)), .val (.int b0), .val (.int b1), .val (.int b2), .val (.int b3), .unset, .unset, .unset, .unset] [(.ref ob1)]))
      refine hG _ (T1.setTop (mkF m 179 #[.val (.int p1), .val (.int p2), .val (.int p3), .val (.int (0 : Int32)), .val (.int b0), .val (.int b1), .val (.int b2), .val (.int b3), .val (.ref ob1), .unset, .unset, .unset] [])) (fun t₀ k₀ => ?_) ?_
      · show Steps p.tables e below (T1.setTop (mkF m 80 #[.val (.int p1), .val (.int p2), .val (.int p3), .val (.int (0 : Int32)), .val (.int b0), .val (.int b1), .val (.int b2), .val (.int b3), .unset, .unset, .unset, .unset] [(.ref ob1)])) t₀
        refine XS.astore X1.here hx rfl (hb hby at_80) rfl rfl (l' := #[.val (.int p1), .val (.int p2), .val (.int p3), .val (.int (0 : Int32)), .val (.int b0), .val (.int b1), .val (.int b2), .val (.int b3), .val (.ref ob1), .unset, .unset, .unset]) rfl ?_
        show Steps p.tables e below (T1.setTop (mkF m 82 #[.val (.int p1), .val (.int p2), .val (.int p3), .val (.int (0 : Int32)), .val (.int b0), .val (.int b1), .val (.int b2), .val (.int b3), .val (.ref ob1), .unset, .unset, .unset] [])) t₀
        refine XS.goto X1.here hx rfl (pc0 := 82) (pc' := 179) rfl (hb hby at_82) (by decide) (by decide) ?_
        exact k₀
      have tq : ∀  (ex : Int32) (hr : (if True then (1 : Int32) else 0) = ex), G (T1.setTop (mkF m 226 #[.val (.int p1), .val (.int p2), .val (.int p3), .val (.int (0 : Int32)), .val (.int b0), .val (.int b1), .val (.int b2), .val (.int b3), .val (.ref ob1), .val (.int ex), .unset, .unset] [])) := by
        intro ex hr
        refine hG _ (T1.setTop (mkF m 228 #[.val (.int p1), .val (.int p2), .val (.int p3), .val (.int (0 : Int32)), .val (.int b0), .val (.int b1), .val (.int b2), .val (.int b3), .val (.ref ob1), .val (.int ex), .unset, .unset] [(.ref ob1)])) (fun t₀ k₀ => ?_) ?_
        · show Steps p.tables e below (T1.setTop (mkF m 226 #[.val (.int p1), .val (.int p2), .val (.int p3), .val (.int (0 : Int32)), .val (.int b0), .val (.int b1), .val (.int b2), .val (.int b3), .val (.ref ob1), .val (.int ex), .unset, .unset] [])) t₀
          refine XS.aload X1.here hx rfl (hb hby at_226) rfl rfl ?_
          exact k₀
        obtain ⟨_, _, ⟨T2, L2, k2, n2⟩, -, X2, ⟨Lc2, hQ2, l2, y2, z2⟩, st2⟩ := Jvm.LawKit.callS X1 hx (y := (⟨"com/example/ordercast/ordercast/history/History", "isInitial", "([B)Z"⟩ : MethodName)) hown (mvT hZ (hw _ (List.mem_of_getElem? (i := 2) rfl))) (mvT hZ (hw _ (List.mem_of_getElem? (i := 3) rfl))) (mvT hZ (hw _ (List.mem_of_getElem? (i := 4) rfl))) (mvT hZ (hw _ (List.mem_of_getElem? (i := 5) rfl))) (by decide) (backOf (W := 0) (rmL0 l Z a0 hw [] ob1 k1  ex h1 n0 z_1 V_ob1 hr) hZ (hw _ (List.mem_of_getElem? (i := 5) rfl)) (hw _ (List.mem_of_getElem? (i := 4) rfl)) (by decide) (by decide)) (g := (mkF m 228 #[.val (.int p1), .val (.int p2), .val (.int p3), .val (.int (0 : Int32)), .val (.int b0), .val (.int b1), .val (.int b2), .val (.int b3), .val (.ref ob1), .val (.int ex), .unset, .unset] [(.ref ob1)])) rfl (by rw [hml]; rfl) (argsL := [(.ref ob1)]) (rest := []) (lenOf pd_0 rfl) rfl (by show 2 * 0 + _ ≤ _; exact Nat.le_of_eq rfl) (hb hby at_228) (fun _ _ => ⟨rfl, e1, (by decide : 1 + 0 ≤ _), (by decide : 0 + 0 ≤ _)⟩)
        dsimp only [Pt.U, Pt.locs, Pt.cells, Pt.slots] at X2 l2 y2 z2 st2 hQ2
        subst l2 y2 z2
        obtain ⟨rfl, N2q, e2⟩ := hQ2
        have N2 := Fr.app N0 N2q
        refine hG _ _ (fun t₀ k₀ => st2 _ k₀) ?_
        show G (T2.setTop (mkF m 231 #[.val (.int p1), .val (.int p2), .val (.int p3), .val (.int (0 : Int32)), .val (.int b0), .val (.int b1), .val (.int b2), .val (.int b3), .val (.ref ob1), .val (.int ex), .unset, .unset] [(.int ex)]))
        refine hG _ (T2.setTop (mkF m 235 #[.val (.int p1), .val (.int p2), .val (.int p3), .val (.int (0 : Int32)), .val (.int b0), .val (.int b1), .val (.int b2), .val (.int b3), .val (.ref ob1), .val (.int ex), .val (.int ex), .unset] [(.ref ob1)])) (fun t₀ k₀ => ?_) ?_
        · show Steps p.tables e below (T2.setTop (mkF m 231 #[.val (.int p1), .val (.int p2), .val (.int p3), .val (.int (0 : Int32)), .val (.int b0), .val (.int b1), .val (.int b2), .val (.int b3), .val (.ref ob1), .val (.int ex), .unset, .unset] [(.int ex)])) t₀
          refine XS.istore X2.here hx rfl (hb hby at_231) rfl (l' := #[.val (.int p1), .val (.int p2), .val (.int p3), .val (.int (0 : Int32)), .val (.int b0), .val (.int b1), .val (.int b2), .val (.int b3), .val (.ref ob1), .val (.int ex), .val (.int ex), .unset]) rfl ?_
          show Steps p.tables e below (T2.setTop (mkF m 233 #[.val (.int p1), .val (.int p2), .val (.int p3), .val (.int (0 : Int32)), .val (.int b0), .val (.int b1), .val (.int b2), .val (.int b3), .val (.ref ob1), .val (.int ex), .val (.int ex), .unset] [])) t₀
          refine XS.aload X2.here hx rfl (hb hby at_233) rfl rfl ?_
          exact k₀
        have ov3 := V_ob1
        obtain ⟨cl3, Ar3, q3, S3, N_3, H_3, G_3⟩ := ov3
        refine hG _ (T2.setTop (mkF m 320 #[.val (.int p1), .val (.int p2), .val (.int p3), .val (.int (0 : Int32)), .val (.int b0), .val (.int b1), .val (.int b2), .val (.int b3), .val (.ref ob1), .val (.int ex), .val (.int ex), .val (.int (1 : Int32))] [(.int (1 : Int32))])) (fun t₀ k₀ => ?_) ?_
        · show Steps p.tables e below (T2.setTop (mkF m 235 #[.val (.int p1), .val (.int p2), .val (.int p3), .val (.int (0 : Int32)), .val (.int b0), .val (.int b1), .val (.int b2), .val (.int b3), .val (.ref ob1), .val (.int ex), .val (.int ex), .unset] [(.ref ob1)])) t₀
          refine X2.arraylength hx (by rw [e2]; exact Ar3.1) (State.isArrayOf_alike hZ.alike Ar3.2.1) (g := (mkF m 235 #[.val (.int p1), .val (.int p2), .val (.int p3), .val (.int (0 : Int32)), .val (.int b0), .val (.int b1), .val (.int b2), .val (.int b3), .val (.ref ob1), .val (.int ex), .val (.int ex), .unset] [(.ref ob1)])) rfl rfl (hb hby at_235) _ ?_
          rw [len_of S3 N_3]
          show Steps p.tables e below (T2.setTop (mkF m 236 #[.val (.int p1), .val (.int p2), .val (.int p3), .val (.int (0 : Int32)), .val (.int b0), .val (.int b1), .val (.int b2), .val (.int b3), .val (.ref ob1), .val (.int ex), .val (.int ex), .unset] [(.int (0 : Int32))])) t₀
          refine XS.iloadN X2.here hx rfl (hb hby at_236) rfl ?_
          show Steps p.tables e below (T2.setTop (mkF m 237 #[.val (.int p1), .val (.int p2), .val (.int p3), .val (.int (0 : Int32)), .val (.int b0), .val (.int b1), .val (.int b2), .val (.int b3), .val (.ref ob1), .val (.int ex), .val (.int ex), .unset] [(.int (0 : Int32)), (.int (0 : Int32))])) t₀
          refine XS.icmpNo X2.here hx rfl (hb hby at_237) rfl (teq (by decide : ((0 : Int32) = (0 : Int32)))).2 ?_
          show Steps p.tables e below (T2.setTop (mkF m 240 #[.val (.int p1), .val (.int p2), .val (.int p3), .val (.int (0 : Int32)), .val (.int b0), .val (.int b1), .val (.int b2), .val (.int b3), .val (.ref ob1), .val (.int ex), .val (.int ex), .unset] [])) t₀
          refine XS.iloadN X2.here hx rfl (hb hby at_240) rfl ?_
          show Steps p.tables e below (T2.setTop (mkF m 241 #[.val (.int p1), .val (.int p2), .val (.int p3), .val (.int (0 : Int32)), .val (.int b0), .val (.int b1), .val (.int b2), .val (.int b3), .val (.ref ob1), .val (.int ex), .val (.int ex), .unset] [(.int (0 : Int32))])) t₀
          refine XS.iconst X2.here hx rfl (hb hby at_241) ?_
          show Steps p.tables e below (T2.setTop (mkF m 242 #[.val (.int p1), .val (.int p2), .val (.int p3), .val (.int (0 : Int32)), .val (.int b0), .val (.int b1), .val (.int b2), .val (.int b3), .val (.ref ob1), .val (.int ex), .val (.int ex), .unset] [(.int (1 : Int32)), (.int (0 : Int32))])) t₀
          refine XS.icmpYes X2.here hx rfl (pc0 := 242) (pc' := 254) rfl (hb hby at_242) rfl (tlt (by decide : ((0 : Int32) < (1 : Int32)))).1 (by decide) (by decide) ?_
          show Steps p.tables e below (T2.setTop (mkF m 254 #[.val (.int p1), .val (.int p2), .val (.int p3), .val (.int (0 : Int32)), .val (.int b0), .val (.int b1), .val (.int b2), .val (.int b3), .val (.ref ob1), .val (.int ex), .val (.int ex), .unset] [])) t₀
          refine XS.iloadN X2.here hx rfl (hb hby at_254) rfl ?_
          show Steps p.tables e below (T2.setTop (mkF m 255 #[.val (.int p1), .val (.int p2), .val (.int p3), .val (.int (0 : Int32)), .val (.int b0), .val (.int b1), .val (.int b2), .val (.int b3), .val (.ref ob1), .val (.int ex), .val (.int ex), .unset] [(.int (0 : Int32))])) t₀
          refine XS.iconst X2.here hx rfl (hb hby at_255) ?_
          show Steps p.tables e below (T2.setTop (mkF m 256 #[.val (.int p1), .val (.int p2), .val (.int p3), .val (.int (0 : Int32)), .val (.int b0), .val (.int b1), .val (.int b2), .val (.int b3), .val (.ref ob1), .val (.int ex), .val (.int ex), .unset] [(.int (2 : Int32)), (.int (0 : Int32))])) t₀
          refine XS.icmpYes X2.here hx rfl (pc0 := 256) (pc' := 268) rfl (hb hby at_256) rfl (tlt (by decide : ((0 : Int32) < (2 : Int32)))).1 (by decide) (by decide) ?_
          show Steps p.tables e below (T2.setTop (mkF m 268 #[.val (.int p1), .val (.int p2), .val (.int p3), .val (.int (0 : Int32)), .val (.int b0), .val (.int b1), .val (.int b2), .val (.int b3), .val (.ref ob1), .val (.int ex), .val (.int ex), .unset] [])) t₀
          refine XS.iloadN X2.here hx rfl (hb hby at_268) rfl ?_
          show Steps p.tables e below (T2.setTop (mkF m 269 #[.val (.int p1), .val (.int p2), .val (.int p3), .val (.int (0 : Int32)), .val (.int b0), .val (.int b1), .val (.int b2), .val (.int b3), .val (.ref ob1), .val (.int ex), .val (.int ex), .unset] [(.int (0 : Int32))])) t₀
          refine XS.iconst X2.here hx rfl (hb hby at_269) ?_
          show Steps p.tables e below (T2.setTop (mkF m 270 #[.val (.int p1), .val (.int p2), .val (.int p3), .val (.int (0 : Int32)), .val (.int b0), .val (.int b1), .val (.int b2), .val (.int b3), .val (.ref ob1), .val (.int ex), .val (.int ex), .unset] [(.int (3 : Int32)), (.int (0 : Int32))])) t₀
          refine XS.icmpYes X2.here hx rfl (pc0 := 270) (pc' := 282) rfl (hb hby at_270) rfl (tlt (by decide : ((0 : Int32) < (3 : Int32)))).1 (by decide) (by decide) ?_
          show Steps p.tables e below (T2.setTop (mkF m 282 #[.val (.int p1), .val (.int p2), .val (.int p3), .val (.int (0 : Int32)), .val (.int b0), .val (.int b1), .val (.int b2), .val (.int b3), .val (.ref ob1), .val (.int ex), .val (.int ex), .unset] [])) t₀
          refine XS.iloadN X2.here hx rfl (hb hby at_282) rfl ?_
          show Steps p.tables e below (T2.setTop (mkF m 283 #[.val (.int p1), .val (.int p2), .val (.int p3), .val (.int (0 : Int32)), .val (.int b0), .val (.int b1), .val (.int b2), .val (.int b3), .val (.ref ob1), .val (.int ex), .val (.int ex), .unset] [(.int (0 : Int32))])) t₀
          refine XS.iconst X2.here hx rfl (hb hby at_283) ?_
          show Steps p.tables e below (T2.setTop (mkF m 284 #[.val (.int p1), .val (.int p2), .val (.int p3), .val (.int (0 : Int32)), .val (.int b0), .val (.int b1), .val (.int b2), .val (.int b3), .val (.ref ob1), .val (.int ex), .val (.int ex), .unset] [(.int (4 : Int32)), (.int (0 : Int32))])) t₀
          refine XS.icmpYes X2.here hx rfl (pc0 := 284) (pc' := 296) rfl (hb hby at_284) rfl (tlt (by decide : ((0 : Int32) < (4 : Int32)))).1 (by decide) (by decide) ?_
          show Steps p.tables e below (T2.setTop (mkF m 296 #[.val (.int p1), .val (.int p2), .val (.int p3), .val (.int (0 : Int32)), .val (.int b0), .val (.int b1), .val (.int b2), .val (.int b3), .val (.ref ob1), .val (.int ex), .val (.int ex), .unset] [])) t₀
          refine XS.iconst X2.here hx rfl (hb hby at_296) ?_
          show Steps p.tables e below (T2.setTop (mkF m 297 #[.val (.int p1), .val (.int p2), .val (.int p3), .val (.int (0 : Int32)), .val (.int b0), .val (.int b1), .val (.int b2), .val (.int b3), .val (.ref ob1), .val (.int ex), .val (.int ex), .unset] [(.int (1 : Int32))])) t₀
          refine XS.goto X2.here hx rfl (pc0 := 297) (pc' := 301) rfl (hb hby at_297) (by decide) (by decide) ?_
          show Steps p.tables e below (T2.setTop (mkF m 301 #[.val (.int p1), .val (.int p2), .val (.int p3), .val (.int (0 : Int32)), .val (.int b0), .val (.int b1), .val (.int b2), .val (.int b3), .val (.ref ob1), .val (.int ex), .val (.int ex), .unset] [(.int (1 : Int32))])) t₀
          refine XS.istore X2.here hx rfl (hb hby at_301) rfl (l' := #[.val (.int p1), .val (.int p2), .val (.int p3), .val (.int (0 : Int32)), .val (.int b0), .val (.int b1), .val (.int b2), .val (.int b3), .val (.ref ob1), .val (.int ex), .val (.int ex), .val (.int (1 : Int32))]) rfl ?_
          show Steps p.tables e below (T2.setTop (mkF m 303 #[.val (.int p1), .val (.int p2), .val (.int p3), .val (.int (0 : Int32)), .val (.int b0), .val (.int b1), .val (.int b2), .val (.int b3), .val (.ref ob1), .val (.int ex), .val (.int ex), .val (.int (1 : Int32))] [])) t₀
          refine XS.iload X2.here hx rfl (hb hby at_303) rfl ?_
          show Steps p.tables e below (T2.setTop (mkF m 305 #[.val (.int p1), .val (.int p2), .val (.int p3), .val (.int (0 : Int32)), .val (.int b0), .val (.int b1), .val (.int b2), .val (.int b3), .val (.ref ob1), .val (.int ex), .val (.int ex), .val (.int (1 : Int32))] [(.int ex)])) t₀
          refine XS.iload X2.here hx rfl (hb hby at_305) rfl ?_
          show Steps p.tables e below (T2.setTop (mkF m 307 #[.val (.int p1), .val (.int p2), .val (.int p3), .val (.int (0 : Int32)), .val (.int b0), .val (.int b1), .val (.int b2), .val (.int b3), .val (.ref ob1), .val (.int ex), .val (.int ex), .val (.int (1 : Int32))] [(.int ex), (.int ex)])) t₀
          refine XS.icmpNo X2.here hx rfl (hb hby at_307) rfl (teq rfl).2 ?_
          show Steps p.tables e below (T2.setTop (mkF m 310 #[.val (.int p1), .val (.int p2), .val (.int p3), .val (.int (0 : Int32)), .val (.int b0), .val (.int b1), .val (.int b2), .val (.int b3), .val (.ref ob1), .val (.int ex), .val (.int ex), .val (.int (1 : Int32))] [])) t₀
          refine XS.iload X2.here hx rfl (hb hby at_310) rfl ?_
          show Steps p.tables e below (T2.setTop (mkF m 312 #[.val (.int p1), .val (.int p2), .val (.int p3), .val (.int (0 : Int32)), .val (.int b0), .val (.int b1), .val (.int b2), .val (.int b3), .val (.ref ob1), .val (.int ex), .val (.int ex), .val (.int (1 : Int32))] [(.int (1 : Int32))])) t₀
          refine XS.ifNo X2.here hx rfl (hb hby at_312) rfl ((if0 _ _).trans (feq (by decide : ¬ ((1 : Int32) = (0 : Int32)))).1) ?_
          show Steps p.tables e below (T2.setTop (mkF m 315 #[.val (.int p1), .val (.int p2), .val (.int p3), .val (.int (0 : Int32)), .val (.int b0), .val (.int b1), .val (.int b2), .val (.int b3), .val (.ref ob1), .val (.int ex), .val (.int ex), .val (.int (1 : Int32))] [])) t₀
          refine XS.iconst X2.here hx rfl (hb hby at_315) ?_
          show Steps p.tables e below (T2.setTop (mkF m 316 #[.val (.int p1), .val (.int p2), .val (.int p3), .val (.int (0 : Int32)), .val (.int b0), .val (.int b1), .val (.int b2), .val (.int b3), .val (.ref ob1), .val (.int ex), .val (.int ex), .val (.int (1 : Int32))] [(.int (1 : Int32))])) t₀
          refine XS.goto X2.here hx rfl (pc0 := 316) (pc' := 320) rfl (hb hby at_316) (by decide) (by decide) ?_
          exact k₀
        refine hF _ T2 _ _ _ (some (.int (1 : Int32))) _ X2 e2 (fun h => by rw [hrt] at h; cases h) (by decide) (by decide) ?_ (fun fs hr => retN X2 hx (t := .boolean) hrt (by simp) (hb hby at_320) hr)
        exact ⟨rfl, N2⟩
      refine hG _ (T1.setTop (mkF m 226 #[.val (.int p1), .val (.int p2), .val (.int p3), .val (.int (0 : Int32)), .val (.int b0), .val (.int b1), .val (.int b2), .val (.int b3), .val (.ref ob1), .val (.int (1 : Int32)), .unset, .unset] [])) (fun t₀ k₀ => ?_) ?_
      · show Steps p.tables e below (T1.setTop (mkF m 179 #[.val (.int p1), .val (.int p2), .val (.int p3), .val (.int (0 : Int32)), .val (.int b0), .val (.int b1), .val (.int b2), .val (.int b3), .val (.ref ob1), .unset, .unset, .unset] [])) t₀
        refine XS.iloadN X1.here hx rfl (hb hby at_179) rfl ?_
        show Steps p.tables e below (T1.setTop (mkF m 180 #[.val (.int p1), .val (.int p2), .val (.int p3), .val (.int (0 : Int32)), .val (.int b0), .val (.int b1), .val (.int b2), .val (.int b3), .val (.ref ob1), .unset, .unset, .unset] [(.int (0 : Int32))])) t₀
        refine XS.iconst X1.here hx rfl (hb hby at_180) ?_
        show Steps p.tables e below (T1.setTop (mkF m 181 #[.val (.int p1), .val (.int p2), .val (.int p3), .val (.int (0 : Int32)), .val (.int b0), .val (.int b1), .val (.int b2), .val (.int b3), .val (.ref ob1), .unset, .unset, .unset] [(.int (1 : Int32)), (.int (0 : Int32))])) t₀
        refine XS.icmpYes X1.here hx rfl (pc0 := 181) (pc' := 189) rfl (hb hby at_181) rfl (tlt (by decide : ((0 : Int32) < (1 : Int32)))).1 (by decide) (by decide) ?_
        show Steps p.tables e below (T1.setTop (mkF m 189 #[.val (.int p1), .val (.int p2), .val (.int p3), .val (.int (0 : Int32)), .val (.int b0), .val (.int b1), .val (.int b2), .val (.int b3), .val (.ref ob1), .unset, .unset, .unset] [])) t₀
        refine XS.iloadN X1.here hx rfl (hb hby at_189) rfl ?_
        show Steps p.tables e below (T1.setTop (mkF m 190 #[.val (.int p1), .val (.int p2), .val (.int p3), .val (.int (0 : Int32)), .val (.int b0), .val (.int b1), .val (.int b2), .val (.int b3), .val (.ref ob1), .unset, .unset, .unset] [(.int (0 : Int32))])) t₀
        refine XS.iconst X1.here hx rfl (hb hby at_190) ?_
        show Steps p.tables e below (T1.setTop (mkF m 191 #[.val (.int p1), .val (.int p2), .val (.int p3), .val (.int (0 : Int32)), .val (.int b0), .val (.int b1), .val (.int b2), .val (.int b3), .val (.ref ob1), .unset, .unset, .unset] [(.int (2 : Int32)), (.int (0 : Int32))])) t₀
        refine XS.icmpYes X1.here hx rfl (pc0 := 191) (pc' := 199) rfl (hb hby at_191) rfl (tlt (by decide : ((0 : Int32) < (2 : Int32)))).1 (by decide) (by decide) ?_
        show Steps p.tables e below (T1.setTop (mkF m 199 #[.val (.int p1), .val (.int p2), .val (.int p3), .val (.int (0 : Int32)), .val (.int b0), .val (.int b1), .val (.int b2), .val (.int b3), .val (.ref ob1), .unset, .unset, .unset] [])) t₀
        refine XS.iloadN X1.here hx rfl (hb hby at_199) rfl ?_
        show Steps p.tables e below (T1.setTop (mkF m 200 #[.val (.int p1), .val (.int p2), .val (.int p3), .val (.int (0 : Int32)), .val (.int b0), .val (.int b1), .val (.int b2), .val (.int b3), .val (.ref ob1), .unset, .unset, .unset] [(.int (0 : Int32))])) t₀
        refine XS.iconst X1.here hx rfl (hb hby at_200) ?_
        show Steps p.tables e below (T1.setTop (mkF m 201 #[.val (.int p1), .val (.int p2), .val (.int p3), .val (.int (0 : Int32)), .val (.int b0), .val (.int b1), .val (.int b2), .val (.int b3), .val (.ref ob1), .unset, .unset, .unset] [(.int (3 : Int32)), (.int (0 : Int32))])) t₀
        refine XS.icmpYes X1.here hx rfl (pc0 := 201) (pc' := 209) rfl (hb hby at_201) rfl (tlt (by decide : ((0 : Int32) < (3 : Int32)))).1 (by decide) (by decide) ?_
        show Steps p.tables e below (T1.setTop (mkF m 209 #[.val (.int p1), .val (.int p2), .val (.int p3), .val (.int (0 : Int32)), .val (.int b0), .val (.int b1), .val (.int b2), .val (.int b3), .val (.ref ob1), .unset, .unset, .unset] [])) t₀
        refine XS.iloadN X1.here hx rfl (hb hby at_209) rfl ?_
        show Steps p.tables e below (T1.setTop (mkF m 210 #[.val (.int p1), .val (.int p2), .val (.int p3), .val (.int (0 : Int32)), .val (.int b0), .val (.int b1), .val (.int b2), .val (.int b3), .val (.ref ob1), .unset, .unset, .unset] [(.int (0 : Int32))])) t₀
        refine XS.iconst X1.here hx rfl (hb hby at_210) ?_
        show Steps p.tables e below (T1.setTop (mkF m 211 #[.val (.int p1), .val (.int p2), .val (.int p3), .val (.int (0 : Int32)), .val (.int b0), .val (.int b1), .val (.int b2), .val (.int b3), .val (.ref ob1), .unset, .unset, .unset] [(.int (4 : Int32)), (.int (0 : Int32))])) t₀
        refine XS.icmpYes X1.here hx rfl (pc0 := 211) (pc' := 219) rfl (hb hby at_211) rfl (tlt (by decide : ((0 : Int32) < (4 : Int32)))).1 (by decide) (by decide) ?_
        show Steps p.tables e below (T1.setTop (mkF m 219 #[.val (.int p1), .val (.int p2), .val (.int p3), .val (.int (0 : Int32)), .val (.int b0), .val (.int b1), .val (.int b2), .val (.int b3), .val (.ref ob1), .unset, .unset, .unset] [])) t₀
        refine XS.iconst X1.here hx rfl (hb hby at_219) ?_
        show Steps p.tables e below (T1.setTop (mkF m 220 #[.val (.int p1), .val (.int p2), .val (.int p3), .val (.int (0 : Int32)), .val (.int b0), .val (.int b1), .val (.int b2), .val (.int b3), .val (.ref ob1), .unset, .unset, .unset] [(.int (1 : Int32))])) t₀
        refine XS.goto X1.here hx rfl (pc0 := 220) (pc' := 224) rfl (hb hby at_220) (by decide) (by decide) ?_
        show Steps p.tables e below (T1.setTop (mkF m 224 #[.val (.int p1), .val (.int p2), .val (.int p3), .val (.int (0 : Int32)), .val (.int b0), .val (.int b1), .val (.int b2), .val (.int b3), .val (.ref ob1), .unset, .unset, .unset] [(.int (1 : Int32))])) t₀
        refine XS.istore X1.here hx rfl (hb hby at_224) rfl (l' := #[.val (.int p1), .val (.int p2), .val (.int p3), .val (.int (0 : Int32)), .val (.int b0), .val (.int b1), .val (.int b2), .val (.int b3), .val (.ref ob1), .val (.int (1 : Int32)), .unset, .unset]) rfl ?_
        exact k₀
      exact tq (1 : Int32) (by simp [hb0, hb1, hb2, hb3, ])
    ·
      subst hn
      show G (s₁.setTop (mkF m 73 #[.val (.int p1), .val (.int p2), .val (.int p3), .val (.int (1 : Int32)), .val (.int b0), .val (.int b1), .val (.int b2), .val (.int b3), .unset, .unset, .unset, .unset] []))
      refine hG _ (s₁.setTop (mkF m 91 #[.val (.int p1), .val (.int p2), .val (.int p3), .val (.int (1 : Int32)), .val (.int b0), .val (.int b1), .val (.int b2), .val (.int b3), .unset, .unset, .unset, .unset] [(.int (1 : Int32))])) (fun t₀ k₀ => ?_) ?_
      · show Steps p.tables e below (s₁.setTop (mkF m 73 #[.val (.int p1), .val (.int p2), .val (.int p3), .val (.int (1 : Int32)), .val (.int b0), .val (.int b1), .val (.int b2), .val (.int b3), .unset, .unset, .unset, .unset] [])) t₀
        refine XS.iloadN X0.here hx rfl (hb hby at_73) rfl ?_
        show Steps p.tables e below (s₁.setTop (mkF m 74 #[.val (.int p1), .val (.int p2), .val (.int p3), .val (.int (1 : Int32)), .val (.int b0), .val (.int b1), .val (.int b2), .val (.int b3), .unset, .unset, .unset, .unset] [(.int (1 : Int32))])) t₀
        refine XS.ifYes X0.here hx rfl (pc0 := 74) (pc' := 85) rfl (hb hby at_74) rfl ((if0 _ _).trans (feq (by decide : ¬ ((1 : Int32) = (0 : Int32)))).2) (by decide) (by decide) ?_
        show Steps p.tables e below (s₁.setTop (mkF m 85 #[.val (.int p1), .val (.int p2), .val (.int p3), .val (.int (1 : Int32)), .val (.int b0), .val (.int b1), .val (.int b2), .val (.int b3), .unset, .unset, .unset, .unset] [])) t₀
        refine XS.iloadN X0.here hx rfl (hb hby at_85) rfl ?_
        show Steps p.tables e below (s₁.setTop (mkF m 86 #[.val (.int p1), .val (.int p2), .val (.int p3), .val (.int (1 : Int32)), .val (.int b0), .val (.int b1), .val (.int b2), .val (.int b3), .unset, .unset, .unset, .unset] [(.int (1 : Int32))])) t₀
        refine XS.iconst X0.here hx rfl (hb hby at_86) ?_
        show Steps p.tables e below (s₁.setTop (mkF m 87 #[.val (.int p1), .val (.int p2), .val (.int p3), .val (.int (1 : Int32)), .val (.int b0), .val (.int b1), .val (.int b2), .val (.int b3), .unset, .unset, .unset, .unset] [(.int (1 : Int32)), (.int (1 : Int32))])) t₀
        refine XS.icmpNo X0.here hx rfl (hb hby at_87) rfl (teq (by decide : ((1 : Int32) = (1 : Int32)))).2 ?_
        show Steps p.tables e below (s₁.setTop (mkF m 90 #[.val (.int p1), .val (.int p2), .val (.int p3), .val (.int (1 : Int32)), .val (.int b0), .val (.int b1), .val (.int b2), .val (.int b3), .unset, .unset, .unset, .unset] [])) t₀
        refine XS.iconst X0.here hx rfl (hb hby at_90) ?_
        exact k₀
      obtain ⟨T4, h4, k4, X4, e4, E4, A4, st4⟩ := newP X0 hx hZ (hw _ (List.mem_of_getElem? (i := 1) rfl)) e0 (g := (mkF m 91 #[.val (.int p1), .val (.int p2), .val (.int p3), .val (.int (1 : Int32)), .val (.int b0), .val (.int b1), .val (.int b2), .val (.int b3), .unset, .unset, .unset, .unset] [(.int (1 : Int32))])) rfl (hb hby at_91) rfl (by decide) (cap := 1) (by decide) (by decide) (by decide) (by decide)
      obtain ⟨ob4, g4⟩ : ∃ z, z = h0.size := ⟨_, rfl⟩
      rw [← g4] at A4 st4
      have g_ob4 : n0 ≤ ob4 := Nat.le_trans Z0 (Nat.le_of_eq g4.symm)
      have z_4 : n0 ≤ h4.size := Nat.le_trans Z0 E4.1
      have V_ob4 : Arv Z h4 ob4 k4 .byte (1 : Int32) [(.int (0 : Int32))] (.int (0 : Int32)) := (Arv.new A4 (by decide)).pad (pad_rep [] (.int (0 : Int32)) 1)
      refine hG _ _ (fun t₀ k₀ => st4 _ k₀) ?_
      show G (T4.setTop (mkF m 93 #[.val (.int p1), .val (.int p2), .val (.int p3), .val (.int (1 : Int32)), .val (.int b0), .val (.int b1), .val (.int b2), .val (.int b3), .unset, .unset, .unset, .unset] [(.ref ob4)]))
      refine hG _ (T4.setTop (mkF m 97 #[.val (.int p1), .val (.int p2), .val (.int p3), .val (.int (1 : Int32)), .val (.int b0), .val (.int b1), .val (.int b2), .val (.int b3), .unset, .unset, .unset, .unset] [(.int b0), (.int (0 : Int32)), (.ref ob4), (.ref ob4)])) (fun t₀ k₀ => ?_) ?_
      · show Steps p.tables e below (T4.setTop (mkF m 93 #[.val (.int p1), .val (.int p2), .val (.int p3), .val (.int (1 : Int32)), .val (.int b0), .val (.int b1), .val (.int b2), .val (.int b3), .unset, .unset, .unset, .unset] [(.ref ob4)])) t₀
        refine XS.dup X4.here hx rfl (hb hby at_93) rfl rfl ?_
        show Steps p.tables e below (T4.setTop (mkF m 94 #[.val (.int p1), .val (.int p2), .val (.int p3), .val (.int (1 : Int32)), .val (.int b0), .val (.int b1), .val (.int b2), .val (.int b3), .unset, .unset, .unset, .unset] [(.ref ob4), (.ref ob4)])) t₀
        refine XS.iconst X4.here hx rfl (hb hby at_94) ?_
        show Steps p.tables e below (T4.setTop (mkF m 95 #[.val (.int p1), .val (.int p2), .val (.int p3), .val (.int (1 : Int32)), .val (.int b0), .val (.int b1), .val (.int b2), .val (.int b3), .unset, .unset, .unset, .unset] [(.int (0 : Int32)), (.ref ob4), (.ref ob4)])) t₀
        refine XS.iload X4.here hx rfl (hb hby at_95) rfl ?_
        exact k₀
      have ov5 := V_ob4
      obtain ⟨cl5, Ar5, q5, S5, N_5, H_5, G_5⟩ := ov5
      have hin5 : ¬ ((0 : Int32) < 0 ∨ cl5.slots.size ≤ ((0 : Int32)).toNatClampNeg) := inb_of S5 ⟨by decide, by decide⟩
      obtain ⟨T6, h6, X6, e6, W6, st6⟩ := stB X4 hx hZ e4 Ar5 (j := (0 : Int32)) hin5 (g := (mkF m 97 #[.val (.int p1), .val (.int p2), .val (.int p3), .val (.int (1 : Int32)), .val (.int b0), .val (.int b1), .val (.int b2), .val (.int b3), .unset, .unset, .unset, .unset] [(.int b0), (.int (0 : Int32)), (.ref ob4), (.ref ob4)])) rfl rfl (hb hby at_97)
      refine hG _ _ (fun t₀ k₀ => st6 _ k₀) ?_
      have N6 := Fr.snoc X6 N0 g_ob4
      have z_6 : n0 ≤ h6.size := Nat.le_trans z_4 (Keep.of_wr W6).1
      have V6 : Arv Z h6 ob4 k4 .byte (1 : Int32) [(.int (b0.toInt8.toInt32))] (.int (0 : Int32)) := Arv.set Ar5 q5 S5 N_5 H_5 G_5 (fits_nar_byte _) W6 0 rfl (Nat.le_of_ble_eq_true rfl)
      show G (T6.setTop (mkF m 98 #[.val (.int p1), .val (.int p2), .val (.int p3), .val (.int (1 : Int32)), .val (.int b0), .val (.int b1), .val (.int b2), .val (.int b3), .unset, .unset, .unset, .unset] [(.ref ob4)]))
      refine hG _ (T6.setTop (mkF m 179 #[.val (.int p1), .val (.int p2), .val (.int p3), .val (.int (1 : Int32)), .val (.int b0), .val (.int b1), .val (.int b2), .val (.int b3), .val (.ref ob4), .unset, .unset, .unset] [])) (fun t₀ k₀ => ?_) ?_
      · show Steps p.tables e below (T6.setTop (mkF m 98 #[.val (.int p1), .val (.int p2), .val (.int p3), .val (.int (1 : Int32)), .val (.int b0), .val (.int b1), .val (.int b2), .val (.int b3), .unset, .unset, .unset, .unset] [(.ref ob4)])) t₀
        refine XS.astore X6.here hx rfl (hb hby at_98) rfl rfl (l' := #[.val (.int p1), .val (.int p2), .val (.int p3), .val (.int (1 : Int32)), .val (.int b0), .val (.int b1), .val (.int b2), .val (.int b3), .val (.ref ob4), .unset, .unset, .unset]) rfl ?_
        show Steps p.tables e below (T6.setTop (mkF m 100 #[.val (.int p1), .val (.int p2), .val (.int p3), .val (.int (1 : Int32)), .val (.int b0), .val (.int b1), .val (.int b2), .val (.int b3), .val (.ref ob4), .unset, .unset, .unset] [])) t₀
        refine XS.goto X6.here hx rfl (pc0 := 100) (pc' := 179) rfl (hb hby at_100) (by decide) (by decide) ?_
        exact k₀
      have tq : ∀  (ex : Int32) (hr : (if (b0.toInt8.toInt32) = (0 : Int32) then (1 : Int32) else 0) = ex), G (T6.setTop (mkF m 226 #[.val (.int p1), .val (.int p2), .val (.int p3), .val (.int (1 : Int32)), .val (.int b0), .val (.int b1), .val (.int b2), .val (.int b3), .val (.ref ob4), .val (.int ex), .unset, .unset] [])) := by
        intro ex hr
        refine hG _ (T6.setTop (mkF m 228 #[.val (.int p1), .val (.int p2), .val (.int p3), .val (.int (1 : Int32)), .val (.int b0), .val (.int b1), .val (.int b2), .val (.int b3), .val (.ref ob4), .val (.int ex), .unset, .unset] [(.ref ob4)])) (fun t₀ k₀ => ?_) ?_
        · show Steps p.tables e below (T6.setTop (mkF m 226 #[.val (.int p1), .val (.int p2), .val (.int p3), .val (.int (1 : Int32)), .val (.int b0), .val (.int b1), .val (.int b2), .val (.int b3), .val (.ref ob4), .val (.int ex), .unset, .unset] [])) t₀
          refine XS.aload X6.here hx rfl (hb hby at_226) rfl rfl ?_
          exact k₀
        obtain ⟨_, _, ⟨T7, L7, k7, n7⟩, -, X7, ⟨Lc7, hQ7, l7, y7, z7⟩, st7⟩ := Jvm.LawKit.callS X6 hx (y := (⟨"com/example/ordercast/ordercast/history/History", "isInitial", "([B)Z"⟩ : MethodName)) hown (mvT hZ (hw _ (List.mem_of_getElem? (i := 2) rfl))) (mvT hZ (hw _ (List.mem_of_getElem? (i := 3) rfl))) (mvT hZ (hw _ (List.mem_of_getElem? (i := 4) rfl))) (mvT hZ (hw _ (List.mem_of_getElem? (i := 5) rfl))) (by decide) (backOf (W := 0) (rmL1 l Z a0 hw [] ob4 k4 (b0.toInt8.toInt32) ex h6 n0 z_6 V6 hr) hZ (hw _ (List.mem_of_getElem? (i := 5) rfl)) (hw _ (List.mem_of_getElem? (i := 4) rfl)) (by decide) (by decide)) (g := (mkF m 228 #[.val (.int p1), .val (.int p2), .val (.int p3), .val (.int (1 : Int32)), .val (.int b0), .val (.int b1), .val (.int b2), .val (.int b3), .val (.ref ob4), .val (.int ex), .unset, .unset] [(.ref ob4)])) rfl (by rw [hml]; rfl) (argsL := [(.ref ob4)]) (rest := []) (lenOf pd_0 rfl) rfl (by show 2 * 0 + _ ≤ _; exact Nat.le_of_eq rfl) (hb hby at_228) (fun _ _ => ⟨rfl, e6, (by decide : 1 + 0 ≤ _), (by decide : 1 + 0 ≤ _)⟩)
        dsimp only [Pt.U, Pt.locs, Pt.cells, Pt.slots] at X7 l7 y7 z7 st7 hQ7
        subst l7 y7 z7
        obtain ⟨rfl, N7q, e7⟩ := hQ7
        have N7 := Fr.app N6 N7q
        refine hG _ _ (fun t₀ k₀ => st7 _ k₀) ?_
        show G (T7.setTop (mkF m 231 #[.val (.int p1), .val (.int p2), .val (.int p3), .val (.int (1 : Int32)), .val (.int b0), .val (.int b1), .val (.int b2), .val (.int b3), .val (.ref ob4), .val (.int ex), .unset, .unset] [(.int ex)]))
        refine hG _ (T7.setTop (mkF m 235 #[.val (.int p1), .val (.int p2), .val (.int p3), .val (.int (1 : Int32)), .val (.int b0), .val (.int b1), .val (.int b2), .val (.int b3), .val (.ref ob4), .val (.int ex), .val (.int ex), .unset] [(.ref ob4)])) (fun t₀ k₀ => ?_) ?_
        · show Steps p.tables e below (T7.setTop (mkF m 231 #[.val (.int p1), .val (.int p2), .val (.int p3), .val (.int (1 : Int32)), .val (.int b0), .val (.int b1), .val (.int b2), .val (.int b3), .val (.ref ob4), .val (.int ex), .unset, .unset] [(.int ex)])) t₀
          refine XS.istore X7.here hx rfl (hb hby at_231) rfl (l' := #[.val (.int p1), .val (.int p2), .val (.int p3), .val (.int (1 : Int32)), .val (.int b0), .val (.int b1), .val (.int b2), .val (.int b3), .val (.ref ob4), .val (.int ex), .val (.int ex), .unset]) rfl ?_
          show Steps p.tables e below (T7.setTop (mkF m 233 #[.val (.int p1), .val (.int p2), .val (.int p3), .val (.int (1 : Int32)), .val (.int b0), .val (.int b1), .val (.int b2), .val (.int b3), .val (.ref ob4), .val (.int ex), .val (.int ex), .unset] [])) t₀
          refine XS.aload X7.here hx rfl (hb hby at_233) rfl rfl ?_
          exact k₀
        have ov8 := V6
        obtain ⟨cl8, Ar8, q8, S8, N_8, H_8, G_8⟩ := ov8
        refine hG _ (T7.setTop (mkF m 248 #[.val (.int p1), .val (.int p2), .val (.int p3), .val (.int (1 : Int32)), .val (.int b0), .val (.int b1), .val (.int b2), .val (.int b3), .val (.ref ob4), .val (.int ex), .val (.int ex), .unset] [(.int (0 : Int32)), (.ref ob4)])) (fun t₀ k₀ => ?_) ?_
        · show Steps p.tables e below (T7.setTop (mkF m 235 #[.val (.int p1), .val (.int p2), .val (.int p3), .val (.int (1 : Int32)), .val (.int b0), .val (.int b1), .val (.int b2), .val (.int b3), .val (.ref ob4), .val (.int ex), .val (.int ex), .unset] [(.ref ob4)])) t₀
          refine X7.arraylength hx (by rw [e7]; exact Ar8.1) (State.isArrayOf_alike hZ.alike Ar8.2.1) (g := (mkF m 235 #[.val (.int p1), .val (.int p2), .val (.int p3), .val (.int (1 : Int32)), .val (.int b0), .val (.int b1), .val (.int b2), .val (.int b3), .val (.ref ob4), .val (.int ex), .val (.int ex), .unset] [(.ref ob4)])) rfl rfl (hb hby at_235) _ ?_
          rw [len_of S8 N_8]
          show Steps p.tables e below (T7.setTop (mkF m 236 #[.val (.int p1), .val (.int p2), .val (.int p3), .val (.int (1 : Int32)), .val (.int b0), .val (.int b1), .val (.int b2), .val (.int b3), .val (.ref ob4), .val (.int ex), .val (.int ex), .unset] [(.int (1 : Int32))])) t₀
          refine XS.iloadN X7.here hx rfl (hb hby at_236) rfl ?_
          show Steps p.tables e below (T7.setTop (mkF m 237 #[.val (.int p1), .val (.int p2), .val (.int p3), .val (.int (1 : Int32)), .val (.int b0), .val (.int b1), .val (.int b2), .val (.int b3), .val (.ref ob4), .val (.int ex), .val (.int ex), .unset] [(.int (1 : Int32)), (.int (1 : Int32))])) t₀
          refine XS.icmpNo X7.here hx rfl (hb hby at_237) rfl (teq (by decide : ((1 : Int32) = (1 : Int32)))).2 ?_
          show Steps p.tables e below (T7.setTop (mkF m 240 #[.val (.int p1), .val (.int p2), .val (.int p3), .val (.int (1 : Int32)), .val (.int b0), .val (.int b1), .val (.int b2), .val (.int b3), .val (.ref ob4), .val (.int ex), .val (.int ex), .unset] [])) t₀
          refine XS.iloadN X7.here hx rfl (hb hby at_240) rfl ?_
          show Steps p.tables e below (T7.setTop (mkF m 241 #[.val (.int p1), .val (.int p2), .val (.int p3), .val (.int (1 : Int32)), .val (.int b0), .val (.int b1), .val (.int b2), .val (.int b3), .val (.ref ob4), .val (.int ex), .val (.int ex), .unset] [(.int (1 : Int32))])) t₀
          refine XS.iconst X7.here hx rfl (hb hby at_241) ?_
          show Steps p.tables e below (T7.setTop (mkF m 242 #[.val (.int p1), .val (.int p2), .val (.int p3), .val (.int (1 : Int32)), .val (.int b0), .val (.int b1), .val (.int b2), .val (.int b3), .val (.ref ob4), .val (.int ex), .val (.int ex), .unset] [(.int (1 : Int32)), (.int (1 : Int32))])) t₀
          refine XS.icmpNo X7.here hx rfl (hb hby at_242) rfl (flt (by decide : ¬ ((1 : Int32) < (1 : Int32)))).1 ?_
          show Steps p.tables e below (T7.setTop (mkF m 245 #[.val (.int p1), .val (.int p2), .val (.int p3), .val (.int (1 : Int32)), .val (.int b0), .val (.int b1), .val (.int b2), .val (.int b3), .val (.ref ob4), .val (.int ex), .val (.int ex), .unset] [])) t₀
          refine XS.aload X7.here hx rfl (hb hby at_245) rfl rfl ?_
          show Steps p.tables e below (T7.setTop (mkF m 247 #[.val (.int p1), .val (.int p2), .val (.int p3), .val (.int (1 : Int32)), .val (.int b0), .val (.int b1), .val (.int b2), .val (.int b3), .val (.ref ob4), .val (.int ex), .val (.int ex), .unset] [(.ref ob4)])) t₀
          refine XS.iconst X7.here hx rfl (hb hby at_247) ?_
          exact k₀
        have ov9 := V6
        obtain ⟨cl9, Ar9, q9, S9, N_9, H_9, G_9⟩ := ov9
        have hin9 : ¬ ((0 : Int32) < 0 ∨ cl9.slots.size ≤ ((0 : Int32)).toNatClampNeg) := inb_of S9 ⟨by decide, by decide⟩
        have hat9 : cl9.slots[((0 : Int32)).toNatClampNeg]? = some (.int (b0.toInt8.toInt32)) := H_9.at hin9 rfl
        refine hG _ (T7.setTop (mkF m 320 #[.val (.int p1), .val (.int p2), .val (.int p3), .val (.int (1 : Int32)), .val (.int b0), .val (.int b1), .val (.int b2), .val (.int b3), .val (.ref ob4), .val (.int ex), .val (.int ex), .val (.int (1 : Int32))] [(.int (1 : Int32))])) (fun t₀ k₀ => ?_) ?_
        · show Steps p.tables e below (T7.setTop (mkF m 248 #[.val (.int p1), .val (.int p2), .val (.int p3), .val (.int (1 : Int32)), .val (.int b0), .val (.int b1), .val (.int b2), .val (.int b3), .val (.ref ob4), .val (.int ex), .val (.int ex), .unset] [(.int (0 : Int32)), (.ref ob4)])) t₀
          refine X7.baloadBytes hx (j := (0 : Int32)) (v := (.int (b0.toInt8.toInt32))) (by rw [e7]; exact Ar9.1) (State.isArrayOf_alike hZ.alike Ar9.2.1) Ar9.2.2 hin9 hat9 (g := (mkF m 248 #[.val (.int p1), .val (.int p2), .val (.int p3), .val (.int (1 : Int32)), .val (.int b0), .val (.int b1), .val (.int b2), .val (.int b3), .val (.ref ob4), .val (.int ex), .val (.int ex), .unset] [(.int (0 : Int32)), (.ref ob4)])) rfl rfl (hb hby at_248) _ ?_
          show Steps p.tables e below (T7.setTop (mkF m 249 #[.val (.int p1), .val (.int p2), .val (.int p3), .val (.int (1 : Int32)), .val (.int b0), .val (.int b1), .val (.int b2), .val (.int b3), .val (.ref ob4), .val (.int ex), .val (.int ex), .unset] [(.int (b0.toInt8.toInt32))])) t₀
          refine XS.iload X7.here hx rfl (hb hby at_249) rfl ?_
          show Steps p.tables e below (T7.setTop (mkF m 251 #[.val (.int p1), .val (.int p2), .val (.int p3), .val (.int (1 : Int32)), .val (.int b0), .val (.int b1), .val (.int b2), .val (.int b3), .val (.ref ob4), .val (.int ex), .val (.int ex), .unset] [(.int b0), (.int (b0.toInt8.toInt32))])) t₀
          refine XS.icmpNo X7.here hx rfl (hb hby at_251) rfl (teq hb0).2 ?_
          show Steps p.tables e below (T7.setTop (mkF m 254 #[.val (.int p1), .val (.int p2), .val (.int p3), .val (.int (1 : Int32)), .val (.int b0), .val (.int b1), .val (.int b2), .val (.int b3), .val (.ref ob4), .val (.int ex), .val (.int ex), .unset] [])) t₀
          refine XS.iloadN X7.here hx rfl (hb hby at_254) rfl ?_
          show Steps p.tables e below (T7.setTop (mkF m 255 #[.val (.int p1), .val (.int p2), .val (.int p3), .val (.int (1 : Int32)), .val (.int b0), .val (.int b1), .val (.int b2), .val (.int b3), .val (.ref ob4), .val (.int ex), .val (.int ex), .unset] [(.int (1 : Int32))])) t₀
          refine XS.iconst X7.here hx rfl (hb hby at_255) ?_
          show Steps p.tables e below (T7.setTop (mkF m 256 #[.val (.int p1), .val (.int p2), .val (.int p3), .val (.int (1 : Int32)), .val (.int b0), .val (.int b1), .val (.int b2), .val (.int b3), .val (.ref ob4), .val (.int ex), .val (.int ex), .unset] [(.int (2 : Int32)), (.int (1 : Int32))])) t₀
          refine XS.icmpYes X7.here hx rfl (pc0 := 256) (pc' := 268) rfl (hb hby at_256) rfl (tlt (by decide : ((1 : Int32) < (2 : Int32)))).1 (by decide) (by decide) ?_
          show Steps p.tables e below (T7.setTop (mkF m 268 #[.val (.int p1), .val (.int p2), .val (.int p3), .val (.int (1 : Int32)), .val (.int b0), .val (.int b1), .val (.int b2), .val (.int b3), .val (.ref ob4), .val (.int ex), .val (.int ex), .unset] [])) t₀
          refine XS.iloadN X7.here hx rfl (hb hby at_268) rfl ?_
          show Steps p.tables e below (T7.setTop (mkF m 269 #[.val (.int p1), .val (.int p2), .val (.int p3), .val (.int (1 : Int32)), .val (.int b0), .val (.int b1), .val (.int b2), .val (.int b3), .val (.ref ob4), .val (.int ex), .val (.int ex), .unset] [(.int (1 : Int32))])) t₀
          refine XS.iconst X7.here hx rfl (hb hby at_269) ?_
          show Steps p.tables e below (T7.setTop (mkF m 270 #[.val (.int p1), .val (.int p2), .val (.int p3), .val (.int (1 : Int32)), .val (.int b0), .val (.int b1), .val (.int b2), .val (.int b3), .val (.ref ob4), .val (.int ex), .val (.int ex), .unset] [(.int (3 : Int32)), (.int (1 : Int32))])) t₀
          refine XS.icmpYes X7.here hx rfl (pc0 := 270) (pc' := 282) rfl (hb hby at_270) rfl (tlt (by decide : ((1 : Int32) < (3 : Int32)))).1 (by decide) (by decide) ?_
          show Steps p.tables e below (T7.setTop (mkF m 282 #[.val (.int p1), .val (.int p2), .val (.int p3), .val (.int (1 : Int32)), .val (.int b0), .val (.int b1), .val (.int b2), .val (.int b3), .val (.ref ob4), .val (.int ex), .val (.int ex), .unset] [])) t₀
          refine XS.iloadN X7.here hx rfl (hb hby at_282) rfl ?_
          show Steps p.tables e below (T7.setTop (mkF m 283 #[.val (.int p1), .val (.int p2), .val (.int p3), .val (.int (1 : Int32)), .val (.int b0), .val (.int b1), .val (.int b2), .val (.int b3), .val (.ref ob4), .val (.int ex), .val (.int ex), .unset] [(.int (1 : Int32))])) t₀
          refine XS.iconst X7.here hx rfl (hb hby at_283) ?_
          show Steps p.tables e below (T7.setTop (mkF m 284 #[.val (.int p1), .val (.int p2), .val (.int p3), .val (.int (1 : Int32)), .val (.int b0), .val (.int b1), .val (.int b2), .val (.int b3), .val (.ref ob4), .val (.int ex), .val (.int ex), .unset] [(.int (4 : Int32)), (.int (1 : Int32))])) t₀
          refine XS.icmpYes X7.here hx rfl (pc0 := 284) (pc' := 296) rfl (hb hby at_284) rfl (tlt (by decide : ((1 : Int32) < (4 : Int32)))).1 (by decide) (by decide) ?_
          show Steps p.tables e below (T7.setTop (mkF m 296 #[.val (.int p1), .val (.int p2), .val (.int p3), .val (.int (1 : Int32)), .val (.int b0), .val (.int b1), .val (.int b2), .val (.int b3), .val (.ref ob4), .val (.int ex), .val (.int ex), .unset] [])) t₀
          refine XS.iconst X7.here hx rfl (hb hby at_296) ?_
          show Steps p.tables e below (T7.setTop (mkF m 297 #[.val (.int p1), .val (.int p2), .val (.int p3), .val (.int (1 : Int32)), .val (.int b0), .val (.int b1), .val (.int b2), .val (.int b3), .val (.ref ob4), .val (.int ex), .val (.int ex), .unset] [(.int (1 : Int32))])) t₀
          refine XS.goto X7.here hx rfl (pc0 := 297) (pc' := 301) rfl (hb hby at_297) (by decide) (by decide) ?_
          show Steps p.tables e below (T7.setTop (mkF m 301 #[.val (.int p1), .val (.int p2), .val (.int p3), .val (.int (1 : Int32)), .val (.int b0), .val (.int b1), .val (.int b2), .val (.int b3), .val (.ref ob4), .val (.int ex), .val (.int ex), .unset] [(.int (1 : Int32))])) t₀
          refine XS.istore X7.here hx rfl (hb hby at_301) rfl (l' := #[.val (.int p1), .val (.int p2), .val (.int p3), .val (.int (1 : Int32)), .val (.int b0), .val (.int b1), .val (.int b2), .val (.int b3), .val (.ref ob4), .val (.int ex), .val (.int ex), .val (.int (1 : Int32))]) rfl ?_
          show Steps p.tables e below (T7.setTop (mkF m 303 #[.val (.int p1), .val (.int p2), .val (.int p3), .val (.int (1 : Int32)), .val (.int b0), .val (.int b1), .val (.int b2), .val (.int b3), .val (.ref ob4), .val (.int ex), .val (.int ex), .val (.int (1 : Int32))] [])) t₀
          refine XS.iload X7.here hx rfl (hb hby at_303) rfl ?_
          show Steps p.tables e below (T7.setTop (mkF m 305 #[.val (.int p1), .val (.int p2), .val (.int p3), .val (.int (1 : Int32)), .val (.int b0), .val (.int b1), .val (.int b2), .val (.int b3), .val (.ref ob4), .val (.int ex), .val (.int ex), .val (.int (1 : Int32))] [(.int ex)])) t₀
          refine XS.iload X7.here hx rfl (hb hby at_305) rfl ?_
          show Steps p.tables e below (T7.setTop (mkF m 307 #[.val (.int p1), .val (.int p2), .val (.int p3), .val (.int (1 : Int32)), .val (.int b0), .val (.int b1), .val (.int b2), .val (.int b3), .val (.ref ob4), .val (.int ex), .val (.int ex), .val (.int (1 : Int32))] [(.int ex), (.int ex)])) t₀
          refine XS.icmpNo X7.here hx rfl (hb hby at_307) rfl (teq rfl).2 ?_
          show Steps p.tables e below (T7.setTop (mkF m 310 #[.val (.int p1), .val (.int p2), .val (.int p3), .val (.int (1 : Int32)), .val (.int b0), .val (.int b1), .val (.int b2), .val (.int b3), .val (.ref ob4), .val (.int ex), .val (.int ex), .val (.int (1 : Int32))] [])) t₀
          refine XS.iload X7.here hx rfl (hb hby at_310) rfl ?_
          show Steps p.tables e below (T7.setTop (mkF m 312 #[.val (.int p1), .val (.int p2), .val (.int p3), .val (.int (1 : Int32)), .val (.int b0), .val (.int b1), .val (.int b2), .val (.int b3), .val (.ref ob4), .val (.int ex), .val (.int ex), .val (.int (1 : Int32))] [(.int (1 : Int32))])) t₀
          refine XS.ifNo X7.here hx rfl (hb hby at_312) rfl ((if0 _ _).trans (feq (by decide : ¬ ((1 : Int32) = (0 : Int32)))).1) ?_
          show Steps p.tables e below (T7.setTop (mkF m 315 #[.val (.int p1), .val (.int p2), .val (.int p3), .val (.int (1 : Int32)), .val (.int b0), .val (.int b1), .val (.int b2), .val (.int b3), .val (.ref ob4), .val (.int ex), .val (.int ex), .val (.int (1 : Int32))] [])) t₀
          refine XS.iconst X7.here hx rfl (hb hby at_315) ?_
          show Steps p.tables e below (T7.setTop (mkF m 316 #[.val (.int p1), .val (.int p2), .val (.int p3), .val (.int (1 : Int32)), .val (.int b0), .val (.int b1), .val (.int b2), .val (.int b3), .val (.ref ob4), .val (.int ex), .val (.int ex), .val (.int (1 : Int32))] [(.int (1 : Int32))])) t₀
          refine XS.goto X7.here hx rfl (pc0 := 316) (pc' := 320) rfl (hb hby at_316) (by decide) (by decide) ?_
          exact k₀
        refine hF _ T7 _ _ _ (some (.int (1 : Int32))) _ X7 e7 (fun h => by rw [hrt] at h; cases h) (by decide) (by decide) ?_ (fun fs hr => retN X7 hx (t := .boolean) hrt (by simp) (hb hby at_320) hr)
        exact ⟨rfl, N7⟩
      refine hG _ (T6.setTop (mkF m 186 #[.val (.int p1), .val (.int p2), .val (.int p3), .val (.int (1 : Int32)), .val (.int b0), .val (.int b1), .val (.int b2), .val (.int b3), .val (.ref ob4), .unset, .unset, .unset] [(.int b0)])) (fun t₀ k₀ => ?_) ?_
      · show Steps p.tables e below (T6.setTop (mkF m 179 #[.val (.int p1), .val (.int p2), .val (.int p3), .val (.int (1 : Int32)), .val (.int b0), .val (.int b1), .val (.int b2), .val (.int b3), .val (.ref ob4), .unset, .unset, .unset] [])) t₀
        refine XS.iloadN X6.here hx rfl (hb hby at_179) rfl ?_
        show Steps p.tables e below (T6.setTop (mkF m 180 #[.val (.int p1), .val (.int p2), .val (.int p3), .val (.int (1 : Int32)), .val (.int b0), .val (.int b1), .val (.int b2), .val (.int b3), .val (.ref ob4), .unset, .unset, .unset] [(.int (1 : Int32))])) t₀
        refine XS.iconst X6.here hx rfl (hb hby at_180) ?_
        show Steps p.tables e below (T6.setTop (mkF m 181 #[.val (.int p1), .val (.int p2), .val (.int p3), .val (.int (1 : Int32)), .val (.int b0), .val (.int b1), .val (.int b2), .val (.int b3), .val (.ref ob4), .unset, .unset, .unset] [(.int (1 : Int32)), (.int (1 : Int32))])) t₀
        refine XS.icmpNo X6.here hx rfl (hb hby at_181) rfl (flt (by decide : ¬ ((1 : Int32) < (1 : Int32)))).1 ?_
        show Steps p.tables e below (T6.setTop (mkF m 184 #[.val (.int p1), .val (.int p2), .val (.int p3), .val (.int (1 : Int32)), .val (.int b0), .val (.int b1), .val (.int b2), .val (.int b3), .val (.ref ob4), .unset, .unset, .unset] [])) t₀
        refine XS.iload X6.here hx rfl (hb hby at_184) rfl ?_
        exact k₀
      by_cases hc186 : b0 = (0 : Int32)
      ·
        refine hG _ (T6.setTop (mkF m 226 #[.val (.int p1), .val (.int p2), .val (.int p3), .val (.int (1 : Int32)), .val (.int b0), .val (.int b1), .val (.int b2), .val (.int b3), .val (.ref ob4), .val (.int (1 : Int32)), .unset, .unset] [])) (fun t₀ k₀ => ?_) ?_
        · show Steps p.tables e below (T6.setTop (mkF m 186 #[.val (.int p1), .val (.int p2), .val (.int p3), .val (.int (1 : Int32)), .val (.int b0), .val (.int b1), .val (.int b2), .val (.int b3), .val (.ref ob4), .unset, .unset, .unset] [(.int b0)])) t₀
          refine XS.ifNo X6.here hx rfl (hb hby at_186) rfl ((if0 _ _).trans (teq hc186).2) ?_
          show Steps p.tables e below (T6.setTop (mkF m 189 #[.val (.int p1), .val (.int p2), .val (.int p3), .val (.int (1 : Int32)), .val (.int b0), .val (.int b1), .val (.int b2), .val (.int b3), .val (.ref ob4), .unset, .unset, .unset] [])) t₀
          refine XS.iloadN X6.here hx rfl (hb hby at_189) rfl ?_
          show Steps p.tables e below (T6.setTop (mkF m 190 #[.val (.int p1), .val (.int p2), .val (.int p3), .val (.int (1 : Int32)), .val (.int b0), .val (.int b1), .val (.int b2), .val (.int b3), .val (.ref ob4), .unset, .unset, .unset] [(.int (1 : Int32))])) t₀
          refine XS.iconst X6.here hx rfl (hb hby at_190) ?_
          show Steps p.tables e below (T6.setTop (mkF m 191 #[.val (.int p1), .val (.int p2), .val (.int p3), .val (.int (1 : Int32)), .val (.int b0), .val (.int b1), .val (.int b2), .val (.int b3), .val (.ref ob4), .unset, .unset, .unset] [(.int (2 : Int32)), (.int (1 : Int32))])) t₀
          refine XS.icmpYes X6.here hx rfl (pc0 := 191) (pc' := 199) rfl (hb hby at_191) rfl (tlt (by decide : ((1 : Int32) < (2 : Int32)))).1 (by decide) (by decide) ?_
          show Steps p.tables e below (T6.setTop (mkF m 199 #[.val (.int p1), .val (.int p2), .val (.int p3), .val (.int (1 : Int32)), .val (.int b0), .val (.int b1), .val (.int b2), .val (.int b3), .val (.ref ob4), .unset, .unset, .unset] [])) t₀
          refine XS.iloadN X6.here hx rfl (hb hby at_199) rfl ?_
          show Steps p.tables e below (T6.setTop (mkF m 200 #[.val (.int p1), .val (.int p2), .val (.int p3), .val (.int (1 : Int32)), .val (.int b0), .val (.int b1), .val (.int b2), .val (.int b3), .val (.ref ob4), .unset, .unset, .unset] [(.int (1 : Int32))])) t₀
          refine XS.iconst X6.here hx rfl (hb hby at_200) ?_
          show Steps p.tables e below (T6.setTop (mkF m 201 #[.val (.int p1), .val (.int p2), .val (.int p3), .val (.int (1 : Int32)), .val (.int b0), .val (.int b1), .val (.int b2), .val (.int b3), .val (.ref ob4), .unset, .unset, .unset] [(.int (3 : Int32)), (.int (1 : Int32))])) t₀
          refine XS.icmpYes X6.here hx rfl (pc0 := 201) (pc' := 209) rfl (hb hby at_201) rfl (tlt (by decide : ((1 : Int32) < (3 : Int32)))).1 (by decide) (by decide) ?_
          show Steps p.tables e below (T6.setTop (mkF m 209 #[.val (.int p1), .val (.int p2), .val (.int p3), .val (.int (1 : Int32)), .val (.int b0), .val (.int b1), .val (.int b2), .val (.int b3), .val (.ref ob4), .unset, .unset, .unset] [])) t₀
          refine XS.iloadN X6.here hx rfl (hb hby at_209) rfl ?_
          show Steps p.tables e below (T6.setTop (mkF m 210 #[.val (.int p1), .val (.int p2), .val (.int p3), .val (.int (1 : Int32)), .val (.int b0), .val (.int b1), .val (.int b2), .val (.int b3), .val (.ref ob4), .unset, .unset, .unset] [(.int (1 : Int32))])) t₀
          refine XS.iconst X6.here hx rfl (hb hby at_210) ?_
          show Steps p.tables e below (T6.setTop (mkF m 211 #[.val (.int p1), .val (.int p2), .val (.int p3), .val (.int (1 : Int32)), .val (.int b0), .val (.int b1), .val (.int b2), .val (.int b3), .val (.ref ob4), .unset, .unset, .unset] [(.int (4 : Int32)), (.int (1 : Int32))])) t₀
          refine XS.icmpYes X6.here hx rfl (pc0 := 211) (pc' := 219) rfl (hb hby at_211) rfl (tlt (by decide : ((1 : Int32) < (4 : Int32)))).1 (by decide) (by decide) ?_
          show Steps p.tables e below (T6.setTop (mkF m 219 #[.val (.int p1), .val (.int p2), .val (.int p3), .val (.int (1 : Int32)), .val (.int b0), .val (.int b1), .val (.int b2), .val (.int b3), .val (.ref ob4), .unset, .unset, .unset] [])) t₀
          refine XS.iconst X6.here hx rfl (hb hby at_219) ?_
          show Steps p.tables e below (T6.setTop (mkF m 220 #[.val (.int p1), .val (.int p2), .val (.int p3), .val (.int (1 : Int32)), .val (.int b0), .val (.int b1), .val (.int b2), .val (.int b3), .val (.ref ob4), .unset, .unset, .unset] [(.int (1 : Int32))])) t₀
          refine XS.goto X6.here hx rfl (pc0 := 220) (pc' := 224) rfl (hb hby at_220) (by decide) (by decide) ?_
          show Steps p.tables e below (T6.setTop (mkF m 224 #[.val (.int p1), .val (.int p2), .val (.int p3), .val (.int (1 : Int32)), .val (.int b0), .val (.int b1), .val (.int b2), .val (.int b3), .val (.ref ob4), .unset, .unset, .unset] [(.int (1 : Int32))])) t₀
          refine XS.istore X6.here hx rfl (hb hby at_224) rfl (l' := #[.val (.int p1), .val (.int p2), .val (.int p3), .val (.int (1 : Int32)), .val (.int b0), .val (.int b1), .val (.int b2), .val (.int b3), .val (.ref ob4), .val (.int (1 : Int32)), .unset, .unset]) rfl ?_
          exact k₀
        exact tq (1 : Int32) (by simp [hb0, hb1, hb2, hb3, hc186])
      ·
        refine hG _ (T6.setTop (mkF m 226 #[.val (.int p1), .val (.int p2), .val (.int p3), .val (.int (1 : Int32)), .val (.int b0), .val (.int b1), .val (.int b2), .val (.int b3), .val (.ref ob4), .val (.int (0 : Int32)), .unset, .unset] [])) (fun t₀ k₀ => ?_) ?_
        · show Steps p.tables e below (T6.setTop (mkF m 186 #[.val (.int p1), .val (.int p2), .val (.int p3), .val (.int (1 : Int32)), .val (.int b0), .val (.int b1), .val (.int b2), .val (.int b3), .val (.ref ob4), .unset, .unset, .unset] [(.int b0)])) t₀
          refine XS.ifYes X6.here hx rfl (pc0 := 186) (pc' := 223) rfl (hb hby at_186) rfl ((if0 _ _).trans (feq hc186).2) (by decide) (by decide) ?_
          show Steps p.tables e below (T6.setTop (mkF m 223 #[.val (.int p1), .val (.int p2), .val (.int p3), .val (.int (1 : Int32)), .val (.int b0), .val (.int b1), .val (.int b2), .val (.int b3), .val (.ref ob4), .unset, .unset, .unset] [])) t₀
          refine XS.iconst X6.here hx rfl (hb hby at_223) ?_
          show Steps p.tables e below (T6.setTop (mkF m 224 #[.val (.int p1), .val (.int p2), .val (.int p3), .val (.int (1 : Int32)), .val (.int b0), .val (.int b1), .val (.int b2), .val (.int b3), .val (.ref ob4), .unset, .unset, .unset] [(.int (0 : Int32))])) t₀
          refine XS.istore X6.here hx rfl (hb hby at_224) rfl (l' := #[.val (.int p1), .val (.int p2), .val (.int p3), .val (.int (1 : Int32)), .val (.int b0), .val (.int b1), .val (.int b2), .val (.int b3), .val (.ref ob4), .val (.int (0 : Int32)), .unset, .unset]) rfl ?_
          exact k₀
        exact tq (0 : Int32) (by simp [hb0, hb1, hb2, hb3, hc186])
    ·
      subst hn
      show G (s₁.setTop (mkF m 73 #[.val (.int p1), .val (.int p2), .val (.int p3), .val (.int (2 : Int32)), .val (.int b0), .val (.int b1), .val (.int b2), .val (.int b3), .unset, .unset, .unset, .unset] []))
      refine hG _ (s₁.setTop (mkF m 109 #[.val (.int p1), .val (.int p2), .val (.int p3), .val (.int (2 : Int32)), .val (.int b0), .val (.int b1), .val (.int b2), .val (.int b3), .unset, .unset, .unset, .unset] [(.int (2 : Int32))])) (fun t₀ k₀ => ?_) ?_
      · show Steps p.tables e below (s₁.setTop (mkF m 73 #[.val (.int p1), .val (.int p2), .val (.int p3), .val (.int (2 : Int32)), .val (.int b0), .val (.int b1), .val (.int b2), .val (.int b3), .unset, .unset, .unset, .unset] [])) t₀
        refine XS.iloadN X0.here hx rfl (hb hby at_73) rfl ?_
        show Steps p.tables e below (s₁.setTop (mkF m 74 #[.val (.int p1), .val (.int p2), .val (.int p3), .val (.int (2 : Int32)), .val (.int b0), .val (.int b1), .val (.int b2), .val (.int b3), .unset, .unset, .unset, .unset] [(.int (2 : Int32))])) t₀
        refine XS.ifYes X0.here hx rfl (pc0 := 74) (pc' := 85) rfl (hb hby at_74) rfl ((if0 _ _).trans (feq (by decide : ¬ ((2 : Int32) = (0 : Int32)))).2) (by decide) (by decide) ?_
        show Steps p.tables e below (s₁.setTop (mkF m 85 #[.val (.int p1), .val (.int p2), .val (.int p3), .val (.int (2 : Int32)), .val (.int b0), .val (.int b1), .val (.int b2), .val (.int b3), .unset, .unset, .unset, .unset] [])) t₀
        refine XS.iloadN X0.here hx rfl (hb hby at_85) rfl ?_
        show Steps p.tables e below (s₁.setTop (mkF m 86 #[.val (.int p1), .val (.int p2), .val (.int p3), .val (.int (2 : Int32)), .val (.int b0), .val (.int b1), .val (.int b2), .val (.int b3), .unset, .unset, .unset, .unset] [(.int (2 : Int32))])) t₀
        refine XS.iconst X0.here hx rfl (hb hby at_86) ?_
        show Steps p.tables e below (s₁.setTop (mkF m 87 #[.val (.int p1), .val (.int p2), .val (.int p3), .val (.int (2 : Int32)), .val (.int b0), .val (.int b1), .val (.int b2), .val (.int b3), .unset, .unset, .unset, .unset] [(.int (1 : Int32)), (.int (2 : Int32))])) t₀
        refine XS.icmpYes X0.here hx rfl (pc0 := 87) (pc' := 103) rfl (hb hby at_87) rfl (feq (by decide : ¬ ((2 : Int32) = (1 : Int32)))).2 (by decide) (by decide) ?_
        show Steps p.tables e below (s₁.setTop (mkF m 103 #[.val (.int p1), .val (.int p2), .val (.int p3), .val (.int (2 : Int32)), .val (.int b0), .val (.int b1), .val (.int b2), .val (.int b3), .unset, .unset, .unset, .unset] [])) t₀
        refine XS.iloadN X0.here hx rfl (hb hby at_103) rfl ?_
        show Steps p.tables e below (s₁.setTop (mkF m 104 #[.val (.int p1), .val (.int p2), .val (.int p3), .val (.int (2 : Int32)), .val (.int b0), .val (.int b1), .val (.int b2), .val (.int b3), .unset, .unset, .unset, .unset] [(.int (2 : Int32))])) t₀
        refine XS.iconst X0.here hx rfl (hb hby at_104) ?_
        show Steps p.tables e below (s₁.setTop (mkF m 105 #[.val (.int p1), .val (.int p2), .val (.int p3), .val (.int (2 : Int32)), .val (.int b0), .val (.int b1), .val (.int b2), .val (.int b3), .unset, .unset, .unset, .unset] [(.int (2 : Int32)), (.int (2 : Int32))])) t₀
        refine XS.icmpNo X0.here hx rfl (hb hby at_105) rfl (teq (by decide : ((2 : Int32) = (2 : Int32)))).2 ?_
        show Steps p.tables e below (s₁.setTop (mkF m 108 #[.val (.int p1), .val (.int p2), .val (.int p3), .val (.int (2 : Int32)), .val (.int b0), .val (.int b1), .val (.int b2), .val (.int b3), .unset, .unset, .unset, .unset] [])) t₀
        refine XS.iconst X0.here hx rfl (hb hby at_108) ?_
        exact k₀
      obtain ⟨T10, h10, k10, X10, e10, E10, A10, st10⟩ := newP X0 hx hZ (hw _ (List.mem_of_getElem? (i := 1) rfl)) e0 (g := (mkF m 109 #[.val (.int p1), .val (.int p2), .val (.int p3), .val (.int (2 : Int32)), .val (.int b0), .val (.int b1), .val (.int b2), .val (.int b3), .unset, .unset, .unset, .unset] [(.int (2 : Int32))])) rfl (hb hby at_109) rfl (by decide) (cap := 2) (by decide) (by decide) (by decide) (by decide)
      obtain ⟨ob10, g10⟩ : ∃ z, z = h0.size := ⟨_, rfl⟩
      rw [← g10] at A10 st10
      have g_ob10 : n0 ≤ ob10 := Nat.le_trans Z0 (Nat.le_of_eq g10.symm)
      have z_10 : n0 ≤ h10.size := Nat.le_trans Z0 E10.1
      have V_ob10 : Arv Z h10 ob10 k10 .byte (2 : Int32) [(.int (0 : Int32)), (.int (0 : Int32))] (.int (0 : Int32)) := (Arv.new A10 (by decide)).pad (pad_rep [] (.int (0 : Int32)) 2)
      refine hG _ _ (fun t₀ k₀ => st10 _ k₀) ?_
      show G (T10.setTop (mkF m 111 #[.val (.int p1), .val (.int p2), .val (.int p3), .val (.int (2 : Int32)), .val (.int b0), .val (.int b1), .val (.int b2), .val (.int b3), .unset, .unset, .unset, .unset] [(.ref ob10)]))
      refine hG _ (T10.setTop (mkF m 115 #[.val (.int p1), .val (.int p2), .val (.int p3), .val (.int (2 : Int32)), .val (.int b0), .val (.int b1), .val (.int b2), .val (.int b3), .unset, .unset, .unset, .unset] [(.int b0), (.int (0 : Int32)), (.ref ob10), (.ref ob10)])) (fun t₀ k₀ => ?_) ?_
      · show Steps p.tables e below (T10.setTop (mkF m 111 #[.val (.int p1), .val (.int p2), .val (.int p3), .val (.int (2 : Int32)), .val (.int b0), .val (.int b1), .val (.int b2), .val (.int b3), .unset, .unset, .unset, .unset] [(.ref ob10)])) t₀
        refine XS.dup X10.here hx rfl (hb hby at_111) rfl rfl ?_
        show Steps p.tables e below (T10.setTop (mkF m 112 #[.val (.int p1), .val (.int p2), .val (.int p3), .val (.int (2 : Int32)), .val (.int b0), .val (.int b1), .val (.int b2), .val (.int b3), .unset, .unset, .unset, .unset] [(.ref ob10), (.ref ob10)])) t₀
        refine XS.iconst X10.here hx rfl (hb hby at_112) ?_
        show Steps p.tables e below (T10.setTop (mkF m 113 #[.val (.int p1), .val (.int p2), .val (.int p3), .val (.int (2 : Int32)), .val (.int b0), .val (.int b1), .val (.int b2), .val (.int b3), .unset, .unset, .unset, .unset] [(.int (0 : Int32)), (.ref ob10), (.ref ob10)])) t₀
        refine XS.iload X10.here hx rfl (hb hby at_113) rfl ?_
        exact k₀
      have ov11 := V_ob10
      obtain ⟨cl11, Ar11, q11, S11, N_11, H_11, G_11⟩ := ov11
      have hin11 : ¬ ((0 : Int32) < 0 ∨ cl11.slots.size ≤ ((0 : Int32)).toNatClampNeg) := inb_of S11 ⟨by decide, by decide⟩
      obtain ⟨T12, h12, X12, e12, W12, st12⟩ := stB X10 hx hZ e10 Ar11 (j := (0 : Int32)) hin11 (g := (mkF m 115 #[.val (.int p1), .val (.int p2), .val (.int p3), .val (.int (2 : Int32)), .val (.int b0), .val (.int b1), .val (.int b2), .val (.int b3), .unset, .unset, .unset, .unset] [(.int b0), (.int (0 : Int32)), (.ref ob10), (.ref ob10)])) rfl rfl (hb hby at_115)
      refine hG _ _ (fun t₀ k₀ => st12 _ k₀) ?_
      have N12 := Fr.snoc X12 N0 g_ob10
      have z_12 : n0 ≤ h12.size := Nat.le_trans z_10 (Keep.of_wr W12).1
      have V12 : Arv Z h12 ob10 k10 .byte (2 : Int32) [(.int (b0.toInt8.toInt32)), (.int (0 : Int32))] (.int (0 : Int32)) := Arv.set Ar11 q11 S11 N_11 H_11 G_11 (fits_nar_byte _) W12 0 rfl (Nat.le_of_ble_eq_true rfl)
      show G (T12.setTop (mkF m 116 #[.val (.int p1), .val (.int p2), .val (.int p3), .val (.int (2 : Int32)), .val (.int b0), .val (.int b1), .val (.int b2), .val (.int b3), .unset, .unset, .unset, .unset] [(.ref ob10)]))
      refine hG _ (T12.setTop (mkF m 120 #[.val (.int p1), .val (.int p2), .val (.int p3), .val (.int (2 : Int32)), .val (.int b0), .val (.int b1), .val (.int b2), .val (.int b3), .unset, .unset, .unset, .unset] [(.int b1), (.int (1 : Int32)), (.ref ob10), (.ref ob10)])) (fun t₀ k₀ => ?_) ?_
      · show Steps p.tables e below (T12.setTop (mkF m 116 #[.val (.int p1), .val (.int p2), .val (.int p3), .val (.int (2 : Int32)), .val (.int b0), .val (.int b1), .val (.int b2), .val (.int b3), .unset, .unset, .unset, .unset] [(.ref ob10)])) t₀
        refine XS.dup X12.here hx rfl (hb hby at_116) rfl rfl ?_
        show Steps p.tables e below (T12.setTop (mkF m 117 #[.val (.int p1), .val (.int p2), .val (.int p3), .val (.int (2 : Int32)), .val (.int b0), .val (.int b1), .val (.int b2), .val (.int b3), .unset, .unset, .unset, .unset] [(.ref ob10), (.ref ob10)])) t₀
        refine XS.iconst X12.here hx rfl (hb hby at_117) ?_
        show Steps p.tables e below (T12.setTop (mkF m 118 #[.val (.int p1), .val (.int p2), .val (.int p3), .val (.int (2 : Int32)), .val (.int b0), .val (.int b1), .val (.int b2), .val (.int b3), .unset, .unset, .unset, .unset] [(.int (1 : Int32)), (.ref ob10), (.ref ob10)])) t₀
        refine XS.iload X12.here hx rfl (hb hby at_118) rfl ?_
        exact k₀
      have ov13 := V12
      obtain ⟨cl13, Ar13, q13, S13, N_13, H_13, G_13⟩ := ov13
      have hin13 : ¬ ((1 : Int32) < 0 ∨ cl13.slots.size ≤ ((1 : Int32)).toNatClampNeg) := inb_of S13 ⟨by decide, by decide⟩
      obtain ⟨T14, h14, X14, e14, W14, st14⟩ := stB X12 hx hZ e12 Ar13 (j := (1 : Int32)) hin13 (g := (mkF m 120 #[.val (.int p1), .val (.int p2), .val (.int p3), .val (.int (2 : Int32)), .val (.int b0), .val (.int b1), .val (.int b2), .val (.int b3), .unset, .unset, .unset, .unset] [(.int b1), (.int (1 : Int32)), (.ref ob10), (.ref ob10)])) rfl rfl (hb hby at_120)
      refine hG _ _ (fun t₀ k₀ => st14 _ k₀) ?_
      have N14 := Fr.snoc X14 N12 g_ob10
      have z_14 : n0 ≤ h14.size := Nat.le_trans z_12 (Keep.of_wr W14).1
      have V14 : Arv Z h14 ob10 k10 .byte (2 : Int32) [(.int (b0.toInt8.toInt32)), (.int (b1.toInt8.toInt32))] (.int (0 : Int32)) := Arv.set Ar13 q13 S13 N_13 H_13 G_13 (fits_nar_byte _) W14 1 rfl (Nat.le_of_ble_eq_true rfl)
      show G (T14.setTop (mkF m 121 #[.val (.int p1), .val (.int p2), .val (.int p3), .val (.int (2 : Int32)), .val (.int b0), .val (.int b1), .val (.int b2), .val (.int b3), .unset, .unset, .unset, .unset] [(.ref ob10)]))
      refine hG _ (T14.setTop (mkF m 179 #[.val (.int p1), .val (.int p2), .val (.int p3), .val (.int (2 : Int32)), .val (.int b0), .val (.int b1), .val (.int b2), .val (.int b3), .val (.ref ob10), .unset, .unset, .unset] [])) (fun t₀ k₀ => ?_) ?_
      · show Steps p.tables e below (T14.setTop (mkF m 121 #[.val (.int p1), .val (.int p2), .val (.int p3), .val (.int (2 : Int32)), .val (.int b0), .val (.int b1), .val (.int b2), .val (.int b3), .unset, .unset, .unset, .unset] [(.ref ob10)])) t₀
        refine XS.astore X14.here hx rfl (hb hby at_121) rfl rfl (l' := #[.val (.int p1), .val (.int p2), .val (.int p3), .val (.int (2 : Int32)), .val (.int b0), .val (.int b1), .val (.int b2), .val (.int b3), .val (.ref ob10), .unset, .unset, .unset]) rfl ?_
        show Steps p.tables e below (T14.setTop (mkF m 123 #[.val (.int p1), .val (.int p2), .val (.int p3), .val (.int (2 : Int32)), .val (.int b0), .val (.int b1), .val (.int b2), .val (.int b3), .val (.ref ob10), .unset, .unset, .unset] [])) t₀
        refine XS.goto X14.here hx rfl (pc0 := 123) (pc' := 179) rfl (hb hby at_123) (by decide) (by decide) ?_
        exact k₀
      have tq : ∀  (ex : Int32) (hr : (if (b0.toInt8.toInt32) = (0 : Int32) ∧ (b1.toInt8.toInt32) = (0 : Int32) then (1 : Int32) else 0) = ex), G (T14.setTop (mkF m 226 #[.val (.int p1), .val (.int p2), .val (.int p3), .val (.int (2 : Int32)), .val (.int b0), .val (.int b1), .val (.int b2), .val (.int b3), .val (.ref ob10), .val (.int ex), .unset, .unset] [])) := by
        intro ex hr
        refine hG _ (T14.setTop (mkF m 228 #[.val (.int p1), .val (.int p2), .val (.int p3), .val (.int (2 : Int32)), .val (.int b0), .val (.int b1), .val (.int b2), .val (.int b3), .val (.ref ob10), .val (.int ex), .unset, .unset] [(.ref ob10)])) (fun t₀ k₀ => ?_) ?_
        · show Steps p.tables e below (T14.setTop (mkF m 226 #[.val (.int p1), .val (.int p2), .val (.int p3), .val (.int (2 : Int32)), .val (.int b0), .val (.int b1), .val (.int b2), .val (.int b3), .val (.ref ob10), .val (.int ex), .unset, .unset] [])) t₀
          refine XS.aload X14.here hx rfl (hb hby at_226) rfl rfl ?_
          exact k₀
        obtain ⟨_, _, ⟨T15, L15, k15, n15⟩, -, X15, ⟨Lc15, hQ15, l15, y15, z15⟩, st15⟩ := Jvm.LawKit.callS X14 hx (y := (⟨"com/example/ordercast/ordercast/history/History", "isInitial", "([B)Z"⟩ : MethodName)) hown (mvT hZ (hw _ (List.mem_of_getElem? (i := 2) rfl))) (mvT hZ (hw _ (List.mem_of_getElem? (i := 3) rfl))) (mvT hZ (hw _ (List.mem_of_getElem? (i := 4) rfl))) (mvT hZ (hw _ (List.mem_of_getElem? (i := 5) rfl))) (by decide) (backOf (W := 0) (rmL2 l Z a0 hw [] ob10 k10 (b0.toInt8.toInt32) (b1.toInt8.toInt32) ex h14 n0 z_14 V14 hr) hZ (hw _ (List.mem_of_getElem? (i := 5) rfl)) (hw _ (List.mem_of_getElem? (i := 4) rfl)) (by decide) (by decide)) (g := (mkF m 228 #[.val (.int p1), .val (.int p2), .val (.int p3), .val (.int (2 : Int32)), .val (.int b0), .val (.int b1), .val (.int b2), .val (.int b3), .val (.ref ob10), .val (.int ex), .unset, .unset] [(.ref ob10)])) rfl (by rw [hml]; rfl) (argsL := [(.ref ob10)]) (rest := []) (lenOf pd_0 rfl) rfl (by show 2 * 0 + _ ≤ _; exact Nat.le_of_eq rfl) (hb hby at_228) (fun _ _ => ⟨rfl, e14, (by decide : 1 + 0 ≤ _), (by decide : 2 + 0 ≤ _)⟩)
        dsimp only [Pt.U, Pt.locs, Pt.cells, Pt.slots] at X15 l15 y15 z15 st15 hQ15
        subst l15 y15 z15
        obtain ⟨rfl, N15q, e15⟩ := hQ15
        have N15 := Fr.app N14 N15q
        refine hG _ _ (fun t₀ k₀ => st15 _ k₀) ?_
        show G (T15.setTop (mkF m 231 #[.val (.int p1), .val (.int p2), .val (.int p3), .val (.int (2 : Int32)), .val (.int b0), .val (.int b1), .val (.int b2), .val (.int b3), .val (.ref ob10), .val (.int ex), .unset, .unset] [(.int ex)]))
        refine hG _ (T15.setTop (mkF m 235 #[.val (.int p1), .val (.int p2), .val (.int p3), .val (.int (2 : Int32)), .val (.int b0), .val (.int b1), .val (.int b2), .val (.int b3), .val (.ref ob10), .val (.int ex), .val (.int ex), .unset] [(.ref ob10)])) (fun t₀ k₀ => ?_) ?_
        · show Steps p.tables e below (T15.setTop (mkF m 231 #[.val (.int p1), .val (.int p2), .val (.int p3), .val (.int (2 : Int32)), .val (.int b0), .val (.int b1), .val (.int b2), .val (.int b3), .val (.ref ob10), .val (.int ex), .unset, .unset] [(.int ex)])) t₀
          refine XS.istore X15.here hx rfl (hb hby at_231) rfl (l' := #[.val (.int p1), .val (.int p2), .val (.int p3), .val (.int (2 : Int32)), .val (.int b0), .val (.int b1), .val (.int b2), .val (.int b3), .val (.ref ob10), .val (.int ex), .val (.int ex), .unset]) rfl ?_
          show Steps p.tables e below (T15.setTop (mkF m 233 #[.val (.int p1), .val (.int p2), .val (.int p3), .val (.int (2 : Int32)), .val (.int b0), .val (.int b1), .val (.int b2), .val (.int b3), .val (.ref ob10), .val (.int ex), .val (.int ex), .unset] [])) t₀
          refine XS.aload X15.here hx rfl (hb hby at_233) rfl rfl ?_
          exact k₀
        have ov16 := V14
        obtain ⟨cl16, Ar16, q16, S16, N_16, H_16, G_16⟩ := ov16
        refine hG _ (T15.setTop (mkF m 248 #[.val (.int p1), .val (.int p2), .val (.int p3), .val (.int (2 : Int32)), .val (.int b0), .val (.int b1), .val (.int b2), .val (.int b3), .val (.ref ob10), .val (.int ex), .val (.int ex), .unset] [(.int (0 : Int32)), (.ref ob10)])) (fun t₀ k₀ => ?_) ?_
        · show Steps p.tables e below (T15.setTop (mkF m 235 #[.val (.int p1), .val (.int p2), .val (.int p3), .val (.int (2 : Int32)), .val (.int b0), .val (.int b1), .val (.int b2), .val (.int b3), .val (.ref ob10), .val (.int ex), .val (.int ex), .unset] [(.ref ob10)])) t₀
          refine X15.arraylength hx (by rw [e15]; exact Ar16.1) (State.isArrayOf_alike hZ.alike Ar16.2.1) (g := (mkF m 235 #[.val (.int p1), .val (.int p2), .val (.int p3), .val (.int (2 : Int32)), .val (.int b0), .val (.int b1), .val (.int b2), .val (.int b3), .val (.ref ob10), .val (.int ex), .val (.int ex), .unset] [(.ref ob10)])) rfl rfl (hb hby at_235) _ ?_
          rw [len_of S16 N_16]
          show Steps p.tables e below (T15.setTop (mkF m 236 #[.val (.int p1), .val (.int p2), .val (.int p3), .val (.int (2 : Int32)), .val (.int b0), .val (.int b1), .val (.int b2), .val (.int b3), .val (.ref ob10), .val (.int ex), .val (.int ex), .unset] [(.int (2 : Int32))])) t₀
          refine XS.iloadN X15.here hx rfl (hb hby at_236) rfl ?_
          show Steps p.tables e below (T15.setTop (mkF m 237 #[.val (.int p1), .val (.int p2), .val (.int p3), .val (.int (2 : Int32)), .val (.int b0), .val (.int b1), .val (.int b2), .val (.int b3), .val (.ref ob10), .val (.int ex), .val (.int ex), .unset] [(.int (2 : Int32)), (.int (2 : Int32))])) t₀
          refine XS.icmpNo X15.here hx rfl (hb hby at_237) rfl (teq (by decide : ((2 : Int32) = (2 : Int32)))).2 ?_
          show Steps p.tables e below (T15.setTop (mkF m 240 #[.val (.int p1), .val (.int p2), .val (.int p3), .val (.int (2 : Int32)), .val (.int b0), .val (.int b1), .val (.int b2), .val (.int b3), .val (.ref ob10), .val (.int ex), .val (.int ex), .unset] [])) t₀
          refine XS.iloadN X15.here hx rfl (hb hby at_240) rfl ?_
          show Steps p.tables e below (T15.setTop (mkF m 241 #[.val (.int p1), .val (.int p2), .val (.int p3), .val (.int (2 : Int32)), .val (.int b0), .val (.int b1), .val (.int b2), .val (.int b3), .val (.ref ob10), .val (.int ex), .val (.int ex), .unset] [(.int (2 : Int32))])) t₀
          refine XS.iconst X15.here hx rfl (hb hby at_241) ?_
          show Steps p.tables e below (T15.setTop (mkF m 242 #[.val (.int p1), .val (.int p2), .val (.int p3), .val (.int (2 : Int32)), .val (.int b0), .val (.int b1), .val (.int b2), .val (.int b3), .val (.ref ob10), .val (.int ex), .val (.int ex), .unset] [(.int (1 : Int32)), (.int (2 : Int32))])) t₀
          refine XS.icmpNo X15.here hx rfl (hb hby at_242) rfl (flt (by decide : ¬ ((2 : Int32) < (1 : Int32)))).1 ?_
          show Steps p.tables e below (T15.setTop (mkF m 245 #[.val (.int p1), .val (.int p2), .val (.int p3), .val (.int (2 : Int32)), .val (.int b0), .val (.int b1), .val (.int b2), .val (.int b3), .val (.ref ob10), .val (.int ex), .val (.int ex), .unset] [])) t₀
          refine XS.aload X15.here hx rfl (hb hby at_245) rfl rfl ?_
          show Steps p.tables e below (T15.setTop (mkF m 247 #[.val (.int p1), .val (.int p2), .val (.int p3), .val (.int (2 : Int32)), .val (.int b0), .val (.int b1), .val (.int b2), .val (.int b3), .val (.ref ob10), .val (.int ex), .val (.int ex), .unset] [(.ref ob10)])) t₀
          refine XS.iconst X15.here hx rfl (hb hby at_247) ?_
          exact k₀
        have ov17 := V14
        obtain ⟨cl17, Ar17, q17, S17, N_17, H_17, G_17⟩ := ov17
        have hin17 : ¬ ((0 : Int32) < 0 ∨ cl17.slots.size ≤ ((0 : Int32)).toNatClampNeg) := inb_of S17 ⟨by decide, by decide⟩
        have hat17 : cl17.slots[((0 : Int32)).toNatClampNeg]? = some (.int (b0.toInt8.toInt32)) := H_17.at hin17 rfl
        refine hG _ (T15.setTop (mkF m 262 #[.val (.int p1), .val (.int p2), .val (.int p3), .val (.int (2 : Int32)), .val (.int b0), .val (.int b1), .val (.int b2), .val (.int b3), .val (.ref ob10), .val (.int ex), .val (.int ex), .unset] [(.int (1 : Int32)), (.ref ob10)])) (fun t₀ k₀ => ?_) ?_
        · show Steps p.tables e below (T15.setTop (mkF m 248 #[.val (.int p1), .val (.int p2), .val (.int p3), .val (.int (2 : Int32)), .val (.int b0), .val (.int b1), .val (.int b2), .val (.int b3), .val (.ref ob10), .val (.int ex), .val (.int ex), .unset] [(.int (0 : Int32)), (.ref ob10)])) t₀
          refine X15.baloadBytes hx (j := (0 : Int32)) (v := (.int (b0.toInt8.toInt32))) (by rw [e15]; exact Ar17.1) (State.isArrayOf_alike hZ.alike Ar17.2.1) Ar17.2.2 hin17 hat17 (g := (mkF m 248 #[.val (.int p1), .val (.int p2), .val (.int p3), .val (.int (2 : Int32)), .val (.int b0), .val (.int b1), .val (.int b2), .val (.int b3), .val (.ref ob10), .val (.int ex), .val (.int ex), .unset] [(.int (0 : Int32)), (.ref ob10)])) rfl rfl (hb hby at_248) _ ?_
          show Steps p.tables e below (T15.setTop (mkF m 249 #[.val (.int p1), .val (.int p2), .val (.int p3), .val (.int (2 : Int32)), .val (.int b0), .val (.int b1), .val (.int b2), .val (.int b3), .val (.ref ob10), .val (.int ex), .val (.int ex), .unset] [(.int (b0.toInt8.toInt32))])) t₀
          refine XS.iload X15.here hx rfl (hb hby at_249) rfl ?_
          show Steps p.tables e below (T15.setTop (mkF m 251 #[.val (.int p1), .val (.int p2), .val (.int p3), .val (.int (2 : Int32)), .val (.int b0), .val (.int b1), .val (.int b2), .val (.int b3), .val (.ref ob10), .val (.int ex), .val (.int ex), .unset] [(.int b0), (.int (b0.toInt8.toInt32))])) t₀
          refine XS.icmpNo X15.here hx rfl (hb hby at_251) rfl (teq hb0).2 ?_
          show Steps p.tables e below (T15.setTop (mkF m 254 #[.val (.int p1), .val (.int p2), .val (.int p3), .val (.int (2 : Int32)), .val (.int b0), .val (.int b1), .val (.int b2), .val (.int b3), .val (.ref ob10), .val (.int ex), .val (.int ex), .unset] [])) t₀
          refine XS.iloadN X15.here hx rfl (hb hby at_254) rfl ?_
          show Steps p.tables e below (T15.setTop (mkF m 255 #[.val (.int p1), .val (.int p2), .val (.int p3), .val (.int (2 : Int32)), .val (.int b0), .val (.int b1), .val (.int b2), .val (.int b3), .val (.ref ob10), .val (.int ex), .val (.int ex), .unset] [(.int (2 : Int32))])) t₀
          refine XS.iconst X15.here hx rfl (hb hby at_255) ?_
          show Steps p.tables e below (T15.setTop (mkF m 256 #[.val (.int p1), .val (.int p2), .val (.int p3), .val (.int (2 : Int32)), .val (.int b0), .val (.int b1), .val (.int b2), .val (.int b3), .val (.ref ob10), .val (.int ex), .val (.int ex), .unset] [(.int (2 : Int32)), (.int (2 : Int32))])) t₀
          refine XS.icmpNo X15.here hx rfl (hb hby at_256) rfl (flt (by decide : ¬ ((2 : Int32) < (2 : Int32)))).1 ?_
          show Steps p.tables e below (T15.setTop (mkF m 259 #[.val (.int p1), .val (.int p2), .val (.int p3), .val (.int (2 : Int32)), .val (.int b0), .val (.int b1), .val (.int b2), .val (.int b3), .val (.ref ob10), .val (.int ex), .val (.int ex), .unset] [])) t₀
          refine XS.aload X15.here hx rfl (hb hby at_259) rfl rfl ?_
          show Steps p.tables e below (T15.setTop (mkF m 261 #[.val (.int p1), .val (.int p2), .val (.int p3), .val (.int (2 : Int32)), .val (.int b0), .val (.int b1), .val (.int b2), .val (.int b3), .val (.ref ob10), .val (.int ex), .val (.int ex), .unset] [(.ref ob10)])) t₀
          refine XS.iconst X15.here hx rfl (hb hby at_261) ?_
          exact k₀
        have ov18 := V14
        obtain ⟨cl18, Ar18, q18, S18, N_18, H_18, G_18⟩ := ov18
        have hin18 : ¬ ((1 : Int32) < 0 ∨ cl18.slots.size ≤ ((1 : Int32)).toNatClampNeg) := inb_of S18 ⟨by decide, by decide⟩
        have hat18 : cl18.slots[((1 : Int32)).toNatClampNeg]? = some (.int (b1.toInt8.toInt32)) := H_18.at hin18 rfl
        refine hG _ (T15.setTop (mkF m 320 #[.val (.int p1), .val (.int p2), .val (.int p3), .val (.int (2 : Int32)), .val (.int b0), .val (.int b1), .val (.int b2), .val (.int b3), .val (.ref ob10), .val (.int ex), .val (.int ex), .val (.int (1 : Int32))] [(.int (1 : Int32))])) (fun t₀ k₀ => ?_) ?_
        · show Steps p.tables e below (T15.setTop (mkF m 262 #[.val (.int p1), .val (.int p2), .val (.int p3), .val (.int (2 : Int32)), .val (.int b0), .val (.int b1), .val (.int b2), .val (.int b3), .val (.ref ob10), .val (.int ex), .val (.int ex), .unset] [(.int (1 : Int32)), (.ref ob10)])) t₀
          refine X15.baloadBytes hx (j := (1 : Int32)) (v := (.int (b1.toInt8.toInt32))) (by rw [e15]; exact Ar18.1) (State.isArrayOf_alike hZ.alike Ar18.2.1) Ar18.2.2 hin18 hat18 (g := (mkF m 262 #[.val (.int p1), .val (.int p2), .val (.int p3), .val (.int (2 : Int32)), .val (.int b0), .val (.int b1), .val (.int b2), .val (.int b3), .val (.ref ob10), .val (.int ex), .val (.int ex), .unset] [(.int (1 : Int32)), (.ref ob10)])) rfl rfl (hb hby at_262) _ ?_
          show Steps p.tables e below (T15.setTop (mkF m 263 #[.val (.int p1), .val (.int p2), .val (.int p3), .val (.int (2 : Int32)), .val (.int b0), .val (.int b1), .val (.int b2), .val (.int b3), .val (.ref ob10), .val (.int ex), .val (.int ex), .unset] [(.int (b1.toInt8.toInt32))])) t₀
          refine XS.iload X15.here hx rfl (hb hby at_263) rfl ?_
          show Steps p.tables e below (T15.setTop (mkF m 265 #[.val (.int p1), .val (.int p2), .val (.int p3), .val (.int (2 : Int32)), .val (.int b0), .val (.int b1), .val (.int b2), .val (.int b3), .val (.ref ob10), .val (.int ex), .val (.int ex), .unset] [(.int b1), (.int (b1.toInt8.toInt32))])) t₀
          refine XS.icmpNo X15.here hx rfl (hb hby at_265) rfl (teq hb1).2 ?_
          show Steps p.tables e below (T15.setTop (mkF m 268 #[.val (.int p1), .val (.int p2), .val (.int p3), .val (.int (2 : Int32)), .val (.int b0), .val (.int b1), .val (.int b2), .val (.int b3), .val (.ref ob10), .val (.int ex), .val (.int ex), .unset] [])) t₀
          refine XS.iloadN X15.here hx rfl (hb hby at_268) rfl ?_
          show Steps p.tables e below (T15.setTop (mkF m 269 #[.val (.int p1), .val (.int p2), .val (.int p3), .val (.int (2 : Int32)), .val (.int b0), .val (.int b1), .val (.int b2), .val (.int b3), .val (.ref ob10), .val (.int ex), .val (.int ex), .unset] [(.int (2 : Int32))])) t₀
          refine XS.iconst X15.here hx rfl (hb hby at_269) ?_
          show Steps p.tables e below (T15.setTop (mkF m 270 #[.val (.int p1), .val (.int p2), .val (.int p3), .val (.int (2 : Int32)), .val (.int b0), .val (.int b1), .val (.int b2), .val (.int b3), .val (.ref ob10), .val (.int ex), .val (.int ex), .unset] [(.int (3 : Int32)), (.int (2 : Int32))])) t₀
          refine XS.icmpYes X15.here hx rfl (pc0 := 270) (pc' := 282) rfl (hb hby at_270) rfl (tlt (by decide : ((2 : Int32) < (3 : Int32)))).1 (by decide) (by decide) ?_
          show Steps p.tables e below (T15.setTop (mkF m 282 #[.val (.int p1), .val (.int p2), .val (.int p3), .val (.int (2 : Int32)), .val (.int b0), .val (.int b1), .val (.int b2), .val (.int b3), .val (.ref ob10), .val (.int ex), .val (.int ex), .unset] [])) t₀
          refine XS.iloadN X15.here hx rfl (hb hby at_282) rfl ?_
          show Steps p.tables e below (T15.setTop (mkF m 283 #[.val (.int p1), .val (.int p2), .val (.int p3), .val (.int (2 : Int32)), .val (.int b0), .val (.int b1), .val (.int b2), .val (.int b3), .val (.ref ob10), .val (.int ex), .val (.int ex), .unset] [(.int (2 : Int32))])) t₀
          refine XS.iconst X15.here hx rfl (hb hby at_283) ?_
          show Steps p.tables e below (T15.setTop (mkF m 284 #[.val (.int p1), .val (.int p2), .val (.int p3), .val (.int (2 : Int32)), .val (.int b0), .val (.int b1), .val (.int b2), .val (.int b3), .val (.ref ob10), .val (.int ex), .val (.int ex), .unset] [(.int (4 : Int32)), (.int (2 : Int32))])) t₀
          refine XS.icmpYes X15.here hx rfl (pc0 := 284) (pc' := 296) rfl (hb hby at_284) rfl (tlt (by decide : ((2 : Int32) < (4 : Int32)))).1 (by decide) (by decide) ?_
          show Steps p.tables e below (T15.setTop (mkF m 296 #[.val (.int p1), .val (.int p2), .val (.int p3), .val (.int (2 : Int32)), .val (.int b0), .val (.int b1), .val (.int b2), .val (.int b3), .val (.ref ob10), .val (.int ex), .val (.int ex), .unset] [])) t₀
          refine XS.iconst X15.here hx rfl (hb hby at_296) ?_
          show Steps p.tables e below (T15.setTop (mkF m 297 #[.val (.int p1), .val (.int p2), .val (.int p3), .val (.int (2 : Int32)), .val (.int b0), .val (.int b1), .val (.int b2), .val (.int b3), .val (.ref ob10), .val (.int ex), .val (.int ex), .unset] [(.int (1 : Int32))])) t₀
          refine XS.goto X15.here hx rfl (pc0 := 297) (pc' := 301) rfl (hb hby at_297) (by decide) (by decide) ?_
          show Steps p.tables e below (T15.setTop (mkF m 301 #[.val (.int p1), .val (.int p2), .val (.int p3), .val (.int (2 : Int32)), .val (.int b0), .val (.int b1), .val (.int b2), .val (.int b3), .val (.ref ob10), .val (.int ex), .val (.int ex), .unset] [(.int (1 : Int32))])) t₀
          refine XS.istore X15.here hx rfl (hb hby at_301) rfl (l' := #[.val (.int p1), .val (.int p2), .val (.int p3), .val (.int (2 : Int32)), .val (.int b0), .val (.int b1), .val (.int b2), .val (.int b3), .val (.ref ob10), .val (.int ex), .val (.int ex), .val (.int (1 : Int32))]) rfl ?_
          show Steps p.tables e below (T15.setTop (mkF m 303 #[.val (.int p1), .val (.int p2), .val (.int p3), .val (.int (2 : Int32)), .val (.int b0), .val (.int b1), .val (.int b2), .val (.int b3), .val (.ref ob10), .val (.int ex), .val (.int ex), .val (.int (1 : Int32))] [])) t₀
          refine XS.iload X15.here hx rfl (hb hby at_303) rfl ?_
          show Steps p.tables e below (T15.setTop (mkF m 305 #[.val (.int p1), .val (.int p2), .val (.int p3), .val (.int (2 : Int32)), .val (.int b0), .val (.int b1), .val (.int b2), .val (.int b3), .val (.ref ob10), .val (.int ex), .val (.int ex), .val (.int (1 : Int32))] [(.int ex)])) t₀
          refine XS.iload X15.here hx rfl (hb hby at_305) rfl ?_
          show Steps p.tables e below (T15.setTop (mkF m 307 #[.val (.int p1), .val (.int p2), .val (.int p3), .val (.int (2 : Int32)), .val (.int b0), .val (.int b1), .val (.int b2), .val (.int b3), .val (.ref ob10), .val (.int ex), .val (.int ex), .val (.int (1 : Int32))] [(.int ex), (.int ex)])) t₀
          refine XS.icmpNo X15.here hx rfl (hb hby at_307) rfl (teq rfl).2 ?_
          show Steps p.tables e below (T15.setTop (mkF m 310 #[.val (.int p1), .val (.int p2), .val (.int p3), .val (.int (2 : Int32)), .val (.int b0), .val (.int b1), .val (.int b2), .val (.int b3), .val (.ref ob10), .val (.int ex), .val (.int ex), .val (.int (1 : Int32))] [])) t₀
          refine XS.iload X15.here hx rfl (hb hby at_310) rfl ?_
          show Steps p.tables e below (T15.setTop (mkF m 312 #[.val (.int p1), .val (.int p2), .val (.int p3), .val (.int (2 : Int32)), .val (.int b0), .val (.int b1), .val (.int b2), .val (.int b3), .val (.ref ob10), .val (.int ex), .val (.int ex), .val (.int (1 : Int32))] [(.int (1 : Int32))])) t₀
          refine XS.ifNo X15.here hx rfl (hb hby at_312) rfl ((if0 _ _).trans (feq (by decide : ¬ ((1 : Int32) = (0 : Int32)))).1) ?_
          show Steps p.tables e below (T15.setTop (mkF m 315 #[.val (.int p1), .val (.int p2), .val (.int p3), .val (.int (2 : Int32)), .val (.int b0), .val (.int b1), .val (.int b2), .val (.int b3), .val (.ref ob10), .val (.int ex), .val (.int ex), .val (.int (1 : Int32))] [])) t₀
          refine XS.iconst X15.here hx rfl (hb hby at_315) ?_
          show Steps p.tables e below (T15.setTop (mkF m 316 #[.val (.int p1), .val (.int p2), .val (.int p3), .val (.int (2 : Int32)), .val (.int b0), .val (.int b1), .val (.int b2), .val (.int b3), .val (.ref ob10), .val (.int ex), .val (.int ex), .val (.int (1 : Int32))] [(.int (1 : Int32))])) t₀
          refine XS.goto X15.here hx rfl (pc0 := 316) (pc' := 320) rfl (hb hby at_316) (by decide) (by decide) ?_
          exact k₀
        refine hF _ T15 _ _ _ (some (.int (1 : Int32))) _ X15 e15 (fun h => by rw [hrt] at h; cases h) (by decide) (by decide) ?_ (fun fs hr => retN X15 hx (t := .boolean) hrt (by simp) (hb hby at_320) hr)
        exact ⟨rfl, N15⟩
      refine hG _ (T14.setTop (mkF m 186 #[.val (.int p1), .val (.int p2), .val (.int p3), .val (.int (2 : Int32)), .val (.int b0), .val (.int b1), .val (.int b2), .val (.int b3), .val (.ref ob10), .unset, .unset, .unset] [(.int b0)])) (fun t₀ k₀ => ?_) ?_
      · show Steps p.tables e below (T14.setTop (mkF m 179 #[.val (.int p1), .val (.int p2), .val (.int p3), .val (.int (2 : Int32)), .val (.int b0), .val (.int b1), .val (.int b2), .val (.int b3), .val (.ref ob10), .unset, .unset, .unset] [])) t₀
        refine XS.iloadN X14.here hx rfl (hb hby at_179) rfl ?_
        show Steps p.tables e below (T14.setTop (mkF m 180 #[.val (.int p1), .val (.int p2), .val (.int p3), .val (.int (2 : Int32)), .val (.int b0), .val (.int b1), .val (.int b2), .val (.int b3), .val (.ref ob10), .unset, .unset, .unset] [(.int (2 : Int32))])) t₀
        refine XS.iconst X14.here hx rfl (hb hby at_180) ?_
        show Steps p.tables e below (T14.setTop (mkF m 181 #[.val (.int p1), .val (.int p2), .val (.int p3), .val (.int (2 : Int32)), .val (.int b0), .val (.int b1), .val (.int b2), .val (.int b3), .val (.ref ob10), .unset, .unset, .unset] [(.int (1 : Int32)), (.int (2 : Int32))])) t₀
        refine XS.icmpNo X14.here hx rfl (hb hby at_181) rfl (flt (by decide : ¬ ((2 : Int32) < (1 : Int32)))).1 ?_
        show Steps p.tables e below (T14.setTop (mkF m 184 #[.val (.int p1), .val (.int p2), .val (.int p3), .val (.int (2 : Int32)), .val (.int b0), .val (.int b1), .val (.int b2), .val (.int b3), .val (.ref ob10), .unset, .unset, .unset] [])) t₀
        refine XS.iload X14.here hx rfl (hb hby at_184) rfl ?_
        exact k₀
      by_cases hc186 : b0 = (0 : Int32)
      ·
        refine hG _ (T14.setTop (mkF m 196 #[.val (.int p1), .val (.int p2), .val (.int p3), .val (.int (2 : Int32)), .val (.int b0), .val (.int b1), .val (.int b2), .val (.int b3), .val (.ref ob10), .unset, .unset, .unset] [(.int b1)])) (fun t₀ k₀ => ?_) ?_
        · show Steps p.tables e below (T14.setTop (mkF m 186 #[.val (.int p1), .val (.int p2), .val (.int p3), .val (.int (2 : Int32)), .val (.int b0), .val (.int b1), .val (.int b2), .val (.int b3), .val (.ref ob10), .unset, .unset, .unset] [(.int b0)])) t₀
          refine XS.ifNo X14.here hx rfl (hb hby at_186) rfl ((if0 _ _).trans (teq hc186).2) ?_
          show Steps p.tables e below (T14.setTop (mkF m 189 #[.val (.int p1), .val (.int p2), .val (.int p3), .val (.int (2 : Int32)), .val (.int b0), .val (.int b1), .val (.int b2), .val (.int b3), .val (.ref ob10), .unset, .unset, .unset] [])) t₀
          refine XS.iloadN X14.here hx rfl (hb hby at_189) rfl ?_
          show Steps p.tables e below (T14.setTop (mkF m 190 #[.val (.int p1), .val (.int p2), .val (.int p3), .val (.int (2 : Int32)), .val (.int b0), .val (.int b1), .val (.int b2), .val (.int b3), .val (.ref ob10), .unset, .unset, .unset] [(.int (2 : Int32))])) t₀
          refine XS.iconst X14.here hx rfl (hb hby at_190) ?_
          show Steps p.tables e below (T14.setTop (mkF m 191 #[.val (.int p1), .val (.int p2), .val (.int p3), .val (.int (2 : Int32)), .val (.int b0), .val (.int b1), .val (.int b2), .val (.int b3), .val (.ref ob10), .unset, .unset, .unset] [(.int (2 : Int32)), (.int (2 : Int32))])) t₀
          refine XS.icmpNo X14.here hx rfl (hb hby at_191) rfl (flt (by decide : ¬ ((2 : Int32) < (2 : Int32)))).1 ?_
          show Steps p.tables e below (T14.setTop (mkF m 194 #[.val (.int p1), .val (.int p2), .val (.int p3), .val (.int (2 : Int32)), .val (.int b0), .val (.int b1), .val (.int b2), .val (.int b3), .val (.ref ob10), .unset, .unset, .unset] [])) t₀
          refine XS.iload X14.here hx rfl (hb hby at_194) rfl ?_
          exact k₀
        by_cases hc196 : b1 = (0 : Int32)
        ·
          refine hG _ (T14.setTop (mkF m 226 #[.val (.int p1), .val (.int p2), .val (.int p3), .val (.int (2 : Int32)), .val (.int b0), .val (.int b1), .val (.int b2), .val (.int b3), .val (.ref ob10), .val (.int (1 : Int32)), .unset, .unset] [])) (fun t₀ k₀ => ?_) ?_
          · show Steps p.tables e below (T14.setTop (mkF m 196 #[.val (.int p1), .val (.int p2), .val (.int p3), .val (.int (2 : Int32)), .val (.int b0), .val (.int b1), .val (.int b2), .val (.int b3), .val (.ref ob10), .unset, .unset, .unset] [(.int b1)])) t₀
            refine XS.ifNo X14.here hx rfl (hb hby at_196) rfl ((if0 _ _).trans (teq hc196).2) ?_
            show Steps p.tables e below (T14.setTop (mkF m 199 #[.val (.int p1), .val (.int p2), .val (.int p3), .val (.int (2 : Int32)), .val (.int b0), .val (.int b1), .val (.int b2), .val (.int b3), .val (.ref ob10), .unset, .unset, .unset] [])) t₀
            refine XS.iloadN X14.here hx rfl (hb hby at_199) rfl ?_
            show Steps p.tables e below (T14.setTop (mkF m 200 #[.val (.int p1), .val (.int p2), .val (.int p3), .val (.int (2 : Int32)), .val (.int b0), .val (.int b1), .val (.int b2), .val (.int b3), .val (.ref ob10), .unset, .unset, .unset] [(.int (2 : Int32))])) t₀
            refine XS.iconst X14.here hx rfl (hb hby at_200) ?_
            show Steps p.tables e below (T14.setTop (mkF m 201 #[.val (.int p1), .val (.int p2), .val (.int p3), .val (.int (2 : Int32)), .val (.int b0), .val (.int b1), .val (.int b2), .val (.int b3), .val (.ref ob10), .unset, .unset, .unset] [(.int (3 : Int32)), (.int (2 : Int32))])) t₀
            refine XS.icmpYes X14.here hx rfl (pc0 := 201) (pc' := 209) rfl (hb hby at_201) rfl (tlt (by decide : ((2 : Int32) < (3 : Int32)))).1 (by decide) (by decide) ?_
            show Steps p.tables e below (T14.setTop (mkF m 209 #[.val (.int p1), .val (.int p2), .val (.int p3), .val (.int (2 : Int32)), .val (.int b0), .val (.int b1), .val (.int b2), .val (.int b3), .val (.ref ob10), .unset, .unset, .unset] [])) t₀
            refine XS.iloadN X14.here hx rfl (hb hby at_209) rfl ?_
            show Steps p.tables e below (T14.setTop (mkF m 210 #[.val (.int p1), .val (.int p2), .val (.int p3), .val (.int (2 : Int32)), .val (.int b0), .val (.int b1), .val (.int b2), .val (.int b3), .val (.ref ob10), .unset, .unset, .unset] [(.int (2 : Int32))])) t₀
            refine XS.iconst X14.here hx rfl (hb hby at_210) ?_
            show Steps p.tables e below (T14.setTop (mkF m 211 #[.val (.int p1), .val (.int p2), .val (.int p3), .val (.int (2 : Int32)), .val (.int b0), .val (.int b1), .val (.int b2), .val (.int b3), .val (.ref ob10), .unset, .unset, .unset] [(.int (4 : Int32)), (.int (2 : Int32))])) t₀
            refine XS.icmpYes X14.here hx rfl (pc0 := 211) (pc' := 219) rfl (hb hby at_211) rfl (tlt (by decide : ((2 : Int32) < (4 : Int32)))).1 (by decide) (by decide) ?_
            show Steps p.tables e below (T14.setTop (mkF m 219 #[.val (.int p1), .val (.int p2), .val (.int p3), .val (.int (2 : Int32)), .val (.int b0), .val (.int b1), .val (.int b2), .val (.int b3), .val (.ref ob10), .unset, .unset, .unset] [])) t₀
            refine XS.iconst X14.here hx rfl (hb hby at_219) ?_
            show Steps p.tables e below (T14.setTop (mkF m 220 #[.val (.int p1), .val (.int p2), .val (.int p3), .val (.int (2 : Int32)), .val (.int b0), .val (.int b1), .val (.int b2), .val (.int b3), .val (.ref ob10), .unset, .unset, .unset] [(.int (1 : Int32))])) t₀
            refine XS.goto X14.here hx rfl (pc0 := 220) (pc' := 224) rfl (hb hby at_220) (by decide) (by decide) ?_
            show Steps p.tables e below (T14.setTop (mkF m 224 #[.val (.int p1), .val (.int p2), .val (.int p3), .val (.int (2 : Int32)), .val (.int b0), .val (.int b1), .val (.int b2), .val (.int b3), .val (.ref ob10), .unset, .unset, .unset] [(.int (1 : Int32))])) t₀
            refine XS.istore X14.here hx rfl (hb hby at_224) rfl (l' := #[.val (.int p1), .val (.int p2), .val (.int p3), .val (.int (2 : Int32)), .val (.int b0), .val (.int b1), .val (.int b2), .val (.int b3), .val (.ref ob10), .val (.int (1 : Int32)), .unset, .unset]) rfl ?_
            exact k₀
          exact tq (1 : Int32) (by simp [hb0, hb1, hb2, hb3, hc186, hc196])
        ·
          refine hG _ (T14.setTop (mkF m 226 #[.val (.int p1), .val (.int p2), .val (.int p3), .val (.int (2 : Int32)), .val (.int b0), .val (.int b1), .val (.int b2), .val (.int b3), .val (.ref ob10), .val (.int (0 : Int32)), .unset, .unset] [])) (fun t₀ k₀ => ?_) ?_
          · show Steps p.tables e below (T14.setTop (mkF m 196 #[.val (.int p1), .val (.int p2), .val (.int p3), .val (.int (2 : Int32)), .val (.int b0), .val (.int b1), .val (.int b2), .val (.int b3), .val (.ref ob10), .unset, .unset, .unset] [(.int b1)])) t₀
            refine XS.ifYes X14.here hx rfl (pc0 := 196) (pc' := 223) rfl (hb hby at_196) rfl ((if0 _ _).trans (feq hc196).2) (by decide) (by decide) ?_
            show Steps p.tables e below (T14.setTop (mkF m 223 #[.val (.int p1), .val (.int p2), .val (.int p3), .val (.int (2 : Int32)), .val (.int b0), .val (.int b1), .val (.int b2), .val (.int b3), .val (.ref ob10), .unset, .unset, .unset] [])) t₀
            refine XS.iconst X14.here hx rfl (hb hby at_223) ?_
            show Steps p.tables e below (T14.setTop (mkF m 224 #[.val (.int p1), .val (.int p2), .val (.int p3), .val (.int (2 : Int32)), .val (.int b0), .val (.int b1), .val (.int b2), .val (.int b3), .val (.ref ob10), .unset, .unset, .unset] [(.int (0 : Int32))])) t₀
            refine XS.istore X14.here hx rfl (hb hby at_224) rfl (l' := #[.val (.int p1), .val (.int p2), .val (.int p3), .val (.int (2 : Int32)), .val (.int b0), .val (.int b1), .val (.int b2), .val (.int b3), .val (.ref ob10), .val (.int (0 : Int32)), .unset, .unset]) rfl ?_
            exact k₀
          exact tq (0 : Int32) (by simp [hb0, hb1, hb2, hb3, hc186, hc196])
      ·
        refine hG _ (T14.setTop (mkF m 226 #[.val (.int p1), .val (.int p2), .val (.int p3), .val (.int (2 : Int32)), .val (.int b0), .val (.int b1), .val (.int b2), .val (.int b3), .val (.ref ob10), .val (.int (0 : Int32)), .unset, .unset] [])) (fun t₀ k₀ => ?_) ?_
        · show Steps p.tables e below (T14.setTop (mkF m 186 #[.val (.int p1), .val (.int p2), .val (.int p3), .val (.int (2 : Int32)), .val (.int b0), .val (.int b1), .val (.int b2), .val (.int b3), .val (.ref ob10), .unset, .unset, .unset] [(.int b0)])) t₀
          refine XS.ifYes X14.here hx rfl (pc0 := 186) (pc' := 223) rfl (hb hby at_186) rfl ((if0 _ _).trans (feq hc186).2) (by decide) (by decide) ?_
          show Steps p.tables e below (T14.setTop (mkF m 223 #[.val (.int p1), .val (.int p2), .val (.int p3), .val (.int (2 : Int32)), .val (.int b0), .val (.int b1), .val (.int b2), .val (.int b3), .val (.ref ob10), .unset, .unset, .unset] [])) t₀
          refine XS.iconst X14.here hx rfl (hb hby at_223) ?_
          show Steps p.tables e below (T14.setTop (mkF m 224 #[.val (.int p1), .val (.int p2), .val (.int p3), .val (.int (2 : Int32)), .val (.int b0), .val (.int b1), .val (.int b2), .val (.int b3), .val (.ref ob10), .unset, .unset, .unset] [(.int (0 : Int32))])) t₀
          refine XS.istore X14.here hx rfl (hb hby at_224) rfl (l' := #[.val (.int p1), .val (.int p2), .val (.int p3), .val (.int (2 : Int32)), .val (.int b0), .val (.int b1), .val (.int b2), .val (.int b3), .val (.ref ob10), .val (.int (0 : Int32)), .unset, .unset]) rfl ?_
          exact k₀
        exact tq (0 : Int32) (by simp [hb0, hb1, hb2, hb3, hc186])
    ·
      subst hn
      show G (s₁.setTop (mkF m 73 #[.val (.int p1), .val (.int p2), .val (.int p3), .val (.int (3 : Int32)), .val (.int b0), .val (.int b1), .val (.int b2), .val (.int b3), .unset, .unset, .unset, .unset] []))
      refine hG _ (s₁.setTop (mkF m 132 #[.val (.int p1), .val (.int p2), .val (.int p3), .val (.int (3 : Int32)), .val (.int b0), .val (.int b1), .val (.int b2), .val (.int b3), .unset, .unset, .unset, .unset] [(.int (3 : Int32))])) (fun t₀ k₀ => ?_) ?_
      · show Steps p.tables e below (s₁.setTop (mkF m 73 #[.val (.int p1), .val (.int p2), .val (.int p3), .val (.int (3 : Int32)), .val (.int b0), .val (.int b1), .val (.int b2), .val (.int b3), .unset, .unset, .unset, .unset] [])) t₀
        refine XS.iloadN X0.here hx rfl (hb hby at_73) rfl ?_
        show Steps p.tables e below (s₁.setTop (mkF m 74 #[.val (.int p1), .val (.int p2), .val (.int p3), .val (.int (3 : Int32)), .val (.int b0), .val (.int b1), .val (.int b2), .val (.int b3), .unset, .unset, .unset, .unset] [(.int (3 : Int32))])) t₀
        refine XS.ifYes X0.here hx rfl (pc0 := 74) (pc' := 85) rfl (hb hby at_74) rfl ((if0 _ _).trans (feq (by decide : ¬ ((3 : Int32) = (0 : Int32)))).2) (by decide) (by decide) ?_
        show Steps p.tables e below (s₁.setTop (mkF m 85 #[.val (.int p1), .val (.int p2), .val (.int p3), .val (.int (3 : Int32)), .val (.int b0), .val (.int b1), .val (.int b2), .val (.int b3), .unset, .unset, .unset, .unset] [])) t₀
        refine XS.iloadN X0.here hx rfl (hb hby at_85) rfl ?_
        show Steps p.tables e below (s₁.setTop (mkF m 86 #[.val (.int p1), .val (.int p2), .val (.int p3), .val (.int (3 : Int32)), .val (.int b0), .val (.int b1), .val (.int b2), .val (.int b3), .unset, .unset, .unset, .unset] [(.int (3 : Int32))])) t₀
        refine XS.iconst X0.here hx rfl (hb hby at_86) ?_
        show Steps p.tables e below (s₁.setTop (mkF m 87 #[.val (.int p1), .val (.int p2), .val (.int p3), .val (.int (3 : Int32)), .val (.int b0), .val (.int b1), .val (.int b2), .val (.int b3), .unset, .unset, .unset, .unset] [(.int (1 : Int32)), (.int (3 : Int32))])) t₀
        refine XS.icmpYes X0.here hx rfl (pc0 := 87) (pc' := 103) rfl (hb hby at_87) rfl (feq (by decide : ¬ ((3 : Int32) = (1 : Int32)))).2 (by decide) (by decide) ?_
        show Steps p.tables e below (s₁.setTop (mkF m 103 #[.val (.int p1), .val (.int p2), .val (.int p3), .val (.int (3 : Int32)), .val (.int b0), .val (.int b1), .val (.int b2), .val (.int b3), .unset, .unset, .unset, .unset] [])) t₀
        refine XS.iloadN X0.here hx rfl (hb hby at_103) rfl ?_
        show Steps p.tables e below (s₁.setTop (mkF m 104 #[.val (.int p1), .val (.int p2), .val (.int p3), .val (.int (3 : Int32)), .val (.int b0), .val (.int b1), .val (.int b2), .val (.int b3), .unset, .unset, .unset, .unset] [(.int (3 : Int32))])) t₀
        refine XS.iconst X0.here hx rfl (hb hby at_104) ?_
        show Steps p.tables e below (s₁.setTop (mkF m 105 #[.val (.int p1), .val (.int p2), .val (.int p3), .val (.int (3 : Int32)), .val (.int b0), .val (.int b1), .val (.int b2), .val (.int b3), .unset, .unset, .unset, .unset] [(.int (2 : Int32)), (.int (3 : Int32))])) t₀
        refine XS.icmpYes X0.here hx rfl (pc0 := 105) (pc' := 126) rfl (hb hby at_105) rfl (feq (by decide : ¬ ((3 : Int32) = (2 : Int32)))).2 (by decide) (by decide) ?_
        show Steps p.tables e below (s₁.setTop (mkF m 126 #[.val (.int p1), .val (.int p2), .val (.int p3), .val (.int (3 : Int32)), .val (.int b0), .val (.int b1), .val (.int b2), .val (.int b3), .unset, .unset, .unset, .unset] [])) t₀
        refine XS.iloadN X0.here hx rfl (hb hby at_126) rfl ?_
        show Steps p.tables e below (s₁.setTop (mkF m 127 #[.val (.int p1), .val (.int p2), .val (.int p3), .val (.int (3 : Int32)), .val (.int b0), .val (.int b1), .val (.int b2), .val (.int b3), .unset, .unset, .unset, .unset] [(.int (3 : Int32))])) t₀
        refine XS.iconst X0.here hx rfl (hb hby at_127) ?_
        show Steps p.tables e below (s₁.setTop (mkF m 128 #[.val (.int p1), .val (.int p2), .val (.int p3), .val (.int (3 : Int32)), .val (.int b0), .val (.int b1), .val (.int b2), .val (.int b3), .unset, .unset, .unset, .unset] [(.int (3 : Int32)), (.int (3 : Int32))])) t₀
        refine XS.icmpNo X0.here hx rfl (hb hby at_128) rfl (teq (by decide : ((3 : Int32) = (3 : Int32)))).2 ?_
        show Steps p.tables e below (s₁.setTop (mkF m 131 #[.val (.int p1), .val (.int p2), .val (.int p3), .val (.int (3 : Int32)), .val (.int b0), .val (.int b1), .val (.int b2), .val (.int b3), .unset, .unset, .unset, .unset] [])) t₀
        refine XS.iconst X0.here hx rfl (hb hby at_131) ?_
        exact k₀
      obtain ⟨T19, h19, k19, X19, e19, E19, A19, st19⟩ := newP X0 hx hZ (hw _ (List.mem_of_getElem? (i := 1) rfl)) e0 (g := (mkF m 132 #[.val (.int p1), .val (.int p2), .val (.int p3), .val (.int (3 : Int32)), .val (.int b0), .val (.int b1), .val (.int b2), .val (.int b3), .unset, .unset, .unset, .unset] [(.int (3 : Int32))])) rfl (hb hby at_132) rfl (by decide) (cap := 3) (by decide) (by decide) (by decide) (by decide)
      obtain ⟨ob19, g19⟩ : ∃ z, z = h0.size := ⟨_, rfl⟩
      rw [← g19] at A19 st19
      have g_ob19 : n0 ≤ ob19 := Nat.le_trans Z0 (Nat.le_of_eq g19.symm)
      have z_19 : n0 ≤ h19.size := Nat.le_trans Z0 E19.1
      have V_ob19 : Arv Z h19 ob19 k19 .byte (3 : Int32) [(.int (0 : Int32)), (.int (0 : Int32)), (.int (0 : Int32))] (.int (0 : Int32)) := (Arv.new A19 (by decide)).pad (pad_rep [] (.int (0 : Int32)) 3)
      refine hG _ _ (fun t₀ k₀ => st19 _ k₀) ?_
      show G (T19.setTop (mkF m 134 #[.val (.int p1), .val (.int p2), .val (.int p3), .val (.int (3 : Int32)), .val (.int b0), .val (.int b1), .val (.int b2), .val (.int b3), .unset, .unset, .unset, .unset] [(.ref ob19)]))
      refine hG _ (T19.setTop (mkF m 138 #[.val (.int p1), .val (.int p2), .val (.int p3), .val (.int (3 : Int32)), .val (.int b0), .val (.int b1), .val (.int b2), .val (.int b3), .unset, .unset, .unset, .unset] [(.int b0), (.int (0 : Int32)), (.ref ob19), (.ref ob19)])) (fun t₀ k₀ => ?_) ?_
      · show Steps p.tables e below (T19.setTop (mkF m 134 #[.val (.int p1), .val (.int p2), .val (.int p3), .val (.int (3 : Int32)), .val (.int b0), .val (.int b1), .val (.int b2), .val (.int b3), .unset, .unset, .unset, .unset] [(.ref ob19)])) t₀
        refine XS.dup X19.here hx rfl (hb hby at_134) rfl rfl ?_
        show Steps p.tables e below (T19.setTop (mkF m 135 #[.val (.int p1), .val (.int p2), .val (.int p3), .val (.int (3 : Int32)), .val (.int b0), .val (.int b1), .val (.int b2), .val (.int b3), .unset, .unset, .unset, .unset] [(.ref ob19), (.ref ob19)])) t₀
        refine XS.iconst X19.here hx rfl (hb hby at_135) ?_
        show Steps p.tables e below (T19.setTop (mkF m 136 #[.val (.int p1), .val (.int p2), .val (.int p3), .val (.int (3 : Int32)), .val (.int b0), .val (.int b1), .val (.int b2), .val (.int b3), .unset, .unset, .unset, .unset] [(.int (0 : Int32)), (.ref ob19), (.ref ob19)])) t₀
        refine XS.iload X19.here hx rfl (hb hby at_136) rfl ?_
        exact k₀
      have ov20 := V_ob19
      obtain ⟨cl20, Ar20, q20, S20, N_20, H_20, G_20⟩ := ov20
      have hin20 : ¬ ((0 : Int32) < 0 ∨ cl20.slots.size ≤ ((0 : Int32)).toNatClampNeg) := inb_of S20 ⟨by decide, by decide⟩
      obtain ⟨T21, h21, X21, e21, W21, st21⟩ := stB X19 hx hZ e19 Ar20 (j := (0 : Int32)) hin20 (g := (mkF m 138 #[.val (.int p1), .val (.int p2), .val (.int p3), .val (.int (3 : Int32)), .val (.int b0), .val (.int b1), .val (.int b2), .val (.int b3), .unset, .unset, .unset, .unset] [(.int b0), (.int (0 : Int32)), (.ref ob19), (.ref ob19)])) rfl rfl (hb hby at_138)
      refine hG _ _ (fun t₀ k₀ => st21 _ k₀) ?_
      have N21 := Fr.snoc X21 N0 g_ob19
      have z_21 : n0 ≤ h21.size := Nat.le_trans z_19 (Keep.of_wr W21).1
      have V21 : Arv Z h21 ob19 k19 .byte (3 : Int32) [(.int (b0.toInt8.toInt32)), (.int (0 : Int32)), (.int (0 : Int32))] (.int (0 : Int32)) := Arv.set Ar20 q20 S20 N_20 H_20 G_20 (fits_nar_byte _) W21 0 rfl (Nat.le_of_ble_eq_true rfl)
      show G (T21.setTop (mkF m 139 #[.val (.int p1), .val (.int p2), .val (.int p3), .val (.int (3 : Int32)), .val (.int b0), .val (.int b1), .val (.int b2), .val (.int b3), .unset, .unset, .unset, .unset] [(.ref ob19)]))
      refine hG _ (T21.setTop (mkF m 143 #[.val (.int p1), .val (.int p2), .val (.int p3), .val (.int (3 : Int32)), .val (.int b0), .val (.int b1), .val (.int b2), .val (.int b3), .unset, .unset, .unset, .unset] [(.int b1), (.int (1 : Int32)), (.ref ob19), (.ref ob19)])) (fun t₀ k₀ => ?_) ?_
      · show Steps p.tables e below (T21.setTop (mkF m 139 #[.val (.int p1), .val (.int p2), .val (.int p3), .val (.int (3 : Int32)), .val (.int b0), .val (.int b1), .val (.int b2), .val (.int b3), .unset, .unset, .unset, .unset] [(.ref ob19)])) t₀
        refine XS.dup X21.here hx rfl (hb hby at_139) rfl rfl ?_
        show Steps p.tables e below (T21.setTop (mkF m 140 #[.val (.int p1), .val (.int p2), .val (.int p3), .val (.int (3 : Int32)), .val (.int b0), .val (.int b1), .val (.int b2), .val (.int b3), .unset, .unset, .unset, .unset] [(.ref ob19), (.ref ob19)])) t₀
        refine XS.iconst X21.here hx rfl (hb hby at_140) ?_
        show Steps p.tables e below (T21.setTop (mkF m 141 #[.val (.int p1), .val (.int p2), .val (.int p3), .val (.int (3 : Int32)), .val (.int b0), .val (.int b1), .val (.int b2), .val (.int b3), .unset, .unset, .unset, .unset] [(.int (1 : Int32)), (.ref ob19), (.ref ob19)])) t₀
        refine XS.iload X21.here hx rfl (hb hby at_141) rfl ?_
        exact k₀
      have ov22 := V21
      obtain ⟨cl22, Ar22, q22, S22, N_22, H_22, G_22⟩ := ov22
      have hin22 : ¬ ((1 : Int32) < 0 ∨ cl22.slots.size ≤ ((1 : Int32)).toNatClampNeg) := inb_of S22 ⟨by decide, by decide⟩
      obtain ⟨T23, h23, X23, e23, W23, st23⟩ := stB X21 hx hZ e21 Ar22 (j := (1 : Int32)) hin22 (g := (mkF m 143 #[.val (.int p1), .val (.int p2), .val (.int p3), .val (.int (3 : Int32)), .val (.int b0), .val (.int b1), .val (.int b2), .val (.int b3), .unset, .unset, .unset, .unset] [(.int b1), (.int (1 : Int32)), (.ref ob19), (.ref ob19)])) rfl rfl (hb hby at_143)
      refine hG _ _ (fun t₀ k₀ => st23 _ k₀) ?_
      have N23 := Fr.snoc X23 N21 g_ob19
      have z_23 : n0 ≤ h23.size := Nat.le_trans z_21 (Keep.of_wr W23).1
      have V23 : Arv Z h23 ob19 k19 .byte (3 : Int32) [(.int (b0.toInt8.toInt32)), (.int (b1.toInt8.toInt32)), (.int (0 : Int32))] (.int (0 : Int32)) := Arv.set Ar22 q22 S22 N_22 H_22 G_22 (fits_nar_byte _) W23 1 rfl (Nat.le_of_ble_eq_true rfl)
      show G (T23.setTop (mkF m 144 #[.val (.int p1), .val (.int p2), .val (.int p3), .val (.int (3 : Int32)), .val (.int b0), .val (.int b1), .val (.int b2), .val (.int b3), .unset, .unset, .unset, .unset] [(.ref ob19)]))
      refine hG _ (T23.setTop (mkF m 148 #[.val (.int p1), .val (.int p2), .val (.int p3), .val (.int (3 : Int32)), .val (.int b0), .val (.int b1), .val (.int b2), .val (.int b3), .unset, .unset, .unset, .unset] [(.int b2), (.int (2 : Int32)), (.ref ob19), (.ref ob19)])) (fun t₀ k₀ => ?_) ?_
      · show Steps p.tables e below (T23.setTop (mkF m 144 #[.val (.int p1), .val (.int p2), .val (.int p3), .val (.int (3 : Int32)), .val (.int b0), .val (.int b1), .val (.int b2), .val (.int b3), .unset, .unset, .unset, .unset] [(.ref ob19)])) t₀
        refine XS.dup X23.here hx rfl (hb hby at_144) rfl rfl ?_
        show Steps p.tables e below (T23.setTop (mkF m 145 #[.val (.int p1), .val (.int p2), .val (.int p3), .val (.int (3 : Int32)), .val (.int b0), .val (.int b1), .val (.int b2), .val (.int b3), .unset, .unset, .unset, .unset] [(.ref ob19), (.ref ob19)])) t₀
        refine XS.iconst X23.here hx rfl (hb hby at_145) ?_
        show Steps p.tables e below (T23.setTop (mkF m 146 #[.val (.int p1), .val (.int p2), .val (.int p3), .val (.int (3 : Int32)), .val (.int b0), .val (.int b1), .val (.int b2), .val (.int b3), .unset, .unset, .unset, .unset] [(.int (2 : Int32)), (.ref ob19), (.ref ob19)])) t₀
        refine XS.iload X23.here hx rfl (hb hby at_146) rfl ?_
        exact k₀
      have ov24 := V23
      obtain ⟨cl24, Ar24, q24, S24, N_24, H_24, G_24⟩ := ov24
      have hin24 : ¬ ((2 : Int32) < 0 ∨ cl24.slots.size ≤ ((2 : Int32)).toNatClampNeg) := inb_of S24 ⟨by decide, by decide⟩
      obtain ⟨T25, h25, X25, e25, W25, st25⟩ := stB X23 hx hZ e23 Ar24 (j := (2 : Int32)) hin24 (g := (mkF m 148 #[.val (.int p1), .val (.int p2), .val (.int p3), .val (.int (3 : Int32)), .val (.int b0), .val (.int b1), .val (.int b2), .val (.int b3), .unset, .unset, .unset, .unset] [(.int b2), (.int (2 : Int32)), (.ref ob19), (.ref ob19)])) rfl rfl (hb hby at_148)
      refine hG _ _ (fun t₀ k₀ => st25 _ k₀) ?_
      have N25 := Fr.snoc X25 N23 g_ob19
      have z_25 : n0 ≤ h25.size := Nat.le_trans z_23 (Keep.of_wr W25).1
      have V25 : Arv Z h25 ob19 k19 .byte (3 : Int32) [(.int (b0.toInt8.toInt32)), (.int (b1.toInt8.toInt32)), (.int (b2.toInt8.toInt32))] (.int (0 : Int32)) := Arv.set Ar24 q24 S24 N_24 H_24 G_24 (fits_nar_byte _) W25 2 rfl (Nat.le_of_ble_eq_true rfl)
      show G (T25.setTop (mkF m 149 #[.val (.int p1), .val (.int p2), .val (.int p3), .val (.int (3 : Int32)), .val (.int b0), .val (.int b1), .val (.int b2), .val (.int b3), .unset, .unset, .unset, .unset] [(.ref ob19)]))
      refine hG _ (T25.setTop (mkF m 179 #[.val (.int p1), .val (.int p2), .val (.int p3), .val (.int (3 : Int32)), .val (.int b0), .val (.int b1), .val (.int b2), .val (.int b3), .val (.ref ob19), .unset, .unset, .unset] [])) (fun t₀ k₀ => ?_) ?_
      · show Steps p.tables e below (T25.setTop (mkF m 149 #[.val (.int p1), .val (.int p2), .val (.int p3), .val (.int (3 : Int32)), .val (.int b0), .val (.int b1), .val (.int b2), .val (.int b3), .unset, .unset, .unset, .unset] [(.ref ob19)])) t₀
        refine XS.astore X25.here hx rfl (hb hby at_149) rfl rfl (l' := #[.val (.int p1), .val (.int p2), .val (.int p3), .val (.int (3 : Int32)), .val (.int b0), .val (.int b1), .val (.int b2), .val (.int b3), .val (.ref ob19), .unset, .unset, .unset]) rfl ?_
        show Steps p.tables e below (T25.setTop (mkF m 151 #[.val (.int p1), .val (.int p2), .val (.int p3), .val (.int (3 : Int32)), .val (.int b0), .val (.int b1), .val (.int b2), .val (.int b3), .val (.ref ob19), .unset, .unset, .unset] [])) t₀
        refine XS.goto X25.here hx rfl (pc0 := 151) (pc' := 179) rfl (hb hby at_151) (by decide) (by decide) ?_
        exact k₀
      have tq : ∀  (ex : Int32) (hr : (if (b0.toInt8.toInt32) = (0 : Int32) ∧ (b1.toInt8.toInt32) = (0 : Int32) ∧ (b2.toInt8.toInt32) = (0 : Int32) then (1 : Int32) else 0) = ex), G (T25.setTop (mkF m 226 #[.val (.int p1), .val (.int p2), .val (.int p3), .val (.int (3 : Int32)), .val (.int b0), .val (.int b1), .val (.int b2), .val (.int b3), .val (.ref ob19), .val (.int ex), .unset, .unset] [])) := by
        intro ex hr
        refine hG _ (T25.setTop (mkF m 228 #[.val (.int p1), .val (.int p2), .val (.int p3), .val (.int (3 : Int32)), .val (.int b0), .val (.int b1), .val (.int b2), .val (.int b3), .val (.ref ob19), .val (.int ex), .unset, .unset] [(.ref ob19)])) (fun t₀ k₀ => ?_) ?_
        · show Steps p.tables e below (T25.setTop (mkF m 226 #[.val (.int p1), .val (.int p2), .val (.int p3), .val (.int (3 : Int32)), .val (.int b0), .val (.int b1), .val (.int b2), .val (.int b3), .val (.ref ob19), .val (.int ex), .unset, .unset] [])) t₀
          refine XS.aload X25.here hx rfl (hb hby at_226) rfl rfl ?_
          exact k₀
        obtain ⟨_, _, ⟨T26, L26, k26, n26⟩, -, X26, ⟨Lc26, hQ26, l26, y26, z26⟩, st26⟩ := Jvm.LawKit.callS X25 hx (y := (⟨"com/example/ordercast/ordercast/history/History", "isInitial", "([B)Z"⟩ : MethodName)) hown (mvT hZ (hw _ (List.mem_of_getElem? (i := 2) rfl))) (mvT hZ (hw _ (List.mem_of_getElem? (i := 3) rfl))) (mvT hZ (hw _ (List.mem_of_getElem? (i := 4) rfl))) (mvT hZ (hw _ (List.mem_of_getElem? (i := 5) rfl))) (by decide) (backOf (W := 0) (rmL3 l Z a0 hw [] ob19 k19 (b0.toInt8.toInt32) (b1.toInt8.toInt32) (b2.toInt8.toInt32) ex h25 n0 z_25 V25 hr) hZ (hw _ (List.mem_of_getElem? (i := 5) rfl)) (hw _ (List.mem_of_getElem? (i := 4) rfl)) (by decide) (by decide)) (g := (mkF m 228 #[.val (.int p1), .val (.int p2), .val (.int p3), .val (.int (3 : Int32)), .val (.int b0), .val (.int b1), .val (.int b2), .val (.int b3), .val (.ref ob19), .val (.int ex), .unset, .unset] [(.ref ob19)])) rfl (by rw [hml]; rfl) (argsL := [(.ref ob19)]) (rest := []) (lenOf pd_0 rfl) rfl (by show 2 * 0 + _ ≤ _; exact Nat.le_of_eq rfl) (hb hby at_228) (fun _ _ => ⟨rfl, e25, (by decide : 1 + 0 ≤ _), (by decide : 3 + 0 ≤ _)⟩)
        dsimp only [Pt.U, Pt.locs, Pt.cells, Pt.slots] at X26 l26 y26 z26 st26 hQ26
        subst l26 y26 z26
        obtain ⟨rfl, N26q, e26⟩ := hQ26
        have N26 := Fr.app N25 N26q
        refine hG _ _ (fun t₀ k₀ => st26 _ k₀) ?_
        show G (T26.setTop (mkF m 231 #[.val (.int p1), .val (.int p2), .val (.int p3), .val (.int (3 : Int32)), .val (.int b0), .val (.int b1), .val (.int b2), .val (.int b3), .val (.ref ob19), .val (.int ex), .unset, .unset] [(.int ex)]))
        refine hG _ (T26.setTop (mkF m 235 #[.val (.int p1), .val (.int p2), .val (.int p3), .val (.int (3 : Int32)), .val (.int b0), .val (.int b1), .val (.int b2), .val (.int b3), .val (.ref ob19), .val (.int ex), .val (.int ex), .unset] [(.ref ob19)])) (fun t₀ k₀ => ?_) ?_
        · show Steps p.tables e below (T26.setTop (mkF m 231 #[.val (.int p1), .val (.int p2), .val (.int p3), .val (.int (3 : Int32)), .val (.int b0), .val (.int b1), .val (.int b2), .val (.int b3), .val (.ref ob19), .val (.int ex), .unset, .unset] [(.int ex)])) t₀
          refine XS.istore X26.here hx rfl (hb hby at_231) rfl (l' := #[.val (.int p1), .val (.int p2), .val (.int p3), .val (.int (3 : Int32)), .val (.int b0), .val (.int b1), .val (.int b2), .val (.int b3), .val (.ref ob19), .val (.int ex), .val (.int ex), .unset]) rfl ?_
          show Steps p.tables e below (T26.setTop (mkF m 233 #[.val (.int p1), .val (.int p2), .val (.int p3), .val (.int (3 : Int32)), .val (.int b0), .val (.int b1), .val (.int b2), .val (.int b3), .val (.ref ob19), .val (.int ex), .val (.int ex), .unset] [])) t₀
          refine XS.aload X26.here hx rfl (hb hby at_233) rfl rfl ?_
          exact k₀
        have ov27 := V25
        obtain ⟨cl27, Ar27, q27, S27, N_27, H_27, G_27⟩ := ov27
        refine hG _ (T26.setTop (mkF m 248 #[.val (.int p1), .val (.int p2), .val (.int p3), .val (.int (3 : Int32)), .val (.int b0), .val (.int b1), .val (.int b2), .val (.int b3), .val (.ref ob19), .val (.int ex), .val (.int ex), .unset] [(.int (0 : Int32)), (.ref ob19)])) (fun t₀ k₀ => ?_) ?_
        · show Steps p.tables e below (T26.setTop (mkF m 235 #[.val (.int p1), .val (.int p2), .val (.int p3), .val (.int (3 : Int32)), .val (.int b0), .val (.int b1), .val (.int b2), .val (.int b3), .val (.ref ob19), .val (.int ex), .val (.int ex), .unset] [(.ref ob19)])) t₀
          refine X26.arraylength hx (by rw [e26]; exact Ar27.1) (State.isArrayOf_alike hZ.alike Ar27.2.1) (g := (mkF m 235 #[.val (.int p1), .val (.int p2), .val (.int p3), .val (.int (3 : Int32)), .val (.int b0), .val (.int b1), .val (.int b2), .val (.int b3), .val (.ref ob19), .val (.int ex), .val (.int ex), .unset] [(.ref ob19)])) rfl rfl (hb hby at_235) _ ?_
          rw [len_of S27 N_27]
          show Steps p.tables e below (T26.setTop (mkF m 236 #[.val (.int p1), .val (.int p2), .val (.int p3), .val (.int (3 : Int32)), .val (.int b0), .val (.int b1), .val (.int b2), .val (.int b3), .val (.ref ob19), .val (.int ex), .val (.int ex), .unset] [(.int (3 : Int32))])) t₀
          refine XS.iloadN X26.here hx rfl (hb hby at_236) rfl ?_
          show Steps p.tables e below (T26.setTop (mkF m 237 #[.val (.int p1), .val (.int p2), .val (.int p3), .val (.int (3 : Int32)), .val (.int b0), .val (.int b1), .val (.int b2), .val (.int b3), .val (.ref ob19), .val (.int ex), .val (.int ex), .unset] [(.int (3 : Int32)), (.int (3 : Int32))])) t₀
          refine XS.icmpNo X26.here hx rfl (hb hby at_237) rfl (teq (by decide : ((3 : Int32) = (3 : Int32)))).2 ?_
          show Steps p.tables e below (T26.setTop (mkF m 240 #[.val (.int p1), .val (.int p2), .val (.int p3), .val (.int (3 : Int32)), .val (.int b0), .val (.int b1), .val (.int b2), .val (.int b3), .val (.ref ob19), .val (.int ex), .val (.int ex), .unset] [])) t₀
          refine XS.iloadN X26.here hx rfl (hb hby at_240) rfl ?_
          show Steps p.tables e below (T26.setTop (mkF m 241 #[.val (.int p1), .val (.int p2), .val (.int p3), .val (.int (3 : Int32)), .val (.int b0), .val (.int b1), .val (.int b2), .val (.int b3), .val (.ref ob19), .val (.int ex), .val (.int ex), .unset] [(.int (3 : Int32))])) t₀
          refine XS.iconst X26.here hx rfl (hb hby at_241) ?_
          show Steps p.tables e below (T26.setTop (mkF m 242 #[.val (.int p1), .val (.int p2), .val (.int p3), .val (.int (3 : Int32)), .val (.int b0), .val (.int b1), .val (.int b2), .val (.int b3), .val (.ref ob19), .val (.int ex), .val (.int ex), .unset] [(.int (1 : Int32)), (.int (3 : Int32))])) t₀
          refine XS.icmpNo X26.here hx rfl (hb hby at_242) rfl (flt (by decide : ¬ ((3 : Int32) < (1 : Int32)))).1 ?_
          show Steps p.tables e below (T26.setTop (mkF m 245 #[.val (.int p1), .val (.int p2), .val (.int p3), .val (.int (3 : Int32)), .val (.int b0), .val (.int b1), .val (.int b2), .val (.int b3), .val (.ref ob19), .val (.int ex), .val (.int ex), .unset] [])) t₀
          refine XS.aload X26.here hx rfl (hb hby at_245) rfl rfl ?_
          show Steps p.tables e below (T26.setTop (mkF m 247 #[.val (.int p1), .val (.int p2), .val (.int p3), .val (.int (3 : Int32)), .val (.int b0), .val (.int b1), .val (.int b2), .val (.int b3), .val (.ref ob19), .val (.int ex), .val (.int ex), .unset] [(.ref ob19)])) t₀
          refine XS.iconst X26.here hx rfl (hb hby at_247) ?_
          exact k₀
        have ov28 := V25
        obtain ⟨cl28, Ar28, q28, S28, N_28, H_28, G_28⟩ := ov28
        have hin28 : ¬ ((0 : Int32) < 0 ∨ cl28.slots.size ≤ ((0 : Int32)).toNatClampNeg) := inb_of S28 ⟨by decide, by decide⟩
        have hat28 : cl28.slots[((0 : Int32)).toNatClampNeg]? = some (.int (b0.toInt8.toInt32)) := H_28.at hin28 rfl
        refine hG _ (T26.setTop (mkF m 262 #[.val (.int p1), .val (.int p2), .val (.int p3), .val (.int (3 : Int32)), .val (.int b0), .val (.int b1), .val (.int b2), .val (.int b3), .val (.ref ob19), .val (.int ex), .val (.int ex), .unset] [(.int (1 : Int32)), (.ref ob19)])) (fun t₀ k₀ => ?_) ?_
        · show Steps p.tables e below (T26.setTop (mkF m 248 #[.val (.int p1), .val (.int p2), .val (.int p3), .val (.int (3 : Int32)), .val (.int b0), .val (.int b1), .val (.int b2), .val (.int b3), .val (.ref ob19), .val (.int ex), .val (.int ex), .unset] [(.int (0 : Int32)), (.ref ob19)])) t₀
          refine X26.baloadBytes hx (j := (0 : Int32)) (v := (.int (b0.toInt8.toInt32))) (by rw [e26]; exact Ar28.1) (State.isArrayOf_alike hZ.alike Ar28.2.1) Ar28.2.2 hin28 hat28 (g := (mkF m 248 #[.val (.int p1), .val (.int p2), .val (.int p3), .val (.int (3 : Int32)), .val (.int b0), .val (.int b1), .val (.int b2), .val (.int b3), .val (.ref ob19), .val (.int ex), .val (.int ex), .unset] [(.int (0 : Int32)), (.ref ob19)])) rfl rfl (hb hby at_248) _ ?_
          show Steps p.tables e below (T26.setTop (mkF m 249 #[.val (.int p1), .val (.int p2), .val (.int p3), .val (.int (3 : Int32)), .val (.int b0), .val (.int b1), .val (.int b2), .val (.int b3), .val (.ref ob19), .val (.int ex), .val (.int ex), .unset] [(.int (b0.toInt8.toInt32))])) t₀
          refine XS.iload X26.here hx rfl (hb hby at_249) rfl ?_
          show Steps p.tables e below (T26.setTop (mkF m 251 #[.val (.int p1), .val (.int p2), .val (.int p3), .val (.int (3 : Int32)), .val (.int b0), .val (.int b1), .val (.int b2), .val (.int b3), .val (.ref ob19), .val (.int ex), .val (.int ex), .unset] [(.int b0), (.int (b0.toInt8.toInt32))])) t₀
          refine XS.icmpNo X26.here hx rfl (hb hby at_251) rfl (teq hb0).2 ?_
          show Steps p.tables e below (T26.setTop (mkF m 254 #[.val (.int p1), .val (.int p2), .val (.int p3), .val (.int (3 : Int32)), .val (.int b0), .val (.int b1), .val (.int b2), .val (.int b3), .val (.ref ob19), .val (.int ex), .val (.int ex), .unset] [])) t₀
          refine XS.iloadN X26.here hx rfl (hb hby at_254) rfl ?_
          show Steps p.tables e below (T26.setTop (mkF m 255 #[.val (.int p1), .val (.int p2), .val (.int p3), .val (.int (3 : Int32)), .val (.int b0), .val (.int b1), .val (.int b2), .val (.int b3), .val (.ref ob19), .val (.int ex), .val (.int ex), .unset] [(.int (3 : Int32))])) t₀
          refine XS.iconst X26.here hx rfl (hb hby at_255) ?_
          show Steps p.tables e below (T26.setTop (mkF m 256 #[.val (.int p1), .val (.int p2), .val (.int p3), .val (.int (3 : Int32)), .val (.int b0), .val (.int b1), .val (.int b2), .val (.int b3), .val (.ref ob19), .val (.int ex), .val (.int ex), .unset] [(.int (2 : Int32)), (.int (3 : Int32))])) t₀
          refine XS.icmpNo X26.here hx rfl (hb hby at_256) rfl (flt (by decide : ¬ ((3 : Int32) < (2 : Int32)))).1 ?_
          show Steps p.tables e below (T26.setTop (mkF m 259 #[.val (.int p1), .val (.int p2), .val (.int p3), .val (.int (3 : Int32)), .val (.int b0), .val (.int b1), .val (.int b2), .val (.int b3), .val (.ref ob19), .val (.int ex), .val (.int ex), .unset] [])) t₀
          refine XS.aload X26.here hx rfl (hb hby at_259) rfl rfl ?_
          show Steps p.tables e below (T26.setTop (mkF m 261 #[.val (.int p1), .val (.int p2), .val (.int p3), .val (.int (3 : Int32)), .val (.int b0), .val (.int b1), .val (.int b2), .val (.int b3), .val (.ref ob19), .val (.int ex), .val (.int ex), .unset] [(.ref ob19)])) t₀
          refine XS.iconst X26.here hx rfl (hb hby at_261) ?_
          exact k₀
        have ov29 := V25
        obtain ⟨cl29, Ar29, q29, S29, N_29, H_29, G_29⟩ := ov29
        have hin29 : ¬ ((1 : Int32) < 0 ∨ cl29.slots.size ≤ ((1 : Int32)).toNatClampNeg) := inb_of S29 ⟨by decide, by decide⟩
        have hat29 : cl29.slots[((1 : Int32)).toNatClampNeg]? = some (.int (b1.toInt8.toInt32)) := H_29.at hin29 rfl
        refine hG _ (T26.setTop (mkF m 276 #[.val (.int p1), .val (.int p2), .val (.int p3), .val (.int (3 : Int32)), .val (.int b0), .val (.int b1), .val (.int b2), .val (.int b3), .val (.ref ob19), .val (.int ex), .val (.int ex), .unset] [(.int (2 : Int32)), (.ref ob19)])) (fun t₀ k₀ => ?_) ?_
        · show Steps p.tables e below (T26.setTop (mkF m 262 #[.val (.int p1), .val (.int p2), .val (.int p3), .val (.int (3 : Int32)), .val (.int b0), .val (.int b1), .val (.int b2), .val (.int b3), .val (.ref ob19), .val (.int ex), .val (.int ex), .unset] [(.int (1 : Int32)), (.ref ob19)])) t₀
          refine X26.baloadBytes hx (j := (1 : Int32)) (v := (.int (b1.toInt8.toInt32))) (by rw [e26]; exact Ar29.1) (State.isArrayOf_alike hZ.alike Ar29.2.1) Ar29.2.2 hin29 hat29 (g := (mkF m 262 #[.val (.int p1), .val (.int p2), .val (.int p3), .val (.int (3 : Int32)), .val (.int b0), .val (.int b1), .val (.int b2), .val (.int b3), .val (.ref ob19), .val (.int ex), .val (.int ex), .unset] [(.int (1 : Int32)), (.ref ob19)])) rfl rfl (hb hby at_262) _ ?_
          show Steps p.tables e below (T26.setTop (mkF m 263 #[.val (.int p1), .val (.int p2), .val (.int p3), .val (.int (3 : Int32)), .val (.int b0), .val (.int b1), .val (.int b2), .val (.int b3), .val (.ref ob19), .val (.int ex), .val (.int ex), .unset] [(.int (b1.toInt8.toInt32))])) t₀
          refine XS.iload X26.here hx rfl (hb hby at_263) rfl ?_
          show Steps p.tables e below (T26.setTop (mkF m 265 #[.val (.int p1), .val (.int p2), .val (.int p3), .val (.int (3 : Int32)), .val (.int b0), .val (.int b1), .val (.int b2), .val (.int b3), .val (.ref ob19), .val (.int ex), .val (.int ex), .unset] [(.int b1), (.int (b1.toInt8.toInt32))])) t₀
          refine XS.icmpNo X26.here hx rfl (hb hby at_265) rfl (teq hb1).2 ?_
          show Steps p.tables e below (T26.setTop (mkF m 268 #[.val (.int p1), .val (.int p2), .val (.int p3), .val (.int (3 : Int32)), .val (.int b0), .val (.int b1), .val (.int b2), .val (.int b3), .val (.ref ob19), .val (.int ex), .val (.int ex), .unset] [])) t₀
          refine XS.iloadN X26.here hx rfl (hb hby at_268) rfl ?_
          show Steps p.tables e below (T26.setTop (mkF m 269 #[.val (.int p1), .val (.int p2), .val (.int p3), .val (.int (3 : Int32)), .val (.int b0), .val (.int b1), .val (.int b2), .val (.int b3), .val (.ref ob19), .val (.int ex), .val (.int ex), .unset] [(.int (3 : Int32))])) t₀
          refine XS.iconst X26.here hx rfl (hb hby at_269) ?_
          show Steps p.tables e below (T26.setTop (mkF m 270 #[.val (.int p1), .val (.int p2), .val (.int p3), .val (.int (3 : Int32)), .val (.int b0), .val (.int b1), .val (.int b2), .val (.int b3), .val (.ref ob19), .val (.int ex), .val (.int ex), .unset] [(.int (3 : Int32)), (.int (3 : Int32))])) t₀
          refine XS.icmpNo X26.here hx rfl (hb hby at_270) rfl (flt (by decide : ¬ ((3 : Int32) < (3 : Int32)))).1 ?_
          show Steps p.tables e below (T26.setTop (mkF m 273 #[.val (.int p1), .val (.int p2), .val (.int p3), .val (.int (3 : Int32)), .val (.int b0), .val (.int b1), .val (.int b2), .val (.int b3), .val (.ref ob19), .val (.int ex), .val (.int ex), .unset] [])) t₀
          refine XS.aload X26.here hx rfl (hb hby at_273) rfl rfl ?_
          show Steps p.tables e below (T26.setTop (mkF m 275 #[.val (.int p1), .val (.int p2), .val (.int p3), .val (.int (3 : Int32)), .val (.int b0), .val (.int b1), .val (.int b2), .val (.int b3), .val (.ref ob19), .val (.int ex), .val (.int ex), .unset] [(.ref ob19)])) t₀
          refine XS.iconst X26.here hx rfl (hb hby at_275) ?_
          exact k₀
        have ov30 := V25
        obtain ⟨cl30, Ar30, q30, S30, N_30, H_30, G_30⟩ := ov30
        have hin30 : ¬ ((2 : Int32) < 0 ∨ cl30.slots.size ≤ ((2 : Int32)).toNatClampNeg) := inb_of S30 ⟨by decide, by decide⟩
        have hat30 : cl30.slots[((2 : Int32)).toNatClampNeg]? = some (.int (b2.toInt8.toInt32)) := H_30.at hin30 rfl
        refine hG _ (T26.setTop (mkF m 320 #[.val (.int p1), .val (.int p2), .val (.int p3), .val (.int (3 : Int32)), .val (.int b0), .val (.int b1), .val (.int b2), .val (.int b3), .val (.ref ob19), .val (.int ex), .val (.int ex), .val (.int (1 : Int32))] [(.int (1 : Int32))])) (fun t₀ k₀ => ?_) ?_
        · show Steps p.tables e below (T26.setTop (mkF m 276 #[.val (.int p1), .val (.int p2), .val (.int p3), .val (.int (3 : Int32)), .val (.int b0), .val (.int b1), .val (.int b2), .val (.int b3), .val (.ref ob19), .val (.int ex), .val (.int ex), .unset] [(.int (2 : Int32)), (.ref ob19)])) t₀
          refine X26.baloadBytes hx (j := (2 : Int32)) (v := (.int (b2.toInt8.toInt32))) (by rw [e26]; exact Ar30.1) (State.isArrayOf_alike hZ.alike Ar30.2.1) Ar30.2.2 hin30 hat30 (g := (mkF m 276 #[.val (.int p1), .val (.int p2), .val (.int p3), .val (.int (3 : Int32)), .val (.int b0), .val (.int b1), .val (.int b2), .val (.int b3), .val (.ref ob19), .val (.int ex), .val (.int ex), .unset] [(.int (2 : Int32)), (.ref ob19)])) rfl rfl (hb hby at_276) _ ?_
          show Steps p.tables e below (T26.setTop (mkF m 277 #[.val (.int p1), .val (.int p2), .val (.int p3), .val (.int (3 : Int32)), .val (.int b0), .val (.int b1), .val (.int b2), .val (.int b3), .val (.ref ob19), .val (.int ex), .val (.int ex), .unset] [(.int (b2.toInt8.toInt32))])) t₀
          refine XS.iload X26.here hx rfl (hb hby at_277) rfl ?_
          show Steps p.tables e below (T26.setTop (mkF m 279 #[.val (.int p1), .val (.int p2), .val (.int p3), .val (.int (3 : Int32)), .val (.int b0), .val (.int b1), .val (.int b2), .val (.int b3), .val (.ref ob19), .val (.int ex), .val (.int ex), .unset] [(.int b2), (.int (b2.toInt8.toInt32))])) t₀
          refine XS.icmpNo X26.here hx rfl (hb hby at_279) rfl (teq hb2).2 ?_
          show Steps p.tables e below (T26.setTop (mkF m 282 #[.val (.int p1), .val (.int p2), .val (.int p3), .val (.int (3 : Int32)), .val (.int b0), .val (.int b1), .val (.int b2), .val (.int b3), .val (.ref ob19), .val (.int ex), .val (.int ex), .unset] [])) t₀
          refine XS.iloadN X26.here hx rfl (hb hby at_282) rfl ?_
          show Steps p.tables e below (T26.setTop (mkF m 283 #[.val (.int p1), .val (.int p2), .val (.int p3), .val (.int (3 : Int32)), .val (.int b0), .val (.int b1), .val (.int b2), .val (.int b3), .val (.ref ob19), .val (.int ex), .val (.int ex), .unset] [(.int (3 : Int32))])) t₀
          refine XS.iconst X26.here hx rfl (hb hby at_283) ?_
          show Steps p.tables e below (T26.setTop (mkF m 284 #[.val (.int p1), .val (.int p2), .val (.int p3), .val (.int (3 : Int32)), .val (.int b0), .val (.int b1), .val (.int b2), .val (.int b3), .val (.ref ob19), .val (.int ex), .val (.int ex), .unset] [(.int (4 : Int32)), (.int (3 : Int32))])) t₀
          refine XS.icmpYes X26.here hx rfl (pc0 := 284) (pc' := 296) rfl (hb hby at_284) rfl (tlt (by decide : ((3 : Int32) < (4 : Int32)))).1 (by decide) (by decide) ?_
          show Steps p.tables e below (T26.setTop (mkF m 296 #[.val (.int p1), .val (.int p2), .val (.int p3), .val (.int (3 : Int32)), .val (.int b0), .val (.int b1), .val (.int b2), .val (.int b3), .val (.ref ob19), .val (.int ex), .val (.int ex), .unset] [])) t₀
          refine XS.iconst X26.here hx rfl (hb hby at_296) ?_
          show Steps p.tables e below (T26.setTop (mkF m 297 #[.val (.int p1), .val (.int p2), .val (.int p3), .val (.int (3 : Int32)), .val (.int b0), .val (.int b1), .val (.int b2), .val (.int b3), .val (.ref ob19), .val (.int ex), .val (.int ex), .unset] [(.int (1 : Int32))])) t₀
          refine XS.goto X26.here hx rfl (pc0 := 297) (pc' := 301) rfl (hb hby at_297) (by decide) (by decide) ?_
          show Steps p.tables e below (T26.setTop (mkF m 301 #[.val (.int p1), .val (.int p2), .val (.int p3), .val (.int (3 : Int32)), .val (.int b0), .val (.int b1), .val (.int b2), .val (.int b3), .val (.ref ob19), .val (.int ex), .val (.int ex), .unset] [(.int (1 : Int32))])) t₀
          refine XS.istore X26.here hx rfl (hb hby at_301) rfl (l' := #[.val (.int p1), .val (.int p2), .val (.int p3), .val (.int (3 : Int32)), .val (.int b0), .val (.int b1), .val (.int b2), .val (.int b3), .val (.ref ob19), .val (.int ex), .val (.int ex), .val (.int (1 : Int32))]) rfl ?_
          show Steps p.tables e below (T26.setTop (mkF m 303 #[.val (.int p1), .val (.int p2), .val (.int p3), .val (.int (3 : Int32)), .val (.int b0), .val (.int b1), .val (.int b2), .val (.int b3), .val (.ref ob19), .val (.int ex), .val (.int ex), .val (.int (1 : Int32))] [])) t₀
          refine XS.iload X26.here hx rfl (hb hby at_303) rfl ?_
          show Steps p.tables e below (T26.setTop (mkF m 305 #[.val (.int p1), .val (.int p2), .val (.int p3), .val (.int (3 : Int32)), .val (.int b0), .val (.int b1), .val (.int b2), .val (.int b3), .val (.ref ob19), .val (.int ex), .val (.int ex), .val (.int (1 : Int32))] [(.int ex)])) t₀
          refine XS.iload X26.here hx rfl (hb hby at_305) rfl ?_
          show Steps p.tables e below (T26.setTop (mkF m 307 #[.val (.int p1), .val (.int p2), .val (.int p3), .val (.int (3 : Int32)), .val (.int b0), .val (.int b1), .val (.int b2), .val (.int b3), .val (.ref ob19), .val (.int ex), .val (.int ex), .val (.int (1 : Int32))] [(.int ex), (.int ex)])) t₀
          refine XS.icmpNo X26.here hx rfl (hb hby at_307) rfl (teq rfl).2 ?_
          show Steps p.tables e below (T26.setTop (mkF m 310 #[.val (.int p1), .val (.int p2), .val (.int p3), .val (.int (3 : Int32)), .val (.int b0), .val (.int b1), .val (.int b2), .val (.int b3), .val (.ref ob19), .val (.int ex), .val (.int ex), .val (.int (1 : Int32))] [])) t₀
          refine XS.iload X26.here hx rfl (hb hby at_310) rfl ?_
          show Steps p.tables e below (T26.setTop (mkF m 312 #[.val (.int p1), .val (.int p2), .val (.int p3), .val (.int (3 : Int32)), .val (.int b0), .val (.int b1), .val (.int b2), .val (.int b3), .val (.ref ob19), .val (.int ex), .val (.int ex), .val (.int (1 : Int32))] [(.int (1 : Int32))])) t₀
          refine XS.ifNo X26.here hx rfl (hb hby at_312) rfl ((if0 _ _).trans (feq (by decide : ¬ ((1 : Int32) = (0 : Int32)))).1) ?_
          show Steps p.tables e below (T26.setTop (mkF m 315 #[.val (.int p1), .val (.int p2), .val (.int p3), .val (.int (3 : Int32)), .val (.int b0), .val (.int b1), .val (.int b2), .val (.int b3), .val (.ref ob19), .val (.int ex), .val (.int ex), .val (.int (1 : Int32))] [])) t₀
          refine XS.iconst X26.here hx rfl (hb hby at_315) ?_
          show Steps p.tables e below (T26.setTop (mkF m 316 #[.val (.int p1), .val (.int p2), .val (.int p3), .val (.int (3 : Int32)), .val (.int b0), .val (.int b1), .val (.int b2), .val (.int b3), .val (.ref ob19), .val (.int ex), .val (.int ex), .val (.int (1 : Int32))] [(.int (1 : Int32))])) t₀
          refine XS.goto X26.here hx rfl (pc0 := 316) (pc' := 320) rfl (hb hby at_316) (by decide) (by decide) ?_
          exact k₀
        refine hF _ T26 _ _ _ (some (.int (1 : Int32))) _ X26 e26 (fun h => by rw [hrt] at h; cases h) (by decide) (by decide) ?_ (fun fs hr => retN X26 hx (t := .boolean) hrt (by simp) (hb hby at_320) hr)
        exact ⟨rfl, N26⟩
      refine hG _ (T25.setTop (mkF m 186 #[.val (.int p1), .val (.int p2), .val (.int p3), .val (.int (3 : Int32)), .val (.int b0), .val (.int b1), .val (.int b2), .val (.int b3), .val (.ref ob19), .unset, .unset, .unset] [(.int b0)])) (fun t₀ k₀ => ?_) ?_
      · show Steps p.tables e below (T25.setTop (mkF m 179 #[.val (.int p1), .val (.int p2), .val (.int p3), .val (.int (3 : Int32)), .val (.int b0), .val (.int b1), .val (.int b2), .val (.int b3), .val (.ref ob19), .unset, .unset, .unset] [])) t₀
        refine XS.iloadN X25.here hx rfl (hb hby at_179) rfl ?_
        show Steps p.tables e below (T25.setTop (mkF m 180 #[.val (.int p1), .val (.int p2), .val (.int p3), .val (.int (3 : Int32)), .val (.int b0), .val (.int b1), .val (.int b2), .val (.int b3), .val (.ref ob19), .unset, .unset, .unset] [(.int (3 : Int32))])) t₀
        refine XS.iconst X25.here hx rfl (hb hby at_180) ?_
        show Steps p.tables e below (T25.setTop (mkF m 181 #[.val (.int p1), .val (.int p2), .val (.int p3), .val (.int (3 : Int32)), .val (.int b0), .val (.int b1), .val (.int b2), .val (.int b3), .val (.ref ob19), .unset, .unset, .unset] [(.int (1 : Int32)), (.int (3 : Int32))])) t₀
        refine XS.icmpNo X25.here hx rfl (hb hby at_181) rfl (flt (by decide : ¬ ((3 : Int32) < (1 : Int32)))).1 ?_
        show Steps p.tables e below (T25.setTop (mkF m 184 #[.val (.int p1), .val (.int p2), .val (.int p3), .val (.int (3 : Int32)), .val (.int b0), .val (.int b1), .val (.int b2), .val (.int b3), .val (.ref ob19), .unset, .unset, .unset] [])) t₀
        refine XS.iload X25.here hx rfl (hb hby at_184) rfl ?_
        exact k₀
      by_cases hc186 : b0 = (0 : Int32)
      ·
        refine hG _ (T25.setTop (mkF m 196 #[.val (.int p1), .val (.int p2), .val (.int p3), .val (.int (3 : Int32)), .val (.int b0), .val (.int b1), .val (.int b2), .val (.int b3), .val (.ref ob19), .unset, .unset, .unset] [(.int b1)])) (fun t₀ k₀ => ?_) ?_
        · show Steps p.tables e below (T25.setTop (mkF m 186 #[.val (.int p1), .val (.int p2), .val (.int p3), .val (.int (3 : Int32)), .val (.int b0), .val (.int b1), .val (.int b2), .val (.int b3), .val (.ref ob19), .unset, .unset, .unset] [(.int b0)])) t₀
          refine XS.ifNo X25.here hx rfl (hb hby at_186) rfl ((if0 _ _).trans (teq hc186).2) ?_
          show Steps p.tables e below (T25.setTop (mkF m 189 #[.val (.int p1), .val (.int p2), .val (.int p3), .val (.int (3 : Int32)), .val (.int b0), .val (.int b1), .val (.int b2), .val (.int b3), .val (.ref ob19), .unset, .unset, .unset] [])) t₀
          refine XS.iloadN X25.here hx rfl (hb hby at_189) rfl ?_
          show Steps p.tables e below (T25.setTop (mkF m 190 #[.val (.int p1), .val (.int p2), .val (.int p3), .val (.int (3 : Int32)), .val (.int b0), .val (.int b1), .val (.int b2), .val (.int b3), .val (.ref ob19), .unset, .unset, .unset] [(.int (3 : Int32))])) t₀
          refine XS.iconst X25.here hx rfl (hb hby at_190) ?_
          show Steps p.tables e below (T25.setTop (mkF m 191 #[.val (.int p1), .val (.int p2), .val (.int p3), .val (.int (3 : Int32)), .val (.int b0), .val (.int b1), .val (.int b2), .val (.int b3), .val (.ref ob19), .unset, .unset, .unset] [(.int (2 : Int32)), (.int (3 : Int32))])) t₀
          refine XS.icmpNo X25.here hx rfl (hb hby at_191) rfl (flt (by decide : ¬ ((3 : Int32) < (2 : Int32)))).1 ?_
          show Steps p.tables e below (T25.setTop (mkF m 194 #[.val (.int p1), .val (.int p2), .val (.int p3), .val (.int (3 : Int32)), .val (.int b0), .val (.int b1), .val (.int b2), .val (.int b3), .val (.ref ob19), .unset, .unset, .unset] [])) t₀
          refine XS.iload X25.here hx rfl (hb hby at_194) rfl ?_
          exact k₀
        by_cases hc196 : b1 = (0 : Int32)
        ·
          refine hG _ (T25.setTop (mkF m 206 #[.val (.int p1), .val (.int p2), .val (.int p3), .val (.int (3 : Int32)), .val (.int b0), .val (.int b1), .val (.int b2), .val (.int b3), .val (.ref ob19), .unset, .unset, .unset] [(.int b2)])) (fun t₀ k₀ => ?_) ?_
          · show Steps p.tables e below (T25.setTop (mkF m 196 #[.val (.int p1), .val (.int p2), .val (.int p3), .val (.int (3 : Int32)), .val (.int b0), .val (.int b1), .val (.int b2), .val (.int b3), .val (.ref ob19), .unset, .unset, .unset] [(.int b1)])) t₀
            refine XS.ifNo X25.here hx rfl (hb hby at_196) rfl ((if0 _ _).trans (teq hc196).2) ?_
            show Steps p.tables e below (T25.setTop (mkF m 199 #[.val (.int p1), .val (.int p2), .val (.int p3), .val (.int (3 : Int32)), .val (.int b0), .val (.int b1), .val (.int b2), .val (.int b3), .val (.ref ob19), .unset, .unset, .unset] [])) t₀
            refine XS.iloadN X25.here hx rfl (hb hby at_199) rfl ?_
            show Steps p.tables e below (T25.setTop (mkF m 200 #[.val (.int p1), .val (.int p2), .val (.int p3), .val (.int (3 : Int32)), .val (.int b0), .val (.int b1), .val (.int b2), .val (.int b3), .val (.ref ob19), .unset, .unset, .unset] [(.int (3 : Int32))])) t₀
            refine XS.iconst X25.here hx rfl (hb hby at_200) ?_
            show Steps p.tables e below (T25.setTop (mkF m 201 #[.val (.int p1), .val (.int p2), .val (.int p3), .val (.int (3 : Int32)), .val (.int b0), .val (.int b1), .val (.int b2), .val (.int b3), .val (.ref ob19), .unset, .unset, .unset] [(.int (3 : Int32)), (.int (3 : Int32))])) t₀
            refine XS.icmpNo X25.here hx rfl (hb hby at_201) rfl (flt (by decide : ¬ ((3 : Int32) < (3 : Int32)))).1 ?_
            show Steps p.tables e below (T25.setTop (mkF m 204 #[.val (.int p1), .val (.int p2), .val (.int p3), .val (.int (3 : Int32)), .val (.int b0), .val (.int b1), .val (.int b2), .val (.int b3), .val (.ref ob19), .unset, .unset, .unset] [])) t₀
            refine XS.iload X25.here hx rfl (hb hby at_204) rfl ?_
            exact k₀
          by_cases hc206 : b2 = (0 : Int32)
          ·
            refine hG _ (T25.setTop (mkF m 226 #[.val (.int p1), .val (.int p2), .val (.int p3), .val (.int (3 : Int32)), .val (.int b0), .val (.int b1), .val (.int b2), .val (.int b3), .val (.ref ob19), .val (.int (1 : Int32)), .unset, .unset] [])) (fun t₀ k₀ => ?_) ?_
            · show Steps p.tables e below (T25.setTop (mkF m 206 #[.val (.int p1), .val (.int p2), .val (.int p3), .val (.int (3 : Int32)), .val (.int b0), .val (.int b1), .val (.int b2), .val (.int b3), .val (.ref ob19), .unset, .unset, .unset] [(.int b2)])) t₀
              refine XS.ifNo X25.here hx rfl (hb hby at_206) rfl ((if0 _ _).trans (teq hc206).2) ?_
              show Steps p.tables e below (T25.setTop (mkF m 209 #[.val (.int p1), .val (.int p2), .val (.int p3), .val (.int (3 : Int32)), .val (.int b0), .val (.int b1), .val (.int b2), .val (.int b3), .val (.ref ob19), .unset, .unset, .unset] [])) t₀
              refine XS.iloadN X25.here hx rfl (hb hby at_209) rfl ?_
              show Steps p.tables e below (T25.setTop (mkF m 210 #[.val (.int p1), .val (.int p2), .val (.int p3), .val (.int (3 : Int32)), .val (.int b0), .val (.int b1), .val (.int b2), .val (.int b3), .val (.ref ob19), .unset, .unset, .unset] [(.int (3 : Int32))])) t₀
              refine XS.iconst X25.here hx rfl (hb hby at_210) ?_
              show Steps p.tables e below (T25.setTop (mkF m 211 #[.val (.int p1), .val (.int p2), .val (.int p3), .val (.int (3 : Int32)), .val (.int b0), .val (.int b1), .val (.int b2), .val (.int b3), .val (.ref ob19), .unset, .unset, .unset] [(.int (4 : Int32)), (.int (3 : Int32))])) t₀
              refine XS.icmpYes X25.here hx rfl (pc0 := 211) (pc' := 219) rfl (hb hby at_211) rfl (tlt (by decide : ((3 : Int32) < (4 : Int32)))).1 (by decide) (by decide) ?_
              show Steps p.tables e below (T25.setTop (mkF m 219 #[.val (.int p1), .val (.int p2), .val (.int p3), .val (.int (3 : Int32)), .val (.int b0), .val (.int b1), .val (.int b2), .val (.int b3), .val (.ref ob19), .unset, .unset, .unset] [])) t₀
              refine XS.iconst X25.here hx rfl (hb hby at_219) ?_
              show Steps p.tables e below (T25.setTop (mkF m 220 #[.val (.int p1), .val (.int p2), .val (.int p3), .val (.int (3 : Int32)), .val (.int b0), .val (.int b1), .val (.int b2), .val (.int b3), .val (.ref ob19), .unset, .unset, .unset] [(.int (1 : Int32))])) t₀
              refine XS.goto X25.here hx rfl (pc0 := 220) (pc' := 224) rfl (hb hby at_220) (by decide) (by decide) ?_
              show Steps p.tables e below (T25.setTop (mkF m 224 #[.val (.int p1), .val (.int p2), .val (.int p3), .val (.int (3 : Int32)), .val (.int b0), .val (.int b1), .val (.int b2), .val (.int b3), .val (.ref ob19), .unset, .unset, .unset] [(.int (1 : Int32))])) t₀
              refine XS.istore X25.here hx rfl (hb hby at_224) rfl (l' := #[.val (.int p1), .val (.int p2), .val (.int p3), .val (.int (3 : Int32)), .val (.int b0), .val (.int b1), .val (.int b2), .val (.int b3), .val (.ref ob19), .val (.int (1 : Int32)), .unset, .unset]) rfl ?_
              exact k₀
            exact tq (1 : Int32) (by simp [hb0, hb1, hb2, hb3, hc186, hc196, hc206])
          ·
            refine hG _ (T25.setTop (mkF m 226 #[.val (.int p1), .val (.int p2), .val (.int p3), .val (.int (3 : Int32)), .val (.int b0), .val (.int b1), .val (.int b2), .val (.int b3), .val (.ref ob19), .val (.int (0 : Int32)), .unset, .unset] [])) (fun t₀ k₀ => ?_) ?_
            · show Steps p.tables e below (T25.setTop (mkF m 206 #[.val (.int p1), .val (.int p2), .val (.int p3), .val (.int (3 : Int32)), .val (.int b0), .val (.int b1), .val (.int b2), .val (.int b3), .val (.ref ob19), .unset, .unset, .unset] [(.int b2)])) t₀
              refine XS.ifYes X25.here hx rfl (pc0 := 206) (pc' := 223) rfl (hb hby at_206) rfl ((if0 _ _).trans (feq hc206).2) (by decide) (by decide) ?_
              show Steps p.tables e below (T25.setTop (mkF m 223 #[.val (.int p1), .val (.int p2), .val (.int p3), .val (.int (3 : Int32)), .val (.int b0), .val (.int b1), .val (.int b2), .val (.int b3), .val (.ref ob19), .unset, .unset, .unset] [])) t₀
              refine XS.iconst X25.here hx rfl (hb hby at_223) ?_
              show Steps p.tables e below (T25.setTop (mkF m 224 #[.val (.int p1), .val (.int p2), .val (.int p3), .val (.int (3 : Int32)), .val (.int b0), .val (.int b1), .val (.int b2), .val (.int b3), .val (.ref ob19), .unset, .unset, .unset] [(.int (0 : Int32))])) t₀
              refine XS.istore X25.here hx rfl (hb hby at_224) rfl (l' := #[.val (.int p1), .val (.int p2), .val (.int p3), .val (.int (3 : Int32)), .val (.int b0), .val (.int b1), .val (.int b2), .val (.int b3), .val (.ref ob19), .val (.int (0 : Int32)), .unset, .unset]) rfl ?_
              exact k₀
            exact tq (0 : Int32) (by simp [hb0, hb1, hb2, hb3, hc186, hc196, hc206])
        ·
          refine hG _ (T25.setTop (mkF m 226 #[.val (.int p1), .val (.int p2), .val (.int p3), .val (.int (3 : Int32)), .val (.int b0), .val (.int b1), .val (.int b2), .val (.int b3), .val (.ref ob19), .val (.int (0 : Int32)), .unset, .unset] [])) (fun t₀ k₀ => ?_) ?_
          · show Steps p.tables e below (T25.setTop (mkF m 196 #[.val (.int p1), .val (.int p2), .val (.int p3), .val (.int (3 : Int32)), .val (.int b0), .val (.int b1), .val (.int b2), .val (.int b3), .val (.ref ob19), .unset, .unset, .unset] [(.int b1)])) t₀
            refine XS.ifYes X25.here hx rfl (pc0 := 196) (pc' := 223) rfl (hb hby at_196) rfl ((if0 _ _).trans (feq hc196).2) (by decide) (by decide) ?_
            show Steps p.tables e below (T25.setTop (mkF m 223 #[.val (.int p1), .val (.int p2), .val (.int p3), .val (.int (3 : Int32)), .val (.int b0), .val (.int b1), .val (.int b2), .val (.int b3), .val (.ref ob19), .unset, .unset, .unset] [])) t₀
            refine XS.iconst X25.here hx rfl (hb hby at_223) ?_
            show Steps p.tables e below (T25.setTop (mkF m 224 #[.val (.int p1), .val (.int p2), .val (.int p3), .val (.int (3 : Int32)), .val (.int b0), .val (.int b1), .val (.int b2), .val (.int b3), .val (.ref ob19), .unset, .unset, .unset] [(.int (0 : Int32))])) t₀
            refine XS.istore X25.here hx rfl (hb hby at_224) rfl (l' := #[.val (.int p1), .val (.int p2), .val (.int p3), .val (.int (3 : Int32)), .val (.int b0), .val (.int b1), .val (.int b2), .val (.int b3), .val (.ref ob19), .val (.int (0 : Int32)), .unset, .unset]) rfl ?_
            exact k₀
          exact tq (0 : Int32) (by simp [hb0, hb1, hb2, hb3, hc186, hc196])
      ·
        refine hG _ (T25.setTop (mkF m 226 #[.val (.int p1), .val (.int p2), .val (.int p3), .val (.int (3 : Int32)), .val (.int b0), .val (.int b1), .val (.int b2), .val (.int b3), .val (.ref ob19), .val (.int (0 : Int32)), .unset, .unset] [])) (fun t₀ k₀ => ?_) ?_
        · show Steps p.tables e below (T25.setTop (mkF m 186 #[.val (.int p1), .val (.int p2), .val (.int p3), .val (.int (3 : Int32)), .val (.int b0), .val (.int b1), .val (.int b2), .val (.int b3), .val (.ref ob19), .unset, .unset, .unset] [(.int b0)])) t₀
          refine XS.ifYes X25.here hx rfl (pc0 := 186) (pc' := 223) rfl (hb hby at_186) rfl ((if0 _ _).trans (feq hc186).2) (by decide) (by decide) ?_
          show Steps p.tables e below (T25.setTop (mkF m 223 #[.val (.int p1), .val (.int p2), .val (.int p3), .val (.int (3 : Int32)), .val (.int b0), .val (.int b1), .val (.int b2), .val (.int b3), .val (.ref ob19), .unset, .unset, .unset] [])) t₀
          refine XS.iconst X25.here hx rfl (hb hby at_223) ?_
          show Steps p.tables e below (T25.setTop (mkF m 224 #[.val (.int p1), .val (.int p2), .val (.int p3), .val (.int (3 : Int32)), .val (.int b0), .val (.int b1), .val (.int b2), .val (.int b3), .val (.ref ob19), .unset, .unset, .unset] [(.int (0 : Int32))])) t₀
          refine XS.istore X25.here hx rfl (hb hby at_224) rfl (l' := #[.val (.int p1), .val (.int p2), .val (.int p3), .val (.int (3 : Int32)), .val (.int b0), .val (.int b1), .val (.int b2), .val (.int b3), .val (.ref ob19), .val (.int (0 : Int32)), .unset, .unset]) rfl ?_
          exact k₀
        exact tq (0 : Int32) (by simp [hb0, hb1, hb2, hb3, hc186])
    ·
      subst hn
      show G (s₁.setTop (mkF m 73 #[.val (.int p1), .val (.int p2), .val (.int p3), .val (.int (4 : Int32)), .val (.int b0), .val (.int b1), .val (.int b2), .val (.int b3), .unset, .unset, .unset, .unset] []))
      refine hG _ (s₁.setTop (mkF m 155 #[.val (.int p1), .val (.int p2), .val (.int p3), .val (.int (4 : Int32)), .val (.int b0), .val (.int b1), .val (.int b2), .val (.int b3), .unset, .unset, .unset, .unset] [(.int (4 : Int32))])) (fun t₀ k₀ => ?_) ?_
      · show Steps p.tables e below (s₁.setTop (mkF m 73 #[.val (.int p1), .val (.int p2), .val (.int p3), .val (.int (4 : Int32)), .val (.int b0), .val (.int b1), .val (.int b2), .val (.int b3), .unset, .unset, .unset, .unset] [])) t₀
        refine XS.iloadN X0.here hx rfl (hb hby at_73) rfl ?_
        show Steps p.tables e below (s₁.setTop (mkF m 74 #[.val (.int p1), .val (.int p2), .val (.int p3), .val (.int (4 : Int32)), .val (.int b0), .val (.int b1), .val (.int b2), .val (.int b3), .unset, .unset, .unset, .unset] [(.int (4 : Int32))])) t₀
        refine XS.ifYes X0.here hx rfl (pc0 := 74) (pc' := 85) rfl (hb hby at_74) rfl ((if0 _ _).trans (feq (by decide : ¬ ((4 : Int32) = (0 : Int32)))).2) (by decide) (by decide) ?_
        show Steps p.tables e below (s₁.setTop (mkF m 85 #[.val (.int p1), .val (.int p2), .val (.int p3), .val (.int (4 : Int32)), .val (.int b0), .val (.int b1), .val (.int b2), .val (.int b3), .unset, .unset, .unset, .unset] [])) t₀
        refine XS.iloadN X0.here hx rfl (hb hby at_85) rfl ?_
        show Steps p.tables e below (s₁.setTop (mkF m 86 #[.val (.int p1), .val (.int p2), .val (.int p3), .val (.int (4 : Int32)), .val (.int b0), .val (.int b1), .val (.int b2), .val (.int b3), .unset, .unset, .unset, .unset] [(.int (4 : Int32))])) t₀
        refine XS.iconst X0.here hx rfl (hb hby at_86) ?_
        show Steps p.tables e below (s₁.setTop (mkF m 87 #[.val (.int p1), .val (.int p2), .val (.int p3), .val (.int (4 : Int32)), .val (.int b0), .val (.int b1), .val (.int b2), .val (.int b3), .unset, .unset, .unset, .unset] [(.int (1 : Int32)), (.int (4 : Int32))])) t₀
        refine XS.icmpYes X0.here hx rfl (pc0 := 87) (pc' := 103) rfl (hb hby at_87) rfl (feq (by decide : ¬ ((4 : Int32) = (1 : Int32)))).2 (by decide) (by decide) ?_
        show Steps p.tables e below (s₁.setTop (mkF m 103 #[.val (.int p1), .val (.int p2), .val (.int p3), .val (.int (4 : Int32)), .val (.int b0), .val (.int b1), .val (.int b2), .val (.int b3), .unset, .unset, .unset, .unset] [])) t₀
        refine XS.iloadN X0.here hx rfl (hb hby at_103) rfl ?_
        show Steps p.tables e below (s₁.setTop (mkF m 104 #[.val (.int p1), .val (.int p2), .val (.int p3), .val (.int (4 : Int32)), .val (.int b0), .val (.int b1), .val (.int b2), .val (.int b3), .unset, .unset, .unset, .unset] [(.int (4 : Int32))])) t₀
        refine XS.iconst X0.here hx rfl (hb hby at_104) ?_
        show Steps p.tables e below (s₁.setTop (mkF m 105 #[.val (.int p1), .val (.int p2), .val (.int p3), .val (.int (4 : Int32)), .val (.int b0), .val (.int b1), .val (.int b2), .val (.int b3), .unset, .unset, .unset, .unset] [(.int (2 : Int32)), (.int (4 : Int32))])) t₀
        refine XS.icmpYes X0.here hx rfl (pc0 := 105) (pc' := 126) rfl (hb hby at_105) rfl (feq (by decide : ¬ ((4 : Int32) = (2 : Int32)))).2 (by decide) (by decide) ?_
        show Steps p.tables e below (s₁.setTop (mkF m 126 #[.val (.int p1), .val (.int p2), .val (.int p3), .val (.int (4 : Int32)), .val (.int b0), .val (.int b1), .val (.int b2), .val (.int b3), .unset, .unset, .unset, .unset] [])) t₀
        refine XS.iloadN X0.here hx rfl (hb hby at_126) rfl ?_
        show Steps p.tables e below (s₁.setTop (mkF m 127 #[.val (.int p1), .val (.int p2), .val (.int p3), .val (.int (4 : Int32)), .val (.int b0), .val (.int b1), .val (.int b2), .val (.int b3), .unset, .unset, .unset, .unset] [(.int (4 : Int32))])) t₀
        refine XS.iconst X0.here hx rfl (hb hby at_127) ?_
        show Steps p.tables e below (s₁.setTop (mkF m 128 #[.val (.int p1), .val (.int p2), .val (.int p3), .val (.int (4 : Int32)), .val (.int b0), .val (.int b1), .val (.int b2), .val (.int b3), .unset, .unset, .unset, .unset] [(.int (3 : Int32)), (.int (4 : Int32))])) t₀
        refine XS.icmpYes X0.here hx rfl (pc0 := 128) (pc' := 154) rfl (hb hby at_128) rfl (feq (by decide : ¬ ((4 : Int32) = (3 : Int32)))).2 (by decide) (by decide) ?_
        show Steps p.tables e below (s₁.setTop (mkF m 154 #[.val (.int p1), .val (.int p2), .val (.int p3), .val (.int (4 : Int32)), .val (.int b0), .val (.int b1), .val (.int b2), .val (.int b3), .unset, .unset, .unset, .unset] [])) t₀
        refine XS.iconst X0.here hx rfl (hb hby at_154) ?_
        exact k₀
      obtain ⟨T31, h31, k31, X31, e31, E31, A31, st31⟩ := newP X0 hx hZ (hw _ (List.mem_of_getElem? (i := 1) rfl)) e0 (g := (mkF m 155 #[.val (.int p1), .val (.int p2), .val (.int p3), .val (.int (4 : Int32)), .val (.int b0), .val (.int b1), .val (.int b2), .val (.int b3), .unset, .unset, .unset, .unset] [(.int (4 : Int32))])) rfl (hb hby at_155) rfl (by decide) (cap := 4) (by decide) (by decide) (by decide) (by decide)
      obtain ⟨ob31, g31⟩ : ∃ z, z = h0.size := ⟨_, rfl⟩
      rw [← g31] at A31 st31
      have g_ob31 : n0 ≤ ob31 := Nat.le_trans Z0 (Nat.le_of_eq g31.symm)
      have z_31 : n0 ≤ h31.size := Nat.le_trans Z0 E31.1
      have V_ob31 : Arv Z h31 ob31 k31 .byte (4 : Int32) [(.int (0 : Int32)), (.int (0 : Int32)), (.int (0 : Int32)), (.int (0 : Int32))] (.int (0 : Int32)) := (Arv.new A31 (by decide)).pad (pad_rep [] (.int (0 : Int32)) 4)
      refine hG _ _ (fun t₀ k₀ => st31 _ k₀) ?_
      show G (T31.setTop (mkF m 157 #[.val (.int p1), .val (.int p2), .val (.int p3), .val (.int (4 : Int32)), .val (.int b0), .val (.int b1), .val (.int b2), .val (.int b3), .unset, .unset, .unset, .unset] [(.ref ob31)]))
      refine hG _ (T31.setTop (mkF m 161 #[.val (.int p1), .val (.int p2), .val (.int p3), .val (.int (4 : Int32)), .val (.int b0), .val (.int b1), .val (.int b2), .val (.int b3), .unset, .unset, .unset, .unset] [(.int b0), (.int (0 : Int32)), (.ref ob31), (.ref ob31)])) (fun t₀ k₀ => ?_) ?_
      · show Steps p.tables e below (T31.setTop (mkF m 157 #[.val (.int p1), .val (.int p2), .val (.int p3), .val (.int (4 : Int32)), .val (.int b0), .val (.int b1), .val (.int b2), .val (.int b3), .unset, .unset, .unset, .unset] [(.ref ob31)])) t₀
        refine XS.dup X31.here hx rfl (hb hby at_157) rfl rfl ?_
        show Steps p.tables e below (T31.setTop (mkF m 158 #[.val (.int p1), .val (.int p2), .val (.int p3), .val (.int (4 : Int32)), .val (.int b0), .val (.int b1), .val (.int b2), .val (.int b3), .unset, .unset, .unset, .unset] [(.ref ob31), (.ref ob31)])) t₀
        refine XS.iconst X31.here hx rfl (hb hby at_158) ?_
        show Steps p.tables e below (T31.setTop (mkF m 159 #[.val (.int p1), .val (.int p2), .val (.int p3), .val (.int (4 : Int32)), .val (.int b0), .val (.int b1), .val (.int b2), .val (.int b3), .unset, .unset, .unset, .unset] [(.int (0 : Int32)), (.ref ob31), (.ref ob31)])) t₀
        refine XS.iload X31.here hx rfl (hb hby at_159) rfl ?_
        exact k₀
      have ov32 := V_ob31
      obtain ⟨cl32, Ar32, q32, S32, N_32, H_32, G_32⟩ := ov32
      have hin32 : ¬ ((0 : Int32) < 0 ∨ cl32.slots.size ≤ ((0 : Int32)).toNatClampNeg) := inb_of S32 ⟨by decide, by decide⟩
      obtain ⟨T33, h33, X33, e33, W33, st33⟩ := stB X31 hx hZ e31 Ar32 (j := (0 : Int32)) hin32 (g := (mkF m 161 #[.val (.int p1), .val (.int p2), .val (.int p3), .val (.int (4 : Int32)), .val (.int b0), .val (.int b1), .val (.int b2), .val (.int b3), .unset, .unset, .unset, .unset] [(.int b0), (.int (0 : Int32)), (.ref ob31), (.ref ob31)])) rfl rfl (hb hby at_161)
      refine hG _ _ (fun t₀ k₀ => st33 _ k₀) ?_
      have N33 := Fr.snoc X33 N0 g_ob31
      have z_33 : n0 ≤ h33.size := Nat.le_trans z_31 (Keep.of_wr W33).1
      have V33 : Arv Z h33 ob31 k31 .byte (4 : Int32) [(.int (b0.toInt8.toInt32)), (.int (0 : Int32)), (.int (0 : Int32)), (.int (0 : Int32))] (.int (0 : Int32)) := Arv.set Ar32 q32 S32 N_32 H_32 G_32 (fits_nar_byte _) W33 0 rfl (Nat.le_of_ble_eq_true rfl)
      show G (T33.setTop (mkF m 162 #[.val (.int p1), .val (.int p2), .val (.int p3), .val (.int (4 : Int32)), .val (.int b0), .val (.int b1), .val (.int b2), .val (.int b3), .unset, .unset, .unset, .unset] [(.ref ob31)]))
      refine hG _ (T33.setTop (mkF m 166 #[.val (.int p1), .val (.int p2), .val (.int p3), .val (.int (4 : Int32)), .val (.int b0), .val (.int b1), .val (.int b2), .val (.int b3), .unset, .unset, .unset, .unset] [(.int b1), (.int (1 : Int32)), (.ref ob31), (.ref ob31)])) (fun t₀ k₀ => ?_) ?_
      · show Steps p.tables e below (T33.setTop (mkF m 162 #[.val (.int p1), .val (.int p2), .val (.int p3), .val (.int (4 : Int32)), .val (.int b0), .val (.int b1), .val (.int b2), .val (.int b3), .unset, .unset, .unset, .unset] [(.ref ob31)])) t₀
        refine XS.dup X33.here hx rfl (hb hby at_162) rfl rfl ?_
        show Steps p.tables e below (T33.setTop (mkF m 163 #[.val (.int p1), .val (.int p2), .val (.int p3), .val (.int (4 : Int32)), .val (.int b0), .val (.int b1), .val (.int b2), .val (.int b3), .unset, .unset, .unset, .unset] [(.ref ob31), (.ref ob31)])) t₀
        refine XS.iconst X33.here hx rfl (hb hby at_163) ?_
        show Steps p.tables e below (T33.setTop (mkF m 164 #[.val (.int p1), .val (.int p2), .val (.int p3), .val (.int (4 : Int32)), .val (.int b0), .val (.int b1), .val (.int b2), .val (.int b3), .unset, .unset, .unset, .unset] [(.int (1 : Int32)), (.ref ob31), (.ref ob31)])) t₀
        refine XS.iload X33.here hx rfl (hb hby at_164) rfl ?_
        exact k₀
      have ov34 := V33
      obtain ⟨cl34, Ar34, q34, S34, N_34, H_34, G_34⟩ := ov34
      have hin34 : ¬ ((1 : Int32) < 0 ∨ cl34.slots.size ≤ ((1 : Int32)).toNatClampNeg) := inb_of S34 ⟨by decide, by decide⟩
      obtain ⟨T35, h35, X35, e35, W35, st35⟩ := stB X33 hx hZ e33 Ar34 (j := (1 : Int32)) hin34 (g := (mkF m 166 #[.val (.int p1), .val (.int p2), .val (.int p3), .val (.int (4 : Int32)), .val (.int b0), .val (.int b1), .val (.int b2), .val (.int b3), .unset, .unset, .unset, .unset] [(.int b1), (.int (1 : Int32)), (.ref ob31), (.ref ob31)])) rfl rfl (hb hby at_166)
      refine hG _ _ (fun t₀ k₀ => st35 _ k₀) ?_
      have N35 := Fr.snoc X35 N33 g_ob31
      have z_35 : n0 ≤ h35.size := Nat.le_trans z_33 (Keep.of_wr W35).1
      have V35 : Arv Z h35 ob31 k31 .byte (4 : Int32) [(.int (b0.toInt8.toInt32)), (.int (b1.toInt8.toInt32)), (.int (0 : Int32)), (.int (0 : Int32))] (.int (0 : Int32)) := Arv.set Ar34 q34 S34 N_34 H_34 G_34 (fits_nar_byte _) W35 1 rfl (Nat.le_of_ble_eq_true rfl)
      show G (T35.setTop (mkF m 167 #[.val (.int p1), .val (.int p2), .val (.int p3), .val (.int (4 : Int32)), .val (.int b0), .val (.int b1), .val (.int b2), .val (.int b3), .unset, .unset, .unset, .unset] [(.ref ob31)]))
      refine hG _ (T35.setTop (mkF m 171 #[.val (.int p1), .val (.int p2), .val (.int p3), .val (.int (4 : Int32)), .val (.int b0), .val (.int b1), .val (.int b2), .val (.int b3), .unset, .unset, .unset, .unset] [(.int b2), (.int (2 : Int32)), (.ref ob31), (.ref ob31)])) (fun t₀ k₀ => ?_) ?_
      · show Steps p.tables e below (T35.setTop (mkF m 167 #[.val (.int p1), .val (.int p2), .val (.int p3), .val (.int (4 : Int32)), .val (.int b0), .val (.int b1), .val (.int b2), .val (.int b3), .unset, .unset, .unset, .unset] [(.ref ob31)])) t₀
        refine XS.dup X35.here hx rfl (hb hby at_167) rfl rfl ?_
        show Steps p.tables e below (T35.setTop (mkF m 168 #[.val (.int p1), .val (.int p2), .val (.int p3), .val (.int (4 : Int32)), .val (.int b0), .val (.int b1), .val (.int b2), .val (.int b3), .unset, .unset, .unset, .unset] [(.ref ob31), (.ref ob31)])) t₀
        refine XS.iconst X35.here hx rfl (hb hby at_168) ?_
        show Steps p.tables e below (T35.setTop (mkF m 169 #[.val (.int p1), .val (.int p2), .val (.int p3), .val (.int (4 : Int32)), .val (.int b0), .val (.int b1), .val (.int b2), .val (.int b3), .unset, .unset, .unset, .unset] [(.int (2 : Int32)), (.ref ob31), (.ref ob31)])) t₀
        refine XS.iload X35.here hx rfl (hb hby at_169) rfl ?_
        exact k₀
      have ov36 := V35
      obtain ⟨cl36, Ar36, q36, S36, N_36, H_36, G_36⟩ := ov36
      have hin36 : ¬ ((2 : Int32) < 0 ∨ cl36.slots.size ≤ ((2 : Int32)).toNatClampNeg) := inb_of S36 ⟨by decide, by decide⟩
      obtain ⟨T37, h37, X37, e37, W37, st37⟩ := stB X35 hx hZ e35 Ar36 (j := (2 : Int32)) hin36 (g := (mkF m 171 #[.val (.int p1), .val (.int p2), .val (.int p3), .val (.int (4 : Int32)), .val (.int b0), .val (.int b1), .val (.int b2), .val (.int b3), .unset, .unset, .unset, .unset] [(.int b2), (.int (2 : Int32)), (.ref ob31), (.ref ob31)])) rfl rfl (hb hby at_171)
      refine hG _ _ (fun t₀ k₀ => st37 _ k₀) ?_
      have N37 := Fr.snoc X37 N35 g_ob31
      have z_37 : n0 ≤ h37.size := Nat.le_trans z_35 (Keep.of_wr W37).1
      have V37 : Arv Z h37 ob31 k31 .byte (4 : Int32) [(.int (b0.toInt8.toInt32)), (.int (b1.toInt8.toInt32)), (.int (b2.toInt8.toInt32)), (.int (0 : Int32))] (.int (0 : Int32)) := Arv.set Ar36 q36 S36 N_36 H_36 G_36 (fits_nar_byte _) W37 2 rfl (Nat.le_of_ble_eq_true rfl)
      show G (T37.setTop (mkF m 172 #[.val (.int p1), .val (.int p2), .val (.int p3), .val (.int (4 : Int32)), .val (.int b0), .val (.int b1), .val (.int b2), .val (.int b3), .unset, .unset, .unset, .unset] [(.ref ob31)]))
      refine hG _ (T37.setTop (mkF m 176 #[.val (.int p1), .val (.int p2), .val (.int p3), .val (.int (4 : Int32)), .val (.int b0), .val (.int b1), .val (.int b2), .val (.int b3), .unset, .unset, .unset, .unset] [(.int b3), (.int (3 : Int32)), (.ref ob31), (.ref ob31)])) (fun t₀ k₀ => ?_) ?_
      · show Steps p.tables e below (T37.setTop (mkF m 172 #[.val (.int p1), .val (.int p2), .val (.int p3), .val (.int (4 : Int32)), .val (.int b0), .val (.int b1), .val (.int b2), .val (.int b3), .unset, .unset, .unset, .unset] [(.ref ob31)])) t₀
        refine XS.dup X37.here hx rfl (hb hby at_172) rfl rfl ?_
        show Steps p.tables e below (T37.setTop (mkF m 173 #[.val (.int p1), .val (.int p2), .val (.int p3), .val (.int (4 : Int32)), .val (.int b0), .val (.int b1), .val (.int b2), .val (.int b3), .unset, .unset, .unset, .unset] [(.ref ob31), (.ref ob31)])) t₀
        refine XS.iconst X37.here hx rfl (hb hby at_173) ?_
        show Steps p.tables e below (T37.setTop (mkF m 174 #[.val (.int p1), .val (.int p2), .val (.int p3), .val (.int (4 : Int32)), .val (.int b0), .val (.int b1), .val (.int b2), .val (.int b3), .unset, .unset, .unset, .unset] [(.int (3 : Int32)), (.ref ob31), (.ref ob31)])) t₀
        refine XS.iload X37.here hx rfl (hb hby at_174) rfl ?_
        exact k₀
      have ov38 := V37
      obtain ⟨cl38, Ar38, q38, S38, N_38, H_38, G_38⟩ := ov38
      have hin38 : ¬ ((3 : Int32) < 0 ∨ cl38.slots.size ≤ ((3 : Int32)).toNatClampNeg) := inb_of S38 ⟨by decide, by decide⟩
      obtain ⟨T39, h39, X39, e39, W39, st39⟩ := stB X37 hx hZ e37 Ar38 (j := (3 : Int32)) hin38 (g := (mkF m 176 #[.val (.int p1), .val (.int p2), .val (.int p3), .val (.int (4 : Int32)), .val (.int b0), .val (.int b1), .val (.int b2), .val (.int b3), .unset, .unset, .unset, .unset] [(.int b3), (.int (3 : Int32)), (.ref ob31), (.ref ob31)])) rfl rfl (hb hby at_176)
      refine hG _ _ (fun t₀ k₀ => st39 _ k₀) ?_
      have N39 := Fr.snoc X39 N37 g_ob31
      have z_39 : n0 ≤ h39.size := Nat.le_trans z_37 (Keep.of_wr W39).1
      have V39 : Arv Z h39 ob31 k31 .byte (4 : Int32) [(.int (b0.toInt8.toInt32)), (.int (b1.toInt8.toInt32)), (.int (b2.toInt8.toInt32)), (.int (b3.toInt8.toInt32))] (.int (0 : Int32)) := Arv.set Ar38 q38 S38 N_38 H_38 G_38 (fits_nar_byte _) W39 3 rfl (Nat.le_of_ble_eq_true rfl)
      show G (T39.setTop (mkF m 177 #[.val (.int p1), .val (.int p2), .val (.int p3), .val (.int (4 : Int32)), .val (.int b0), .val (.int b1), .val (.int b2), .val (.int b3), .unset, .unset, .unset, .unset] [(.ref ob31)]))
      refine hG _ (T39.setTop (mkF m 179 #[.val (.int p1), .val (.int p2), .val (.int p3), .val (.int (4 : Int32)), .val (.int b0), .val (.int b1), .val (.int b2), .val (.int b3), .val (.ref ob31), .unset, .unset, .unset] [])) (fun t₀ k₀ => ?_) ?_
      · show Steps p.tables e below (T39.setTop (mkF m 177 #[.val (.int p1), .val (.int p2), .val (.int p3), .val (.int (4 : Int32)), .val (.int b0), .val (.int b1), .val (.int b2), .val (.int b3), .unset, .unset, .unset, .unset] [(.ref ob31)])) t₀
        refine XS.astore X39.here hx rfl (hb hby at_177) rfl rfl (l' := #[.val (.int p1), .val (.int p2), .val (.int p3), .val (.int (4 : Int32)), .val (.int b0), .val (.int b1), .val (.int b2), .val (.int b3), .val (.ref ob31), .unset, .unset, .unset]) rfl ?_
        exact k₀
      have tq : ∀  (ex : Int32) (hr : (if (b0.toInt8.toInt32) = (0 : Int32) ∧ (b1.toInt8.toInt32) = (0 : Int32) ∧ (b2.toInt8.toInt32) = (0 : Int32) ∧ (b3.toInt8.toInt32) = (0 : Int32) then (1 : Int32) else 0) = ex), G (T39.setTop (mkF m 226 #[.val (.int p1), .val (.int p2), .val (.int p3), .val (.int (4 : Int32)), .val (.int b0), .val (.int b1), .val (.int b2), .val (.int b3), .val (.ref ob31), .val (.int ex), .unset, .unset] [])) := by
        intro ex hr
        refine hG _ (T39.setTop (mkF m 228 #[.val (.int p1), .val (.int p2), .val (.int p3), .val (.int (4 : Int32)), .val (.int b0), .val (.int b1), .val (.int b2), .val (.int b3), .val (.ref ob31), .val (.int ex), .unset, .unset] [(.ref ob31)])) (fun t₀ k₀ => ?_) ?_
        · show Steps p.tables e below (T39.setTop (mkF m 226 #[.val (.int p1), .val (.int p2), .val (.int p3), .val (.int (4 : Int32)), .val (.int b0), .val (.int b1), .val (.int b2), .val (.int b3), .val (.ref ob31), .val (.int ex), .unset, .unset] [])) t₀
          refine XS.aload X39.here hx rfl (hb hby at_226) rfl rfl ?_
          exact k₀
        obtain ⟨_, _, ⟨T40, L40, k40, n40⟩, -, X40, ⟨Lc40, hQ40, l40, y40, z40⟩, st40⟩ := Jvm.LawKit.callS X39 hx (y := (⟨"com/example/ordercast/ordercast/history/History", "isInitial", "([B)Z"⟩ : MethodName)) hown (mvT hZ (hw _ (List.mem_of_getElem? (i := 2) rfl))) (mvT hZ (hw _ (List.mem_of_getElem? (i := 3) rfl))) (mvT hZ (hw _ (List.mem_of_getElem? (i := 4) rfl))) (mvT hZ (hw _ (List.mem_of_getElem? (i := 5) rfl))) (by decide) (backOf (W := 0) (rmL4 l Z a0 hw [] ob31 k31 (b0.toInt8.toInt32) (b1.toInt8.toInt32) (b2.toInt8.toInt32) (b3.toInt8.toInt32) ex h39 n0 z_39 V39 hr) hZ (hw _ (List.mem_of_getElem? (i := 5) rfl)) (hw _ (List.mem_of_getElem? (i := 4) rfl)) (by decide) (by decide)) (g := (mkF m 228 #[.val (.int p1), .val (.int p2), .val (.int p3), .val (.int (4 : Int32)), .val (.int b0), .val (.int b1), .val (.int b2), .val (.int b3), .val (.ref ob31), .val (.int ex), .unset, .unset] [(.ref ob31)])) rfl (by rw [hml]; rfl) (argsL := [(.ref ob31)]) (rest := []) (lenOf pd_0 rfl) rfl (by show 2 * 0 + _ ≤ _; exact Nat.le_of_eq rfl) (hb hby at_228) (fun _ _ => ⟨rfl, e39, (by decide : 1 + 0 ≤ _), (by decide : 4 + 0 ≤ _)⟩)
        dsimp only [Pt.U, Pt.locs, Pt.cells, Pt.slots] at X40 l40 y40 z40 st40 hQ40
        subst l40 y40 z40
        obtain ⟨rfl, N40q, e40⟩ := hQ40
        have N40 := Fr.app N39 N40q
        refine hG _ _ (fun t₀ k₀ => st40 _ k₀) ?_
        show G (T40.setTop (mkF m 231 #[.val (.int p1), .val (.int p2), .val (.int p3), .val (.int (4 : Int32)), .val (.int b0), .val (.int b1), .val (.int b2), .val (.int b3), .val (.ref ob31), .val (.int ex), .unset, .unset] [(.int ex)]))
        refine hG _ (T40.setTop (mkF m 235 #[.val (.int p1), .val (.int p2), .val (.int p3), .val (.int (4 : Int32)), .val (.int b0), .val (.int b1), .val (.int b2), .val (.int b3), .val (.ref ob31), .val (.int ex), .val (.int ex), .unset] [(.ref ob31)])) (fun t₀ k₀ => ?_) ?_
        · show Steps p.tables e below (T40.setTop (mkF m 231 #[.val (.int p1), .val (.int p2), .val (.int p3), .val (.int (4 : Int32)), .val (.int b0), .val (.int b1), .val (.int b2), .val (.int b3), .val (.ref ob31), .val (.int ex), .unset, .unset] [(.int ex)])) t₀
          refine XS.istore X40.here hx rfl (hb hby at_231) rfl (l' := #[.val (.int p1), .val (.int p2), .val (.int p3), .val (.int (4 : Int32)), .val (.int b0), .val (.int b1), .val (.int b2), .val (.int b3), .val (.ref ob31), .val (.int ex), .val (.int ex), .unset]) rfl ?_
          show Steps p.tables e below (T40.setTop (mkF m 233 #[.val (.int p1), .val (.int p2), .val (.int p3), .val (.int (4 : Int32)), .val (.int b0), .val (.int b1), .val (.int b2), .val (.int b3), .val (.ref ob31), .val (.int ex), .val (.int ex), .unset] [])) t₀
          refine XS.aload X40.here hx rfl (hb hby at_233) rfl rfl ?_
          exact k₀
        have ov41 := V39
        obtain ⟨cl41, Ar41, q41, S41, N_41, H_41, G_41⟩ := ov41
        refine hG _ (T40.setTop (mkF m 248 #[.val (.int p1), .val (.int p2), .val (.int p3), .val (.int (4 : Int32)), .val (.int b0), .val (.int b1), .val (.int b2), .val (.int b3), .val (.ref ob31), .val (.int ex), .val (.int ex), .unset] [(.int (0 : Int32)), (.ref ob31)])) (fun t₀ k₀ => ?_) ?_
        · show Steps p.tables e below (T40.setTop (mkF m 235 #[.val (.int p1), .val (.int p2), .val (.int p3), .val (.int (4 : Int32)), .val (.int b0), .val (.int b1), .val (.int b2), .val (.int b3), .val (.ref ob31), .val (.int ex), .val (.int ex), .unset] [(.ref ob31)])) t₀
          refine X40.arraylength hx (by rw [e40]; exact Ar41.1) (State.isArrayOf_alike hZ.alike Ar41.2.1) (g := (mkF m 235 #[.val (.int p1), .val (.int p2), .val (.int p3), .val (.int (4 : Int32)), .val (.int b0), .val (.int b1), .val (.int b2), .val (.int b3), .val (.ref ob31), .val (.int ex), .val (.int ex), .unset] [(.ref ob31)])) rfl rfl (hb hby at_235) _ ?_
          rw [len_of S41 N_41]
          show Steps p.tables e below (T40.setTop (mkF m 236 #[.val (.int p1), .val (.int p2), .val (.int p3), .val (.int (4 : Int32)), .val (.int b0), .val (.int b1), .val (.int b2), .val (.int b3), .val (.ref ob31), .val (.int ex), .val (.int ex), .unset] [(.int (4 : Int32))])) t₀
          refine XS.iloadN X40.here hx rfl (hb hby at_236) rfl ?_
          show Steps p.tables e below (T40.setTop (mkF m 237 #[.val (.int p1), .val (.int p2), .val (.int p3), .val (.int (4 : Int32)), .val (.int b0), .val (.int b1), .val (.int b2), .val (.int b3), .val (.ref ob31), .val (.int ex), .val (.int ex), .unset] [(.int (4 : Int32)), (.int (4 : Int32))])) t₀
          refine XS.icmpNo X40.here hx rfl (hb hby at_237) rfl (teq (by decide : ((4 : Int32) = (4 : Int32)))).2 ?_
          show Steps p.tables e below (T40.setTop (mkF m 240 #[.val (.int p1), .val (.int p2), .val (.int p3), .val (.int (4 : Int32)), .val (.int b0), .val (.int b1), .val (.int b2), .val (.int b3), .val (.ref ob31), .val (.int ex), .val (.int ex), .unset] [])) t₀
          refine XS.iloadN X40.here hx rfl (hb hby at_240) rfl ?_
          show Steps p.tables e below (T40.setTop (mkF m 241 #[.val (.int p1), .val (.int p2), .val (.int p3), .val (.int (4 : Int32)), .val (.int b0), .val (.int b1), .val (.int b2), .val (.int b3), .val (.ref ob31), .val (.int ex), .val (.int ex), .unset] [(.int (4 : Int32))])) t₀
          refine XS.iconst X40.here hx rfl (hb hby at_241) ?_
          show Steps p.tables e below (T40.setTop (mkF m 242 #[.val (.int p1), .val (.int p2), .val (.int p3), .val (.int (4 : Int32)), .val (.int b0), .val (.int b1), .val (.int b2), .val (.int b3), .val (.ref ob31), .val (.int ex), .val (.int ex), .unset] [(.int (1 : Int32)), (.int (4 : Int32))])) t₀
          refine XS.icmpNo X40.here hx rfl (hb hby at_242) rfl (flt (by decide : ¬ ((4 : Int32) < (1 : Int32)))).1 ?_
          show Steps p.tables e below (T40.setTop (mkF m 245 #[.val (.int p1), .val (.int p2), .val (.int p3), .val (.int (4 : Int32)), .val (.int b0), .val (.int b1), .val (.int b2), .val (.int b3), .val (.ref ob31), .val (.int ex), .val (.int ex), .unset] [])) t₀
          refine XS.aload X40.here hx rfl (hb hby at_245) rfl rfl ?_
          show Steps p.tables e below (T40.setTop (mkF m 247 #[.val (.int p1), .val (.int p2), .val (.int p3), .val (.int (4 : Int32)), .val (.int b0), .val (.int b1), .val (.int b2), .val (.int b3), .val (.ref ob31), .val (.int ex), .val (.int ex), .unset] [(.ref ob31)])) t₀
          refine XS.iconst X40.here hx rfl (hb hby at_247) ?_
          exact k₀
        have ov42 := V39
        obtain ⟨cl42, Ar42, q42, S42, N_42, H_42, G_42⟩ := ov42
        have hin42 : ¬ ((0 : Int32) < 0 ∨ cl42.slots.size ≤ ((0 : Int32)).toNatClampNeg) := inb_of S42 ⟨by decide, by decide⟩
        have hat42 : cl42.slots[((0 : Int32)).toNatClampNeg]? = some (.int (b0.toInt8.toInt32)) := H_42.at hin42 rfl
        refine hG _ (T40.setTop (mkF m 262 #[.val (.int p1), .val (.int p2), .val (.int p3), .val (.int (4 : Int32)), .val (.int b0), .val (.int b1), .val (.int b2), .val (.int b3), .val (.ref ob31), .val (.int ex), .val (.int ex), .unset] [(.int (1 : Int32)), (.ref ob31)])) (fun t₀ k₀ => ?_) ?_
        · show Steps p.tables e below (T40.setTop (mkF m 248 #[.val (.int p1), .val (.int p2), .val (.int p3), .val (.int (4 : Int32)), .val (.int b0), .val (.int b1), .val (.int b2), .val (.int b3), .val (.ref ob31), .val (.int ex), .val (.int ex), .unset] [(.int (0 : Int32)), (.ref ob31)])) t₀
          refine X40.baloadBytes hx (j := (0 : Int32)) (v := (.int (b0.toInt8.toInt32))) (by rw [e40]; exact Ar42.1) (State.isArrayOf_alike hZ.alike Ar42.2.1) Ar42.2.2 hin42 hat42 (g := (mkF m 248 #[.val (.int p1), .val (.int p2), .val (.int p3), .val (.int (4 : Int32)), .val (.int b0), .val (.int b1), .val (.int b2), .val (.int b3), .val (.ref ob31), .val (.int ex), .val (.int ex), .unset] [(.int (0 : Int32)), (.ref ob31)])) rfl rfl (hb hby at_248) _ ?_
          show Steps p.tables e below (T40.setTop (mkF m 249 #[.val (.int p1), .val (.int p2), .val (.int p3), .val (.int (4 : Int32)), .val (.int b0), .val (.int b1), .val (.int b2), .val (.int b3), .val (.ref ob31), .val (.int ex), .val (.int ex), .unset] [(.int (b0.toInt8.toInt32))])) t₀
          refine XS.iload X40.here hx rfl (hb hby at_249) rfl ?_
          show Steps p.tables e below (T40.setTop (mkF m 251 #[.val (.int p1), .val (.int p2), .val (.int p3), .val (.int (4 : Int32)), .val (.int b0), .val (.int b1), .val (.int b2), .val (.int b3), .val (.ref ob31), .val (.int ex), .val (.int ex), .unset] [(.int b0), (.int (b0.toInt8.toInt32))])) t₀
          refine XS.icmpNo X40.here hx rfl (hb hby at_251) rfl (teq hb0).2 ?_
          show Steps p.tables e below (T40.setTop (mkF m 254 #[.val (.int p1), .val (.int p2), .val (.int p3), .val (.int (4 : Int32)), .val (.int b0), .val (.int b1), .val (.int b2), .val (.int b3), .val (.ref ob31), .val (.int ex), .val (.int ex), .unset] [])) t₀
          refine XS.iloadN X40.here hx rfl (hb hby at_254) rfl ?_
          show Steps p.tables e below (T40.setTop (mkF m 255 #[.val (.int p1), .val (.int p2), .val (.int p3), .val (.int (4 : Int32)), .val (.int b0), .val (.int b1), .val (.int b2), .val (.int b3), .val (.ref ob31), .val (.int ex), .val (.int ex), .unset] [(.int (4 : Int32))])) t₀
          refine XS.iconst X40.here hx rfl (hb hby at_255) ?_
          show Steps p.tables e below (T40.setTop (mkF m 256 #[.val (.int p1), .val (.int p2), .val (.int p3), .val (.int (4 : Int32)), .val (.int b0), .val (.int b1), .val (.int b2), .val (.int b3), .val (.ref ob31), .val (.int ex), .val (.int ex), .unset] [(.int (2 : Int32)), (.int (4 : Int32))])) t₀
          refine XS.icmpNo X40.here hx rfl (hb hby at_256) rfl (flt (by decide : ¬ ((4 : Int32) < (2 : Int32)))).1 ?_
          show Steps p.tables e below (T40.setTop (mkF m 259 #[.val (.int p1), .val (.int p2), .val (.int p3), .val (.int (4 : Int32)), .val (.int b0), .val (.int b1), .val (.int b2), .val (.int b3), .val (.ref ob31), .val (.int ex), .val (.int ex), .unset] [])) t₀
          refine XS.aload X40.here hx rfl (hb hby at_259) rfl rfl ?_
          show Steps p.tables e below (T40.setTop (mkF m 261 #[.val (.int p1), .val (.int p2), .val (.int p3), .val (.int (4 : Int32)), .val (.int b0), .val (.int b1), .val (.int b2), .val (.int b3), .val (.ref ob31), .val (.int ex), .val (.int ex), .unset] [(.ref ob31)])) t₀
          refine XS.iconst X40.here hx rfl (hb hby at_261) ?_
          exact k₀
        have ov43 := V39
        obtain ⟨cl43, Ar43, q43, S43, N_43, H_43, G_43⟩ := ov43
        have hin43 : ¬ ((1 : Int32) < 0 ∨ cl43.slots.size ≤ ((1 : Int32)).toNatClampNeg) := inb_of S43 ⟨by decide, by decide⟩
        have hat43 : cl43.slots[((1 : Int32)).toNatClampNeg]? = some (.int (b1.toInt8.toInt32)) := H_43.at hin43 rfl
        refine hG _ (T40.setTop (mkF m 276 #[.val (.int p1), .val (.int p2), .val (.int p3), .val (.int (4 : Int32)), .val (.int b0), .val (.int b1), .val (.int b2), .val (.int b3), .val (.ref ob31), .val (.int ex), .val (.int ex), .unset] [(.int (2 : Int32)), (.ref ob31)])) (fun t₀ k₀ => ?_) ?_
        · show Steps p.tables e below (T40.setTop (mkF m 262 #[.val (.int p1), .val (.int p2), .val (.int p3), .val (.int (4 : Int32)), .val (.int b0), .val (.int b1), .val (.int b2), .val (.int b3), .val (.ref ob31), .val (.int ex), .val (.int ex), .unset] [(.int (1 : Int32)), (.ref ob31)])) t₀
          refine X40.baloadBytes hx (j := (1 : Int32)) (v := (.int (b1.toInt8.toInt32))) (by rw [e40]; exact Ar43.1) (State.isArrayOf_alike hZ.alike Ar43.2.1) Ar43.2.2 hin43 hat43 (g := (mkF m 262 #[.val (.int p1), .val (.int p2), .val (.int p3), .val (.int (4 : Int32)), .val (.int b0), .val (.int b1), .val (.int b2), .val (.int b3), .val (.ref ob31), .val (.int ex), .val (.int ex), .unset] [(.int (1 : Int32)), (.ref ob31)])) rfl rfl (hb hby at_262) _ ?_
          show Steps p.tables e below (T40.setTop (mkF m 263 #[.val (.int p1), .val (.int p2), .val (.int p3), .val (.int (4 : Int32)), .val (.int b0), .val (.int b1), .val (.int b2), .val (.int b3), .val (.ref ob31), .val (.int ex), .val (.int ex), .unset] [(.int (b1.toInt8.toInt32))])) t₀
          refine XS.iload X40.here hx rfl (hb hby at_263) rfl ?_
          show Steps p.tables e below (T40.setTop (mkF m 265 #[.val (.int p1), .val (.int p2), .val (.int p3), .val (.int (4 : Int32)), .val (.int b0), .val (.int b1), .val (.int b2), .val (.int b3), .val (.ref ob31), .val (.int ex), .val (.int ex), .unset] [(.int b1), (.int (b1.toInt8.toInt32))])) t₀
          refine XS.icmpNo X40.here hx rfl (hb hby at_265) rfl (teq hb1).2 ?_
          show Steps p.tables e below (T40.setTop (mkF m 268 #[.val (.int p1), .val (.int p2), .val (.int p3), .val (.int (4 : Int32)), .val (.int b0), .val (.int b1), .val (.int b2), .val (.int b3), .val (.ref ob31), .val (.int ex), .val (.int ex), .unset] [])) t₀
          refine XS.iloadN X40.here hx rfl (hb hby at_268) rfl ?_
          show Steps p.tables e below (T40.setTop (mkF m 269 #[.val (.int p1), .val (.int p2), .val (.int p3), .val (.int (4 : Int32)), .val (.int b0), .val (.int b1), .val (.int b2), .val (.int b3), .val (.ref ob31), .val (.int ex), .val (.int ex), .unset] [(.int (4 : Int32))])) t₀
          refine XS.iconst X40.here hx rfl (hb hby at_269) ?_
          show Steps p.tables e below (T40.setTop (mkF m 270 #[.val (.int p1), .val (.int p2), .val (.int p3), .val (.int (4 : Int32)), .val (.int b0), .val (.int b1), .val (.int b2), .val (.int b3), .val (.ref ob31), .val (.int ex), .val (.int ex), .unset] [(.int (3 : Int32)), (.int (4 : Int32))])) t₀
          refine XS.icmpNo X40.here hx rfl (hb hby at_270) rfl (flt (by decide : ¬ ((4 : Int32) < (3 : Int32)))).1 ?_
          show Steps p.tables e below (T40.setTop (mkF m 273 #[.val (.int p1), .val (.int p2), .val (.int p3), .val (.int (4 : Int32)), .val (.int b0), .val (.int b1), .val (.int b2), .val (.int b3), .val (.ref ob31), .val (.int ex), .val (.int ex), .unset] [])) t₀
          refine XS.aload X40.here hx rfl (hb hby at_273) rfl rfl ?_
          show Steps p.tables e below (T40.setTop (mkF m 275 #[.val (.int p1), .val (.int p2), .val (.int p3), .val (.int (4 : Int32)), .val (.int b0), .val (.int b1), .val (.int b2), .val (.int b3), .val (.ref ob31), .val (.int ex), .val (.int ex), .unset] [(.ref ob31)])) t₀
          refine XS.iconst X40.here hx rfl (hb hby at_275) ?_
          exact k₀
        have ov44 := V39
        obtain ⟨cl44, Ar44, q44, S44, N_44, H_44, G_44⟩ := ov44
        have hin44 : ¬ ((2 : Int32) < 0 ∨ cl44.slots.size ≤ ((2 : Int32)).toNatClampNeg) := inb_of S44 ⟨by decide, by decide⟩
        have hat44 : cl44.slots[((2 : Int32)).toNatClampNeg]? = some (.int (b2.toInt8.toInt32)) := H_44.at hin44 rfl
        refine hG _ (T40.setTop (mkF m 290 #[.val (.int p1), .val (.int p2), .val (.int p3), .val (.int (4 : Int32)), .val (.int b0), .val (.int b1), .val (.int b2), .val (.int b3), .val (.ref ob31), .val (.int ex), .val (.int ex), .unset] [(.int (3 : Int32)), (.ref ob31)])) (fun t₀ k₀ => ?_) ?_
        · show Steps p.tables e below (T40.setTop (mkF m 276 #[.val (.int p1), .val (.int p2), .val (.int p3), .val (.int (4 : Int32)), .val (.int b0), .val (.int b1), .val (.int b2), .val (.int b3), .val (.ref ob31), .val (.int ex), .val (.int ex), .unset] [(.int (2 : Int32)), (.ref ob31)])) t₀
          refine X40.baloadBytes hx (j := (2 : Int32)) (v := (.int (b2.toInt8.toInt32))) (by rw [e40]; exact Ar44.1) (State.isArrayOf_alike hZ.alike Ar44.2.1) Ar44.2.2 hin44 hat44 (g := (mkF m 276 #[.val (.int p1), .val (.int p2), .val (.int p3), .val (.int (4 : Int32)), .val (.int b0), .val (.int b1), .val (.int b2), .val (.int b3), .val (.ref ob31), .val (.int ex), .val (.int ex), .unset] [(.int (2 : Int32)), (.ref ob31)])) rfl rfl (hb hby at_276) _ ?_
          show Steps p.tables e below (T40.setTop (mkF m 277 #[.val (.int p1), .val (.int p2), .val (.int p3), .val (.int (4 : Int32)), .val (.int b0), .val (.int b1), .val (.int b2), .val (.int b3), .val (.ref ob31), .val (.int ex), .val (.int ex), .unset] [(.int (b2.toInt8.toInt32))])) t₀
          refine XS.iload X40.here hx rfl (hb hby at_277) rfl ?_
          show Steps p.tables e below (T40.setTop (mkF m 279 #[.val (.int p1), .val (.int p2), .val (.int p3), .val (.int (4 : Int32)), .val (.int b0), .val (.int b1), .val (.int b2), .val (.int b3), .val (.ref ob31), .val (.int ex), .val (.int ex), .unset] [(.int b2), (.int (b2.toInt8.toInt32))])) t₀
          refine XS.icmpNo X40.here hx rfl (hb hby at_279) rfl (teq hb2).2 ?_
          show Steps p.tables e below (T40.setTop (mkF m 282 #[.val (.int p1), .val (.int p2), .val (.int p3), .val (.int (4 : Int32)), .val (.int b0), .val (.int b1), .val (.int b2), .val (.int b3), .val (.ref ob31), .val (.int ex), .val (.int ex), .unset] [])) t₀
          refine XS.iloadN X40.here hx rfl (hb hby at_282) rfl ?_
          show Steps p.tables e below (T40.setTop (mkF m 283 #[.val (.int p1), .val (.int p2), .val (.int p3), .val (.int (4 : Int32)), .val (.int b0), .val (.int b1), .val (.int b2), .val (.int b3), .val (.ref ob31), .val (.int ex), .val (.int ex), .unset] [(.int (4 : Int32))])) t₀
          refine XS.iconst X40.here hx rfl (hb hby at_283) ?_
          show Steps p.tables e below (T40.setTop (mkF m 284 #[.val (.int p1), .val (.int p2), .val (.int p3), .val (.int (4 : Int32)), .val (.int b0), .val (.int b1), .val (.int b2), .val (.int b3), .val (.ref ob31), .val (.int ex), .val (.int ex), .unset] [(.int (4 : Int32)), (.int (4 : Int32))])) t₀
          refine XS.icmpNo X40.here hx rfl (hb hby at_284) rfl (flt (by decide : ¬ ((4 : Int32) < (4 : Int32)))).1 ?_
          show Steps p.tables e below (T40.setTop (mkF m 287 #[.val (.int p1), .val (.int p2), .val (.int p3), .val (.int (4 : Int32)), .val (.int b0), .val (.int b1), .val (.int b2), .val (.int b3), .val (.ref ob31), .val (.int ex), .val (.int ex), .unset] [])) t₀
          refine XS.aload X40.here hx rfl (hb hby at_287) rfl rfl ?_
          show Steps p.tables e below (T40.setTop (mkF m 289 #[.val (.int p1), .val (.int p2), .val (.int p3), .val (.int (4 : Int32)), .val (.int b0), .val (.int b1), .val (.int b2), .val (.int b3), .val (.ref ob31), .val (.int ex), .val (.int ex), .unset] [(.ref ob31)])) t₀
          refine XS.iconst X40.here hx rfl (hb hby at_289) ?_
          exact k₀
        have ov45 := V39
        obtain ⟨cl45, Ar45, q45, S45, N_45, H_45, G_45⟩ := ov45
        have hin45 : ¬ ((3 : Int32) < 0 ∨ cl45.slots.size ≤ ((3 : Int32)).toNatClampNeg) := inb_of S45 ⟨by decide, by decide⟩
        have hat45 : cl45.slots[((3 : Int32)).toNatClampNeg]? = some (.int (b3.toInt8.toInt32)) := H_45.at hin45 rfl
        refine hG _ (T40.setTop (mkF m 320 #[.val (.int p1), .val (.int p2), .val (.int p3), .val (.int (4 : Int32)), .val (.int b0), .val (.int b1), .val (.int b2), .val (.int b3), .val (.ref ob31), .val (.int ex), .val (.int ex), .val (.int (1 : Int32))] [(.int (1 : Int32))])) (fun t₀ k₀ => ?_) ?_
        · show Steps p.tables e below (T40.setTop (mkF m 290 #[.val (.int p1), .val (.int p2), .val (.int p3), .val (.int (4 : Int32)), .val (.int b0), .val (.int b1), .val (.int b2), .val (.int b3), .val (.ref ob31), .val (.int ex), .val (.int ex), .unset] [(.int (3 : Int32)), (.ref ob31)])) t₀
          refine X40.baloadBytes hx (j := (3 : Int32)) (v := (.int (b3.toInt8.toInt32))) (by rw [e40]; exact Ar45.1) (State.isArrayOf_alike hZ.alike Ar45.2.1) Ar45.2.2 hin45 hat45 (g := (mkF m 290 #[.val (.int p1), .val (.int p2), .val (.int p3), .val (.int (4 : Int32)), .val (.int b0), .val (.int b1), .val (.int b2), .val (.int b3), .val (.ref ob31), .val (.int ex), .val (.int ex), .unset] [(.int (3 : Int32)), (.ref ob31)])) rfl rfl (hb hby at_290) _ ?_
          show Steps p.tables e below (T40.setTop (mkF m 291 #[.val (.int p1), .val (.int p2), .val (.int p3), .val (.int (4 : Int32)), .val (.int b0), .val (.int b1), .val (.int b2), .val (.int b3), .val (.ref ob31), .val (.int ex), .val (.int ex), .unset] [(.int (b3.toInt8.toInt32))])) t₀
          refine XS.iload X40.here hx rfl (hb hby at_291) rfl ?_
          show Steps p.tables e below (T40.setTop (mkF m 293 #[.val (.int p1), .val (.int p2), .val (.int p3), .val (.int (4 : Int32)), .val (.int b0), .val (.int b1), .val (.int b2), .val (.int b3), .val (.ref ob31), .val (.int ex), .val (.int ex), .unset] [(.int b3), (.int (b3.toInt8.toInt32))])) t₀
          refine XS.icmpNo X40.here hx rfl (hb hby at_293) rfl (teq hb3).2 ?_
          show Steps p.tables e below (T40.setTop (mkF m 296 #[.val (.int p1), .val (.int p2), .val (.int p3), .val (.int (4 : Int32)), .val (.int b0), .val (.int b1), .val (.int b2), .val (.int b3), .val (.ref ob31), .val (.int ex), .val (.int ex), .unset] [])) t₀
          refine XS.iconst X40.here hx rfl (hb hby at_296) ?_
          show Steps p.tables e below (T40.setTop (mkF m 297 #[.val (.int p1), .val (.int p2), .val (.int p3), .val (.int (4 : Int32)), .val (.int b0), .val (.int b1), .val (.int b2), .val (.int b3), .val (.ref ob31), .val (.int ex), .val (.int ex), .unset] [(.int (1 : Int32))])) t₀
          refine XS.goto X40.here hx rfl (pc0 := 297) (pc' := 301) rfl (hb hby at_297) (by decide) (by decide) ?_
          show Steps p.tables e below (T40.setTop (mkF m 301 #[.val (.int p1), .val (.int p2), .val (.int p3), .val (.int (4 : Int32)), .val (.int b0), .val (.int b1), .val (.int b2), .val (.int b3), .val (.ref ob31), .val (.int ex), .val (.int ex), .unset] [(.int (1 : Int32))])) t₀
          refine XS.istore X40.here hx rfl (hb hby at_301) rfl (l' := #[.val (.int p1), .val (.int p2), .val (.int p3), .val (.int (4 : Int32)), .val (.int b0), .val (.int b1), .val (.int b2), .val (.int b3), .val (.ref ob31), .val (.int ex), .val (.int ex), .val (.int (1 : Int32))]) rfl ?_
          show Steps p.tables e below (T40.setTop (mkF m 303 #[.val (.int p1), .val (.int p2), .val (.int p3), .val (.int (4 : Int32)), .val (.int b0), .val (.int b1), .val (.int b2), .val (.int b3), .val (.ref ob31), .val (.int ex), .val (.int ex), .val (.int (1 : Int32))] [])) t₀
          refine XS.iload X40.here hx rfl (hb hby at_303) rfl ?_
          show Steps p.tables e below (T40.setTop (mkF m 305 #[.val (.int p1), .val (.int p2), .val (.int p3), .val (.int (4 : Int32)), .val (.int b0), .val (.int b1), .val (.int b2), .val (.int b3), .val (.ref ob31), .val (.int ex), .val (.int ex), .val (.int (1 : Int32))] [(.int ex)])) t₀
          refine XS.iload X40.here hx rfl (hb hby at_305) rfl ?_
          show Steps p.tables e below (T40.setTop (mkF m 307 #[.val (.int p1), .val (.int p2), .val (.int p3), .val (.int (4 : Int32)), .val (.int b0), .val (.int b1), .val (.int b2), .val (.int b3), .val (.ref ob31), .val (.int ex), .val (.int ex), .val (.int (1 : Int32))] [(.int ex), (.int ex)])) t₀
          refine XS.icmpNo X40.here hx rfl (hb hby at_307) rfl (teq rfl).2 ?_
          show Steps p.tables e below (T40.setTop (mkF m 310 #[.val (.int p1), .val (.int p2), .val (.int p3), .val (.int (4 : Int32)), .val (.int b0), .val (.int b1), .val (.int b2), .val (.int b3), .val (.ref ob31), .val (.int ex), .val (.int ex), .val (.int (1 : Int32))] [])) t₀
          refine XS.iload X40.here hx rfl (hb hby at_310) rfl ?_
          show Steps p.tables e below (T40.setTop (mkF m 312 #[.val (.int p1), .val (.int p2), .val (.int p3), .val (.int (4 : Int32)), .val (.int b0), .val (.int b1), .val (.int b2), .val (.int b3), .val (.ref ob31), .val (.int ex), .val (.int ex), .val (.int (1 : Int32))] [(.int (1 : Int32))])) t₀
          refine XS.ifNo X40.here hx rfl (hb hby at_312) rfl ((if0 _ _).trans (feq (by decide : ¬ ((1 : Int32) = (0 : Int32)))).1) ?_
          show Steps p.tables e below (T40.setTop (mkF m 315 #[.val (.int p1), .val (.int p2), .val (.int p3), .val (.int (4 : Int32)), .val (.int b0), .val (.int b1), .val (.int b2), .val (.int b3), .val (.ref ob31), .val (.int ex), .val (.int ex), .val (.int (1 : Int32))] [])) t₀
          refine XS.iconst X40.here hx rfl (hb hby at_315) ?_
          show Steps p.tables e below (T40.setTop (mkF m 316 #[.val (.int p1), .val (.int p2), .val (.int p3), .val (.int (4 : Int32)), .val (.int b0), .val (.int b1), .val (.int b2), .val (.int b3), .val (.ref ob31), .val (.int ex), .val (.int ex), .val (.int (1 : Int32))] [(.int (1 : Int32))])) t₀
          refine XS.goto X40.here hx rfl (pc0 := 316) (pc' := 320) rfl (hb hby at_316) (by decide) (by decide) ?_
          exact k₀
        refine hF _ T40 _ _ _ (some (.int (1 : Int32))) _ X40 e40 (fun h => by rw [hrt] at h; cases h) (by decide) (by decide) ?_ (fun fs hr => retN X40 hx (t := .boolean) hrt (by simp) (hb hby at_320) hr)
        exact ⟨rfl, N40⟩
      refine hG _ (T39.setTop (mkF m 186 #[.val (.int p1), .val (.int p2), .val (.int p3), .val (.int (4 : Int32)), .val (.int b0), .val (.int b1), .val (.int b2), .val (.int b3), .val (.ref ob31), .unset, .unset, .unset] [(.int b0)])) (fun t₀ k₀ => ?_) ?_
      · show Steps p.tables e below (T39.setTop (mkF m 179 #[.val (.int p1), .val (.int p2), .val (.int p3), .val (.int (4 : Int32)), .val (.int b0), .val (.int b1), .val (.int b2), .val (.int b3), .val (.ref ob31), .unset, .unset, .unset] [])) t₀
        refine XS.iloadN X39.here hx rfl (hb hby at_179) rfl ?_
        show Steps p.tables e below (T39.setTop (mkF m 180 #[.val (.int p1), .val (.int p2), .val (.int p3), .val (.int (4 : Int32)), .val (.int b0), .val (.int b1), .val (.int b2), .val (.int b3), .val (.ref ob31), .unset, .unset, .unset] [(.int (4 : Int32))])) t₀
        refine XS.iconst X39.here hx rfl (hb hby at_180) ?_
        show Steps p.tables e below (T39.setTop (mkF m 181 #[.val (.int p1), .val (.int p2), .val (.int p3), .val (.int (4 : Int32)), .val (.int b0), .val (.int b1), .val (.int b2), .val (.int b3), .val (.ref ob31), .unset, .unset, .unset] [(.int (1 : Int32)), (.int (4 : Int32))])) t₀
        refine XS.icmpNo X39.here hx rfl (hb hby at_181) rfl (flt (by decide : ¬ ((4 : Int32) < (1 : Int32)))).1 ?_
        show Steps p.tables e below (T39.setTop (mkF m 184 #[.val (.int p1), .val (.int p2), .val (.int p3), .val (.int (4 : Int32)), .val (.int b0), .val (.int b1), .val (.int b2), .val (.int b3), .val (.ref ob31), .unset, .unset, .unset] [])) t₀
        refine XS.iload X39.here hx rfl (hb hby at_184) rfl ?_
        exact k₀
      by_cases hc186 : b0 = (0 : Int32)
      ·
        refine hG _ (T39.setTop (mkF m 196 #[.val (.int p1), .val (.int p2), .val (.int p3), .val (.int (4 : Int32)), .val (.int b0), .val (.int b1), .val (.int b2), .val (.int b3), .val (.ref ob31), .unset, .unset, .unset] [(.int b1)])) (fun t₀ k₀ => ?_) ?_
        · show Steps p.tables e below (T39.setTop (mkF m 186 #[.val (.int p1), .val (.int p2), .val (.int p3), .val (.int (4 : Int32)), .val (.int b0), .val (.int b1), .val (.int b2), .val (.int b3), .val (.ref ob31), .unset, .unset, .unset] [(.int b0)])) t₀
          refine XS.ifNo X39.here hx rfl (hb hby at_186) rfl ((if0 _ _).trans (teq hc186).2) ?_
          show Steps p.tables e below (T39.setTop (mkF m 189 #[.val (.int p1), .val (.int p2), .val (.int p3), .val (.int (4 : Int32)), .val (.int b0), .val (.int b1), .val (.int b2), .val (.int b3), .val (.ref ob31), .unset, .unset, .unset] [])) t₀
          refine XS.iloadN X39.here hx rfl (hb hby at_189) rfl ?_
          show Steps p.tables e below (T39.setTop (mkF m 190 #[.val (.int p1), .val (.int p2), .val (.int p3), .val (.int (4 : Int32)), .val (.int b0), .val (.int b1), .val (.int b2), .val (.int b3), .val (.ref ob31), .unset, .unset, .unset] [(.int (4 : Int32))])) t₀
          refine XS.iconst X39.here hx rfl (hb hby at_190) ?_
          show Steps p.tables e below (T39.setTop (mkF m 191 #[.val (.int p1), .val (.int p2), .val (.int p3), .val (.int (4 : Int32)), .val (.int b0), .val (.int b1), .val (.int b2), .val (.int b3), .val (.ref ob31), .unset, .unset, .unset] [(.int (2 : Int32)), (.int (4 : Int32))])) t₀
          refine XS.icmpNo X39.here hx rfl (hb hby at_191) rfl (flt (by decide : ¬ ((4 : Int32) < (2 : Int32)))).1 ?_
          show Steps p.tables e below (T39.setTop (mkF m 194 #[.val (.int p1), .val (.int p2), .val (.int p3), .val (.int (4 : Int32)), .val (.int b0), .val (.int b1), .val (.int b2), .val (.int b3), .val (.ref ob31), .unset, .unset, .unset] [])) t₀
          refine XS.iload X39.here hx rfl (hb hby at_194) rfl ?_
          exact k₀
        by_cases hc196 : b1 = (0 : Int32)
        ·
          refine hG _ (T39.setTop (mkF m 206 #[.val (.int p1), .val (.int p2), .val (.int p3), .val (.int (4 : Int32)), .val (.int b0), .val (.int b1), .val (.int b2), .val (.int b3), .val (.ref ob31), .unset, .unset, .unset] [(.int b2)])) (fun t₀ k₀ => ?_) ?_
          · show Steps p.tables e below (T39.setTop (mkF m 196 #[.val (.int p1), .val (.int p2), .val (.int p3), .val (.int (4 : Int32)), .val (.int b0), .val (.int b1), .val (.int b2), .val (.int b3), .val (.ref ob31), .unset, .unset, .unset] [(.int b1)])) t₀
            refine XS.ifNo X39.here hx rfl (hb hby at_196) rfl ((if0 _ _).trans (teq hc196).2) ?_
            show Steps p.tables e below (T39.setTop (mkF m 199 #[.val (.int p1), .val (.int p2), .val (.int p3), .val (.int (4 : Int32)), .val (.int b0), .val (.int b1), .val (.int b2), .val (.int b3), .val (.ref ob31), .unset, .unset, .unset] [])) t₀
            refine XS.iloadN X39.here hx rfl (hb hby at_199) rfl ?_
            show Steps p.tables e below (T39.setTop (mkF m 200 #[.val (.int p1), .val (.int p2), .val (.int p3), .val (.int (4 : Int32)), .val (.int b0), .val (.int b1), .val (.int b2), .val (.int b3), .val (.ref ob31), .unset, .unset, .unset] [(.int (4 : Int32))])) t₀
            refine XS.iconst X39.here hx rfl (hb hby at_200) ?_
            show Steps p.tables e below (T39.setTop (mkF m 201 #[.val (.int p1), .val (.int p2), .val (.int p3), .val (.int (4 : Int32)), .val (.int b0), .val (.int b1), .val (.int b2), .val (.int b3), .val (.ref ob31), .unset, .unset, .unset] [(.int (3 : Int32)), (.int (4 : Int32))])) t₀
            refine XS.icmpNo X39.here hx rfl (hb hby at_201) rfl (flt (by decide : ¬ ((4 : Int32) < (3 : Int32)))).1 ?_
            show Steps p.tables e below (T39.setTop (mkF m 204 #[.val (.int p1), .val (.int p2), .val (.int p3), .val (.int (4 : Int32)), .val (.int b0), .val (.int b1), .val (.int b2), .val (.int b3), .val (.ref ob31), .unset, .unset, .unset] [])) t₀
            refine XS.iload X39.here hx rfl (hb hby at_204) rfl ?_
            exact k₀
          by_cases hc206 : b2 = (0 : Int32)
          ·
            refine hG _ (T39.setTop (mkF m 216 #[.val (.int p1), .val (.int p2), .val (.int p3), .val (.int (4 : Int32)), .val (.int b0), .val (.int b1), .val (.int b2), .val (.int b3), .val (.ref ob31), .unset, .unset, .unset] [(.int b3)])) (fun t₀ k₀ => ?_) ?_
            · show Steps p.tables e below (T39.setTop (mkF m 206 #[.val (.int p1), .val (.int p2), .val (.int p3), .val (.int (4 : Int32)), .val (.int b0), .val (.int b1), .val (.int b2), .val (.int b3), .val (.ref ob31), .unset, .unset, .unset] [(.int b2)])) t₀
              refine XS.ifNo X39.here hx rfl (hb hby at_206) rfl ((if0 _ _).trans (teq hc206).2) ?_
              show Steps p.tables e below (T39.setTop (mkF m 209 #[.val (.int p1), .val (.int p2), .val (.int p3), .val (.int (4 : Int32)), .val (.int b0), .val (.int b1), .val (.int b2), .val (.int b3), .val (.ref ob31), .unset, .unset, .unset] [])) t₀
              refine XS.iloadN X39.here hx rfl (hb hby at_209) rfl ?_
              show Steps p.tables e below (T39.setTop (mkF m 210 #[.val (.int p1), .val (.int p2), .val (.int p3), .val (.int (4 : Int32)), .val (.int b0), .val (.int b1), .val (.int b2), .val (.int b3), .val (.ref ob31), .unset, .unset, .unset] [(.int (4 : Int32))])) t₀
              refine XS.iconst X39.here hx rfl (hb hby at_210) ?_
              show Steps p.tables e below (T39.setTop (mkF m 211 #[.val (.int p1), .val (.int p2), .val (.int p3), .val (.int (4 : Int32)), .val (.int b0), .val (.int b1), .val (.int b2), .val (.int b3), .val (.ref ob31), .unset, .unset, .unset] [(.int (4 : Int32)), (.int (4 : Int32))])) t₀
              refine XS.icmpNo X39.here hx rfl (hb hby at_211) rfl (flt (by decide : ¬ ((4 : Int32) < (4 : Int32)))).1 ?_
              show Steps p.tables e below (T39.setTop (mkF m 214 #[.val (.int p1), .val (.int p2), .val (.int p3), .val (.int (4 : Int32)), .val (.int b0), .val (.int b1), .val (.int b2), .val (.int b3), .val (.ref ob31), .unset, .unset, .unset] [])) t₀
              refine XS.iload X39.here hx rfl (hb hby at_214) rfl ?_
              exact k₀
            by_cases hc216 : b3 = (0 : Int32)
            ·
              refine hG _ (T39.setTop (mkF m 226 #[.val (.int p1), .val (.int p2), .val (.int p3), .val (.int (4 : Int32)), .val (.int b0), .val (.int b1), .val (.int b2), .val (.int b3), .val (.ref ob31), .val (.int (1 : Int32)), .unset, .unset] [])) (fun t₀ k₀ => ?_) ?_
              · show Steps p.tables e below (T39.setTop (mkF m 216 #[.val (.int p1), .val (.int p2), .val (.int p3), .val (.int (4 : Int32)), .val (.int b0), .val (.int b1), .val (.int b2), .val (.int b3), .val (.ref ob31), .unset, .unset, .unset] [(.int b3)])) t₀
                refine XS.ifNo X39.here hx rfl (hb hby at_216) rfl ((if0 _ _).trans (teq hc216).2) ?_
                show Steps p.tables e below (T39.setTop (mkF m 219 #[.val (.int p1), .val (.int p2), .val (.int p3), .val (.int (4 : Int32)), .val (.int b0), .val (.int b1), .val (.int b2), .val (.int b3), .val (.ref ob31), .unset, .unset, .unset] [])) t₀
                refine XS.iconst X39.here hx rfl (hb hby at_219) ?_
                show Steps p.tables e below (T39.setTop (mkF m 220 #[.val (.int p1), .val (.int p2), .val (.int p3), .val (.int (4 : Int32)), .val (.int b0), .val (.int b1), .val (.int b2), .val (.int b3), .val (.ref ob31), .unset, .unset, .unset] [(.int (1 : Int32))])) t₀
                refine XS.goto X39.here hx rfl (pc0 := 220) (pc' := 224) rfl (hb hby at_220) (by decide) (by decide) ?_
                show Steps p.tables e below (T39.setTop (mkF m 224 #[.val (.int p1), .val (.int p2), .val (.int p3), .val (.int (4 : Int32)), .val (.int b0), .val (.int b1), .val (.int b2), .val (.int b3), .val (.ref ob31), .unset, .unset, .unset] [(.int (1 : Int32))])) t₀
                refine XS.istore X39.here hx rfl (hb hby at_224) rfl (l' := #[.val (.int p1), .val (.int p2), .val (.int p3), .val (.int (4 : Int32)), .val (.int b0), .val (.int b1), .val (.int b2), .val (.int b3), .val (.ref ob31), .val (.int (1 : Int32)), .unset, .unset]) rfl ?_
                exact k₀
              exact tq (1 : Int32) (by simp [hb0, hb1, hb2, hb3, hc186, hc196, hc206, hc216])
            ·
              refine hG _ (T39.setTop (mkF m 226 #[.val (.int p1), .val (.int p2), .val (.int p3), .val (.int (4 : Int32)), .val (.int b0), .val (.int b1), .val (.int b2), .val (.int b3), .val (.ref ob31), .val (.int (0 : Int32)), .unset, .unset] [])) (fun t₀ k₀ => ?_) ?_
              · show Steps p.tables e below (T39.setTop (mkF m 216 #[.val (.int p1), .val (.int p2), .val (.int p3), .val (.int (4 : Int32)), .val (.int b0), .val (.int b1), .val (.int b2), .val (.int b3), .val (.ref ob31), .unset, .unset, .unset] [(.int b3)])) t₀
                refine XS.ifYes X39.here hx rfl (pc0 := 216) (pc' := 223) rfl (hb hby at_216) rfl ((if0 _ _).trans (feq hc216).2) (by decide) (by decide) ?_
                show Steps p.tables e below (T39.setTop (mkF m 223 #[.val (.int p1), .val (.int p2), .val (.int p3), .val (.int (4 : Int32)), .val (.int b0), .val (.int b1), .val (.int b2), .val (.int b3), .val (.ref ob31), .unset, .unset, .unset] [])) t₀
                refine XS.iconst X39.here hx rfl (hb hby at_223) ?_
                show Steps p.tables e below (T39.setTop (mkF m 224 #[.val (.int p1), .val (.int p2), .val (.int p3), .val (.int (4 : Int32)), .val (.int b0), .val (.int b1), .val (.int b2), .val (.int b3), .val (.ref ob31), .unset, .unset, .unset] [(.int (0 : Int32))])) t₀
                refine XS.istore X39.here hx rfl (hb hby at_224) rfl (l' := #[.val (.int p1), .val (.int p2), .val (.int p3), .val (.int (4 : Int32)), .val (.int b0), .val (.int b1), .val (.int b2), .val (.int b3), .val (.ref ob31), .val (.int (0 : Int32)), .unset, .unset]) rfl ?_
                exact k₀
              exact tq (0 : Int32) (by simp [hb0, hb1, hb2, hb3, hc186, hc196, hc206, hc216])
          ·
            refine hG _ (T39.setTop (mkF m 226 #[.val (.int p1), .val (.int p2), .val (.int p3), .val (.int (4 : Int32)), .val (.int b0), .val (.int b1), .val (.int b2), .val (.int b3), .val (.ref ob31), .val (.int (0 : Int32)), .unset, .unset] [])) (fun t₀ k₀ => ?_) ?_
            · show Steps p.tables e below (T39.setTop (mkF m 206 #[.val (.int p1), .val (.int p2), .val (.int p3), .val (.int (4 : Int32)), .val (.int b0), .val (.int b1), .val (.int b2), .val (.int b3), .val (.ref ob31), .unset, .unset, .unset] [(.int b2)])) t₀
              refine XS.ifYes X39.here hx rfl (pc0 := 206) (pc' := 223) rfl (hb hby at_206) rfl ((if0 _ _).trans (feq hc206).2) (by decide) (by decide) ?_
              show Steps p.tables e below (T39.setTop (mkF m 223 #[.val (.int p1), .val (.int p2), .val (.int p3), .val (.int (4 : Int32)), .val (.int b0), .val (.int b1), .val (.int b2), .val (.int b3), .val (.ref ob31), .unset, .unset, .unset] [])) t₀
              refine XS.iconst X39.here hx rfl (hb hby at_223) ?_
              show Steps p.tables e below (T39.setTop (mkF m 224 #[.val (.int p1), .val (.int p2), .val (.int p3), .val (.int (4 : Int32)), .val (.int b0), .val (.int b1), .val (.int b2), .val (.int b3), .val (.ref ob31), .unset, .unset, .unset] [(.int (0 : Int32))])) t₀
              refine XS.istore X39.here hx rfl (hb hby at_224) rfl (l' := #[.val (.int p1), .val (.int p2), .val (.int p3), .val (.int (4 : Int32)), .val (.int b0), .val (.int b1), .val (.int b2), .val (.int b3), .val (.ref ob31), .val (.int (0 : Int32)), .unset, .unset]) rfl ?_
              exact k₀
            exact tq (0 : Int32) (by simp [hb0, hb1, hb2, hb3, hc186, hc196, hc206])
        ·
          refine hG _ (T39.setTop (mkF m 226 #[.val (.int p1), .val (.int p2), .val (.int p3), .val (.int (4 : Int32)), .val (.int b0), .val (.int b1), .val (.int b2), .val (.int b3), .val (.ref ob31), .val (.int (0 : Int32)), .unset, .unset] [])) (fun t₀ k₀ => ?_) ?_
          · show Steps p.tables e below (T39.setTop (mkF m 196 #[.val (.int p1), .val (.int p2), .val (.int p3), .val (.int (4 : Int32)), .val (.int b0), .val (.int b1), .val (.int b2), .val (.int b3), .val (.ref ob31), .unset, .unset, .unset] [(.int b1)])) t₀
            refine XS.ifYes X39.here hx rfl (pc0 := 196) (pc' := 223) rfl (hb hby at_196) rfl ((if0 _ _).trans (feq hc196).2) (by decide) (by decide) ?_
            show Steps p.tables e below (T39.setTop (mkF m 223 #[.val (.int p1), .val (.int p2), .val (.int p3), .val (.int (4 : Int32)), .val (.int b0), .val (.int b1), .val (.int b2), .val (.int b3), .val (.ref ob31), .unset, .unset, .unset] [])) t₀
            refine XS.iconst X39.here hx rfl (hb hby at_223) ?_
            show Steps p.tables e below (T39.setTop (mkF m 224 #[.val (.int p1), .val (.int p2), .val (.int p3), .val (.int (4 : Int32)), .val (.int b0), .val (.int b1), .val (.int b2), .val (.int b3), .val (.ref ob31), .unset, .unset, .unset] [(.int (0 : Int32))])) t₀
            refine XS.istore X39.here hx rfl (hb hby at_224) rfl (l' := #[.val (.int p1), .val (.int p2), .val (.int p3), .val (.int (4 : Int32)), .val (.int b0), .val (.int b1), .val (.int b2), .val (.int b3), .val (.ref ob31), .val (.int (0 : Int32)), .unset, .unset]) rfl ?_
            exact k₀
          exact tq (0 : Int32) (by simp [hb0, hb1, hb2, hb3, hc186, hc196])
      ·
        refine hG _ (T39.setTop (mkF m 226 #[.val (.int p1), .val (.int p2), .val (.int p3), .val (.int (4 : Int32)), .val (.int b0), .val (.int b1), .val (.int b2), .val (.int b3), .val (.ref ob31), .val (.int (0 : Int32)), .unset, .unset] [])) (fun t₀ k₀ => ?_) ?_
        · show Steps p.tables e below (T39.setTop (mkF m 186 #[.val (.int p1), .val (.int p2), .val (.int p3), .val (.int (4 : Int32)), .val (.int b0), .val (.int b1), .val (.int b2), .val (.int b3), .val (.ref ob31), .unset, .unset, .unset] [(.int b0)])) t₀
          refine XS.ifYes X39.here hx rfl (pc0 := 186) (pc' := 223) rfl (hb hby at_186) rfl ((if0 _ _).trans (feq hc186).2) (by decide) (by decide) ?_
          show Steps p.tables e below (T39.setTop (mkF m 223 #[.val (.int p1), .val (.int p2), .val (.int p3), .val (.int (4 : Int32)), .val (.int b0), .val (.int b1), .val (.int b2), .val (.int b3), .val (.ref ob31), .unset, .unset, .unset] [])) t₀
          refine XS.iconst X39.here hx rfl (hb hby at_223) ?_
          show Steps p.tables e below (T39.setTop (mkF m 224 #[.val (.int p1), .val (.int p2), .val (.int p3), .val (.int (4 : Int32)), .val (.int b0), .val (.int b1), .val (.int b2), .val (.int b3), .val (.ref ob31), .unset, .unset, .unset] [(.int (0 : Int32))])) t₀
          refine XS.istore X39.here hx rfl (hb hby at_224) rfl (l' := #[.val (.int p1), .val (.int p2), .val (.int p3), .val (.int (4 : Int32)), .val (.int b0), .val (.int b1), .val (.int b2), .val (.int b3), .val (.ref ob31), .val (.int (0 : Int32)), .unset, .unset]) rfl ?_
          exact k₀
        exact tq (0 : Int32) (by simp [hb0, hb1, hb2, hb3, hc186])
  have tl3 : ∀  (b0 b1 b2 : Int32) (hb0 : b0.toInt8.toInt32 = b0) (hb1 : b1.toInt8.toInt32 = b1) (hb2 : b2.toInt8.toInt32 = b2), G (s₁.setTop (mkF m 55 #[.val (.int p1), .val (.int p2), .val (.int p3), .val (.int ((p3 &&& (2147483647 : Int32)) % (5 : Int32))), .val (.int b0), .val (.int b1), .val (.int b2), .unset, .unset, .unset, .unset, .unset] [])) := by
    intro b0 b1 b2 hb0 hb1 hb2
    refine hG _ (s₁.setTop (mkF m 59 #[.val (.int p1), .val (.int p2), .val (.int p3), .val (.int ((p3 &&& (2147483647 : Int32)) % (5 : Int32))), .val (.int b0), .val (.int b1), .val (.int b2), .unset, .unset, .unset, .unset, .unset] [(.int (p2 &&& (8 : Int32)))])) (fun t₀ k₀ => ?_) ?_
    · show Steps p.tables e below (s₁.setTop (mkF m 55 #[.val (.int p1), .val (.int p2), .val (.int p3), .val (.int ((p3 &&& (2147483647 : Int32)) % (5 : Int32))), .val (.int b0), .val (.int b1), .val (.int b2), .unset, .unset, .unset, .unset, .unset] [])) t₀
      refine XS.iloadN X0.here hx rfl (hb hby at_55) rfl ?_
      show Steps p.tables e below (s₁.setTop (mkF m 56 #[.val (.int p1), .val (.int p2), .val (.int p3), .val (.int ((p3 &&& (2147483647 : Int32)) % (5 : Int32))), .val (.int b0), .val (.int b1), .val (.int b2), .unset, .unset, .unset, .unset, .unset] [(.int p2)])) t₀
      refine XS.bipush X0.here hx rfl (hb hby at_56) ?_
      show Steps p.tables e below (s₁.setTop (mkF m 58 #[.val (.int p1), .val (.int p2), .val (.int p3), .val (.int ((p3 &&& (2147483647 : Int32)) % (5 : Int32))), .val (.int b0), .val (.int b1), .val (.int b2), .unset, .unset, .unset, .unset, .unset] [(.int (8 : Int32)), (.int p2)])) t₀
      refine XS.iand X0.here hx rfl (hb hby at_58) rfl ?_
      exact k₀
    by_cases hc59 : (p2 &&& (8 : Int32)) = (0 : Int32)
    ·
      refine hG _ (s₁.setTop (mkF m 73 #[.val (.int p1), .val (.int p2), .val (.int p3), .val (.int ((p3 &&& (2147483647 : Int32)) % (5 : Int32))), .val (.int b0), .val (.int b1), .val (.int b2), .val (.int ((p1 >>> ((24 : Int32) &&& 31)).toInt8.toInt32)), .unset, .unset, .unset, .unset] [])) (fun t₀ k₀ => ?_) ?_
      · show Steps p.tables e below (s₁.setTop (mkF m 59 #[.val (.int p1), .val (.int p2), .val (.int p3), .val (.int ((p3 &&& (2147483647 : Int32)) % (5 : Int32))), .val (.int b0), .val (.int b1), .val (.int b2), .unset, .unset, .unset, .unset, .unset] [(.int (p2 &&& (8 : Int32)))])) t₀
        refine XS.ifYes X0.here hx rfl (pc0 := 59) (pc' := 66) rfl (hb hby at_59) rfl ((if0 _ _).trans (teq hc59).1) (by decide) (by decide) ?_
        show Steps p.tables e below (s₁.setTop (mkF m 66 #[.val (.int p1), .val (.int p2), .val (.int p3), .val (.int ((p3 &&& (2147483647 : Int32)) % (5 : Int32))), .val (.int b0), .val (.int b1), .val (.int b2), .unset, .unset, .unset, .unset, .unset] [])) t₀
        refine XS.iloadN X0.here hx rfl (hb hby at_66) rfl ?_
        show Steps p.tables e below (s₁.setTop (mkF m 67 #[.val (.int p1), .val (.int p2), .val (.int p3), .val (.int ((p3 &&& (2147483647 : Int32)) % (5 : Int32))), .val (.int b0), .val (.int b1), .val (.int b2), .unset, .unset, .unset, .unset, .unset] [(.int p1)])) t₀
        refine XS.bipush X0.here hx rfl (hb hby at_67) ?_
        show Steps p.tables e below (s₁.setTop (mkF m 69 #[.val (.int p1), .val (.int p2), .val (.int p3), .val (.int ((p3 &&& (2147483647 : Int32)) % (5 : Int32))), .val (.int b0), .val (.int b1), .val (.int b2), .unset, .unset, .unset, .unset, .unset] [(.int (24 : Int32)), (.int p1)])) t₀
        refine XS.ishr X0.here hx rfl (hb hby at_69) rfl ?_
        show Steps p.tables e below (s₁.setTop (mkF m 70 #[.val (.int p1), .val (.int p2), .val (.int p3), .val (.int ((p3 &&& (2147483647 : Int32)) % (5 : Int32))), .val (.int b0), .val (.int b1), .val (.int b2), .unset, .unset, .unset, .unset, .unset] [(.int (p1 >>> ((24 : Int32) &&& 31)))])) t₀
        refine XS.i2b X0.here hx rfl (hb hby at_70) rfl ?_
        show Steps p.tables e below (s₁.setTop (mkF m 71 #[.val (.int p1), .val (.int p2), .val (.int p3), .val (.int ((p3 &&& (2147483647 : Int32)) % (5 : Int32))), .val (.int b0), .val (.int b1), .val (.int b2), .unset, .unset, .unset, .unset, .unset] [(.int ((p1 >>> ((24 : Int32) &&& 31)).toInt8.toInt32))])) t₀
        refine XS.istore X0.here hx rfl (hb hby at_71) rfl (l' := #[.val (.int p1), .val (.int p2), .val (.int p3), .val (.int ((p3 &&& (2147483647 : Int32)) % (5 : Int32))), .val (.int b0), .val (.int b1), .val (.int b2), .val (.int ((p1 >>> ((24 : Int32) &&& 31)).toInt8.toInt32)), .unset, .unset, .unset, .unset]) rfl ?_
        exact k₀
      exact tl4 ((p3 &&& (2147483647 : Int32)) % (5 : Int32)) b0 b1 b2 ((p1 >>> ((24 : Int32) &&& 31)).toInt8.toInt32) (own_5 p3) hb0 hb1 hb2 (own_i2b _)
    ·
      refine hG _ (s₁.setTop (mkF m 73 #[.val (.int p1), .val (.int p2), .val (.int p3), .val (.int ((p3 &&& (2147483647 : Int32)) % (5 : Int32))), .val (.int b0), .val (.int b1), .val (.int b2), .val (.int (0 : Int32)), .unset, .unset, .unset, .unset] [])) (fun t₀ k₀ => ?_) ?_
      · show Steps p.tables e below (s₁.setTop (mkF m 59 #[.val (.int p1), .val (.int p2), .val (.int p3), .val (.int ((p3 &&& (2147483647 : Int32)) % (5 : Int32))), .val (.int b0), .val (.int b1), .val (.int b2), .unset, .unset, .unset, .unset, .unset] [(.int (p2 &&& (8 : Int32)))])) t₀
        refine XS.ifNo X0.here hx rfl (hb hby at_59) rfl ((if0 _ _).trans (feq hc59).1) ?_
        show Steps p.tables e below (s₁.setTop (mkF m 62 #[.val (.int p1), .val (.int p2), .val (.int p3), .val (.int ((p3 &&& (2147483647 : Int32)) % (5 : Int32))), .val (.int b0), .val (.int b1), .val (.int b2), .unset, .unset, .unset, .unset, .unset] [])) t₀
        refine XS.iconst X0.here hx rfl (hb hby at_62) ?_
        show Steps p.tables e below (s₁.setTop (mkF m 63 #[.val (.int p1), .val (.int p2), .val (.int p3), .val (.int ((p3 &&& (2147483647 : Int32)) % (5 : Int32))), .val (.int b0), .val (.int b1), .val (.int b2), .unset, .unset, .unset, .unset, .unset] [(.int (0 : Int32))])) t₀
        refine XS.goto X0.here hx rfl (pc0 := 63) (pc' := 71) rfl (hb hby at_63) (by decide) (by decide) ?_
        show Steps p.tables e below (s₁.setTop (mkF m 71 #[.val (.int p1), .val (.int p2), .val (.int p3), .val (.int ((p3 &&& (2147483647 : Int32)) % (5 : Int32))), .val (.int b0), .val (.int b1), .val (.int b2), .unset, .unset, .unset, .unset, .unset] [(.int (0 : Int32))])) t₀
        refine XS.istore X0.here hx rfl (hb hby at_71) rfl (l' := #[.val (.int p1), .val (.int p2), .val (.int p3), .val (.int ((p3 &&& (2147483647 : Int32)) % (5 : Int32))), .val (.int b0), .val (.int b1), .val (.int b2), .val (.int (0 : Int32)), .unset, .unset, .unset, .unset]) rfl ?_
        exact k₀
      exact tl4 ((p3 &&& (2147483647 : Int32)) % (5 : Int32)) b0 b1 b2 (0 : Int32) (own_5 p3) hb0 hb1 hb2 rfl
  have tl2 : ∀  (b0 b1 : Int32) (hb0 : b0.toInt8.toInt32 = b0) (hb1 : b1.toInt8.toInt32 = b1), G (s₁.setTop (mkF m 38 #[.val (.int p1), .val (.int p2), .val (.int p3), .val (.int ((p3 &&& (2147483647 : Int32)) % (5 : Int32))), .val (.int b0), .val (.int b1), .unset, .unset, .unset, .unset, .unset, .unset] [])) := by
    intro b0 b1 hb0 hb1
    refine hG _ (s₁.setTop (mkF m 41 #[.val (.int p1), .val (.int p2), .val (.int p3), .val (.int ((p3 &&& (2147483647 : Int32)) % (5 : Int32))), .val (.int b0), .val (.int b1), .unset, .unset, .unset, .unset, .unset, .unset] [(.int (p2 &&& (4 : Int32)))])) (fun t₀ k₀ => ?_) ?_
    · show Steps p.tables e below (s₁.setTop (mkF m 38 #[.val (.int p1), .val (.int p2), .val (.int p3), .val (.int ((p3 &&& (2147483647 : Int32)) % (5 : Int32))), .val (.int b0), .val (.int b1), .unset, .unset, .unset, .unset, .unset, .unset] [])) t₀
      refine XS.iloadN X0.here hx rfl (hb hby at_38) rfl ?_
      show Steps p.tables e below (s₁.setTop (mkF m 39 #[.val (.int p1), .val (.int p2), .val (.int p3), .val (.int ((p3 &&& (2147483647 : Int32)) % (5 : Int32))), .val (.int b0), .val (.int b1), .unset, .unset, .unset, .unset, .unset, .unset] [(.int p2)])) t₀
      refine XS.iconst X0.here hx rfl (hb hby at_39) ?_
      show Steps p.tables e below (s₁.setTop (mkF m 40 #[.val (.int p1), .val (.int p2), .val (.int p3), .val (.int ((p3 &&& (2147483647 : Int32)) % (5 : Int32))), .val (.int b0), .val (.int b1), .unset, .unset, .unset, .unset, .unset, .unset] [(.int (4 : Int32)), (.int p2)])) t₀
      refine XS.iand X0.here hx rfl (hb hby at_40) rfl ?_
      exact k₀
    by_cases hc41 : (p2 &&& (4 : Int32)) = (0 : Int32)
    ·
      refine hG _ (s₁.setTop (mkF m 55 #[.val (.int p1), .val (.int p2), .val (.int p3), .val (.int ((p3 &&& (2147483647 : Int32)) % (5 : Int32))), .val (.int b0), .val (.int b1), .val (.int ((p1 >>> ((16 : Int32) &&& 31)).toInt8.toInt32)), .unset, .unset, .unset, .unset, .unset] [])) (fun t₀ k₀ => ?_) ?_
      · show Steps p.tables e below (s₁.setTop (mkF m 41 #[.val (.int p1), .val (.int p2), .val (.int p3), .val (.int ((p3 &&& (2147483647 : Int32)) % (5 : Int32))), .val (.int b0), .val (.int b1), .unset, .unset, .unset, .unset, .unset, .unset] [(.int (p2 &&& (4 : Int32)))])) t₀
        refine XS.ifYes X0.here hx rfl (pc0 := 41) (pc' := 48) rfl (hb hby at_41) rfl ((if0 _ _).trans (teq hc41).1) (by decide) (by decide) ?_
        show Steps p.tables e below (s₁.setTop (mkF m 48 #[.val (.int p1), .val (.int p2), .val (.int p3), .val (.int ((p3 &&& (2147483647 : Int32)) % (5 : Int32))), .val (.int b0), .val (.int b1), .unset, .unset, .unset, .unset, .unset, .unset] [])) t₀
        refine XS.iloadN X0.here hx rfl (hb hby at_48) rfl ?_
        show Steps p.tables e below (s₁.setTop (mkF m 49 #[.val (.int p1), .val (.int p2), .val (.int p3), .val (.int ((p3 &&& (2147483647 : Int32)) % (5 : Int32))), .val (.int b0), .val (.int b1), .unset, .unset, .unset, .unset, .unset, .unset] [(.int p1)])) t₀
        refine XS.bipush X0.here hx rfl (hb hby at_49) ?_
        show Steps p.tables e below (s₁.setTop (mkF m 51 #[.val (.int p1), .val (.int p2), .val (.int p3), .val (.int ((p3 &&& (2147483647 : Int32)) % (5 : Int32))), .val (.int b0), .val (.int b1), .unset, .unset, .unset, .unset, .unset, .unset] [(.int (16 : Int32)), (.int p1)])) t₀
        refine XS.ishr X0.here hx rfl (hb hby at_51) rfl ?_
        show Steps p.tables e below (s₁.setTop (mkF m 52 #[.val (.int p1), .val (.int p2), .val (.int p3), .val (.int ((p3 &&& (2147483647 : Int32)) % (5 : Int32))), .val (.int b0), .val (.int b1), .unset, .unset, .unset, .unset, .unset, .unset] [(.int (p1 >>> ((16 : Int32) &&& 31)))])) t₀
        refine XS.i2b X0.here hx rfl (hb hby at_52) rfl ?_
        show Steps p.tables e below (s₁.setTop (mkF m 53 #[.val (.int p1), .val (.int p2), .val (.int p3), .val (.int ((p3 &&& (2147483647 : Int32)) % (5 : Int32))), .val (.int b0), .val (.int b1), .unset, .unset, .unset, .unset, .unset, .unset] [(.int ((p1 >>> ((16 : Int32) &&& 31)).toInt8.toInt32))])) t₀
        refine XS.istore X0.here hx rfl (hb hby at_53) rfl (l' := #[.val (.int p1), .val (.int p2), .val (.int p3), .val (.int ((p3 &&& (2147483647 : Int32)) % (5 : Int32))), .val (.int b0), .val (.int b1), .val (.int ((p1 >>> ((16 : Int32) &&& 31)).toInt8.toInt32)), .unset, .unset, .unset, .unset, .unset]) rfl ?_
        exact k₀
      exact tl3 b0 b1 ((p1 >>> ((16 : Int32) &&& 31)).toInt8.toInt32) hb0 hb1 (own_i2b _)
    ·
      refine hG _ (s₁.setTop (mkF m 55 #[.val (.int p1), .val (.int p2), .val (.int p3), .val (.int ((p3 &&& (2147483647 : Int32)) % (5 : Int32))), .val (.int b0), .val (.int b1), .val (.int (0 : Int32)), .unset, .unset, .unset, .unset, .unset] [])) (fun t₀ k₀ => ?_) ?_
      · show Steps p.tables e below (s₁.setTop (mkF m 41 #[.val (.int p1), .val (.int p2), .val (.int p3), .val (.int ((p3 &&& (2147483647 : Int32)) % (5 : Int32))), .val (.int b0), .val (.int b1), .unset, .unset, .unset, .unset, .unset, .unset] [(.int (p2 &&& (4 : Int32)))])) t₀
        refine XS.ifNo X0.here hx rfl (hb hby at_41) rfl ((if0 _ _).trans (feq hc41).1) ?_
        show Steps p.tables e below (s₁.setTop (mkF m 44 #[.val (.int p1), .val (.int p2), .val (.int p3), .val (.int ((p3 &&& (2147483647 : Int32)) % (5 : Int32))), .val (.int b0), .val (.int b1), .unset, .unset, .unset, .unset, .unset, .unset] [])) t₀
        refine XS.iconst X0.here hx rfl (hb hby at_44) ?_
        show Steps p.tables e below (s₁.setTop (mkF m 45 #[.val (.int p1), .val (.int p2), .val (.int p3), .val (.int ((p3 &&& (2147483647 : Int32)) % (5 : Int32))), .val (.int b0), .val (.int b1), .unset, .unset, .unset, .unset, .unset, .unset] [(.int (0 : Int32))])) t₀
        refine XS.goto X0.here hx rfl (pc0 := 45) (pc' := 53) rfl (hb hby at_45) (by decide) (by decide) ?_
        show Steps p.tables e below (s₁.setTop (mkF m 53 #[.val (.int p1), .val (.int p2), .val (.int p3), .val (.int ((p3 &&& (2147483647 : Int32)) % (5 : Int32))), .val (.int b0), .val (.int b1), .unset, .unset, .unset, .unset, .unset, .unset] [(.int (0 : Int32))])) t₀
        refine XS.istore X0.here hx rfl (hb hby at_53) rfl (l' := #[.val (.int p1), .val (.int p2), .val (.int p3), .val (.int ((p3 &&& (2147483647 : Int32)) % (5 : Int32))), .val (.int b0), .val (.int b1), .val (.int (0 : Int32)), .unset, .unset, .unset, .unset, .unset]) rfl ?_
        exact k₀
      exact tl3 b0 b1 (0 : Int32) hb0 hb1 rfl
  have tl1 : ∀  (b0 : Int32) (hb0 : b0.toInt8.toInt32 = b0), G (s₁.setTop (mkF m 21 #[.val (.int p1), .val (.int p2), .val (.int p3), .val (.int ((p3 &&& (2147483647 : Int32)) % (5 : Int32))), .val (.int b0), .unset, .unset, .unset, .unset, .unset, .unset, .unset] [])) := by
    intro b0 hb0
    refine hG _ (s₁.setTop (mkF m 24 #[.val (.int p1), .val (.int p2), .val (.int p3), .val (.int ((p3 &&& (2147483647 : Int32)) % (5 : Int32))), .val (.int b0), .unset, .unset, .unset, .unset, .unset, .unset, .unset] [(.int (p2 &&& (2 : Int32)))])) (fun t₀ k₀ => ?_) ?_
    · show Steps p.tables e below (s₁.setTop (mkF m 21 #[.val (.int p1), .val (.int p2), .val (.int p3), .val (.int ((p3 &&& (2147483647 : Int32)) % (5 : Int32))), .val (.int b0), .unset, .unset, .unset, .unset, .unset, .unset, .unset] [])) t₀
      refine XS.iloadN X0.here hx rfl (hb hby at_21) rfl ?_
      show Steps p.tables e below (s₁.setTop (mkF m 22 #[.val (.int p1), .val (.int p2), .val (.int p3), .val (.int ((p3 &&& (2147483647 : Int32)) % (5 : Int32))), .val (.int b0), .unset, .unset, .unset, .unset, .unset, .unset, .unset] [(.int p2)])) t₀
      refine XS.iconst X0.here hx rfl (hb hby at_22) ?_
      show Steps p.tables e below (s₁.setTop (mkF m 23 #[.val (.int p1), .val (.int p2), .val (.int p3), .val (.int ((p3 &&& (2147483647 : Int32)) % (5 : Int32))), .val (.int b0), .unset, .unset, .unset, .unset, .unset, .unset, .unset] [(.int (2 : Int32)), (.int p2)])) t₀
      refine XS.iand X0.here hx rfl (hb hby at_23) rfl ?_
      exact k₀
    by_cases hc24 : (p2 &&& (2 : Int32)) = (0 : Int32)
    ·
      refine hG _ (s₁.setTop (mkF m 38 #[.val (.int p1), .val (.int p2), .val (.int p3), .val (.int ((p3 &&& (2147483647 : Int32)) % (5 : Int32))), .val (.int b0), .val (.int ((p1 >>> ((8 : Int32) &&& 31)).toInt8.toInt32)), .unset, .unset, .unset, .unset, .unset, .unset] [])) (fun t₀ k₀ => ?_) ?_
      · show Steps p.tables e below (s₁.setTop (mkF m 24 #[.val (.int p1), .val (.int p2), .val (.int p3), .val (.int ((p3 &&& (2147483647 : Int32)) % (5 : Int32))), .val (.int b0), .unset, .unset, .unset, .unset, .unset, .unset, .unset] [(.int (p2 &&& (2 : Int32)))])) t₀
        refine XS.ifYes X0.here hx rfl (pc0 := 24) (pc' := 31) rfl (hb hby at_24) rfl ((if0 _ _).trans (teq hc24).1) (by decide) (by decide) ?_
        show Steps p.tables e below (s₁.setTop (mkF m 31 #[.val (.int p1), .val (.int p2), .val (.int p3), .val (.int ((p3 &&& (2147483647 : Int32)) % (5 : Int32))), .val (.int b0), .unset, .unset, .unset, .unset, .unset, .unset, .unset] [])) t₀
        refine XS.iloadN X0.here hx rfl (hb hby at_31) rfl ?_
        show Steps p.tables e below (s₁.setTop (mkF m 32 #[.val (.int p1), .val (.int p2), .val (.int p3), .val (.int ((p3 &&& (2147483647 : Int32)) % (5 : Int32))), .val (.int b0), .unset, .unset, .unset, .unset, .unset, .unset, .unset] [(.int p1)])) t₀
        refine XS.bipush X0.here hx rfl (hb hby at_32) ?_
        show Steps p.tables e below (s₁.setTop (mkF m 34 #[.val (.int p1), .val (.int p2), .val (.int p3), .val (.int ((p3 &&& (2147483647 : Int32)) % (5 : Int32))), .val (.int b0), .unset, .unset, .unset, .unset, .unset, .unset, .unset] [(.int (8 : Int32)), (.int p1)])) t₀
        refine XS.ishr X0.here hx rfl (hb hby at_34) rfl ?_
        show Steps p.tables e below (s₁.setTop (mkF m 35 #[.val (.int p1), .val (.int p2), .val (.int p3), .val (.int ((p3 &&& (2147483647 : Int32)) % (5 : Int32))), .val (.int b0), .unset, .unset, .unset, .unset, .unset, .unset, .unset] [(.int (p1 >>> ((8 : Int32) &&& 31)))])) t₀
        refine XS.i2b X0.here hx rfl (hb hby at_35) rfl ?_
        show Steps p.tables e below (s₁.setTop (mkF m 36 #[.val (.int p1), .val (.int p2), .val (.int p3), .val (.int ((p3 &&& (2147483647 : Int32)) % (5 : Int32))), .val (.int b0), .unset, .unset, .unset, .unset, .unset, .unset, .unset] [(.int ((p1 >>> ((8 : Int32) &&& 31)).toInt8.toInt32))])) t₀
        refine XS.istore X0.here hx rfl (hb hby at_36) rfl (l' := #[.val (.int p1), .val (.int p2), .val (.int p3), .val (.int ((p3 &&& (2147483647 : Int32)) % (5 : Int32))), .val (.int b0), .val (.int ((p1 >>> ((8 : Int32) &&& 31)).toInt8.toInt32)), .unset, .unset, .unset, .unset, .unset, .unset]) rfl ?_
        exact k₀
      exact tl2 b0 ((p1 >>> ((8 : Int32) &&& 31)).toInt8.toInt32) hb0 (own_i2b _)
    ·
      refine hG _ (s₁.setTop (mkF m 38 #[.val (.int p1), .val (.int p2), .val (.int p3), .val (.int ((p3 &&& (2147483647 : Int32)) % (5 : Int32))), .val (.int b0), .val (.int (0 : Int32)), .unset, .unset, .unset, .unset, .unset, .unset] [])) (fun t₀ k₀ => ?_) ?_
      · show Steps p.tables e below (s₁.setTop (mkF m 24 #[.val (.int p1), .val (.int p2), .val (.int p3), .val (.int ((p3 &&& (2147483647 : Int32)) % (5 : Int32))), .val (.int b0), .unset, .unset, .unset, .unset, .unset, .unset, .unset] [(.int (p2 &&& (2 : Int32)))])) t₀
        refine XS.ifNo X0.here hx rfl (hb hby at_24) rfl ((if0 _ _).trans (feq hc24).1) ?_
        show Steps p.tables e below (s₁.setTop (mkF m 27 #[.val (.int p1), .val (.int p2), .val (.int p3), .val (.int ((p3 &&& (2147483647 : Int32)) % (5 : Int32))), .val (.int b0), .unset, .unset, .unset, .unset, .unset, .unset, .unset] [])) t₀
        refine XS.iconst X0.here hx rfl (hb hby at_27) ?_
        show Steps p.tables e below (s₁.setTop (mkF m 28 #[.val (.int p1), .val (.int p2), .val (.int p3), .val (.int ((p3 &&& (2147483647 : Int32)) % (5 : Int32))), .val (.int b0), .unset, .unset, .unset, .unset, .unset, .unset, .unset] [(.int (0 : Int32))])) t₀
        refine XS.goto X0.here hx rfl (pc0 := 28) (pc' := 36) rfl (hb hby at_28) (by decide) (by decide) ?_
        show Steps p.tables e below (s₁.setTop (mkF m 36 #[.val (.int p1), .val (.int p2), .val (.int p3), .val (.int ((p3 &&& (2147483647 : Int32)) % (5 : Int32))), .val (.int b0), .unset, .unset, .unset, .unset, .unset, .unset, .unset] [(.int (0 : Int32))])) t₀
        refine XS.istore X0.here hx rfl (hb hby at_36) rfl (l' := #[.val (.int p1), .val (.int p2), .val (.int p3), .val (.int ((p3 &&& (2147483647 : Int32)) % (5 : Int32))), .val (.int b0), .val (.int (0 : Int32)), .unset, .unset, .unset, .unset, .unset, .unset]) rfl ?_
        exact k₀
      exact tl2 b0 (0 : Int32) hb0 rfl
  refine hG _ (s₁.setTop (mkF m 10 #[.val (.int p1), .val (.int p2), .val (.int p3), .val (.int ((p3 &&& (2147483647 : Int32)) % (5 : Int32))), .unset, .unset, .unset, .unset, .unset, .unset, .unset, .unset] [(.int (p2 &&& (1 : Int32)))])) (fun t₀ k₀ => ?_) ?_
  · show Steps p.tables e below (s₁.setTop (mkF m 0 #[.val (.int p1), .val (.int p2), .val (.int p3), .unset, .unset, .unset, .unset, .unset, .unset, .unset, .unset, .unset] [])) t₀
    refine XS.iloadN X0.here hx rfl (hb hby at_0) rfl ?_
    show Steps p.tables e below (s₁.setTop (mkF m 1 #[.val (.int p1), .val (.int p2), .val (.int p3), .unset, .unset, .unset, .unset, .unset, .unset, .unset, .unset, .unset] [(.int p3)])) t₀
    refine X0.ldcInt hx hown (mvT hZ (hw _ (List.mem_of_getElem? (i := 0) rfl))) (g := (mkF m 1 #[.val (.int p1), .val (.int p2), .val (.int p3), .unset, .unset, .unset, .unset, .unset, .unset, .unset, .unset, .unset] [(.int p3)])) rfl (hb hby at_1) _ ?_
    show Steps p.tables e below (s₁.setTop (mkF m 3 #[.val (.int p1), .val (.int p2), .val (.int p3), .unset, .unset, .unset, .unset, .unset, .unset, .unset, .unset, .unset] [(.int (2147483647 : Int32)), (.int p3)])) t₀
    refine XS.iand X0.here hx rfl (hb hby at_3) rfl ?_
    show Steps p.tables e below (s₁.setTop (mkF m 4 #[.val (.int p1), .val (.int p2), .val (.int p3), .unset, .unset, .unset, .unset, .unset, .unset, .unset, .unset, .unset] [(.int (p3 &&& (2147483647 : Int32)))])) t₀
    refine XS.iconst X0.here hx rfl (hb hby at_4) ?_
    show Steps p.tables e below (s₁.setTop (mkF m 5 #[.val (.int p1), .val (.int p2), .val (.int p3), .unset, .unset, .unset, .unset, .unset, .unset, .unset, .unset, .unset] [(.int (5 : Int32)), (.int (p3 &&& (2147483647 : Int32)))])) t₀
    refine iremM X0 hx rfl (hb hby at_5) rfl (by decide) ?_
    show Steps p.tables e below (s₁.setTop (mkF m 6 #[.val (.int p1), .val (.int p2), .val (.int p3), .unset, .unset, .unset, .unset, .unset, .unset, .unset, .unset, .unset] [(.int ((p3 &&& (2147483647 : Int32)) % (5 : Int32)))])) t₀
    refine XS.istoreN X0.here hx rfl (hb hby at_6) rfl (l' := #[.val (.int p1), .val (.int p2), .val (.int p3), .val (.int ((p3 &&& (2147483647 : Int32)) % (5 : Int32))), .unset, .unset, .unset, .unset, .unset, .unset, .unset, .unset]) rfl ?_
    show Steps p.tables e below (s₁.setTop (mkF m 7 #[.val (.int p1), .val (.int p2), .val (.int p3), .val (.int ((p3 &&& (2147483647 : Int32)) % (5 : Int32))), .unset, .unset, .unset, .unset, .unset, .unset, .unset, .unset] [])) t₀
    refine XS.iloadN X0.here hx rfl (hb hby at_7) rfl ?_
    show Steps p.tables e below (s₁.setTop (mkF m 8 #[.val (.int p1), .val (.int p2), .val (.int p3), .val (.int ((p3 &&& (2147483647 : Int32)) % (5 : Int32))), .unset, .unset, .unset, .unset, .unset, .unset, .unset, .unset] [(.int p2)])) t₀
    refine XS.iconst X0.here hx rfl (hb hby at_8) ?_
    show Steps p.tables e below (s₁.setTop (mkF m 9 #[.val (.int p1), .val (.int p2), .val (.int p3), .val (.int ((p3 &&& (2147483647 : Int32)) % (5 : Int32))), .unset, .unset, .unset, .unset, .unset, .unset, .unset, .unset] [(.int (1 : Int32)), (.int p2)])) t₀
    refine XS.iand X0.here hx rfl (hb hby at_9) rfl ?_
    exact k₀
  by_cases hc10 : (p2 &&& (1 : Int32)) = (0 : Int32)
  ·
    refine hG _ (s₁.setTop (mkF m 21 #[.val (.int p1), .val (.int p2), .val (.int p3), .val (.int ((p3 &&& (2147483647 : Int32)) % (5 : Int32))), .val (.int (p1.toInt8.toInt32)), .unset, .unset, .unset, .unset, .unset, .unset, .unset] [])) (fun t₀ k₀ => ?_) ?_
    · show Steps p.tables e below (s₁.setTop (mkF m 10 #[.val (.int p1), .val (.int p2), .val (.int p3), .val (.int ((p3 &&& (2147483647 : Int32)) % (5 : Int32))), .unset, .unset, .unset, .unset, .unset, .unset, .unset, .unset] [(.int (p2 &&& (1 : Int32)))])) t₀
      refine XS.ifYes X0.here hx rfl (pc0 := 10) (pc' := 17) rfl (hb hby at_10) rfl ((if0 _ _).trans (teq hc10).1) (by decide) (by decide) ?_
      show Steps p.tables e below (s₁.setTop (mkF m 17 #[.val (.int p1), .val (.int p2), .val (.int p3), .val (.int ((p3 &&& (2147483647 : Int32)) % (5 : Int32))), .unset, .unset, .unset, .unset, .unset, .unset, .unset, .unset] [])) t₀
      refine XS.iloadN X0.here hx rfl (hb hby at_17) rfl ?_
      show Steps p.tables e below (s₁.setTop (mkF m 18 #[.val (.int p1), .val (.int p2), .val (.int p3), .val (.int ((p3 &&& (2147483647 : Int32)) % (5 : Int32))), .unset, .unset, .unset, .unset, .unset, .unset, .unset, .unset] [(.int p1)])) t₀
      refine XS.i2b X0.here hx rfl (hb hby at_18) rfl ?_
      show Steps p.tables e below (s₁.setTop (mkF m 19 #[.val (.int p1), .val (.int p2), .val (.int p3), .val (.int ((p3 &&& (2147483647 : Int32)) % (5 : Int32))), .unset, .unset, .unset, .unset, .unset, .unset, .unset, .unset] [(.int (p1.toInt8.toInt32))])) t₀
      refine XS.istore X0.here hx rfl (hb hby at_19) rfl (l' := #[.val (.int p1), .val (.int p2), .val (.int p3), .val (.int ((p3 &&& (2147483647 : Int32)) % (5 : Int32))), .val (.int (p1.toInt8.toInt32)), .unset, .unset, .unset, .unset, .unset, .unset, .unset]) rfl ?_
      exact k₀
    exact tl1 (p1.toInt8.toInt32) (own_i2b _)
  ·
    refine hG _ (s₁.setTop (mkF m 21 #[.val (.int p1), .val (.int p2), .val (.int p3), .val (.int ((p3 &&& (2147483647 : Int32)) % (5 : Int32))), .val (.int (0 : Int32)), .unset, .unset, .unset, .unset, .unset, .unset, .unset] [])) (fun t₀ k₀ => ?_) ?_
    · show Steps p.tables e below (s₁.setTop (mkF m 10 #[.val (.int p1), .val (.int p2), .val (.int p3), .val (.int ((p3 &&& (2147483647 : Int32)) % (5 : Int32))), .unset, .unset, .unset, .unset, .unset, .unset, .unset, .unset] [(.int (p2 &&& (1 : Int32)))])) t₀
      refine XS.ifNo X0.here hx rfl (hb hby at_10) rfl ((if0 _ _).trans (feq hc10).1) ?_
      show Steps p.tables e below (s₁.setTop (mkF m 13 #[.val (.int p1), .val (.int p2), .val (.int p3), .val (.int ((p3 &&& (2147483647 : Int32)) % (5 : Int32))), .unset, .unset, .unset, .unset, .unset, .unset, .unset, .unset] [])) t₀
      refine XS.iconst X0.here hx rfl (hb hby at_13) ?_
      show Steps p.tables e below (s₁.setTop (mkF m 14 #[.val (.int p1), .val (.int p2), .val (.int p3), .val (.int ((p3 &&& (2147483647 : Int32)) % (5 : Int32))), .unset, .unset, .unset, .unset, .unset, .unset, .unset, .unset] [(.int (0 : Int32))])) t₀
      refine XS.goto X0.here hx rfl (pc0 := 14) (pc' := 19) rfl (hb hby at_14) (by decide) (by decide) ?_
      show Steps p.tables e below (s₁.setTop (mkF m 19 #[.val (.int p1), .val (.int p2), .val (.int p3), .val (.int ((p3 &&& (2147483647 : Int32)) % (5 : Int32))), .unset, .unset, .unset, .unset, .unset, .unset, .unset, .unset] [(.int (0 : Int32))])) t₀
      refine XS.istore X0.here hx rfl (hb hby at_19) rfl (l' := #[.val (.int p1), .val (.int p2), .val (.int p3), .val (.int ((p3 &&& (2147483647 : Int32)) % (5 : Int32))), .val (.int (0 : Int32)), .unset, .unset, .unset, .unset, .unset, .unset, .unset]) rfl ?_
      exact k₀
    exact tl1 (0 : Int32) rfl
set_option maxRecDepth 65536 in
set_option maxHeartbeats 40000000 in
theorem comes_1 {Post : Tables → Env → Array Value → State → Outcome → State → Prop} (hpost : ∀ tb e args s v u, (limb_1_1.after args s (.returned v) u = true ∧ limb_1_2.after args s (.returned v) u = true ∧ True) → FrameEnd s (.returned v) u (Jvm.fieldLocs frame_1_writes args s ++ Jvm.arrayLocs frame_1_arrays args s ++ Jvm.staticLocs frame_1_statics s) 16 128 → Post tb e args s (.returned v) u) :
    ArmFor flags0 classFile x code maxLocals ret World_1 tables_1 room_1 Calls_1 rest_1 Pre_1 Post := by
  intro l hfl _ _ p e ha hc hk s m args below hf hA hF happ hP
  obtain ⟨hcalls, hrest, hpre⟩ := hP
  obtain ⟨-, -, -, hnamed, -, -, -, hat⟩ := (Spec.applies_iff hf).mp happ
  obtain ⟨hg, hn⟩ := and_e (Cond.before_iff.mp (show (Jvm.Cond.and given_1 narrow_1).before args s = true from hpre))
  obtain ⟨hcount, gg⟩ := and_e hg
  obtain ⟨ga0, gg⟩ := and_e gg
  obtain ⟨ga1, gg⟩ := and_e gg
  have ga2 := gg
  obtain ⟨w0, w1, w2, rfl⟩ : ∃ w0 w1 w2 : Value, args = #[w0, w1, w2] := by
    have hs : args.size = 3 := by simpa [Cond.value, given_1] using hcount
    obtain ⟨L⟩ := args
    match L, hs with
    | [w0, w1, w2], _ => exact ⟨w0, w1, w2, rfl⟩
  have hw := fun d (hd : d ∈ tables_1) => atoms_spec (ws := Jvm.Cond.code x code maxLocals ret :: tables_1) hat d (List.mem_cons_of_mem _ hd)
  have hfit : Fit s := fun {y c} hc i hi => by
    obtain ⟨ha, rfl⟩ := Array.getElem?_eq_some_iff.mp hc
    have q := List.all_eq_true.mp ((Array.all_eq_true_iff_forall_mem.mp hF) _ (Array.getElem_mem ha)) i (List.mem_range.mpr hi)
    simpa [Array.getElem?_eq_getElem hi] using q
  obtain ⟨i0, ei0⟩ := is_v ga0
  obtain rfl : w0 = (.int i0) := Option.some.inj ei0
  obtain ⟨i1, ei1⟩ := is_v ga1
  obtain rfl : w1 = (.int i1) := Option.some.inj ei1
  obtain ⟨i2, ei2⟩ := is_v ga2
  obtain rfl : w2 = (.int i2) := Option.some.inj ei2
  obtain ⟨n, o, h1, h2, h3, _, L, rfl, ⟨rfl, N⟩, hq⟩ := rm0 l s _ hw tables_1 i0 i1 i2 s.heap s.heap.size (Nat.le_refl _)  p e ha hc hk s m _ below hf ((Spec.applies_iff_loose hf).mp happ).1 ⟨rfl, State.Warmed39.refl s, rfl⟩ trivial
  refine ⟨n, _, h1, h2, h3, hpost _ _ _ _ _ _ ⟨Cond.after_iff.mpr rfl, Cond.after_iff.mpr (eq_i res_at (Term.int_eval (1)) rfl), trivial⟩ ⟨hq.1, hq.2.1, (hq.2.2.sift fun y hy => Or.inr (N y hy)).mono (by decide) (by decide)⟩⟩
theorem main_1_1 : Claimed_1_1 := comes_1 fun _ _ _ _ _ _ h hF => ⟨h.1, hF⟩
theorem main_1_2 : Claimed_1_2 := comes_1 fun _ _ _ _ _ _ h hF => ⟨h.2.1, hF⟩
end Jvm.Pilot.@@N@@
namespace Jvm.Pilot.@@N@@
open Jvm Jvm.ClassFile Sem Op Lib Jvm.Free Jvm.Stand Jvm.Pilot.@@N@@.Jvm.D
/-! MADE BY PROGRAM (witnessworld.py) out of the Statement's table words and the real class files: 9 classes; the members and pool entries that the words name. The judged class is class 1, her method 1. -/
namespace start1
open Jvm.ClassFile
def u (s : String) : CpInfo := .utf8 (stringToUtf16 s)
/-- a pool by its gaps: so many unusable entries, then the entry; so many at the end -/
def gap : Nat → List CpInfo → List CpInfo
  | 0, r => r
  | n + 1, r => .unusable :: gap n r
def poolList (es : List (Nat × CpInfo)) (last : Nat) : List CpInfo := es.foldr (fun e r => gap e.1 (e.2 :: r)) (gap last [])
def pool (es : List (Nat × CpInfo)) (last : Nat) : Array CpInfo := ⟨poolList es last⟩
def fileOf (pool : Array CpInfo) (this : Nat) (attrs : Array Attribute := #[]) (ms : Array MethodInfo := #[]) (fl : Nat := 33) (sup : Nat := 0) (ifs : Array Nat := #[]) (fds : Array FieldInfo := #[]) : ClassFile where
  minorVersion := 0
  majorVersion := 65
  constantPool := pool
  accessFlags := fl
  thisClass := this
  superClass := sup
  interfaces := ifs
  fields := fds
  methods := ms
  attributes := attrs
def plain (name : String) (sup : Option ClassId) : Class where
  name := name
  kind := .ordinary
  loader := none
  accessFlags := 33
  super := sup
  interfaces := #[]
  cf := none
  fields := #[]
  methods := #[]
  instanceTypes := #[]
  staticTypes := #[]
  resolved := #[]
  callSites := []
  init := .initialized
  statics := none
  mirror := none

def pool0 : Array CpInfo := pool [(5, u "<init>"), (0, u "()V"), (1, .class_ 10), (1, u "java/lang/Object")] 113

def k0m0 : Method := { name := "<init>", desc := "()V", sig := { parameters := [], returnType := none }, accessFlags := 1, code := none }
/-- java/lang/Object -/
def k0 : Class := { plain "java/lang/Object" none with
  accessFlags := 33
  interfaces := #[]
  cf := some (fileOf pool0 8 #[] #[{ accessFlags := 1, nameIndex := 5, descriptorIndex := 6, attributes := #[] }] 33 0 #[] #[])
  fields := #[]
  methods := #[k0m0]
  instanceTypes := #[]
  staticTypes := #[]
  resolved := Array.replicate 124 none
  statics := none }

def pool1 : Array CpInfo := pool [(2, .class_ 4), (1, u "java/lang/Object"), (0, u "<init>"), (0, u "()V"), (0, .integer 2147483647), (0, .methodref 9 10), (0, .class_ 11), (0, .nameAndType 12 13), (0, u "com/example/ordercast/ordercast/history/History"), (0, u "isInitial"), (0, u "([B)Z"), (0, .class_ 15), (0, u "com/example/ordercast/ordercast/history/HistoryIsInitialPinLaw"), (2, u "law"), (0, u "(III)Z")] 5

def k1m0 : Method := { name := "<init>", desc := "()V", sig := { parameters := [], returnType := none }, accessFlags := 1, code := none }
def k1c1 : Code := { maxStack := 4, maxLocals := 12, code := code, exceptionTable := #[], attributes := #[] }
def k1m1 : Method := { name := "law", desc := "(III)Z", sig := { parameters := [.int, .int, .int], returnType := some .boolean }, accessFlags := 9, code := some k1c1 }
/-- com/example/ordercast/ordercast/history/HistoryIsInitialPinLaw -/
def k1 : Class := { plain "com/example/ordercast/ordercast/history/HistoryIsInitialPinLaw" (some 0) with
  accessFlags := 49
  interfaces := #[]
  cf := some (fileOf pool1 14 #[] #[{ accessFlags := 1, nameIndex := 5, descriptorIndex := 6, attributes := #[] }, { accessFlags := 9, nameIndex := 18, descriptorIndex := 19, attributes := #[] }] 49 2 #[] #[])
  fields := #[]
  methods := #[k1m0, k1m1]
  instanceTypes := #[]
  staticTypes := #[]
  resolved := Array.replicate 25 none
  statics := none }

def pool2 : Array CpInfo := pool [(2, .class_ 4), (1, u "java/lang/Object"), (0, u "<init>"), (0, u "()V"), (4, .class_ 13), (1, u "com/example/ordercast/ordercast/history/History"), (0, u "names"), (0, u "Ljava/util/List;"), (2, u "ends"), (2, u "firstOperations"), (0, u "[I"), (2, u "kinds"), (0, u "[B"), (2, u "operationItems"), (2, u "operationVersions"), (18, u "operations"), (0, u "I"), (6, u "versions"), (0, u "Lcom/example/ordercast/ordercast/history/History$Versions;"), (1, .class_ 64), (1, u "com/example/ordercast/ordercast/history/History$Versions"), (31, u "finalItems"), (2, u "finalVersions"), (2, u "finals"), (6, .class_ 110), (0, u "com/example/ordercast/ordercast/history/History$End"), (7, u "READ"), (0, u "B"), (2, u "READ_OVERWRITTEN"), (1, u "WRITE"), (1, u "UNTOLD"), (1, u "NONE"), (0, u "INITIAL_CAPACITY"), (32, u "isInitial"), (0, u "([B)Z")] 25

def k2m0 : Method := { name := "<init>", desc := "()V", sig := { parameters := [], returnType := none }, accessFlags := 1, code := none }
def k2c1 : Code := { maxStack := 2, maxLocals := 5, code := prog_190_method_24_code, exceptionTable := #[], attributes := #[] }
def k2m1 : Method := { name := "isInitial", desc := "([B)Z", sig := { parameters := [(.array .byte)], returnType := some .boolean }, accessFlags := 8, code := some k2c1 }
/-- com/example/ordercast/ordercast/history/History -/
def k2 : Class := { plain "com/example/ordercast/ordercast/history/History" (some 0) with
  accessFlags := 49
  interfaces := #[]
  cf := some (fileOf pool2 11 #[.nestMembers #[62, 109]] #[{ accessFlags := 1, nameIndex := 5, descriptorIndex := 6, attributes := #[] }, { accessFlags := 8, nameIndex := 162, descriptorIndex := 163, attributes := #[] }] 49 2 #[] #[{ accessFlags := 26, nameIndex := 118, descriptorIndex := 119, attributes := #[] }, { accessFlags := 26, nameIndex := 122, descriptorIndex := 119, attributes := #[] }, { accessFlags := 26, nameIndex := 124, descriptorIndex := 119, attributes := #[] }, { accessFlags := 24, nameIndex := 126, descriptorIndex := 52, attributes := #[] }, { accessFlags := 24, nameIndex := 128, descriptorIndex := 52, attributes := #[] }, { accessFlags := 26, nameIndex := 129, descriptorIndex := 52, attributes := #[] }, { accessFlags := 18, nameIndex := 14, descriptorIndex := 15, attributes := #[] }, { accessFlags := 18, nameIndex := 18, descriptorIndex := 15, attributes := #[] }, { accessFlags := 2, nameIndex := 21, descriptorIndex := 22, attributes := #[] }, { accessFlags := 2, nameIndex := 25, descriptorIndex := 26, attributes := #[] }, { accessFlags := 2, nameIndex := 29, descriptorIndex := 22, attributes := #[] }, { accessFlags := 2, nameIndex := 32, descriptorIndex := 22, attributes := #[] }, { accessFlags := 2, nameIndex := 51, descriptorIndex := 52, attributes := #[] }, { accessFlags := 2, nameIndex := 59, descriptorIndex := 60, attributes := #[] }, { accessFlags := 2, nameIndex := 96, descriptorIndex := 22, attributes := #[] }, { accessFlags := 2, nameIndex := 99, descriptorIndex := 22, attributes := #[] }, { accessFlags := 2, nameIndex := 102, descriptorIndex := 52, attributes := #[] }])
  fields := #[{ name := "READ", type := .byte, accessFlags := 26, slot := 0, constantValue := 0 }, { name := "READ_OVERWRITTEN", type := .byte, accessFlags := 26, slot := 1, constantValue := 0 }, { name := "WRITE", type := .byte, accessFlags := 26, slot := 2, constantValue := 0 }, { name := "UNTOLD", type := .int, accessFlags := 24, slot := 3, constantValue := 0 }, { name := "NONE", type := .int, accessFlags := 24, slot := 4, constantValue := 0 }, { name := "INITIAL_CAPACITY", type := .int, accessFlags := 26, slot := 5, constantValue := 0 }, { name := "names", type := (.object "java/util/List"), accessFlags := 18, slot := 0, constantValue := 0 }, { name := "ends", type := (.object "java/util/List"), accessFlags := 18, slot := 1, constantValue := 0 }, { name := "firstOperations", type := (.array .int), accessFlags := 2, slot := 2, constantValue := 0 }, { name := "kinds", type := (.array .byte), accessFlags := 2, slot := 3, constantValue := 0 }, { name := "operationItems", type := (.array .int), accessFlags := 2, slot := 4, constantValue := 0 }, { name := "operationVersions", type := (.array .int), accessFlags := 2, slot := 5, constantValue := 0 }, { name := "operations", type := .int, accessFlags := 2, slot := 6, constantValue := 0 }, { name := "versions", type := (.object "com/example/ordercast/ordercast/history/History$Versions"), accessFlags := 2, slot := 7, constantValue := 0 }, { name := "finalItems", type := (.array .int), accessFlags := 2, slot := 8, constantValue := 0 }, { name := "finalVersions", type := (.array .int), accessFlags := 2, slot := 9, constantValue := 0 }, { name := "finals", type := .int, accessFlags := 2, slot := 10, constantValue := 0 }]
  methods := #[k2m0, k2m1]
  instanceTypes := #[(.object "java/util/List"), (.object "java/util/List"), (.array .int), (.array .byte), (.array .int), (.array .int), .int, (.object "com/example/ordercast/ordercast/history/History$Versions"), (.array .int), (.array .int), .int]
  staticTypes := #[.byte, .byte, .byte, .int, .int, .int]
  resolved := Array.replicate 189 none
  statics := none }

def pool3 : Array CpInfo := pool [(1, u "java/lang/Cloneable"), (0, .class_ 1), (0, u "java/lang/Object"), (0, .class_ 3)] 3

/-- java/lang/Cloneable -/
def k3 : Class := { plain "java/lang/Cloneable" (some 0) with
  accessFlags := 1537
  interfaces := #[]
  cf := some (fileOf pool3 2 #[] #[] 1537 4 #[] #[])
  fields := #[]
  methods := #[]
  instanceTypes := #[]
  staticTypes := #[]
  resolved := Array.replicate 8 none
  statics := none }

def pool4 : Array CpInfo := pool [(1, u "java/io/Serializable"), (0, .class_ 1), (0, u "java/lang/Object"), (0, .class_ 3)] 3

/-- java/io/Serializable -/
def k4 : Class := { plain "java/io/Serializable" (some 0) with
  accessFlags := 1537
  interfaces := #[]
  cf := some (fileOf pool4 2 #[] #[] 1537 4 #[] #[])
  fields := #[]
  methods := #[]
  instanceTypes := #[]
  staticTypes := #[]
  resolved := Array.replicate 8 none
  statics := none }

/-- the primitive byte -/
def k5 : Class := { plain "byte" none with kind := .primitive 'B', accessFlags := 0x411 }
/-- [B -/
def k6 : Class := { plain "[B" (some 0) with kind := .array 5 .byte, interfaces := #[3, 4], accessFlags := 1041 }

/-- the primitive int -/
def k7 : Class := { plain "int" none with kind := .primitive 'I', accessFlags := 0x411 }
/-- [I -/
def k8 : Class := { plain "[I" (some 0) with kind := .array 7 .int, interfaces := #[3, 4], accessFlags := 1041 }

def heap : Heap := #[]
def classes : Array Class := #[k0, k1, k2, k3, k4, k5, k6, k7, k8]
def interned : List (Array UInt16 × Addr) := []
def slotsUsed : Nat := 0
def theMethod : MethodId := ⟨1, 1⟩
def args0 : Array Value := #[.int 5, .int 4, .int 3]
def aboutOver (below : List Frame) : State where
  vm := { classes := classes, interned := interned.toArray }
  heap := heap
  slotsUsed := slotsUsed
  threads := #[{ frames := .invoking theMethod args0 :: below }]
def below0 : List Frame := [.native { method := ⟨0, 0⟩, args := #[] }]
def about1 : State := aboutOver below0
def p0 : Program := .bare "" "" ""
def e0 : Env := launch0.env 0 0 0
theorem w_frames : about1.frames = Frame.invoking theMethod args0 :: below0 := rfl
set_option maxRecDepth 65536 in
theorem w_args : argsFit about1.vm theMethod args0 = true := by decide +kernel
set_option maxRecDepth 65536 in
theorem w_heap : heapFits about1 = true := by decide +kernel
set_option maxRecDepth 65536 in
theorem w_runnable : about1.curStatus? = some .runnable := by decide +kernel
set_option maxRecDepth 65536 in
theorem w_alone : about1.alone = true := by decide +kernel
set_option maxRecDepth 65536 in
theorem w_named : about1.methodNamed? x = some theMethod := by decide +kernel
set_option maxRecDepth 65536 in
theorem w_hears : about1.hears theMethod below0 = true := by decide +kernel
set_option maxRecDepth 65536 in
theorem w_ripe : about1.ripe theMethod args0 below0 = true := by decide +kernel
theorem w_running : about1.status = .running := rfl
set_option maxRecDepth 65536 in
theorem w_room : about1.hasRoom e0.platform room_1 = true :=
  launch0.hasRoom_least _ room_1 (by decide +kernel) (by decide +kernel) (by decide +kernel) (by decide +kernel) (by decide +kernel) (by decide +kernel)
theorem allAtoms_all (ts : List Jvm.Cond) (a : Array Jvm.Value) (st : Jvm.State) : (allAtoms ts).before a st = ts.all (fun c => c.before a st) := by
  induction ts with
  | nil => rfl
  | cons c t ih =>
    show (Jvm.Cond.and c (allAtoms t)).before a st = _
    rw [Jvm.Cond.before_and, ih, List.all_cons]
def words1 : List Jvm.Cond := Jvm.Cond.code x code maxLocals ret :: tables_1
/-- a 'code' word, met by the world's own term for the bytes: nothing is compared byte by byte -/
theorem code_word {y : MethodName} {bytes : ByteArray} {mx : Nat} {rt : Option FieldType} {a : Array Value} {s : State} {m : MethodId} {meth : Method} {c : Code} (h1 : s.methodNamed? y = some m) (h2 : s.vm.method? m = some meth) (h3 : meth.code = some c) (h4 : c.code = bytes)
    (h5 : (c.maxLocals == mx && c.exceptionTable.isEmpty && decide (c.maxStack ≤ mostOperands) && decide (meth.sig.returnType = rt) && !meth.locks && decide (parseMethodDescriptor y.desc = some meth.sig)) = true) : (Jvm.Cond.code y bytes mx rt).before a s = true := by
  simp only [Bool.and_eq_true, beq_iff_eq, Bool.not_eq_true', decide_eq_true_eq] at h5
  obtain ⟨⟨⟨⟨⟨g1, g2⟩, g3⟩, g4⟩, g5⟩, g6⟩ := h5
  simp [Cond.before, Cond.holds, Cond.value, h1, h2, h3, h4, g1, g2, g3, g4, g5, g6]
def isCode : Jvm.Cond → Bool
  | .code _ _ _ _ => true
  | _ => false
theorem all_split {L : List Jvm.Cond} {P : Jvm.Cond → Bool} (h1 : L.all (fun c => isCode c || P c) = true) (h2 : ∀ c ∈ L.filter isCode, P c = true) : L.all P = true := by
  refine List.all_eq_true.mpr fun c hc => ?_
  have h := List.all_eq_true.mp h1 c hc
  rcases Bool.eq_false_or_eq_true (isCode c) with hi | hi
  · exact h2 c (List.mem_filter.mpr ⟨hc, hi⟩)
  · simpa [hi] using h
set_option maxRecDepth 65536 in
theorem w_c0 : (Jvm.Cond.code x code maxLocals ret).before args0 about1 = true := code_word (m := ⟨1, 1⟩) (meth := k1m1) (c := k1c1) (by decide +kernel) rfl rfl rfl (by decide +kernel)
set_option maxRecDepth 65536 in
theorem w_c1 : (Jvm.Cond.code ({ cls := "com/example/ordercast/ordercast/history/History", name := "isInitial", desc := "([B)Z" } : Jvm.MethodName) prog_190_method_24_code (5 : Nat) (Option.some Jvm.ClassFile.FieldType.boolean)).before args0 about1 = true := code_word (m := ⟨2, 1⟩) (meth := k2m1) (c := k2c1) (by decide +kernel) rfl rfl rfl (by decide +kernel)
def codes1 : List Jvm.Cond := [Jvm.Cond.code x code maxLocals ret, Jvm.Cond.code ({ cls := "com/example/ordercast/ordercast/history/History", name := "isInitial", desc := "([B)Z" } : Jvm.MethodName) prog_190_method_24_code (5 : Nat) (Option.some Jvm.ClassFile.FieldType.boolean)]
set_option maxRecDepth 65536 in
theorem codes_eq : words1.filter isCode = codes1 := rfl
theorem w_codes : ∀ c ∈ words1.filter isCode, c.before args0 about1 = true := by
  rw [codes_eq]
  intro c hc
  simp only [codes1, List.mem_cons, List.not_mem_nil, or_false] at hc
  rcases hc with rfl | rfl
  · exact w_c0
  · exact w_c1
set_option maxRecDepth 65536 in
theorem w_t1 : words1.all (fun c => isCode c || c.before args0 about1) = true := by decide +kernel
theorem w_tables : (allAtoms (Jvm.Cond.code x code maxLocals ret :: tables_1)).before args0 about1 = true := by
  rw [allAtoms_all]
  show words1.all (fun c => c.before args0 about1) = true
  refine all_split ?_ w_codes
  rw [w_t1]
set_option maxRecDepth 65536 in
theorem w_case : (Jvm.Cond.and given_1 narrow_1).before args0 about1 = true := by decide +kernel
theorem w_applies : (headSpec (Jvm.Cond.code x code maxLocals ret :: tables_1) room_1).applies x e0.platform about1 = true :=
  (Spec.applies_iff w_frames).mpr ⟨w_running, w_runnable, w_alone, w_named, w_hears, w_ripe, w_room, w_tables⟩
theorem atStart : AtStart classFile x code maxLocals ret World_1 tables_1 room_1 Calls_1 rest_1 Pre_1 launch0 p0 e0 about1 theMethod args0 below0 :=
  ⟨lists_1, trivial, launch0.admits_env _ _ _, launch0.least_env, fairChoices_fair.cas, fairChoices_fair.clock, w_frames, w_args, w_heap, w_applies, trivial, trivial, w_case⟩
end start1
theorem witness_1 : WitnessClaimed_1 := ⟨start1.p0, start1.e0, start1.about1, start1.theMethod, start1.args0, start1.below0, start1.atStart⟩
end Jvm.Pilot.@@N@@
