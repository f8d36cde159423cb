import JvmDerived
import JvmDerived.Pilot.@@N@@Statement
import JvmDerived.Pilot.@@N@@Code
set_option linter.unusedVariables false
set_option linter.unusedSimpArgs false
namespace Jvm.Pilot.@@N@@
open Jvm Jvm.ClassFile Sem Op Lib Jvm.Free Jvm.Stand Jvm.LawKit Jvm.RoadKit Bundle Jvm.Pilot.@@N@@.Jvm.D
/-- a predicate that goes backwards over the machine's steps -/
def OwnAdv (p : Program) (e : Env) (below : List Frame) (G : State → Prop) : Prop := ∀ A B : State, (∀ t, Steps p.tables e below B t → Steps p.tables e below A t) → G B → G A
/-- what a return must show -/
def OwnFin (p : Program) (l : Launch) (e : Env) (R : Room) (s : State) (m : MethodId) (args : Array Value) (below : List Frame) (meth : Method) (c : Code) (G : State → Prop) (Q : Option Value → Heap → List Loc → Prop) (kc ks : Nat) : Prop :=
  ∀ (A T : State) (locs : List Loc) (cells slots : Nat) (v : Option Value) (h : Heap), Stand p l e R s m args below meth c T locs cells slots → T.heap = h → (meth.sig.returnType = none → v = none) → cells ≤ kc → slots ≤ ks → Q v h locs →
    (∀ fs : List Frame, (∀ (f : JFrame) (acts : List Action), f.method = m → f.locked = none → f.entered = [] → (doReturn e (T.setTop f) acts v).1 = T.setFrames fs) → Steps p.tables e below A (T.setFrames fs)) → G A
theorem own_body {l : Launch} {y : MethodName} {bytes : ByteArray} {maxL : Nat} {rt : Option FieldType} {ws : List Jvm.Cond} {rm : Room} {as' : Array Value} {Z : State} {h0 : Heap} {Q : Option Value → Heap → List Loc → Prop} (hpl : plainFor y = true)
    (body : ∀ (p : Program) (e : Env) (s : State) (m : MethodId) (below : List Frame) (meth : Method) (c : Code) (s₁ : State) (G : State → Prop), Stand p l e rm s m as' below meth c s₁ [] 0 0 → p.tables.exec = Jvm.exec → Z.Warmed39 s.vm → c.code = bytes → c.maxLocals = maxL → s.vm.findClass y.cls = some m.cls → meth.name = y.name → meth.sig.returnType = rt → s₁.heap = h0 →
      OwnAdv p e below G → OwnFin p l e rm s m as' below meth c G Q rm.cells rm.slots → G (s₁.setTop (entryFrame m as' maxL))) :
    MetFree l y (head1 (Jvm.Cond.code y bytes maxL rt :: ws) rm) (fun a U => a = as' ∧ Z.Warmed39 U.vm ∧ U.heap = h0) (fun _ _ _ _ _ => True) (fun _ U o U' => ∃ v L, o = .returned v ∧ Q v U'.heap L ∧ FrameEnd U o U' L rm.cells rm.slots) := by
  refine MetFree.of_bodySF hpl hisR ?_
  intro p e s m args below meth c s₁ Bd hml0 hP hK
  obtain ⟨rfl, hZ, hh⟩ := hP
  have e0 : s₁.heap = h0 := by rw [← hh, Bd.state]; rfl
  refine body p e s m below meth c s₁ (fun A => ∃ s₂ o, Steps p.tables e below A s₂ ∧ s₂.status = .running ∧ Ended s₂ below o ∧ ∃ v L, o = .returned v ∧ Q v s₂.heap L ∧ FrameEnd s o s₂ L rm.cells rm.slots) (Stand.of_body Bd) Bd.exec hZ Bd.bytes hml0 (findClass_of_methodNamed Bd.named) (name_of_methodNamed Bd.named Bd.method).1 Bd.returns e0 ?_ ?_
  · intro A B h g
    obtain ⟨t, o, st, r⟩ := g
    exact ⟨t, o, h t st, r⟩
  · intro A T locs cells slots v h X eT hv hc hl hQ hs
    obtain ⟨fs, hr, hrun, hended, hW, hsame⟩ := X.leave (v := v) hv Bd.notSynchronized
    exact ⟨_, _, hs fs hr, hrun, hended, v, locs, rfl, (show Q v T.heap locs by rw [eT]; exact hQ), ⟨_, rfl⟩, hW, hsame.mono hc hl⟩
section OwnRet
variable {p : Program} {l : Launch} {e : Env} {R : Room} {s : State} {m : MethodId} {args : Array Value} {below : List Frame} {meth : Method} {c : Code} {T : State} {locs : List Loc} {cells slots : Nat}
theorem own_retI (X : Stand p l e R s m args below meth c T locs cells slots) (hx : p.tables.exec = Jvm.exec) {pc : Nat} {Ls : Array Slot} {z : Int32} {rest : List Value} (hret : meth.sig.returnType = some .int) (hd : decode c.code pc = .ok (.ireturn, 1)) {fs : List Frame}
    (hl : ∀ (f : JFrame) (acts : List Action), f.method = m → f.locked = none → f.entered = [] → (doReturn e (T.setTop f) acts (some (.int z))).1 = T.setFrames fs) : Steps p.tables e below (T.setTop (mkF m pc Ls (.int z :: rest))) (T.setFrames fs) :=
  retOut X hx hret rfl (Or.inl ⟨rfl, Or.inl rfl, z, rfl⟩) hd hl
theorem own_retJ (X : Stand p l e R s m args below meth c T locs cells slots) (hx : p.tables.exec = Jvm.exec) {pc : Nat} {Ls : Array Slot} {z : Int64} {rest : List Value} (hret : meth.sig.returnType = some .long) (hd : decode c.code pc = .ok (.lreturn, 1)) {fs : List Frame}
    (hl : ∀ (f : JFrame) (acts : List Action), f.method = m → f.locked = none → f.entered = [] → (doReturn e (T.setTop f) acts (some (.long z))).1 = T.setFrames fs) : Steps p.tables e below (T.setTop (mkF m pc Ls (.long z :: rest))) (T.setFrames fs) :=
  retOut X hx hret rfl (Or.inr (Or.inl ⟨rfl, rfl, z, rfl⟩)) hd hl
theorem own_retA (X : Stand p l e R s m args below meth c T locs cells slots) (hx : p.tables.exec = Jvm.exec) {pc : Nat} {Ls : Array Slot} {w : Value} {t : FieldType} {rest : List Value} (hret : meth.sig.returnType = some t) (ht : t.isReference = true) (hn : narrow t w = w) (hw : w.isRef = true) (hd : decode c.code pc = .ok (.areturn, 1)) {fs : List Frame}
    (hl : ∀ (f : JFrame) (acts : List Action), f.method = m → f.locked = none → f.entered = [] → (doReturn e (T.setTop f) acts (some w)).1 = T.setFrames fs) : Steps p.tables e below (T.setTop (mkF m pc Ls (w :: rest))) (T.setFrames fs) :=
  retOut X hx hret hn (Or.inr (Or.inr (Or.inr (Or.inr ⟨rfl, ht, hw⟩)))) hd hl
end OwnRet

theorem pd_0 : parseMethodDescriptor "(IJJJI)J" = some ⟨[.int, .long, .long, .long, .int], some .long⟩ := by decide +kernel
theorem pd_1 : parseMethodDescriptor "(JIJJJJJJ)V" = some ⟨[.long, .int, .long, .long, .long, .long, .long, .long], none⟩ := by decide +kernel
theorem pd_2 : parseMethodDescriptor "()V" = some ⟨[], none⟩ := by decide +kernel
theorem pd_3 : parseMethodDescriptor "(Ljava/lang/Object;)Z" = some ⟨[(.object "java/lang/Object")], some .boolean⟩ := by decide +kernel
theorem pd_4 : parseMethodDescriptor "(J)Ljava/lang/Long;" = some ⟨[.long], some (.object "java/lang/Long")⟩ := by decide +kernel
theorem pd_5 : parseMethodDescriptor "(J)V" = some ⟨[.long], none⟩ := by decide +kernel
theorem own_root {Z : State} {a0 : Array Value} {O K : String} {n : Nat} (w : (Jvm.Cond.noSuperclass O).before a0 Z = true) (wi : (Jvm.Cond.instantiable K n).before a0 Z = true) (hn : O ≠ K) : NS Z O K := by
  obtain ⟨c, k, h1, h2, h3, -, -⟩ := Cond.noSuperclass_spec w
  obtain ⟨t, kt, g1, -⟩ := Cond.instantiable_spec wi
  have ne := ids_ne h1 g1 hn
  refine ⟨c, t, h1, g1, fun fuel => ?_⟩
  cases fuel with
  | zero => rfl
  | succ f => simp [Vm.isSubclassAux, ne, h2, h3]
theorem own_no {Z : State} {a0 : Array Value} {C S K : String} {n : Nat} (w : (Jvm.Cond.superclass C S).before a0 Z = true) (wi : (Jvm.Cond.instantiable K n).before a0 Z = true) (ns : NS Z C K) (hn : C ≠ K) : ∃ c t, Z.vm.findClass C = some c ∧ Z.vm.findClass K = some t ∧ Z.vm.assignable c t = false := by
  obtain ⟨c, t, h0, g0, n3⟩ := ns
  obtain ⟨p, k, kp, h1, h2, h3, h4, h5, -, h7⟩ := Cond.superclass_spec h0 w
  obtain ⟨t', kt, g1, g2, g3, g4, -, -⟩ := Cond.instantiable_spec wi
  cases g0.symm.trans g1
  have ne := ids_ne h0 g0 hn
  have g5 : kt.isInterface = false := (Bool.or_eq_false_iff.mp g4).1
  refine ⟨c, t, h0, g0, ?_⟩
  show Z.vm.assignableAux (255 + 1) c t = false
  simp [Vm.assignableAux, ne, h2, g2, h5, g3, g5, Vm.isSubclass, n3]

theorem own_placeL (w : Int64) (h1 : ¬ w < (-128 : Int64)) (h2 : ¬ (127 : Int64) < w) : ¬ (((w.toInt32) + (128 : Int32)) < 0 ∨ 256 ≤ ((w.toInt32) + (128 : Int32)).toNatClampNeg) ∧ ((w.toInt32) + (128 : Int32)).toNatClampNeg < 256 := by
  have e1 : (-128 : Int64).toInt = -128 := rfl
  have e2 : (127 : Int64).toInt = 127 := rfl
  have f1 : (-128 : Int32).toInt = -128 := rfl
  have f2 : (127 : Int32).toInt = 127 := rfl
  have q := c_l2i w
  have r := rng32 w.toInt32
  rw [Int64.lt_iff_toInt_lt] at h1 h2
  refine Jvm.Free.IntBox.place_ok w.toInt32 ?_ ?_
  · rw [Int32.lt_iff_toInt_lt]; omega
  · show ¬ (127 : Int32) < w.toInt32
    rw [Int32.lt_iff_toInt_lt]; omega

def own_old (u : Int32) (a b c : Int64) (n : Int32) : Int64 := if u = (0 : Int32) then a else if u = (1 : Int32) then (n.toInt64) else if u = (2 : Int32) then b else if u = (3 : Int32) then c else if u = (4 : Int32) then (a ^^^ b) else if u = (5 : Int32) then (b ^^^ c) else if u = (6 : Int32) then (a + c) else (b - c)
def own_ceq (x0 : Int64) (x1 : Int32) (x2 : Int64) (x3 : Int64) (x4 : Int64) (x5 : Int64) (x6 : Int64) (x7 : Int64) (y0 : Int64) (y1 : Int32) (y2 : Int64) (y3 : Int64) (y4 : Int64) (y5 : Int64) (y6 : Int64) (y7 : Int64) : Int32 := if x0 = y0 ∧ x1 = y1 ∧ x2 = y2 ∧ x3 = y3 ∧ x4 = y4 ∧ x5 = y5 ∧ x6 = y6 ∧ x7 = y7 then (1 : Int32) else (0 : Int32)
theorem own_ceq_symm (x0 : Int64) (x1 : Int32) (x2 : Int64) (x3 : Int64) (x4 : Int64) (x5 : Int64) (x6 : Int64) (x7 : Int64) (y0 : Int64) (y1 : Int32) (y2 : Int64) (y3 : Int64) (y4 : Int64) (y5 : Int64) (y6 : Int64) (y7 : Int64) : own_ceq x0 x1 x2 x3 x4 x5 x6 x7 y0 y1 y2 y3 y4 y5 y6 y7 = own_ceq y0 y1 y2 y3 y4 y5 y6 y7 x0 x1 x2 x3 x4 x5 x6 x7 := by
  unfold own_ceq
  simp only [@eq_comm _ x0 y0, @eq_comm _ x1 y1, @eq_comm _ x2 y2, @eq_comm _ x3 y3, @eq_comm _ x4 y4, @eq_comm _ x5 y5, @eq_comm _ x6 y6, @eq_comm _ x7 y7]
theorem own_8 (x : Int32) : (x &&& (7 : Int32)) = (0 : Int32) ∨ (x &&& (7 : Int32)) = (1 : Int32) ∨ (x &&& (7 : Int32)) = (2 : Int32) ∨ (x &&& (7 : Int32)) = (3 : Int32) ∨ (x &&& (7 : Int32)) = (4 : Int32) ∨ (x &&& (7 : Int32)) = (5 : Int32) ∨ (x &&& (7 : Int32)) = (6 : Int32) ∨ (x &&& (7 : Int32)) = (7 : Int32) := by
  have h := c_mask x (7 : Int32) 3 (by decide) (by decide)
  have e0 : (0 : Int32).toInt = 0 := rfl
  have e1 : (1 : Int32).toInt = 1 := rfl
  have e2 : (2 : Int32).toInt = 2 := rfl
  have e3 : (3 : Int32).toInt = 3 := rfl
  have e4 : (4 : Int32).toInt = 4 := rfl
  have e5 : (5 : Int32).toInt = 5 := rfl
  have e6 : (6 : Int32).toInt = 6 := rfl
  have e7 : (7 : Int32).toInt = 7 := rfl
  simp only [← Int32.toInt_inj]
  omega
theorem d8_0 : decode jdk_18_method_1_code 0 = .ok (.aload_n 0, 1) := by decide +kernel
theorem d8_1 : decode jdk_18_method_1_code 1 = .ok (.invokespecial 1, 3) := by decide +kernel
theorem d8_4 : decode jdk_18_method_1_code 4 = .ok (.return_, 1) := by decide +kernel
theorem pn_8 : plainFor (⟨"java/lang/Number", "<init>", "()V"⟩ : MethodName) = true := plainFor_of_name (by first | (simp [plainName, overriddenIn]; done) | decide +kernel)
theorem ef_rm8 (m : MethodId) (x0 : Addr) : entryFrame m #[(.ref x0)] 1 = mkF m 0 #[.val (.ref x0)] [] := by first | (simp [entryFrame, mkF, argsToLocals, Value.category]; done) | rfl
def Q_rm8 (Z : State) (a1 : Addr) (h0 : Heap) (n0 : Nat) (v : Option Value) (h : Heap) (L : List Loc) : Prop := v = none ∧ Fr n0 L ∧ h = h0
set_option maxRecDepth 65536 in
set_option maxHeartbeats 40000000 in
theorem rm8 (l : Launch) (Z : State) (a0 : Array Value) (hw : ∀ d ∈ tables_1, d.before a0 Z = true) (ws : List Jvm.Cond) (a1 : Addr) (h0 : Heap) (n0 : Nat) (Z0 : n0 ≤ h0.size)  :
    MetFree l (⟨"java/lang/Number", "<init>", "()V"⟩ : MethodName) (head1 (Jvm.Cond.code (⟨"java/lang/Number", "<init>", "()V"⟩ : MethodName) jdk_18_method_1_code 1 none :: ws) ({ frames := 1, cells := 0, slots := 0, locals := 12 } : Room)) (fun a U => a = #[(.ref a1)] ∧ Z.Warmed39 U.vm ∧ U.heap = h0) (fun _ _ _ _ _ => True) (fun _ U o U' => ∃ v L, o = .returned v ∧ Q_rm8 Z a1 h0 n0 v U'.heap L ∧ FrameEnd U o U' L ({ frames := 1, cells := 0, slots := 0, locals := 12 } : Room).cells ({ frames := 1, cells := 0, slots := 0, locals := 12 } : Room).slots) := by
  refine own_body (Q := fun v h L => Q_rm8 Z a1 h0 n0 v h L) pn_8 ?_
  intro p e s m below meth c s₁ G X0 hx hZ hby hml hown hnm hrt e0 hG hF
  have hown : s.vm.findClass "java/lang/Number" = some m.cls := hown
  have hnm : meth.name = "<init>" := hnm
  have N0 := Fr.nil n0
  rw [ef_rm8 m a1]
  show G (s₁.setTop (mkF m 0 #[.val (.ref a1)] []))
  refine hG _ (s₁.setTop (mkF m 1 #[.val (.ref a1)] [(.ref a1)])) (fun t₀ k₀ => ?_) ?_
  · show Steps p.tables e below (s₁.setTop (mkF m 0 #[.val (.ref a1)] [])) t₀
    refine XS.aloadN X0.here hx rfl (hb hby d8_0) rfl rfl ?_
    exact k₀
  obtain ⟨T1, X1, e1, st1⟩ := initO X0 hx hZ hown (hw _ (List.mem_of_getElem? (i := 59) rfl)) (hw _ (List.mem_of_getElem? (i := 16) rfl)) (hw _ (List.mem_of_getElem? (i := 17) rfl)) e0 (g := (mkF m 1 #[.val (.ref a1)] [(.ref a1)])) rfl (by rw [hml]; rfl) rfl (hb hby d8_1) (by decide) (W := 0) (by show 2 * 0 + _ ≤ _; exact Nat.le_of_eq rfl) (by decide)
  refine hG _ _ (fun t₀ k₀ => st1 _ k₀) ?_
  show G (T1.setTop (mkF m 4 #[.val (.ref a1)] []))
  refine hF _ T1 _ _ _ none _ X1 e1 (fun _ => rfl) (by decide) (by decide) ?_ (fun fs hr => X1.returnOut hx hrt (hb hby d8_4) hr)
  exact ⟨rfl, N0, rfl⟩
theorem d7_0 : decode jdk_35_method_26_code 0 = .ok (.aload_n 0, 1) := by decide +kernel
theorem d7_1 : decode jdk_35_method_26_code 1 = .ok (.invokespecial 270, 3) := by decide +kernel
theorem d7_4 : decode jdk_35_method_26_code 4 = .ok (.aload_n 0, 1) := by decide +kernel
theorem d7_5 : decode jdk_35_method_26_code 5 = .ok (.lload_n 1, 1) := by decide +kernel
theorem d7_6 : decode jdk_35_method_26_code 6 = .ok (.putfield 273, 3) := by decide +kernel
theorem d7_9 : decode jdk_35_method_26_code 9 = .ok (.return_, 1) := by decide +kernel
theorem pn_7 : plainFor (⟨"java/lang/Long", "<init>", "(J)V"⟩ : MethodName) = true := plainFor_of_name (by first | (simp [plainName, overriddenIn]; done) | decide +kernel)
theorem ef_rm7 (m : MethodId) (x0 : Addr) (x1 : Int64) : entryFrame m #[(.ref x0), (.long x1)] 3 = mkF m 0 #[.val (.ref x0), .val (.long x1), .second] [] := by first | (simp [entryFrame, mkF, argsToLocals, Value.category]; done) | rfl
def Q_rm7 (Z : State) (a1 : Addr) (u : Int64) (h0 : Heap) (n0 : Nat) (v : Option Value) (h : Heap) (L : List Loc) : Prop := v = none ∧ Fr n0 L ∧ Keep h0 h [a1]
set_option maxRecDepth 65536 in
set_option maxHeartbeats 40000000 in
theorem rm7 (l : Launch) (Z : State) (a0 : Array Value) (hw : ∀ d ∈ tables_1, d.before a0 Z = true) (ws : List Jvm.Cond) (a1 : Addr) (u : Int64) (h0 : Heap) (n0 : Nat) (Z0 : n0 ≤ h0.size) (E1 : Exa Z h0 a1 "java/lang/Long") (F1 : Fld Z h0 a1 "java/lang/Long" "value" "J" (.long (0 : Int64))) (g1 : n0 ≤ a1) :
    MetFree l (⟨"java/lang/Long", "<init>", "(J)V"⟩ : MethodName) (head1 (Jvm.Cond.code (⟨"java/lang/Long", "<init>", "(J)V"⟩ : MethodName) jdk_35_method_26_code 3 none :: ws) ({ frames := 2, cells := 0, slots := 0, locals := 24 } : Room)) (fun a U => a = #[(.ref a1), (.long u)] ∧ Z.Warmed39 U.vm ∧ U.heap = h0) (fun _ _ _ _ _ => True) (fun _ U o U' => ∃ v L, o = .returned v ∧ Q_rm7 Z a1 u h0 n0 v U'.heap L ∧ FrameEnd U o U' L ({ frames := 2, cells := 0, slots := 0, locals := 24 } : Room).cells ({ frames := 2, cells := 0, slots := 0, locals := 24 } : Room).slots) := by
  refine own_body (Q := fun v h L => Q_rm7 Z a1 u h0 n0 v h L) pn_7 ?_
  intro p e s m below meth c s₁ G X0 hx hZ hby hml hown hnm hrt e0 hG hF
  have hown : s.vm.findClass "java/lang/Long" = some m.cls := hown
  have hnm : meth.name = "<init>" := hnm
  have N0 := Fr.nil n0
  rw [ef_rm7 m a1 u]
  show G (s₁.setTop (mkF m 0 #[.val (.ref a1), .val (.long u), .second] []))
  refine hG _ (s₁.setTop (mkF m 1 #[.val (.ref a1), .val (.long u), .second] [(.ref a1)])) (fun t₀ k₀ => ?_) ?_
  · show Steps p.tables e below (s₁.setTop (mkF m 0 #[.val (.ref a1), .val (.long u), .second] [])) t₀
    refine XS.aloadN X0.here hx rfl (hb hby d7_0) rfl rfl ?_
    exact k₀
  obtain ⟨_, _, ⟨T1, L1, k1, n1⟩, -, X1, ⟨Lc1, hQ1, l1, y1, z1⟩, st1⟩ := X0.specialBack hx (y := (⟨"java/lang/Number", "<init>", "()V"⟩ : MethodName)) rfl hown (mvT hZ (hw _ (List.mem_of_getElem? (i := 53) rfl))) (mvT hZ (hw _ (List.mem_of_getElem? (i := 54) rfl))) (mvT hZ (hw _ (List.mem_of_getElem? (i := 58) rfl))) (by decide) (backOf (W := 0) (rm8 l Z a0 hw [] a1 h0 n0 Z0) hZ (hw _ (List.mem_of_getElem? (i := 58) rfl)) (hw _ (List.mem_of_getElem? (i := 57) rfl)) (by decide) (by decide)) (g := (mkF m 1 #[.val (.ref a1), .val (.long u), .second] [(.ref a1)])) rfl (by rw [hml]; rfl) (Steps.refl _) (a := a1) (argsL := []) (rest := []) (lenOf pd_2 rfl) rfl (by show 2 * 0 + _ ≤ _; exact Nat.le_of_eq rfl) (hb hby d7_1) (fun _ _ => ⟨rfl, e0, (by decide : 0 + 0 ≤ _), (by decide : 0 + 0 ≤ _)⟩)
  dsimp only [Pt.U, Pt.locs, Pt.cells, Pt.slots] at X1 l1 y1 z1 st1 hQ1
  subst l1 y1 z1
  obtain ⟨rfl, N1q, e1⟩ := hQ1
  have N1 := Fr.app N0 N1q
  refine hG _ _ (fun t₀ k₀ => st1.trans k₀) ?_
  show G (T1.setTop (mkF m 4 #[.val (.ref a1), .val (.long u), .second] []))
  refine hG _ (T1.setTop (mkF m 6 #[.val (.ref a1), .val (.long u), .second] [(.long u), (.ref a1)])) (fun t₀ k₀ => ?_) ?_
  · show Steps p.tables e below (T1.setTop (mkF m 4 #[.val (.ref a1), .val (.long u), .second] [])) t₀
    refine XS.aloadN X1.here hx rfl (hb hby d7_4) rfl rfl ?_
    show Steps p.tables e below (T1.setTop (mkF m 5 #[.val (.ref a1), .val (.long u), .second] [(.ref a1)])) t₀
    refine XS.lloadN X1.here hx rfl (hb hby d7_5) rfl ?_
    exact k₀
  obtain ⟨T2, h2, X2, e2, W2, st2⟩ := putF X1 hx hZ hown (host := "") (Or.inl (hw _ (List.mem_of_getElem? (i := 60) rfl))) Via.refl e1 F1 E1 (Or.inr ⟨(hw _ (List.mem_of_getElem? (i := 61) rfl)), rfl, hnm⟩) (hw _ (List.mem_of_getElem? (i := 48) rfl)) (ty := .long) (by decide) rfl rfl (g := (mkF m 6 #[.val (.ref a1), .val (.long u), .second] [(.long u), (.ref a1)])) rfl rfl (hb hby d7_6)
  refine hG _ _ (fun t₀ k₀ => st2 _ k₀) ?_
  have N2 := Fr.snoc X2 N1 g1
  have ea1_x2 := E1.wr W2
  have k_x2 := (Keep.refl h0 [a1]).wr W2 (Or.inl (List.mem_of_getElem? (i := 0) rfl))
  have z_2 : n0 ≤ h2.size := Nat.le_trans Z0 (Keep.of_wr W2).1
  have F2_value := F1.same W2
  show G (T2.setTop (mkF m 9 #[.val (.ref a1), .val (.long u), .second] []))
  refine hF _ T2 _ _ _ none _ X2 e2 (fun _ => rfl) (by decide) (by decide) ?_ (fun fs hr => X2.returnOut hx hrt (hb hby d7_9) hr)
  exact ⟨rfl, N2, k_x2⟩
theorem d6_0 : decode jdk_35_method_24_code 0 = .ok (.sipush 128, 3) := by decide +kernel
theorem d6_3 : decode jdk_35_method_24_code 3 = .ok (.istore_n 2, 1) := by decide +kernel
theorem d6_4 : decode jdk_35_method_24_code 4 = .ok (.lload_n 0, 1) := by decide +kernel
theorem d6_5 : decode jdk_35_method_24_code 5 = .ok (.ldc2_w 230, 3) := by decide +kernel
theorem d6_8 : decode jdk_35_method_24_code 8 = .ok (.lcmp, 1) := by decide +kernel
theorem d6_9 : decode jdk_35_method_24_code 9 = .ok (.ifCond .lt 22, 3) := by decide +kernel
theorem d6_12 : decode jdk_35_method_24_code 12 = .ok (.lload_n 0, 1) := by decide +kernel
theorem d6_13 : decode jdk_35_method_24_code 13 = .ok (.ldc2_w 232, 3) := by decide +kernel
theorem d6_16 : decode jdk_35_method_24_code 16 = .ok (.lcmp, 1) := by decide +kernel
theorem d6_17 : decode jdk_35_method_24_code 17 = .ok (.ifCond .gt 14, 3) := by decide +kernel
theorem d6_20 : decode jdk_35_method_24_code 20 = .ok (.getstatic 234, 3) := by decide +kernel
theorem d6_23 : decode jdk_35_method_24_code 23 = .ok (.lload_n 0, 1) := by decide +kernel
theorem d6_24 : decode jdk_35_method_24_code 24 = .ok (.l2i, 1) := by decide +kernel
theorem d6_25 : decode jdk_35_method_24_code 25 = .ok (.sipush 128, 3) := by decide +kernel
theorem d6_28 : decode jdk_35_method_24_code 28 = .ok (.iadd, 1) := by decide +kernel
theorem d6_29 : decode jdk_35_method_24_code 29 = .ok (.aaload, 1) := by decide +kernel
theorem d6_30 : decode jdk_35_method_24_code 30 = .ok (.areturn, 1) := by decide +kernel
theorem d6_31 : decode jdk_35_method_24_code 31 = .ok (.new 1, 3) := by decide +kernel
theorem d6_34 : decode jdk_35_method_24_code 34 = .ok (.dup, 1) := by decide +kernel
theorem d6_35 : decode jdk_35_method_24_code 35 = .ok (.lload_n 0, 1) := by decide +kernel
theorem d6_36 : decode jdk_35_method_24_code 36 = .ok (.invokespecial 240, 3) := by decide +kernel
theorem d6_39 : decode jdk_35_method_24_code 39 = .ok (.areturn, 1) := by decide +kernel
theorem pn_6 : plainFor (⟨"java/lang/Long", "valueOf", "(J)Ljava/lang/Long;"⟩ : MethodName) = true := plainFor_of_name (by first | (simp [plainName, overriddenIn]; done) | decide +kernel)
theorem ef_rm6 (m : MethodId) (x0 : Int64) : entryFrame m #[(.long x0)] 3 = mkF m 0 #[.val (.long x0), .second, .unset] [] := by first | (simp [entryFrame, mkF, argsToLocals, Value.category]; done) | rfl
def Q_rm6 (Z : State) (u : Int64) (wc : Addr) (cl : Cell) (h0 : Heap) (n0 : Nat) (v : Option Value) (h : Heap) (L : List Loc) : Prop := ∃ b, v = some (.ref b) ∧ Fr n0 L ∧ Keep h0 h [] ∧ Exa Z h b "java/lang/Long"
set_option maxRecDepth 65536 in
set_option maxHeartbeats 40000000 in
theorem rm6 (l : Launch) (Z : State) (a0 : Array Value) (hw : ∀ d ∈ tables_1, d.before a0 Z = true) (ws : List Jvm.Cond) (u : Int64) (wc : Addr) (cl : Cell) (h0 : Heap) (n0 : Nat) (Z0 : n0 ≤ h0.size) (O0 : Old Z n0 h0) (S_cache : Sta Z Z.heap "java/lang/Long$LongCache" "cache" "[Ljava/lang/Long;" (.ref wc)) (Ac : Arr Z Z.heap wc cl (.object "java/lang/Long")) (hsz : cl.slots.size = 256) (hel : ∀ i, i < 256 → ∃ b, cl.slots[i]? = some (.ref b) ∧ Exa Z Z.heap b "java/lang/Long") :
    MetFree l (⟨"java/lang/Long", "valueOf", "(J)Ljava/lang/Long;"⟩ : MethodName) (head1 (Jvm.Cond.code (⟨"java/lang/Long", "valueOf", "(J)Ljava/lang/Long;"⟩ : MethodName) jdk_35_method_24_code 3 (some (.object "java/lang/Long")) :: ws) ({ frames := 3, cells := 1, slots := 1, locals := 39 } : Room)) (fun a U => a = #[(.long u)] ∧ Z.Warmed39 U.vm ∧ U.heap = h0) (fun _ _ _ _ _ => True) (fun _ U o U' => ∃ v L, o = .returned v ∧ Q_rm6 Z u wc cl h0 n0 v U'.heap L ∧ FrameEnd U o U' L ({ frames := 3, cells := 1, slots := 1, locals := 39 } : Room).cells ({ frames := 3, cells := 1, slots := 1, locals := 39 } : Room).slots) := by
  refine own_body (Q := fun v h L => Q_rm6 Z u wc cl h0 n0 v h L) pn_6 ?_
  intro p e s m below meth c s₁ G X0 hx hZ hby hml hown hnm hrt e0 hG hF
  have hown : s.vm.findClass "java/lang/Long" = some m.cls := hown
  have N0 := Fr.nil n0
  rw [ef_rm6 m u]
  show G (s₁.setTop (mkF m 0 #[.val (.long u), .second, .unset] []))
  refine hG _ (s₁.setTop (mkF m 9 #[.val (.long u), .second, .val (.int (128 : Int32))] [(.int (lcmpW u (-128 : Int64)))])) (fun t₀ k₀ => ?_) ?_
  · show Steps p.tables e below (s₁.setTop (mkF m 0 #[.val (.long u), .second, .unset] [])) t₀
    refine XS.sipush X0.here hx rfl (hb hby d6_0) ?_
    show Steps p.tables e below (s₁.setTop (mkF m 3 #[.val (.long u), .second, .unset] [(.int (128 : Int32))])) t₀
    refine XS.istoreN X0.here hx rfl (hb hby d6_3) rfl (l' := #[.val (.long u), .second, .val (.int (128 : Int32))]) rfl ?_
    show Steps p.tables e below (s₁.setTop (mkF m 4 #[.val (.long u), .second, .val (.int (128 : Int32))] [])) t₀
    refine XS.lloadN X0.here hx rfl (hb hby d6_4) rfl ?_
    show Steps p.tables e below (s₁.setTop (mkF m 5 #[.val (.long u), .second, .val (.int (128 : Int32))] [(.long u)])) t₀
    refine X0.ldc2Long hx hown (mvT hZ (hw _ (List.mem_of_getElem? (i := 45) rfl))) (g := (mkF m 5 #[.val (.long u), .second, .val (.int (128 : Int32))] [(.long u)])) rfl (hb hby d6_5) _ ?_
    show Steps p.tables e below (s₁.setTop (mkF m 8 #[.val (.long u), .second, .val (.int (128 : Int32))] [(.long (-128 : Int64)), (.long u)])) t₀
    refine XS.lcmp X0.here hx rfl (hb hby d6_8) rfl ?_
    exact k₀
  by_cases hc9 : u < (-128 : Int64)
  ·
    refine hG _ (s₁.setTop (mkF m 31 #[.val (.long u), .second, .val (.int (128 : Int32))] [])) (fun t₀ k₀ => ?_) ?_
    · show Steps p.tables e below (s₁.setTop (mkF m 9 #[.val (.long u), .second, .val (.int (128 : Int32))] [(.int (lcmpW u (-128 : Int64)))])) t₀
      refine XS.ifYes X0.here hx rfl (pc0 := 9) (pc' := 31) rfl (hb hby d6_9) rfl ((if0 _ _).trans (tlt ((lw_lt u (-128 : Int64)).mpr hc9)).1) (by decide) (by decide) ?_
      exact k₀
    obtain ⟨T1, h1, X1, e1, E1, A1, D1, -, st1⟩ := newO X0 hx hZ hown (hw _ (List.mem_of_getElem? (i := 47) rfl)) (hw _ (List.mem_of_getElem? (i := 48) rfl)) (hw _ (List.mem_of_getElem? (i := 43) rfl)) e0 (g := (mkF m 31 #[.val (.long u), .second, .val (.int (128 : Int32))] [])) rfl (hb hby d6_31) (by decide) (by decide)
    obtain ⟨ob1, g1⟩ : ∃ z, z = h0.size := ⟨_, rfl⟩
    rw [← g1] at A1 D1 st1
    have g_ob1 : n0 ≤ ob1 := Nat.le_trans Z0 (Nat.le_of_eq g1.symm)
    have kw_ob1 : h0.size ≤ ob1 := Nat.le_trans (Keep.refl h0 []).1 (Nat.le_of_eq g1.symm)
    have z_1 : n0 ≤ h1.size := Nat.le_trans Z0 E1.1
    have o_x1 := O0.ext E1
    have k_x1 := (Keep.refl h0 []).ext E1
    have F_value_ob1 : Fld Z h1 ob1 "java/lang/Long" "value" "J" (.long (0 : Int64)) := D1 (Or.inr (hw _ (List.mem_of_getElem? (i := 61) rfl))) (ty := .long) (by decide)
    refine hG _ _ (fun t₀ k₀ => st1 _ k₀) ?_
    show G (T1.setTop (mkF m 34 #[.val (.long u), .second, .val (.int (128 : Int32))] [(.ref ob1)]))
    refine hG _ (T1.setTop (mkF m 36 #[.val (.long u), .second, .val (.int (128 : Int32))] [(.long u), (.ref ob1), (.ref ob1)])) (fun t₀ k₀ => ?_) ?_
    · show Steps p.tables e below (T1.setTop (mkF m 34 #[.val (.long u), .second, .val (.int (128 : Int32))] [(.ref ob1)])) t₀
      refine XS.dup X1.here hx rfl (hb hby d6_34) rfl rfl ?_
      show Steps p.tables e below (T1.setTop (mkF m 35 #[.val (.long u), .second, .val (.int (128 : Int32))] [(.ref ob1), (.ref ob1)])) t₀
      refine XS.lloadN X1.here hx rfl (hb hby d6_35) rfl ?_
      exact k₀
    obtain ⟨_, _, ⟨T2, L2, k2, n2⟩, -, X2, ⟨Lc2, hQ2, l2, y2, z2⟩, st2⟩ := X1.specialBack hx (y := (⟨"java/lang/Long", "<init>", "(J)V"⟩ : MethodName)) rfl hown (mvT hZ (hw _ (List.mem_of_getElem? (i := 49) rfl))) (mvT hZ (hw _ (List.mem_of_getElem? (i := 50) rfl))) (mvT hZ (hw _ (List.mem_of_getElem? (i := 52) rfl))) (by decide) (backOf (W := 1) (rm7 l Z a0 hw [] ob1 u h1 n0 z_1 A1 F_value_ob1 g_ob1) hZ (hw _ (List.mem_of_getElem? (i := 52) rfl)) (hw _ (List.mem_of_getElem? (i := 43) rfl)) (by decide) (by decide)) (g := (mkF m 36 #[.val (.long u), .second, .val (.int (128 : Int32))] [(.long u), (.ref ob1), (.ref ob1)])) rfl (by rw [hml]; rfl) (Steps.refl _) (a := ob1) (argsL := [(.long u)]) (rest := [(.ref ob1)]) (lenOf pd_5 rfl) rfl (by show 2 * 0 + _ ≤ _; exact Nat.le_of_eq rfl) (hb hby d6_36) (fun _ _ => ⟨rfl, e1, (by decide : 1 + 0 ≤ _), (by decide : 1 + 0 ≤ _)⟩)
    dsimp only [Pt.U, Pt.locs, Pt.cells, Pt.slots] at X2 l2 y2 z2 st2 hQ2
    subst l2 y2 z2
    obtain ⟨rfl, N2q, K2⟩ := hQ2
    have N2 := Fr.app N0 N2q
    refine hG _ _ (fun t₀ k₀ => st2.trans k₀) ?_
    have z_x2 := Nat.le_trans z_1 K2.1
    have o_x2 := o_x1.keep K2 (allS g_ob1 all0)
    have k_x2 := k_x1.trans K2 (allS (Or.inr kw_ob1) all0)
    have eob1_x2 := A1.keep K2
    show G (T2.setTop (mkF m 39 #[.val (.long u), .second, .val (.int (128 : Int32))] [(.ref ob1)]))
    refine hF _ T2 _ _ _ (some (.ref ob1)) _ X2 rfl (fun h => by rw [hrt] at h; cases h) (by decide) (by decide) ?_ (fun fs hr => own_retA X2 hx hrt rfl rfl rfl (hb hby d6_39) hr)
    exact ⟨_, rfl, N2, k_x2, eob1_x2⟩
  ·
    refine hG _ (s₁.setTop (mkF m 17 #[.val (.long u), .second, .val (.int (128 : Int32))] [(.int (lcmpW u (127 : Int64)))])) (fun t₀ k₀ => ?_) ?_
    · show Steps p.tables e below (s₁.setTop (mkF m 9 #[.val (.long u), .second, .val (.int (128 : Int32))] [(.int (lcmpW u (-128 : Int64)))])) t₀
      refine XS.ifNo X0.here hx rfl (hb hby d6_9) rfl ((if0 _ _).trans (flt (fun z => hc9 ((lw_lt u (-128 : Int64)).mp z))).1) ?_
      show Steps p.tables e below (s₁.setTop (mkF m 12 #[.val (.long u), .second, .val (.int (128 : Int32))] [])) t₀
      refine XS.lloadN X0.here hx rfl (hb hby d6_12) rfl ?_
      show Steps p.tables e below (s₁.setTop (mkF m 13 #[.val (.long u), .second, .val (.int (128 : Int32))] [(.long u)])) t₀
      refine X0.ldc2Long hx hown (mvT hZ (hw _ (List.mem_of_getElem? (i := 46) rfl))) (g := (mkF m 13 #[.val (.long u), .second, .val (.int (128 : Int32))] [(.long u)])) rfl (hb hby d6_13) _ ?_
      show Steps p.tables e below (s₁.setTop (mkF m 16 #[.val (.long u), .second, .val (.int (128 : Int32))] [(.long (127 : Int64)), (.long u)])) t₀
      refine XS.lcmp X0.here hx rfl (hb hby d6_16) rfl ?_
      exact k₀
    by_cases hc17 : (127 : Int64) < u
    ·
      refine hG _ (s₁.setTop (mkF m 31 #[.val (.long u), .second, .val (.int (128 : Int32))] [])) (fun t₀ k₀ => ?_) ?_
      · show Steps p.tables e below (s₁.setTop (mkF m 17 #[.val (.long u), .second, .val (.int (128 : Int32))] [(.int (lcmpW u (127 : Int64)))])) t₀
        refine XS.ifYes X0.here hx rfl (pc0 := 17) (pc' := 31) rfl (hb hby d6_17) rfl ((if0 _ _).trans (tlt ((lw_gt u (127 : Int64)).mpr hc17)).2.2.1) (by decide) (by decide) ?_
        exact k₀
      obtain ⟨T3, h3, X3, e3, E3, A3, D3, -, st3⟩ := newO X0 hx hZ hown (hw _ (List.mem_of_getElem? (i := 47) rfl)) (hw _ (List.mem_of_getElem? (i := 48) rfl)) (hw _ (List.mem_of_getElem? (i := 43) rfl)) e0 (g := (mkF m 31 #[.val (.long u), .second, .val (.int (128 : Int32))] [])) rfl (hb hby d6_31) (by decide) (by decide)
      obtain ⟨ob3, g3⟩ : ∃ z, z = h0.size := ⟨_, rfl⟩
      rw [← g3] at A3 D3 st3
      have g_ob3 : n0 ≤ ob3 := Nat.le_trans Z0 (Nat.le_of_eq g3.symm)
      have kw_ob3 : h0.size ≤ ob3 := Nat.le_trans (Keep.refl h0 []).1 (Nat.le_of_eq g3.symm)
      have z_3 : n0 ≤ h3.size := Nat.le_trans Z0 E3.1
      have o_x3 := O0.ext E3
      have k_x3 := (Keep.refl h0 []).ext E3
      have F_value_ob3 : Fld Z h3 ob3 "java/lang/Long" "value" "J" (.long (0 : Int64)) := D3 (Or.inr (hw _ (List.mem_of_getElem? (i := 61) rfl))) (ty := .long) (by decide)
      refine hG _ _ (fun t₀ k₀ => st3 _ k₀) ?_
      show G (T3.setTop (mkF m 34 #[.val (.long u), .second, .val (.int (128 : Int32))] [(.ref ob3)]))
      refine hG _ (T3.setTop (mkF m 36 #[.val (.long u), .second, .val (.int (128 : Int32))] [(.long u), (.ref ob3), (.ref ob3)])) (fun t₀ k₀ => ?_) ?_
      · show Steps p.tables e below (T3.setTop (mkF m 34 #[.val (.long u), .second, .val (.int (128 : Int32))] [(.ref ob3)])) t₀
        refine XS.dup X3.here hx rfl (hb hby d6_34) rfl rfl ?_
        show Steps p.tables e below (T3.setTop (mkF m 35 #[.val (.long u), .second, .val (.int (128 : Int32))] [(.ref ob3), (.ref ob3)])) t₀
        refine XS.lloadN X3.here hx rfl (hb hby d6_35) rfl ?_
        exact k₀
      obtain ⟨_, _, ⟨T4, L4, k4, n4⟩, -, X4, ⟨Lc4, hQ4, l4, y4, z4⟩, st4⟩ := X3.specialBack hx (y := (⟨"java/lang/Long", "<init>", "(J)V"⟩ : MethodName)) rfl hown (mvT hZ (hw _ (List.mem_of_getElem? (i := 49) rfl))) (mvT hZ (hw _ (List.mem_of_getElem? (i := 50) rfl))) (mvT hZ (hw _ (List.mem_of_getElem? (i := 52) rfl))) (by decide) (backOf (W := 1) (rm7 l Z a0 hw [] ob3 u h3 n0 z_3 A3 F_value_ob3 g_ob3) hZ (hw _ (List.mem_of_getElem? (i := 52) rfl)) (hw _ (List.mem_of_getElem? (i := 43) rfl)) (by decide) (by decide)) (g := (mkF m 36 #[.val (.long u), .second, .val (.int (128 : Int32))] [(.long u), (.ref ob3), (.ref ob3)])) rfl (by rw [hml]; rfl) (Steps.refl _) (a := ob3) (argsL := [(.long u)]) (rest := [(.ref ob3)]) (lenOf pd_5 rfl) rfl (by show 2 * 0 + _ ≤ _; exact Nat.le_of_eq rfl) (hb hby d6_36) (fun _ _ => ⟨rfl, e3, (by decide : 1 + 0 ≤ _), (by decide : 1 + 0 ≤ _)⟩)
      dsimp only [Pt.U, Pt.locs, Pt.cells, Pt.slots] at X4 l4 y4 z4 st4 hQ4
      subst l4 y4 z4
      obtain ⟨rfl, N4q, K4⟩ := hQ4
      have N4 := Fr.app N0 N4q
      refine hG _ _ (fun t₀ k₀ => st4.trans k₀) ?_
      have z_x4 := Nat.le_trans z_3 K4.1
      have o_x4 := o_x3.keep K4 (allS g_ob3 all0)
      have k_x4 := k_x3.trans K4 (allS (Or.inr kw_ob3) all0)
      have eob3_x4 := A3.keep K4
      show G (T4.setTop (mkF m 39 #[.val (.long u), .second, .val (.int (128 : Int32))] [(.ref ob3)]))
      refine hF _ T4 _ _ _ (some (.ref ob3)) _ X4 rfl (fun h => by rw [hrt] at h; cases h) (by decide) (by decide) ?_ (fun fs hr => own_retA X4 hx hrt rfl rfl rfl (hb hby d6_39) hr)
      exact ⟨_, rfl, N4, k_x4, eob3_x4⟩
    ·
      refine hG _ (s₁.setTop (mkF m 20 #[.val (.long u), .second, .val (.int (128 : Int32))] [])) (fun t₀ k₀ => ?_) ?_
      · show Steps p.tables e below (s₁.setTop (mkF m 17 #[.val (.long u), .second, .val (.int (128 : Int32))] [(.int (lcmpW u (127 : Int64)))])) t₀
        refine XS.ifNo X0.here hx rfl (hb hby d6_17) rfl ((if0 _ _).trans (flt (fun z => hc17 ((lw_gt u (127 : Int64)).mp z))).2.2.1) ?_
        exact k₀
      obtain ⟨T5, X5, e5, st5⟩ := getS2 X0 hx hZ hown (host := "") (Or.inl (hw _ (List.mem_of_getElem? (i := 65) rfl))) Via.refl e0 (S_cache.ext O0.2) (g := (mkF m 20 #[.val (.long u), .second, .val (.int (128 : Int32))] [])) rfl (hb hby d6_20)
      refine hG _ _ (fun t₀ k₀ => st5 _ k₀) ?_
      show G (T5.setTop (mkF m 23 #[.val (.long u), .second, .val (.int (128 : Int32))] [(.ref wc)]))
      refine hG _ (T5.setTop (mkF m 29 #[.val (.long u), .second, .val (.int (128 : Int32))] [(.int ((u.toInt32) + (128 : Int32))), (.ref wc)])) (fun t₀ k₀ => ?_) ?_
      · show Steps p.tables e below (T5.setTop (mkF m 23 #[.val (.long u), .second, .val (.int (128 : Int32))] [(.ref wc)])) t₀
        refine XS.lloadN X5.here hx rfl (hb hby d6_23) rfl ?_
        show Steps p.tables e below (T5.setTop (mkF m 24 #[.val (.long u), .second, .val (.int (128 : Int32))] [(.long u), (.ref wc)])) t₀
        refine XS.l2i X5.here hx rfl (hb hby d6_24) rfl ?_
        show Steps p.tables e below (T5.setTop (mkF m 25 #[.val (.long u), .second, .val (.int (128 : Int32))] [(.int (u.toInt32)), (.ref wc)])) t₀
        refine XS.sipush X5.here hx rfl (hb hby d6_25) ?_
        show Steps p.tables e below (T5.setTop (mkF m 28 #[.val (.long u), .second, .val (.int (128 : Int32))] [(.int (128 : Int32)), (.int (u.toInt32)), (.ref wc)])) t₀
        refine XS.iadd X5.here hx rfl (hb hby d6_28) rfl ?_
        exact k₀
      obtain ⟨b, hb1, Eb⟩ := hel _ (own_placeL u hc9 hc17).2
      have Ar := Ac.ext O0.2
      have hin : ¬ (((u.toInt32) + (128 : Int32)) < 0 ∨ cl.slots.size ≤ (((u.toInt32) + (128 : Int32))).toNatClampNeg) := by rw [hsz]; exact (own_placeL u hc9 hc17).1
      refine hG _ (T5.setTop (mkF m 30 #[.val (.long u), .second, .val (.int (128 : Int32))] [(.ref b)])) (fun t₀ k₀ => ?_) ?_
      · show Steps p.tables e below (T5.setTop (mkF m 29 #[.val (.long u), .second, .val (.int (128 : Int32))] [(.int ((u.toInt32) + (128 : Int32))), (.ref wc)])) t₀
        refine X5.aaload hx (j := ((u.toInt32) + (128 : Int32))) (v := .ref b) (by rw [e5]; exact Ar.1) (State.isArrayOf_alike hZ.alike Ar.2.1) rfl Ar.2.2 hin hb1 (g := (mkF m 29 #[.val (.long u), .second, .val (.int (128 : Int32))] [(.int ((u.toInt32) + (128 : Int32))), (.ref wc)])) rfl rfl (hb hby d6_29) _ ?_
        exact k₀
      refine hF _ T5 _ _ _ (some (.ref b)) _ X5 e5 (fun h => by rw [hrt] at h; cases h) (by decide) (by decide) ?_ (fun fs hr => own_retA X5 hx hrt rfl rfl rfl (hb hby d6_30) hr)
      exact ⟨b, rfl, N0, Keep.refl _ _, Eb.ext O0.2⟩
theorem d3_0 : decode jdk_30_method_1_code 0 = .ok (.aload_n 0, 1) := by decide +kernel
theorem d3_1 : decode jdk_30_method_1_code 1 = .ok (.invokespecial 1, 3) := by decide +kernel
theorem d3_4 : decode jdk_30_method_1_code 4 = .ok (.return_, 1) := by decide +kernel
theorem pn_3 : plainFor (⟨"java/lang/Record", "<init>", "()V"⟩ : MethodName) = true := plainFor_of_name (by first | (simp [plainName, overriddenIn]; done) | decide +kernel)
theorem ef_rm3 (m : MethodId) (x0 : Addr) : entryFrame m #[(.ref x0)] 1 = mkF m 0 #[.val (.ref x0)] [] := by first | (simp [entryFrame, mkF, argsToLocals, Value.category]; done) | rfl
def Q_rm3 (Z : State) (a1 : Addr) (h0 : Heap) (n0 : Nat) (v : Option Value) (h : Heap) (L : List Loc) : Prop := v = none ∧ Fr n0 L ∧ h = h0
set_option maxRecDepth 65536 in
set_option maxHeartbeats 40000000 in
theorem rm3 (l : Launch) (Z : State) (a0 : Array Value) (hw : ∀ d ∈ tables_1, d.before a0 Z = true) (ws : List Jvm.Cond) (a1 : Addr) (h0 : Heap) (n0 : Nat) (Z0 : n0 ≤ h0.size)  :
    MetFree l (⟨"java/lang/Record", "<init>", "()V"⟩ : MethodName) (head1 (Jvm.Cond.code (⟨"java/lang/Record", "<init>", "()V"⟩ : MethodName) jdk_30_method_1_code 1 none :: ws) ({ frames := 1, cells := 0, slots := 0, locals := 12 } : Room)) (fun a U => a = #[(.ref a1)] ∧ Z.Warmed39 U.vm ∧ U.heap = h0) (fun _ _ _ _ _ => True) (fun _ U o U' => ∃ v L, o = .returned v ∧ Q_rm3 Z a1 h0 n0 v U'.heap L ∧ FrameEnd U o U' L ({ frames := 1, cells := 0, slots := 0, locals := 12 } : Room).cells ({ frames := 1, cells := 0, slots := 0, locals := 12 } : Room).slots) := by
  refine own_body (Q := fun v h L => Q_rm3 Z a1 h0 n0 v h L) pn_3 ?_
  intro p e s m below meth c s₁ G X0 hx hZ hby hml hown hnm hrt e0 hG hF
  have hown : s.vm.findClass "java/lang/Record" = some m.cls := hown
  have hnm : meth.name = "<init>" := hnm
  have N0 := Fr.nil n0
  rw [ef_rm3 m a1]
  show G (s₁.setTop (mkF m 0 #[.val (.ref a1)] []))
  refine hG _ (s₁.setTop (mkF m 1 #[.val (.ref a1)] [(.ref a1)])) (fun t₀ k₀ => ?_) ?_
  · show Steps p.tables e below (s₁.setTop (mkF m 0 #[.val (.ref a1)] [])) t₀
    refine XS.aloadN X0.here hx rfl (hb hby d3_0) rfl rfl ?_
    exact k₀
  obtain ⟨T1, X1, e1, st1⟩ := initO X0 hx hZ hown (hw _ (List.mem_of_getElem? (i := 15) rfl)) (hw _ (List.mem_of_getElem? (i := 16) rfl)) (hw _ (List.mem_of_getElem? (i := 17) rfl)) e0 (g := (mkF m 1 #[.val (.ref a1)] [(.ref a1)])) rfl (by rw [hml]; rfl) rfl (hb hby d3_1) (by decide) (W := 0) (by show 2 * 0 + _ ≤ _; exact Nat.le_of_eq rfl) (by decide)
  refine hG _ _ (fun t₀ k₀ => st1 _ k₀) ?_
  show G (T1.setTop (mkF m 4 #[.val (.ref a1)] []))
  refine hF _ T1 _ _ _ none _ X1 e1 (fun _ => rfl) (by decide) (by decide) ?_ (fun fs hr => X1.returnOut hx hrt (hb hby d3_4) hr)
  exact ⟨rfl, N0, rfl⟩
theorem d1_0 : decode method_2_code 0 = .ok (.iload_n 0, 1) := by decide +kernel
theorem d1_1 : decode method_2_code 1 = .ok (.ifCond .ne 5, 3) := by decide +kernel
theorem d1_4 : decode method_2_code 4 = .ok (.lload_n 1, 1) := by decide +kernel
theorem d1_5 : decode method_2_code 5 = .ok (.lreturn, 1) := by decide +kernel
theorem d1_6 : decode method_2_code 6 = .ok (.iload_n 0, 1) := by decide +kernel
theorem d1_7 : decode method_2_code 7 = .ok (.iconst 1, 1) := by decide +kernel
theorem d1_8 : decode method_2_code 8 = .ok (.if_icmp .ne 7, 3) := by decide +kernel
theorem d1_11 : decode method_2_code 11 = .ok (.iload 7, 2) := by decide +kernel
theorem d1_13 : decode method_2_code 13 = .ok (.i2l, 1) := by decide +kernel
theorem d1_14 : decode method_2_code 14 = .ok (.lreturn, 1) := by decide +kernel
theorem d1_15 : decode method_2_code 15 = .ok (.iload_n 0, 1) := by decide +kernel
theorem d1_16 : decode method_2_code 16 = .ok (.iconst 2, 1) := by decide +kernel
theorem d1_17 : decode method_2_code 17 = .ok (.if_icmp .ne 5, 3) := by decide +kernel
theorem d1_20 : decode method_2_code 20 = .ok (.lload_n 3, 1) := by decide +kernel
theorem d1_21 : decode method_2_code 21 = .ok (.lreturn, 1) := by decide +kernel
theorem d1_22 : decode method_2_code 22 = .ok (.iload_n 0, 1) := by decide +kernel
theorem d1_23 : decode method_2_code 23 = .ok (.iconst 3, 1) := by decide +kernel
theorem d1_24 : decode method_2_code 24 = .ok (.if_icmp .ne 6, 3) := by decide +kernel
theorem d1_27 : decode method_2_code 27 = .ok (.lload 5, 2) := by decide +kernel
theorem d1_29 : decode method_2_code 29 = .ok (.lreturn, 1) := by decide +kernel
theorem d1_30 : decode method_2_code 30 = .ok (.iload_n 0, 1) := by decide +kernel
theorem d1_31 : decode method_2_code 31 = .ok (.iconst 4, 1) := by decide +kernel
theorem d1_32 : decode method_2_code 32 = .ok (.if_icmp .ne 7, 3) := by decide +kernel
theorem d1_35 : decode method_2_code 35 = .ok (.lload_n 1, 1) := by decide +kernel
theorem d1_36 : decode method_2_code 36 = .ok (.lload_n 3, 1) := by decide +kernel
theorem d1_37 : decode method_2_code 37 = .ok (.lxor, 1) := by decide +kernel
theorem d1_38 : decode method_2_code 38 = .ok (.lreturn, 1) := by decide +kernel
theorem d1_39 : decode method_2_code 39 = .ok (.iload_n 0, 1) := by decide +kernel
theorem d1_40 : decode method_2_code 40 = .ok (.iconst 5, 1) := by decide +kernel
theorem d1_41 : decode method_2_code 41 = .ok (.if_icmp .ne 8, 3) := by decide +kernel
theorem d1_44 : decode method_2_code 44 = .ok (.lload_n 3, 1) := by decide +kernel
theorem d1_45 : decode method_2_code 45 = .ok (.lload 5, 2) := by decide +kernel
theorem d1_47 : decode method_2_code 47 = .ok (.lxor, 1) := by decide +kernel
theorem d1_48 : decode method_2_code 48 = .ok (.lreturn, 1) := by decide +kernel
theorem d1_49 : decode method_2_code 49 = .ok (.iload_n 0, 1) := by decide +kernel
theorem d1_50 : decode method_2_code 50 = .ok (.bipush 6, 2) := by decide +kernel
theorem d1_52 : decode method_2_code 52 = .ok (.if_icmp .ne 8, 3) := by decide +kernel
theorem d1_55 : decode method_2_code 55 = .ok (.lload_n 1, 1) := by decide +kernel
theorem d1_56 : decode method_2_code 56 = .ok (.lload 5, 2) := by decide +kernel
theorem d1_58 : decode method_2_code 58 = .ok (.ladd, 1) := by decide +kernel
theorem d1_59 : decode method_2_code 59 = .ok (.lreturn, 1) := by decide +kernel
theorem d1_60 : decode method_2_code 60 = .ok (.lload_n 3, 1) := by decide +kernel
theorem d1_61 : decode method_2_code 61 = .ok (.lload 5, 2) := by decide +kernel
theorem d1_63 : decode method_2_code 63 = .ok (.lsub, 1) := by decide +kernel
theorem d1_64 : decode method_2_code 64 = .ok (.lreturn, 1) := by decide +kernel
theorem pn_1 : plainFor (⟨"com/example/opledger/opledger/CheckpointEqualsPinLaw", "oldValue", "(IJJJI)J"⟩ : MethodName) = true := plainFor_of_name (by first | (simp [plainName, overriddenIn]; done) | decide +kernel)
theorem ef_rmV (m : MethodId) (x0 : Int32) (x1 : Int64) (x2 : Int64) (x3 : Int64) (x4 : Int32) : entryFrame m #[(.int x0), (.long x1), (.long x2), (.long x3), (.int x4)] 8 = mkF m 0 #[.val (.int x0), .val (.long x1), .second, .val (.long x2), .second, .val (.long x3), .second, .val (.int x4)] [] := by first | (simp [entryFrame, mkF, argsToLocals, Value.category]; done) | rfl
def Q_rmV (Z : State) (u : Int32) (qa qb qc : Int64) (qn : Int32) (h0 : Heap) (n0 : Nat) (v : Option Value) (h : Heap) (L : List Loc) : Prop := v = some (.long (own_old u qa qb qc qn)) ∧ Fr n0 L ∧ h = h0
set_option maxRecDepth 65536 in
set_option maxHeartbeats 40000000 in
theorem rmV (l : Launch) (Z : State) (a0 : Array Value) (hw : ∀ d ∈ tables_1, d.before a0 Z = true) (ws : List Jvm.Cond) (u : Int32) (qa qb qc : Int64) (qn : Int32) (h0 : Heap) (n0 : Nat) (Z0 : n0 ≤ h0.size)  :
    MetFree l (⟨"com/example/opledger/opledger/CheckpointEqualsPinLaw", "oldValue", "(IJJJI)J"⟩ : MethodName) (head1 (Jvm.Cond.code (⟨"com/example/opledger/opledger/CheckpointEqualsPinLaw", "oldValue", "(IJJJI)J"⟩ : MethodName) method_2_code 8 (some .long) :: ws) ({ frames := 0, cells := 0, slots := 0, locals := 0 } : Room)) (fun a U => a = #[(.int u), (.long qa), (.long qb), (.long qc), (.int qn)] ∧ Z.Warmed39 U.vm ∧ U.heap = h0) (fun _ _ _ _ _ => True) (fun _ U o U' => ∃ v L, o = .returned v ∧ Q_rmV Z u qa qb qc qn h0 n0 v U'.heap L ∧ FrameEnd U o U' L ({ frames := 0, cells := 0, slots := 0, locals := 0 } : Room).cells ({ frames := 0, cells := 0, slots := 0, locals := 0 } : Room).slots) := by
  refine own_body (Q := fun v h L => Q_rmV Z u qa qb qc qn h0 n0 v h L) pn_1 ?_
  intro p e s m below meth c s₁ G X0 hx hZ hby hml hown hnm hrt e0 hG hF
  have hown : s.vm.findClass "com/example/opledger/opledger/CheckpointEqualsPinLaw" = some m.cls := hown
  have N0 := Fr.nil n0
  rw [ef_rmV m u qa qb qc qn]
  show G (s₁.setTop (mkF m 0 #[.val (.int u), .val (.long qa), .second, .val (.long qb), .second, .val (.long qc), .second, .val (.int qn)] []))
  refine hG _ (s₁.setTop (mkF m 1 #[.val (.int u), .val (.long qa), .second, .val (.long qb), .second, .val (.long qc), .second, .val (.int qn)] [(.int u)])) (fun t₀ k₀ => ?_) ?_
  · show Steps p.tables e below (s₁.setTop (mkF m 0 #[.val (.int u), .val (.long qa), .second, .val (.long qb), .second, .val (.long qc), .second, .val (.int qn)] [])) t₀
    refine XS.iloadN X0.here hx rfl (hb hby d1_0) rfl ?_
    exact k₀
  by_cases hc1 : u = (0 : Int32)
  ·
    refine hG _ (s₁.setTop (mkF m 5 #[.val (.int u), .val (.long qa), .second, .val (.long qb), .second, .val (.long qc), .second, .val (.int qn)] [(.long qa)])) (fun t₀ k₀ => ?_) ?_
    · show Steps p.tables e below (s₁.setTop (mkF m 1 #[.val (.int u), .val (.long qa), .second, .val (.long qb), .second, .val (.long qc), .second, .val (.int qn)] [(.int u)])) t₀
      refine XS.ifNo X0.here hx rfl (hb hby d1_1) rfl ((if0 _ _).trans (teq hc1).2) ?_
      show Steps p.tables e below (s₁.setTop (mkF m 4 #[.val (.int u), .val (.long qa), .second, .val (.long qb), .second, .val (.long qc), .second, .val (.int qn)] [])) t₀
      refine XS.lloadN X0.here hx rfl (hb hby d1_4) rfl ?_
      exact k₀
    refine hF _ s₁ _ _ _ (some (.long qa)) _ X0 e0 (fun h => by rw [hrt] at h; cases h) (by decide) (by decide) ?_ (fun fs hr => own_retJ X0 hx hrt (hb hby d1_5) hr)
    exact ⟨by simp [own_old, hc1], N0, rfl⟩
  ·
    refine hG _ (s₁.setTop (mkF m 8 #[.val (.int u), .val (.long qa), .second, .val (.long qb), .second, .val (.long qc), .second, .val (.int qn)] [(.int (1 : Int32)), (.int u)])) (fun t₀ k₀ => ?_) ?_
    · show Steps p.tables e below (s₁.setTop (mkF m 1 #[.val (.int u), .val (.long qa), .second, .val (.long qb), .second, .val (.long qc), .second, .val (.int qn)] [(.int u)])) t₀
      refine XS.ifYes X0.here hx rfl (pc0 := 1) (pc' := 6) rfl (hb hby d1_1) rfl ((if0 _ _).trans (feq hc1).2) (by decide) (by decide) ?_
      show Steps p.tables e below (s₁.setTop (mkF m 6 #[.val (.int u), .val (.long qa), .second, .val (.long qb), .second, .val (.long qc), .second, .val (.int qn)] [])) t₀
      refine XS.iloadN X0.here hx rfl (hb hby d1_6) rfl ?_
      show Steps p.tables e below (s₁.setTop (mkF m 7 #[.val (.int u), .val (.long qa), .second, .val (.long qb), .second, .val (.long qc), .second, .val (.int qn)] [(.int u)])) t₀
      refine XS.iconst X0.here hx rfl (hb hby d1_7) ?_
      exact k₀
    by_cases hc8 : u = (1 : Int32)
    ·
      refine hG _ (s₁.setTop (mkF m 14 #[.val (.int u), .val (.long qa), .second, .val (.long qb), .second, .val (.long qc), .second, .val (.int qn)] [(.long (qn.toInt64))])) (fun t₀ k₀ => ?_) ?_
      · show Steps p.tables e below (s₁.setTop (mkF m 8 #[.val (.int u), .val (.long qa), .second, .val (.long qb), .second, .val (.long qc), .second, .val (.int qn)] [(.int (1 : Int32)), (.int u)])) t₀
        refine XS.icmpNo X0.here hx rfl (hb hby d1_8) rfl (teq hc8).2 ?_
        show Steps p.tables e below (s₁.setTop (mkF m 11 #[.val (.int u), .val (.long qa), .second, .val (.long qb), .second, .val (.long qc), .second, .val (.int qn)] [])) t₀
        refine XS.iload X0.here hx rfl (hb hby d1_11) rfl ?_
        show Steps p.tables e below (s₁.setTop (mkF m 13 #[.val (.int u), .val (.long qa), .second, .val (.long qb), .second, .val (.long qc), .second, .val (.int qn)] [(.int qn)])) t₀
        refine XS.i2l X0.here hx rfl (hb hby d1_13) rfl ?_
        exact k₀
      refine hF _ s₁ _ _ _ (some (.long (qn.toInt64))) _ X0 e0 (fun h => by rw [hrt] at h; cases h) (by decide) (by decide) ?_ (fun fs hr => own_retJ X0 hx hrt (hb hby d1_14) hr)
      exact ⟨by simp [own_old, hc1, hc8], N0, rfl⟩
    ·
      refine hG _ (s₁.setTop (mkF m 17 #[.val (.int u), .val (.long qa), .second, .val (.long qb), .second, .val (.long qc), .second, .val (.int qn)] [(.int (2 : Int32)), (.int u)])) (fun t₀ k₀ => ?_) ?_
      · show Steps p.tables e below (s₁.setTop (mkF m 8 #[.val (.int u), .val (.long qa), .second, .val (.long qb), .second, .val (.long qc), .second, .val (.int qn)] [(.int (1 : Int32)), (.int u)])) t₀
        refine XS.icmpYes X0.here hx rfl (pc0 := 8) (pc' := 15) rfl (hb hby d1_8) rfl (feq hc8).2 (by decide) (by decide) ?_
        show Steps p.tables e below (s₁.setTop (mkF m 15 #[.val (.int u), .val (.long qa), .second, .val (.long qb), .second, .val (.long qc), .second, .val (.int qn)] [])) t₀
        refine XS.iloadN X0.here hx rfl (hb hby d1_15) rfl ?_
        show Steps p.tables e below (s₁.setTop (mkF m 16 #[.val (.int u), .val (.long qa), .second, .val (.long qb), .second, .val (.long qc), .second, .val (.int qn)] [(.int u)])) t₀
        refine XS.iconst X0.here hx rfl (hb hby d1_16) ?_
        exact k₀
      by_cases hc17 : u = (2 : Int32)
      ·
        refine hG _ (s₁.setTop (mkF m 21 #[.val (.int u), .val (.long qa), .second, .val (.long qb), .second, .val (.long qc), .second, .val (.int qn)] [(.long qb)])) (fun t₀ k₀ => ?_) ?_
        · show Steps p.tables e below (s₁.setTop (mkF m 17 #[.val (.int u), .val (.long qa), .second, .val (.long qb), .second, .val (.long qc), .second, .val (.int qn)] [(.int (2 : Int32)), (.int u)])) t₀
          refine XS.icmpNo X0.here hx rfl (hb hby d1_17) rfl (teq hc17).2 ?_
          show Steps p.tables e below (s₁.setTop (mkF m 20 #[.val (.int u), .val (.long qa), .second, .val (.long qb), .second, .val (.long qc), .second, .val (.int qn)] [])) t₀
          refine XS.lloadN X0.here hx rfl (hb hby d1_20) rfl ?_
          exact k₀
        refine hF _ s₁ _ _ _ (some (.long qb)) _ X0 e0 (fun h => by rw [hrt] at h; cases h) (by decide) (by decide) ?_ (fun fs hr => own_retJ X0 hx hrt (hb hby d1_21) hr)
        exact ⟨by simp [own_old, hc1, hc8, hc17], N0, rfl⟩
      ·
        refine hG _ (s₁.setTop (mkF m 24 #[.val (.int u), .val (.long qa), .second, .val (.long qb), .second, .val (.long qc), .second, .val (.int qn)] [(.int (3 : Int32)), (.int u)])) (fun t₀ k₀ => ?_) ?_
        · show Steps p.tables e below (s₁.setTop (mkF m 17 #[.val (.int u), .val (.long qa), .second, .val (.long qb), .second, .val (.long qc), .second, .val (.int qn)] [(.int (2 : Int32)), (.int u)])) t₀
          refine XS.icmpYes X0.here hx rfl (pc0 := 17) (pc' := 22) rfl (hb hby d1_17) rfl (feq hc17).2 (by decide) (by decide) ?_
          show Steps p.tables e below (s₁.setTop (mkF m 22 #[.val (.int u), .val (.long qa), .second, .val (.long qb), .second, .val (.long qc), .second, .val (.int qn)] [])) t₀
          refine XS.iloadN X0.here hx rfl (hb hby d1_22) rfl ?_
          show Steps p.tables e below (s₁.setTop (mkF m 23 #[.val (.int u), .val (.long qa), .second, .val (.long qb), .second, .val (.long qc), .second, .val (.int qn)] [(.int u)])) t₀
          refine XS.iconst X0.here hx rfl (hb hby d1_23) ?_
          exact k₀
        by_cases hc24 : u = (3 : Int32)
        ·
          refine hG _ (s₁.setTop (mkF m 29 #[.val (.int u), .val (.long qa), .second, .val (.long qb), .second, .val (.long qc), .second, .val (.int qn)] [(.long qc)])) (fun t₀ k₀ => ?_) ?_
          · show Steps p.tables e below (s₁.setTop (mkF m 24 #[.val (.int u), .val (.long qa), .second, .val (.long qb), .second, .val (.long qc), .second, .val (.int qn)] [(.int (3 : Int32)), (.int u)])) t₀
            refine XS.icmpNo X0.here hx rfl (hb hby d1_24) rfl (teq hc24).2 ?_
            show Steps p.tables e below (s₁.setTop (mkF m 27 #[.val (.int u), .val (.long qa), .second, .val (.long qb), .second, .val (.long qc), .second, .val (.int qn)] [])) t₀
            refine XS.lload X0.here hx rfl (hb hby d1_27) rfl ?_
            exact k₀
          refine hF _ s₁ _ _ _ (some (.long qc)) _ X0 e0 (fun h => by rw [hrt] at h; cases h) (by decide) (by decide) ?_ (fun fs hr => own_retJ X0 hx hrt (hb hby d1_29) hr)
          exact ⟨by simp [own_old, hc1, hc8, hc17, hc24], N0, rfl⟩
        ·
          refine hG _ (s₁.setTop (mkF m 32 #[.val (.int u), .val (.long qa), .second, .val (.long qb), .second, .val (.long qc), .second, .val (.int qn)] [(.int (4 : Int32)), (.int u)])) (fun t₀ k₀ => ?_) ?_
          · show Steps p.tables e below (s₁.setTop (mkF m 24 #[.val (.int u), .val (.long qa), .second, .val (.long qb), .second, .val (.long qc), .second, .val (.int qn)] [(.int (3 : Int32)), (.int u)])) t₀
            refine XS.icmpYes X0.here hx rfl (pc0 := 24) (pc' := 30) rfl (hb hby d1_24) rfl (feq hc24).2 (by decide) (by decide) ?_
            show Steps p.tables e below (s₁.setTop (mkF m 30 #[.val (.int u), .val (.long qa), .second, .val (.long qb), .second, .val (.long qc), .second, .val (.int qn)] [])) t₀
            refine XS.iloadN X0.here hx rfl (hb hby d1_30) rfl ?_
            show Steps p.tables e below (s₁.setTop (mkF m 31 #[.val (.int u), .val (.long qa), .second, .val (.long qb), .second, .val (.long qc), .second, .val (.int qn)] [(.int u)])) t₀
            refine XS.iconst X0.here hx rfl (hb hby d1_31) ?_
            exact k₀
          by_cases hc32 : u = (4 : Int32)
          ·
            refine hG _ (s₁.setTop (mkF m 38 #[.val (.int u), .val (.long qa), .second, .val (.long qb), .second, .val (.long qc), .second, .val (.int qn)] [(.long (qa ^^^ qb))])) (fun t₀ k₀ => ?_) ?_
            · show Steps p.tables e below (s₁.setTop (mkF m 32 #[.val (.int u), .val (.long qa), .second, .val (.long qb), .second, .val (.long qc), .second, .val (.int qn)] [(.int (4 : Int32)), (.int u)])) t₀
              refine XS.icmpNo X0.here hx rfl (hb hby d1_32) rfl (teq hc32).2 ?_
              show Steps p.tables e below (s₁.setTop (mkF m 35 #[.val (.int u), .val (.long qa), .second, .val (.long qb), .second, .val (.long qc), .second, .val (.int qn)] [])) t₀
              refine XS.lloadN X0.here hx rfl (hb hby d1_35) rfl ?_
              show Steps p.tables e below (s₁.setTop (mkF m 36 #[.val (.int u), .val (.long qa), .second, .val (.long qb), .second, .val (.long qc), .second, .val (.int qn)] [(.long qa)])) t₀
              refine XS.lloadN X0.here hx rfl (hb hby d1_36) rfl ?_
              show Steps p.tables e below (s₁.setTop (mkF m 37 #[.val (.int u), .val (.long qa), .second, .val (.long qb), .second, .val (.long qc), .second, .val (.int qn)] [(.long qb), (.long qa)])) t₀
              refine XS.lxor X0.here hx rfl (hb hby d1_37) rfl ?_
              exact k₀
            refine hF _ s₁ _ _ _ (some (.long (qa ^^^ qb))) _ X0 e0 (fun h => by rw [hrt] at h; cases h) (by decide) (by decide) ?_ (fun fs hr => own_retJ X0 hx hrt (hb hby d1_38) hr)
            exact ⟨by simp [own_old, hc1, hc8, hc17, hc24, hc32], N0, rfl⟩
          ·
            refine hG _ (s₁.setTop (mkF m 41 #[.val (.int u), .val (.long qa), .second, .val (.long qb), .second, .val (.long qc), .second, .val (.int qn)] [(.int (5 : Int32)), (.int u)])) (fun t₀ k₀ => ?_) ?_
            · show Steps p.tables e below (s₁.setTop (mkF m 32 #[.val (.int u), .val (.long qa), .second, .val (.long qb), .second, .val (.long qc), .second, .val (.int qn)] [(.int (4 : Int32)), (.int u)])) t₀
              refine XS.icmpYes X0.here hx rfl (pc0 := 32) (pc' := 39) rfl (hb hby d1_32) rfl (feq hc32).2 (by decide) (by decide) ?_
              show Steps p.tables e below (s₁.setTop (mkF m 39 #[.val (.int u), .val (.long qa), .second, .val (.long qb), .second, .val (.long qc), .second, .val (.int qn)] [])) t₀
              refine XS.iloadN X0.here hx rfl (hb hby d1_39) rfl ?_
              show Steps p.tables e below (s₁.setTop (mkF m 40 #[.val (.int u), .val (.long qa), .second, .val (.long qb), .second, .val (.long qc), .second, .val (.int qn)] [(.int u)])) t₀
              refine XS.iconst X0.here hx rfl (hb hby d1_40) ?_
              exact k₀
            by_cases hc41 : u = (5 : Int32)
            ·
              refine hG _ (s₁.setTop (mkF m 48 #[.val (.int u), .val (.long qa), .second, .val (.long qb), .second, .val (.long qc), .second, .val (.int qn)] [(.long (qb ^^^ qc))])) (fun t₀ k₀ => ?_) ?_
              · show Steps p.tables e below (s₁.setTop (mkF m 41 #[.val (.int u), .val (.long qa), .second, .val (.long qb), .second, .val (.long qc), .second, .val (.int qn)] [(.int (5 : Int32)), (.int u)])) t₀
                refine XS.icmpNo X0.here hx rfl (hb hby d1_41) rfl (teq hc41).2 ?_
                show Steps p.tables e below (s₁.setTop (mkF m 44 #[.val (.int u), .val (.long qa), .second, .val (.long qb), .second, .val (.long qc), .second, .val (.int qn)] [])) t₀
                refine XS.lloadN X0.here hx rfl (hb hby d1_44) rfl ?_
                show Steps p.tables e below (s₁.setTop (mkF m 45 #[.val (.int u), .val (.long qa), .second, .val (.long qb), .second, .val (.long qc), .second, .val (.int qn)] [(.long qb)])) t₀
                refine XS.lload X0.here hx rfl (hb hby d1_45) rfl ?_
                show Steps p.tables e below (s₁.setTop (mkF m 47 #[.val (.int u), .val (.long qa), .second, .val (.long qb), .second, .val (.long qc), .second, .val (.int qn)] [(.long qc), (.long qb)])) t₀
                refine XS.lxor X0.here hx rfl (hb hby d1_47) rfl ?_
                exact k₀
              refine hF _ s₁ _ _ _ (some (.long (qb ^^^ qc))) _ X0 e0 (fun h => by rw [hrt] at h; cases h) (by decide) (by decide) ?_ (fun fs hr => own_retJ X0 hx hrt (hb hby d1_48) hr)
              exact ⟨by simp [own_old, hc1, hc8, hc17, hc24, hc32, hc41], N0, rfl⟩
            ·
              refine hG _ (s₁.setTop (mkF m 52 #[.val (.int u), .val (.long qa), .second, .val (.long qb), .second, .val (.long qc), .second, .val (.int qn)] [(.int (6 : Int32)), (.int u)])) (fun t₀ k₀ => ?_) ?_
              · show Steps p.tables e below (s₁.setTop (mkF m 41 #[.val (.int u), .val (.long qa), .second, .val (.long qb), .second, .val (.long qc), .second, .val (.int qn)] [(.int (5 : Int32)), (.int u)])) t₀
                refine XS.icmpYes X0.here hx rfl (pc0 := 41) (pc' := 49) rfl (hb hby d1_41) rfl (feq hc41).2 (by decide) (by decide) ?_
                show Steps p.tables e below (s₁.setTop (mkF m 49 #[.val (.int u), .val (.long qa), .second, .val (.long qb), .second, .val (.long qc), .second, .val (.int qn)] [])) t₀
                refine XS.iloadN X0.here hx rfl (hb hby d1_49) rfl ?_
                show Steps p.tables e below (s₁.setTop (mkF m 50 #[.val (.int u), .val (.long qa), .second, .val (.long qb), .second, .val (.long qc), .second, .val (.int qn)] [(.int u)])) t₀
                refine XS.bipush X0.here hx rfl (hb hby d1_50) ?_
                exact k₀
              by_cases hc52 : u = (6 : Int32)
              ·
                refine hG _ (s₁.setTop (mkF m 59 #[.val (.int u), .val (.long qa), .second, .val (.long qb), .second, .val (.long qc), .second, .val (.int qn)] [(.long (qa + qc))])) (fun t₀ k₀ => ?_) ?_
                · show Steps p.tables e below (s₁.setTop (mkF m 52 #[.val (.int u), .val (.long qa), .second, .val (.long qb), .second, .val (.long qc), .second, .val (.int qn)] [(.int (6 : Int32)), (.int u)])) t₀
                  refine XS.icmpNo X0.here hx rfl (hb hby d1_52) rfl (teq hc52).2 ?_
                  show Steps p.tables e below (s₁.setTop (mkF m 55 #[.val (.int u), .val (.long qa), .second, .val (.long qb), .second, .val (.long qc), .second, .val (.int qn)] [])) t₀
                  refine XS.lloadN X0.here hx rfl (hb hby d1_55) rfl ?_
                  show Steps p.tables e below (s₁.setTop (mkF m 56 #[.val (.int u), .val (.long qa), .second, .val (.long qb), .second, .val (.long qc), .second, .val (.int qn)] [(.long qa)])) t₀
                  refine XS.lload X0.here hx rfl (hb hby d1_56) rfl ?_
                  show Steps p.tables e below (s₁.setTop (mkF m 58 #[.val (.int u), .val (.long qa), .second, .val (.long qb), .second, .val (.long qc), .second, .val (.int qn)] [(.long qc), (.long qa)])) t₀
                  refine XS.ladd X0.here hx rfl (hb hby d1_58) rfl ?_
                  exact k₀
                refine hF _ s₁ _ _ _ (some (.long (qa + qc))) _ X0 e0 (fun h => by rw [hrt] at h; cases h) (by decide) (by decide) ?_ (fun fs hr => own_retJ X0 hx hrt (hb hby d1_59) hr)
                exact ⟨by simp [own_old, hc1, hc8, hc17, hc24, hc32, hc41, hc52], N0, rfl⟩
              ·
                refine hG _ (s₁.setTop (mkF m 64 #[.val (.int u), .val (.long qa), .second, .val (.long qb), .second, .val (.long qc), .second, .val (.int qn)] [(.long (qb - qc))])) (fun t₀ k₀ => ?_) ?_
                · show Steps p.tables e below (s₁.setTop (mkF m 52 #[.val (.int u), .val (.long qa), .second, .val (.long qb), .second, .val (.long qc), .second, .val (.int qn)] [(.int (6 : Int32)), (.int u)])) t₀
                  refine XS.icmpYes X0.here hx rfl (pc0 := 52) (pc' := 60) rfl (hb hby d1_52) rfl (feq hc52).2 (by decide) (by decide) ?_
                  show Steps p.tables e below (s₁.setTop (mkF m 60 #[.val (.int u), .val (.long qa), .second, .val (.long qb), .second, .val (.long qc), .second, .val (.int qn)] [])) t₀
                  refine XS.lloadN X0.here hx rfl (hb hby d1_60) rfl ?_
                  show Steps p.tables e below (s₁.setTop (mkF m 61 #[.val (.int u), .val (.long qa), .second, .val (.long qb), .second, .val (.long qc), .second, .val (.int qn)] [(.long qb)])) t₀
                  refine XS.lload X0.here hx rfl (hb hby d1_61) rfl ?_
                  show Steps p.tables e below (s₁.setTop (mkF m 63 #[.val (.int u), .val (.long qa), .second, .val (.long qb), .second, .val (.long qc), .second, .val (.int qn)] [(.long qc), (.long qb)])) t₀
                  refine XS.lsub X0.here hx rfl (hb hby d1_63) rfl ?_
                  exact k₀
                refine hF _ s₁ _ _ _ (some (.long (qb - qc))) _ X0 e0 (fun h => by rw [hrt] at h; cases h) (by decide) (by decide) ?_ (fun fs hr => own_retJ X0 hx hrt (hb hby d1_64) hr)
                exact ⟨by simp [own_old, hc1, hc8, hc17, hc24, hc32, hc41, hc52], N0, rfl⟩
theorem d2_0 : decode prog_2_method_1_code 0 = .ok (.aload_n 0, 1) := by decide +kernel
theorem d2_1 : decode prog_2_method_1_code 1 = .ok (.invokespecial 3, 3) := by decide +kernel
theorem d2_4 : decode prog_2_method_1_code 4 = .ok (.aload_n 0, 1) := by decide +kernel
theorem d2_5 : decode prog_2_method_1_code 5 = .ok (.lload_n 1, 1) := by decide +kernel
theorem d2_6 : decode prog_2_method_1_code 6 = .ok (.putfield 9, 3) := by decide +kernel
theorem d2_9 : decode prog_2_method_1_code 9 = .ok (.aload_n 0, 1) := by decide +kernel
theorem d2_10 : decode prog_2_method_1_code 10 = .ok (.iload_n 3, 1) := by decide +kernel
theorem d2_11 : decode prog_2_method_1_code 11 = .ok (.putfield 13, 3) := by decide +kernel
theorem d2_14 : decode prog_2_method_1_code 14 = .ok (.aload_n 0, 1) := by decide +kernel
theorem d2_15 : decode prog_2_method_1_code 15 = .ok (.lload 4, 2) := by decide +kernel
theorem d2_17 : decode prog_2_method_1_code 17 = .ok (.putfield 17, 3) := by decide +kernel
theorem d2_20 : decode prog_2_method_1_code 20 = .ok (.aload_n 0, 1) := by decide +kernel
theorem d2_21 : decode prog_2_method_1_code 21 = .ok (.lload 6, 2) := by decide +kernel
theorem d2_23 : decode prog_2_method_1_code 23 = .ok (.putfield 20, 3) := by decide +kernel
theorem d2_26 : decode prog_2_method_1_code 26 = .ok (.aload_n 0, 1) := by decide +kernel
theorem d2_27 : decode prog_2_method_1_code 27 = .ok (.lload 8, 2) := by decide +kernel
theorem d2_29 : decode prog_2_method_1_code 29 = .ok (.putfield 23, 3) := by decide +kernel
theorem d2_32 : decode prog_2_method_1_code 32 = .ok (.aload_n 0, 1) := by decide +kernel
theorem d2_33 : decode prog_2_method_1_code 33 = .ok (.lload 10, 2) := by decide +kernel
theorem d2_35 : decode prog_2_method_1_code 35 = .ok (.putfield 26, 3) := by decide +kernel
theorem d2_38 : decode prog_2_method_1_code 38 = .ok (.aload_n 0, 1) := by decide +kernel
theorem d2_39 : decode prog_2_method_1_code 39 = .ok (.lload 12, 2) := by decide +kernel
theorem d2_41 : decode prog_2_method_1_code 41 = .ok (.putfield 29, 3) := by decide +kernel
theorem d2_44 : decode prog_2_method_1_code 44 = .ok (.aload_n 0, 1) := by decide +kernel
theorem d2_45 : decode prog_2_method_1_code 45 = .ok (.lload 14, 2) := by decide +kernel
theorem d2_47 : decode prog_2_method_1_code 47 = .ok (.putfield 32, 3) := by decide +kernel
theorem d2_50 : decode prog_2_method_1_code 50 = .ok (.return_, 1) := by decide +kernel
theorem pn_2 : plainFor (⟨"com/example/opledger/opledger/Checkpoint", "<init>", "(JIJJJJJJ)V"⟩ : MethodName) = true := plainFor_of_name (by first | (simp [plainName, overriddenIn]; done) | decide +kernel)
theorem ef_rmC (m : MethodId) (x0 : Addr) (x1 : Int64) (x2 : Int32) (x3 : Int64) (x4 : Int64) (x5 : Int64) (x6 : Int64) (x7 : Int64) (x8 : Int64) : entryFrame m #[(.ref x0), (.long x1), (.int x2), (.long x3), (.long x4), (.long x5), (.long x6), (.long x7), (.long x8)] 16 = mkF m 0 #[.val (.ref x0), .val (.long x1), .second, .val (.int x2), .val (.long x3), .second, .val (.long x4), .second, .val (.long x5), .second, .val (.long x6), .second, .val (.long x7), .second, .val (.long x8), .second] [] := by first | (simp [entryFrame, mkF, argsToLocals, Value.category]; done) | rfl
def Q_rmC (Z : State) (a1 : Addr) (x0 : Int64) (x1 : Int32) (x2 : Int64) (x3 : Int64) (x4 : Int64) (x5 : Int64) (x6 : Int64) (x7 : Int64) (h0 : Heap) (n0 : Nat) (v : Option Value) (h : Heap) (L : List Loc) : Prop := v = none ∧ Fr n0 L ∧ Keep h0 h [a1] ∧ Fld Z h a1 "com/example/opledger/opledger/Checkpoint" "offset" "J" (.long x0) ∧ Fld Z h a1 "com/example/opledger/opledger/Checkpoint" "numOps" "I" (.int x1) ∧ Fld Z h a1 "com/example/opledger/opledger/Checkpoint" "generation" "J" (.long x2) ∧ Fld Z h a1 "com/example/opledger/opledger/Checkpoint" "minSeqNo" "J" (.long x3) ∧ Fld Z h a1 "com/example/opledger/opledger/Checkpoint" "maxSeqNo" "J" (.long x4) ∧ Fld Z h a1 "com/example/opledger/opledger/Checkpoint" "globalCheckpoint" "J" (.long x5) ∧ Fld Z h a1 "com/example/opledger/opledger/Checkpoint" "minGeneration" "J" (.long x6) ∧ Fld Z h a1 "com/example/opledger/opledger/Checkpoint" "trimmedAboveSeqNo" "J" (.long x7)
set_option maxRecDepth 65536 in
set_option maxHeartbeats 40000000 in
theorem rmC (l : Launch) (Z : State) (a0 : Array Value) (hw : ∀ d ∈ tables_1, d.before a0 Z = true) (ws : List Jvm.Cond) (a1 : Addr) (x0 : Int64) (x1 : Int32) (x2 : Int64) (x3 : Int64) (x4 : Int64) (x5 : Int64) (x6 : Int64) (x7 : Int64) (h0 : Heap) (n0 : Nat) (Z0 : n0 ≤ h0.size) (E1 : Exa Z h0 a1 "com/example/opledger/opledger/Checkpoint") (g1 : n0 ≤ a1) (F_offset : Fld Z h0 a1 "com/example/opledger/opledger/Checkpoint" "offset" "J" (.long (0 : Int64))) (F_numOps : Fld Z h0 a1 "com/example/opledger/opledger/Checkpoint" "numOps" "I" (.int (0 : Int32))) (F_generation : Fld Z h0 a1 "com/example/opledger/opledger/Checkpoint" "generation" "J" (.long (0 : Int64))) (F_minSeqNo : Fld Z h0 a1 "com/example/opledger/opledger/Checkpoint" "minSeqNo" "J" (.long (0 : Int64))) (F_maxSeqNo : Fld Z h0 a1 "com/example/opledger/opledger/Checkpoint" "maxSeqNo" "J" (.long (0 : Int64))) (F_globalCheckpoint : Fld Z h0 a1 "com/example/opledger/opledger/Checkpoint" "globalCheckpoint" "J" (.long (0 : Int64))) (F_minGeneration : Fld Z h0 a1 "com/example/opledger/opledger/Checkpoint" "minGeneration" "J" (.long (0 : Int64))) (F_trimmedAboveSeqNo : Fld Z h0 a1 "com/example/opledger/opledger/Checkpoint" "trimmedAboveSeqNo" "J" (.long (0 : Int64))) :
    MetFree l (⟨"com/example/opledger/opledger/Checkpoint", "<init>", "(JIJJJJJJ)V"⟩ : MethodName) (head1 (Jvm.Cond.code (⟨"com/example/opledger/opledger/Checkpoint", "<init>", "(JIJJJJJJ)V"⟩ : MethodName) prog_2_method_1_code 16 none :: ws) ({ frames := 2, cells := 0, slots := 0, locals := 24 } : Room)) (fun a U => a = #[(.ref a1), (.long x0), (.int x1), (.long x2), (.long x3), (.long x4), (.long x5), (.long x6), (.long x7)] ∧ Z.Warmed39 U.vm ∧ U.heap = h0) (fun _ _ _ _ _ => True) (fun _ U o U' => ∃ v L, o = .returned v ∧ Q_rmC Z a1 x0 x1 x2 x3 x4 x5 x6 x7 h0 n0 v U'.heap L ∧ FrameEnd U o U' L ({ frames := 2, cells := 0, slots := 0, locals := 24 } : Room).cells ({ frames := 2, cells := 0, slots := 0, locals := 24 } : Room).slots) := by
  refine own_body (Q := fun v h L => Q_rmC Z a1 x0 x1 x2 x3 x4 x5 x6 x7 h0 n0 v h L) pn_2 ?_
  intro p e s m below meth c s₁ G X0 hx hZ hby hml hown hnm hrt e0 hG hF
  have hown : s.vm.findClass "com/example/opledger/opledger/Checkpoint" = some m.cls := hown
  have hnm : meth.name = "<init>" := hnm
  have N0 := Fr.nil n0
  rw [ef_rmC m a1 x0 x1 x2 x3 x4 x5 x6 x7]
  show G (s₁.setTop (mkF m 0 #[.val (.ref a1), .val (.long x0), .second, .val (.int x1), .val (.long x2), .second, .val (.long x3), .second, .val (.long x4), .second, .val (.long x5), .second, .val (.long x6), .second, .val (.long x7), .second] []))
  refine hG _ (s₁.setTop (mkF m 1 #[.val (.ref a1), .val (.long x0), .second, .val (.int x1), .val (.long x2), .second, .val (.long x3), .second, .val (.long x4), .second, .val (.long x5), .second, .val (.long x6), .second, .val (.long x7), .second] [(.ref a1)])) (fun t₀ k₀ => ?_) ?_
  · show Steps p.tables e below (s₁.setTop (mkF m 0 #[.val (.ref a1), .val (.long x0), .second, .val (.int x1), .val (.long x2), .second, .val (.long x3), .second, .val (.long x4), .second, .val (.long x5), .second, .val (.long x6), .second, .val (.long x7), .second] [])) t₀
    refine XS.aloadN X0.here hx rfl (hb hby d2_0) rfl rfl ?_
    exact k₀
  obtain ⟨_, _, ⟨T1, L1, k1, n1⟩, -, X1, ⟨Lc1, hQ1, l1, y1, z1⟩, st1⟩ := X0.specialBack hx (y := (⟨"java/lang/Record", "<init>", "()V"⟩ : MethodName)) rfl hown (mvT hZ (hw _ (List.mem_of_getElem? (i := 10) rfl))) (mvT hZ (hw _ (List.mem_of_getElem? (i := 11) rfl))) (mvT hZ (hw _ (List.mem_of_getElem? (i := 14) rfl))) (by decide) (backOf (W := 0) (rm3 l Z a0 hw [] a1 h0 n0 Z0) hZ (hw _ (List.mem_of_getElem? (i := 14) rfl)) (hw _ (List.mem_of_getElem? (i := 13) rfl)) (by decide) (by decide)) (g := (mkF m 1 #[.val (.ref a1), .val (.long x0), .second, .val (.int x1), .val (.long x2), .second, .val (.long x3), .second, .val (.long x4), .second, .val (.long x5), .second, .val (.long x6), .second, .val (.long x7), .second] [(.ref a1)])) rfl (by rw [hml]; rfl) (Steps.refl _) (a := a1) (argsL := []) (rest := []) (lenOf pd_2 rfl) rfl (by show 2 * 0 + _ ≤ _; exact Nat.le_of_eq rfl) (hb hby d2_1) (fun _ _ => ⟨rfl, e0, (by decide : 0 + 0 ≤ _), (by decide : 0 + 0 ≤ _)⟩)
  dsimp only [Pt.U, Pt.locs, Pt.cells, Pt.slots] at X1 l1 y1 z1 st1 hQ1
  subst l1 y1 z1
  obtain ⟨rfl, N1q, e1⟩ := hQ1
  have N1 := Fr.app N0 N1q
  refine hG _ _ (fun t₀ k₀ => st1.trans k₀) ?_
  show G (T1.setTop (mkF m 4 #[.val (.ref a1), .val (.long x0), .second, .val (.int x1), .val (.long x2), .second, .val (.long x3), .second, .val (.long x4), .second, .val (.long x5), .second, .val (.long x6), .second, .val (.long x7), .second] []))
  refine hG _ (T1.setTop (mkF m 6 #[.val (.ref a1), .val (.long x0), .second, .val (.int x1), .val (.long x2), .second, .val (.long x3), .second, .val (.long x4), .second, .val (.long x5), .second, .val (.long x6), .second, .val (.long x7), .second] [(.long x0), (.ref a1)])) (fun t₀ k₀ => ?_) ?_
  · show Steps p.tables e below (T1.setTop (mkF m 4 #[.val (.ref a1), .val (.long x0), .second, .val (.int x1), .val (.long x2), .second, .val (.long x3), .second, .val (.long x4), .second, .val (.long x5), .second, .val (.long x6), .second, .val (.long x7), .second] [])) t₀
    refine XS.aloadN X1.here hx rfl (hb hby d2_4) rfl rfl ?_
    show Steps p.tables e below (T1.setTop (mkF m 5 #[.val (.ref a1), .val (.long x0), .second, .val (.int x1), .val (.long x2), .second, .val (.long x3), .second, .val (.long x4), .second, .val (.long x5), .second, .val (.long x6), .second, .val (.long x7), .second] [(.ref a1)])) t₀
    refine XS.lloadN X1.here hx rfl (hb hby d2_5) rfl ?_
    exact k₀
  obtain ⟨T2, h2, X2, e2, W2, st2⟩ := putF X1 hx hZ hown (host := "") (Or.inl (hw _ (List.mem_of_getElem? (i := 18) rfl))) Via.refl e1 F_offset E1 (Or.inr ⟨(hw _ (List.mem_of_getElem? (i := 19) rfl)), rfl, hnm⟩) (hw _ (List.mem_of_getElem? (i := 5) rfl)) (ty := .long) (by decide) rfl rfl (g := (mkF m 6 #[.val (.ref a1), .val (.long x0), .second, .val (.int x1), .val (.long x2), .second, .val (.long x3), .second, .val (.long x4), .second, .val (.long x5), .second, .val (.long x6), .second, .val (.long x7), .second] [(.long x0), (.ref a1)])) rfl rfl (hb hby d2_6)
  refine hG _ _ (fun t₀ k₀ => st2 _ k₀) ?_
  have N2 := Fr.snoc X2 N1 g1
  have ea1_x2 := E1.wr W2
  have fa1_numOps_x2 := F_numOps.other W2 (Or.inr (slot_ne (Or.inr (hw _ (List.mem_of_getElem? (i := 21) rfl))) (Or.inr (hw _ (List.mem_of_getElem? (i := 19) rfl))) (by decide) (t := .int) (t' := .long) (by decide) (by decide)))
  have fa1_generation_x2 := F_generation.other W2 (Or.inr (slot_ne (Or.inr (hw _ (List.mem_of_getElem? (i := 23) rfl))) (Or.inr (hw _ (List.mem_of_getElem? (i := 19) rfl))) (by decide) (t := .long) (t' := .long) (by decide) (by decide)))
  have fa1_minSeqNo_x2 := F_minSeqNo.other W2 (Or.inr (slot_ne (Or.inr (hw _ (List.mem_of_getElem? (i := 25) rfl))) (Or.inr (hw _ (List.mem_of_getElem? (i := 19) rfl))) (by decide) (t := .long) (t' := .long) (by decide) (by decide)))
  have fa1_maxSeqNo_x2 := F_maxSeqNo.other W2 (Or.inr (slot_ne (Or.inr (hw _ (List.mem_of_getElem? (i := 27) rfl))) (Or.inr (hw _ (List.mem_of_getElem? (i := 19) rfl))) (by decide) (t := .long) (t' := .long) (by decide) (by decide)))
  have fa1_globalCheckpoint_x2 := F_globalCheckpoint.other W2 (Or.inr (slot_ne (Or.inr (hw _ (List.mem_of_getElem? (i := 29) rfl))) (Or.inr (hw _ (List.mem_of_getElem? (i := 19) rfl))) (by decide) (t := .long) (t' := .long) (by decide) (by decide)))
  have fa1_minGeneration_x2 := F_minGeneration.other W2 (Or.inr (slot_ne (Or.inr (hw _ (List.mem_of_getElem? (i := 31) rfl))) (Or.inr (hw _ (List.mem_of_getElem? (i := 19) rfl))) (by decide) (t := .long) (t' := .long) (by decide) (by decide)))
  have fa1_trimmedAboveSeqNo_x2 := F_trimmedAboveSeqNo.other W2 (Or.inr (slot_ne (Or.inr (hw _ (List.mem_of_getElem? (i := 33) rfl))) (Or.inr (hw _ (List.mem_of_getElem? (i := 19) rfl))) (by decide) (t := .long) (t' := .long) (by decide) (by decide)))
  have k_x2 := (Keep.refl h0 [a1]).wr W2 (Or.inl (List.mem_of_getElem? (i := 0) rfl))
  have z_2 : n0 ≤ h2.size := Nat.le_trans Z0 (Keep.of_wr W2).1
  have F2_offset := F_offset.same W2
  show G (T2.setTop (mkF m 9 #[.val (.ref a1), .val (.long x0), .second, .val (.int x1), .val (.long x2), .second, .val (.long x3), .second, .val (.long x4), .second, .val (.long x5), .second, .val (.long x6), .second, .val (.long x7), .second] []))
  refine hG _ (T2.setTop (mkF m 11 #[.val (.ref a1), .val (.long x0), .second, .val (.int x1), .val (.long x2), .second, .val (.long x3), .second, .val (.long x4), .second, .val (.long x5), .second, .val (.long x6), .second, .val (.long x7), .second] [(.int x1), (.ref a1)])) (fun t₀ k₀ => ?_) ?_
  · show Steps p.tables e below (T2.setTop (mkF m 9 #[.val (.ref a1), .val (.long x0), .second, .val (.int x1), .val (.long x2), .second, .val (.long x3), .second, .val (.long x4), .second, .val (.long x5), .second, .val (.long x6), .second, .val (.long x7), .second] [])) t₀
    refine XS.aloadN X2.here hx rfl (hb hby d2_9) rfl rfl ?_
    show Steps p.tables e below (T2.setTop (mkF m 10 #[.val (.ref a1), .val (.long x0), .second, .val (.int x1), .val (.long x2), .second, .val (.long x3), .second, .val (.long x4), .second, .val (.long x5), .second, .val (.long x6), .second, .val (.long x7), .second] [(.ref a1)])) t₀
    refine XS.iloadN X2.here hx rfl (hb hby d2_10) rfl ?_
    exact k₀
  obtain ⟨T3, h3, X3, e3, W3, st3⟩ := putF X2 hx hZ hown (host := "") (Or.inl (hw _ (List.mem_of_getElem? (i := 20) rfl))) Via.refl e2 fa1_numOps_x2 ea1_x2 (Or.inr ⟨(hw _ (List.mem_of_getElem? (i := 21) rfl)), rfl, hnm⟩) (hw _ (List.mem_of_getElem? (i := 5) rfl)) (ty := .int) (by decide) rfl rfl (g := (mkF m 11 #[.val (.ref a1), .val (.long x0), .second, .val (.int x1), .val (.long x2), .second, .val (.long x3), .second, .val (.long x4), .second, .val (.long x5), .second, .val (.long x6), .second, .val (.long x7), .second] [(.int x1), (.ref a1)])) rfl rfl (hb hby d2_11)
  refine hG _ _ (fun t₀ k₀ => st3 _ k₀) ?_
  have N3 := Fr.snoc X3 N2 g1
  have ea1_x3 := ea1_x2.wr W3
  have fa1_offset_x3 := F2_offset.other W3 (Or.inr (slot_ne (Or.inr (hw _ (List.mem_of_getElem? (i := 19) rfl))) (Or.inr (hw _ (List.mem_of_getElem? (i := 21) rfl))) (by decide) (t := .long) (t' := .int) (by decide) (by decide)))
  have fa1_generation_x3 := fa1_generation_x2.other W3 (Or.inr (slot_ne (Or.inr (hw _ (List.mem_of_getElem? (i := 23) rfl))) (Or.inr (hw _ (List.mem_of_getElem? (i := 21) rfl))) (by decide) (t := .long) (t' := .int) (by decide) (by decide)))
  have fa1_minSeqNo_x3 := fa1_minSeqNo_x2.other W3 (Or.inr (slot_ne (Or.inr (hw _ (List.mem_of_getElem? (i := 25) rfl))) (Or.inr (hw _ (List.mem_of_getElem? (i := 21) rfl))) (by decide) (t := .long) (t' := .int) (by decide) (by decide)))
  have fa1_maxSeqNo_x3 := fa1_maxSeqNo_x2.other W3 (Or.inr (slot_ne (Or.inr (hw _ (List.mem_of_getElem? (i := 27) rfl))) (Or.inr (hw _ (List.mem_of_getElem? (i := 21) rfl))) (by decide) (t := .long) (t' := .int) (by decide) (by decide)))
  have fa1_globalCheckpoint_x3 := fa1_globalCheckpoint_x2.other W3 (Or.inr (slot_ne (Or.inr (hw _ (List.mem_of_getElem? (i := 29) rfl))) (Or.inr (hw _ (List.mem_of_getElem? (i := 21) rfl))) (by decide) (t := .long) (t' := .int) (by decide) (by decide)))
  have fa1_minGeneration_x3 := fa1_minGeneration_x2.other W3 (Or.inr (slot_ne (Or.inr (hw _ (List.mem_of_getElem? (i := 31) rfl))) (Or.inr (hw _ (List.mem_of_getElem? (i := 21) rfl))) (by decide) (t := .long) (t' := .int) (by decide) (by decide)))
  have fa1_trimmedAboveSeqNo_x3 := fa1_trimmedAboveSeqNo_x2.other W3 (Or.inr (slot_ne (Or.inr (hw _ (List.mem_of_getElem? (i := 33) rfl))) (Or.inr (hw _ (List.mem_of_getElem? (i := 21) rfl))) (by decide) (t := .long) (t' := .int) (by decide) (by decide)))
  have k_x3 := k_x2.wr W3 (Or.inl (List.mem_of_getElem? (i := 0) rfl))
  have z_3 : n0 ≤ h3.size := Nat.le_trans z_2 (Keep.of_wr W3).1
  have F3_numOps := fa1_numOps_x2.same W3
  show G (T3.setTop (mkF m 14 #[.val (.ref a1), .val (.long x0), .second, .val (.int x1), .val (.long x2), .second, .val (.long x3), .second, .val (.long x4), .second, .val (.long x5), .second, .val (.long x6), .second, .val (.long x7), .second] []))
  refine hG _ (T3.setTop (mkF m 17 #[.val (.ref a1), .val (.long x0), .second, .val (.int x1), .val (.long x2), .second, .val (.long x3), .second, .val (.long x4), .second, .val (.long x5), .second, .val (.long x6), .second, .val (.long x7), .second] [(.long x2), (.ref a1)])) (fun t₀ k₀ => ?_) ?_
  · show Steps p.tables e below (T3.setTop (mkF m 14 #[.val (.ref a1), .val (.long x0), .second, .val (.int x1), .val (.long x2), .second, .val (.long x3), .second, .val (.long x4), .second, .val (.long x5), .second, .val (.long x6), .second, .val (.long x7), .second] [])) t₀
    refine XS.aloadN X3.here hx rfl (hb hby d2_14) rfl rfl ?_
    show Steps p.tables e below (T3.setTop (mkF m 15 #[.val (.ref a1), .val (.long x0), .second, .val (.int x1), .val (.long x2), .second, .val (.long x3), .second, .val (.long x4), .second, .val (.long x5), .second, .val (.long x6), .second, .val (.long x7), .second] [(.ref a1)])) t₀
    refine XS.lload X3.here hx rfl (hb hby d2_15) rfl ?_
    exact k₀
  obtain ⟨T4, h4, X4, e4, W4, st4⟩ := putF X3 hx hZ hown (host := "") (Or.inl (hw _ (List.mem_of_getElem? (i := 22) rfl))) Via.refl e3 fa1_generation_x3 ea1_x3 (Or.inr ⟨(hw _ (List.mem_of_getElem? (i := 23) rfl)), rfl, hnm⟩) (hw _ (List.mem_of_getElem? (i := 5) rfl)) (ty := .long) (by decide) rfl rfl (g := (mkF m 17 #[.val (.ref a1), .val (.long x0), .second, .val (.int x1), .val (.long x2), .second, .val (.long x3), .second, .val (.long x4), .second, .val (.long x5), .second, .val (.long x6), .second, .val (.long x7), .second] [(.long x2), (.ref a1)])) rfl rfl (hb hby d2_17)
  refine hG _ _ (fun t₀ k₀ => st4 _ k₀) ?_
  have N4 := Fr.snoc X4 N3 g1
  have ea1_x4 := ea1_x3.wr W4
  have fa1_offset_x4 := fa1_offset_x3.other W4 (Or.inr (slot_ne (Or.inr (hw _ (List.mem_of_getElem? (i := 19) rfl))) (Or.inr (hw _ (List.mem_of_getElem? (i := 23) rfl))) (by decide) (t := .long) (t' := .long) (by decide) (by decide)))
  have fa1_numOps_x4 := F3_numOps.other W4 (Or.inr (slot_ne (Or.inr (hw _ (List.mem_of_getElem? (i := 21) rfl))) (Or.inr (hw _ (List.mem_of_getElem? (i := 23) rfl))) (by decide) (t := .int) (t' := .long) (by decide) (by decide)))
  have fa1_minSeqNo_x4 := fa1_minSeqNo_x3.other W4 (Or.inr (slot_ne (Or.inr (hw _ (List.mem_of_getElem? (i := 25) rfl))) (Or.inr (hw _ (List.mem_of_getElem? (i := 23) rfl))) (by decide) (t := .long) (t' := .long) (by decide) (by decide)))
  have fa1_maxSeqNo_x4 := fa1_maxSeqNo_x3.other W4 (Or.inr (slot_ne (Or.inr (hw _ (List.mem_of_getElem? (i := 27) rfl))) (Or.inr (hw _ (List.mem_of_getElem? (i := 23) rfl))) (by decide) (t := .long) (t' := .long) (by decide) (by decide)))
  have fa1_globalCheckpoint_x4 := fa1_globalCheckpoint_x3.other W4 (Or.inr (slot_ne (Or.inr (hw _ (List.mem_of_getElem? (i := 29) rfl))) (Or.inr (hw _ (List.mem_of_getElem? (i := 23) rfl))) (by decide) (t := .long) (t' := .long) (by decide) (by decide)))
  have fa1_minGeneration_x4 := fa1_minGeneration_x3.other W4 (Or.inr (slot_ne (Or.inr (hw _ (List.mem_of_getElem? (i := 31) rfl))) (Or.inr (hw _ (List.mem_of_getElem? (i := 23) rfl))) (by decide) (t := .long) (t' := .long) (by decide) (by decide)))
  have fa1_trimmedAboveSeqNo_x4 := fa1_trimmedAboveSeqNo_x3.other W4 (Or.inr (slot_ne (Or.inr (hw _ (List.mem_of_getElem? (i := 33) rfl))) (Or.inr (hw _ (List.mem_of_getElem? (i := 23) rfl))) (by decide) (t := .long) (t' := .long) (by decide) (by decide)))
  have k_x4 := k_x3.wr W4 (Or.inl (List.mem_of_getElem? (i := 0) rfl))
  have z_4 : n0 ≤ h4.size := Nat.le_trans z_3 (Keep.of_wr W4).1
  have F4_generation := fa1_generation_x3.same W4
  show G (T4.setTop (mkF m 20 #[.val (.ref a1), .val (.long x0), .second, .val (.int x1), .val (.long x2), .second, .val (.long x3), .second, .val (.long x4), .second, .val (.long x5), .second, .val (.long x6), .second, .val (.long x7), .second] []))
  refine hG _ (T4.setTop (mkF m 23 #[.val (.ref a1), .val (.long x0), .second, .val (.int x1), .val (.long x2), .second, .val (.long x3), .second, .val (.long x4), .second, .val (.long x5), .second, .val (.long x6), .second, .val (.long x7), .second] [(.long x3), (.ref a1)])) (fun t₀ k₀ => ?_) ?_
  · show Steps p.tables e below (T4.setTop (mkF m 20 #[.val (.ref a1), .val (.long x0), .second, .val (.int x1), .val (.long x2), .second, .val (.long x3), .second, .val (.long x4), .second, .val (.long x5), .second, .val (.long x6), .second, .val (.long x7), .second] [])) t₀
    refine XS.aloadN X4.here hx rfl (hb hby d2_20) rfl rfl ?_
    show Steps p.tables e below (T4.setTop (mkF m 21 #[.val (.ref a1), .val (.long x0), .second, .val (.int x1), .val (.long x2), .second, .val (.long x3), .second, .val (.long x4), .second, .val (.long x5), .second, .val (.long x6), .second, .val (.long x7), .second] [(.ref a1)])) t₀
    refine XS.lload X4.here hx rfl (hb hby d2_21) rfl ?_
    exact k₀
  obtain ⟨T5, h5, X5, e5, W5, st5⟩ := putF X4 hx hZ hown (host := "") (Or.inl (hw _ (List.mem_of_getElem? (i := 24) rfl))) Via.refl e4 fa1_minSeqNo_x4 ea1_x4 (Or.inr ⟨(hw _ (List.mem_of_getElem? (i := 25) rfl)), rfl, hnm⟩) (hw _ (List.mem_of_getElem? (i := 5) rfl)) (ty := .long) (by decide) rfl rfl (g := (mkF m 23 #[.val (.ref a1), .val (.long x0), .second, .val (.int x1), .val (.long x2), .second, .val (.long x3), .second, .val (.long x4), .second, .val (.long x5), .second, .val (.long x6), .second, .val (.long x7), .second] [(.long x3), (.ref a1)])) rfl rfl (hb hby d2_23)
  refine hG _ _ (fun t₀ k₀ => st5 _ k₀) ?_
  have N5 := Fr.snoc X5 N4 g1
  have ea1_x5 := ea1_x4.wr W5
  have fa1_offset_x5 := fa1_offset_x4.other W5 (Or.inr (slot_ne (Or.inr (hw _ (List.mem_of_getElem? (i := 19) rfl))) (Or.inr (hw _ (List.mem_of_getElem? (i := 25) rfl))) (by decide) (t := .long) (t' := .long) (by decide) (by decide)))
  have fa1_numOps_x5 := fa1_numOps_x4.other W5 (Or.inr (slot_ne (Or.inr (hw _ (List.mem_of_getElem? (i := 21) rfl))) (Or.inr (hw _ (List.mem_of_getElem? (i := 25) rfl))) (by decide) (t := .int) (t' := .long) (by decide) (by decide)))
  have fa1_generation_x5 := F4_generation.other W5 (Or.inr (slot_ne (Or.inr (hw _ (List.mem_of_getElem? (i := 23) rfl))) (Or.inr (hw _ (List.mem_of_getElem? (i := 25) rfl))) (by decide) (t := .long) (t' := .long) (by decide) (by decide)))
  have fa1_maxSeqNo_x5 := fa1_maxSeqNo_x4.other W5 (Or.inr (slot_ne (Or.inr (hw _ (List.mem_of_getElem? (i := 27) rfl))) (Or.inr (hw _ (List.mem_of_getElem? (i := 25) rfl))) (by decide) (t := .long) (t' := .long) (by decide) (by decide)))
  have fa1_globalCheckpoint_x5 := fa1_globalCheckpoint_x4.other W5 (Or.inr (slot_ne (Or.inr (hw _ (List.mem_of_getElem? (i := 29) rfl))) (Or.inr (hw _ (List.mem_of_getElem? (i := 25) rfl))) (by decide) (t := .long) (t' := .long) (by decide) (by decide)))
  have fa1_minGeneration_x5 := fa1_minGeneration_x4.other W5 (Or.inr (slot_ne (Or.inr (hw _ (List.mem_of_getElem? (i := 31) rfl))) (Or.inr (hw _ (List.mem_of_getElem? (i := 25) rfl))) (by decide) (t := .long) (t' := .long) (by decide) (by decide)))
  have fa1_trimmedAboveSeqNo_x5 := fa1_trimmedAboveSeqNo_x4.other W5 (Or.inr (slot_ne (Or.inr (hw _ (List.mem_of_getElem? (i := 33) rfl))) (Or.inr (hw _ (List.mem_of_getElem? (i := 25) rfl))) (by decide) (t := .long) (t' := .long) (by decide) (by decide)))
  have k_x5 := k_x4.wr W5 (Or.inl (List.mem_of_getElem? (i := 0) rfl))
  have z_5 : n0 ≤ h5.size := Nat.le_trans z_4 (Keep.of_wr W5).1
  have F5_minSeqNo := fa1_minSeqNo_x4.same W5
  show G (T5.setTop (mkF m 26 #[.val (.ref a1), .val (.long x0), .second, .val (.int x1), .val (.long x2), .second, .val (.long x3), .second, .val (.long x4), .second, .val (.long x5), .second, .val (.long x6), .second, .val (.long x7), .second] []))
  refine hG _ (T5.setTop (mkF m 29 #[.val (.ref a1), .val (.long x0), .second, .val (.int x1), .val (.long x2), .second, .val (.long x3), .second, .val (.long x4), .second, .val (.long x5), .second, .val (.long x6), .second, .val (.long x7), .second] [(.long x4), (.ref a1)])) (fun t₀ k₀ => ?_) ?_
  · show Steps p.tables e below (T5.setTop (mkF m 26 #[.val (.ref a1), .val (.long x0), .second, .val (.int x1), .val (.long x2), .second, .val (.long x3), .second, .val (.long x4), .second, .val (.long x5), .second, .val (.long x6), .second, .val (.long x7), .second] [])) t₀
    refine XS.aloadN X5.here hx rfl (hb hby d2_26) rfl rfl ?_
    show Steps p.tables e below (T5.setTop (mkF m 27 #[.val (.ref a1), .val (.long x0), .second, .val (.int x1), .val (.long x2), .second, .val (.long x3), .second, .val (.long x4), .second, .val (.long x5), .second, .val (.long x6), .second, .val (.long x7), .second] [(.ref a1)])) t₀
    refine XS.lload X5.here hx rfl (hb hby d2_27) rfl ?_
    exact k₀
  obtain ⟨T6, h6, X6, e6, W6, st6⟩ := putF X5 hx hZ hown (host := "") (Or.inl (hw _ (List.mem_of_getElem? (i := 26) rfl))) Via.refl e5 fa1_maxSeqNo_x5 ea1_x5 (Or.inr ⟨(hw _ (List.mem_of_getElem? (i := 27) rfl)), rfl, hnm⟩) (hw _ (List.mem_of_getElem? (i := 5) rfl)) (ty := .long) (by decide) rfl rfl (g := (mkF m 29 #[.val (.ref a1), .val (.long x0), .second, .val (.int x1), .val (.long x2), .second, .val (.long x3), .second, .val (.long x4), .second, .val (.long x5), .second, .val (.long x6), .second, .val (.long x7), .second] [(.long x4), (.ref a1)])) rfl rfl (hb hby d2_29)
  refine hG _ _ (fun t₀ k₀ => st6 _ k₀) ?_
  have N6 := Fr.snoc X6 N5 g1
  have ea1_x6 := ea1_x5.wr W6
  have fa1_offset_x6 := fa1_offset_x5.other W6 (Or.inr (slot_ne (Or.inr (hw _ (List.mem_of_getElem? (i := 19) rfl))) (Or.inr (hw _ (List.mem_of_getElem? (i := 27) rfl))) (by decide) (t := .long) (t' := .long) (by decide) (by decide)))
  have fa1_numOps_x6 := fa1_numOps_x5.other W6 (Or.inr (slot_ne (Or.inr (hw _ (List.mem_of_getElem? (i := 21) rfl))) (Or.inr (hw _ (List.mem_of_getElem? (i := 27) rfl))) (by decide) (t := .int) (t' := .long) (by decide) (by decide)))
  have fa1_generation_x6 := fa1_generation_x5.other W6 (Or.inr (slot_ne (Or.inr (hw _ (List.mem_of_getElem? (i := 23) rfl))) (Or.inr (hw _ (List.mem_of_getElem? (i := 27) rfl))) (by decide) (t := .long) (t' := .long) (by decide) (by decide)))
  have fa1_minSeqNo_x6 := F5_minSeqNo.other W6 (Or.inr (slot_ne (Or.inr (hw _ (List.mem_of_getElem? (i := 25) rfl))) (Or.inr (hw _ (List.mem_of_getElem? (i := 27) rfl))) (by decide) (t := .long) (t' := .long) (by decide) (by decide)))
  have fa1_globalCheckpoint_x6 := fa1_globalCheckpoint_x5.other W6 (Or.inr (slot_ne (Or.inr (hw _ (List.mem_of_getElem? (i := 29) rfl))) (Or.inr (hw _ (List.mem_of_getElem? (i := 27) rfl))) (by decide) (t := .long) (t' := .long) (by decide) (by decide)))
  have fa1_minGeneration_x6 := fa1_minGeneration_x5.other W6 (Or.inr (slot_ne (Or.inr (hw _ (List.mem_of_getElem? (i := 31) rfl))) (Or.inr (hw _ (List.mem_of_getElem? (i := 27) rfl))) (by decide) (t := .long) (t' := .long) (by decide) (by decide)))
  have fa1_trimmedAboveSeqNo_x6 := fa1_trimmedAboveSeqNo_x5.other W6 (Or.inr (slot_ne (Or.inr (hw _ (List.mem_of_getElem? (i := 33) rfl))) (Or.inr (hw _ (List.mem_of_getElem? (i := 27) rfl))) (by decide) (t := .long) (t' := .long) (by decide) (by decide)))
  have k_x6 := k_x5.wr W6 (Or.inl (List.mem_of_getElem? (i := 0) rfl))
  have z_6 : n0 ≤ h6.size := Nat.le_trans z_5 (Keep.of_wr W6).1
  have F6_maxSeqNo := fa1_maxSeqNo_x5.same W6
  show G (T6.setTop (mkF m 32 #[.val (.ref a1), .val (.long x0), .second, .val (.int x1), .val (.long x2), .second, .val (.long x3), .second, .val (.long x4), .second, .val (.long x5), .second, .val (.long x6), .second, .val (.long x7), .second] []))
  refine hG _ (T6.setTop (mkF m 35 #[.val (.ref a1), .val (.long x0), .second, .val (.int x1), .val (.long x2), .second, .val (.long x3), .second, .val (.long x4), .second, .val (.long x5), .second, .val (.long x6), .second, .val (.long x7), .second] [(.long x5), (.ref a1)])) (fun t₀ k₀ => ?_) ?_
  · show Steps p.tables e below (T6.setTop (mkF m 32 #[.val (.ref a1), .val (.long x0), .second, .val (.int x1), .val (.long x2), .second, .val (.long x3), .second, .val (.long x4), .second, .val (.long x5), .second, .val (.long x6), .second, .val (.long x7), .second] [])) t₀
    refine XS.aloadN X6.here hx rfl (hb hby d2_32) rfl rfl ?_
    show Steps p.tables e below (T6.setTop (mkF m 33 #[.val (.ref a1), .val (.long x0), .second, .val (.int x1), .val (.long x2), .second, .val (.long x3), .second, .val (.long x4), .second, .val (.long x5), .second, .val (.long x6), .second, .val (.long x7), .second] [(.ref a1)])) t₀
    refine XS.lload X6.here hx rfl (hb hby d2_33) rfl ?_
    exact k₀
  obtain ⟨T7, h7, X7, e7, W7, st7⟩ := putF X6 hx hZ hown (host := "") (Or.inl (hw _ (List.mem_of_getElem? (i := 28) rfl))) Via.refl e6 fa1_globalCheckpoint_x6 ea1_x6 (Or.inr ⟨(hw _ (List.mem_of_getElem? (i := 29) rfl)), rfl, hnm⟩) (hw _ (List.mem_of_getElem? (i := 5) rfl)) (ty := .long) (by decide) rfl rfl (g := (mkF m 35 #[.val (.ref a1), .val (.long x0), .second, .val (.int x1), .val (.long x2), .second, .val (.long x3), .second, .val (.long x4), .second, .val (.long x5), .second, .val (.long x6), .second, .val (.long x7), .second] [(.long x5), (.ref a1)])) rfl rfl (hb hby d2_35)
  refine hG _ _ (fun t₀ k₀ => st7 _ k₀) ?_
  have N7 := Fr.snoc X7 N6 g1
  have ea1_x7 := ea1_x6.wr W7
  have fa1_offset_x7 := fa1_offset_x6.other W7 (Or.inr (slot_ne (Or.inr (hw _ (List.mem_of_getElem? (i := 19) rfl))) (Or.inr (hw _ (List.mem_of_getElem? (i := 29) rfl))) (by decide) (t := .long) (t' := .long) (by decide) (by decide)))
  have fa1_numOps_x7 := fa1_numOps_x6.other W7 (Or.inr (slot_ne (Or.inr (hw _ (List.mem_of_getElem? (i := 21) rfl))) (Or.inr (hw _ (List.mem_of_getElem? (i := 29) rfl))) (by decide) (t := .int) (t' := .long) (by decide) (by decide)))
  have fa1_generation_x7 := fa1_generation_x6.other W7 (Or.inr (slot_ne (Or.inr (hw _ (List.mem_of_getElem? (i := 23) rfl))) (Or.inr (hw _ (List.mem_of_getElem? (i := 29) rfl))) (by decide) (t := .long) (t' := .long) (by decide) (by decide)))
  have fa1_minSeqNo_x7 := fa1_minSeqNo_x6.other W7 (Or.inr (slot_ne (Or.inr (hw _ (List.mem_of_getElem? (i := 25) rfl))) (Or.inr (hw _ (List.mem_of_getElem? (i := 29) rfl))) (by decide) (t := .long) (t' := .long) (by decide) (by decide)))
  have fa1_maxSeqNo_x7 := F6_maxSeqNo.other W7 (Or.inr (slot_ne (Or.inr (hw _ (List.mem_of_getElem? (i := 27) rfl))) (Or.inr (hw _ (List.mem_of_getElem? (i := 29) rfl))) (by decide) (t := .long) (t' := .long) (by decide) (by decide)))
  have fa1_minGeneration_x7 := fa1_minGeneration_x6.other W7 (Or.inr (slot_ne (Or.inr (hw _ (List.mem_of_getElem? (i := 31) rfl))) (Or.inr (hw _ (List.mem_of_getElem? (i := 29) rfl))) (by decide) (t := .long) (t' := .long) (by decide) (by decide)))
  have fa1_trimmedAboveSeqNo_x7 := fa1_trimmedAboveSeqNo_x6.other W7 (Or.inr (slot_ne (Or.inr (hw _ (List.mem_of_getElem? (i := 33) rfl))) (Or.inr (hw _ (List.mem_of_getElem? (i := 29) rfl))) (by decide) (t := .long) (t' := .long) (by decide) (by decide)))
  have k_x7 := k_x6.wr W7 (Or.inl (List.mem_of_getElem? (i := 0) rfl))
  have z_7 : n0 ≤ h7.size := Nat.le_trans z_6 (Keep.of_wr W7).1
  have F7_globalCheckpoint := fa1_globalCheckpoint_x6.same W7
  show G (T7.setTop (mkF m 38 #[.val (.ref a1), .val (.long x0), .second, .val (.int x1), .val (.long x2), .second, .val (.long x3), .second, .val (.long x4), .second, .val (.long x5), .second, .val (.long x6), .second, .val (.long x7), .second] []))
  refine hG _ (T7.setTop (mkF m 41 #[.val (.ref a1), .val (.long x0), .second, .val (.int x1), .val (.long x2), .second, .val (.long x3), .second, .val (.long x4), .second, .val (.long x5), .second, .val (.long x6), .second, .val (.long x7), .second] [(.long x6), (.ref a1)])) (fun t₀ k₀ => ?_) ?_
  · show Steps p.tables e below (T7.setTop (mkF m 38 #[.val (.ref a1), .val (.long x0), .second, .val (.int x1), .val (.long x2), .second, .val (.long x3), .second, .val (.long x4), .second, .val (.long x5), .second, .val (.long x6), .second, .val (.long x7), .second] [])) t₀
    refine XS.aloadN X7.here hx rfl (hb hby d2_38) rfl rfl ?_
    show Steps p.tables e below (T7.setTop (mkF m 39 #[.val (.ref a1), .val (.long x0), .second, .val (.int x1), .val (.long x2), .second, .val (.long x3), .second, .val (.long x4), .second, .val (.long x5), .second, .val (.long x6), .second, .val (.long x7), .second] [(.ref a1)])) t₀
    refine XS.lload X7.here hx rfl (hb hby d2_39) rfl ?_
    exact k₀
  obtain ⟨T8, h8, X8, e8, W8, st8⟩ := putF X7 hx hZ hown (host := "") (Or.inl (hw _ (List.mem_of_getElem? (i := 30) rfl))) Via.refl e7 fa1_minGeneration_x7 ea1_x7 (Or.inr ⟨(hw _ (List.mem_of_getElem? (i := 31) rfl)), rfl, hnm⟩) (hw _ (List.mem_of_getElem? (i := 5) rfl)) (ty := .long) (by decide) rfl rfl (g := (mkF m 41 #[.val (.ref a1), .val (.long x0), .second, .val (.int x1), .val (.long x2), .second, .val (.long x3), .second, .val (.long x4), .second, .val (.long x5), .second, .val (.long x6), .second, .val (.long x7), .second] [(.long x6), (.ref a1)])) rfl rfl (hb hby d2_41)
  refine hG _ _ (fun t₀ k₀ => st8 _ k₀) ?_
  have N8 := Fr.snoc X8 N7 g1
  have ea1_x8 := ea1_x7.wr W8
  have fa1_offset_x8 := fa1_offset_x7.other W8 (Or.inr (slot_ne (Or.inr (hw _ (List.mem_of_getElem? (i := 19) rfl))) (Or.inr (hw _ (List.mem_of_getElem? (i := 31) rfl))) (by decide) (t := .long) (t' := .long) (by decide) (by decide)))
  have fa1_numOps_x8 := fa1_numOps_x7.other W8 (Or.inr (slot_ne (Or.inr (hw _ (List.mem_of_getElem? (i := 21) rfl))) (Or.inr (hw _ (List.mem_of_getElem? (i := 31) rfl))) (by decide) (t := .int) (t' := .long) (by decide) (by decide)))
  have fa1_generation_x8 := fa1_generation_x7.other W8 (Or.inr (slot_ne (Or.inr (hw _ (List.mem_of_getElem? (i := 23) rfl))) (Or.inr (hw _ (List.mem_of_getElem? (i := 31) rfl))) (by decide) (t := .long) (t' := .long) (by decide) (by decide)))
  have fa1_minSeqNo_x8 := fa1_minSeqNo_x7.other W8 (Or.inr (slot_ne (Or.inr (hw _ (List.mem_of_getElem? (i := 25) rfl))) (Or.inr (hw _ (List.mem_of_getElem? (i := 31) rfl))) (by decide) (t := .long) (t' := .long) (by decide) (by decide)))
  have fa1_maxSeqNo_x8 := fa1_maxSeqNo_x7.other W8 (Or.inr (slot_ne (Or.inr (hw _ (List.mem_of_getElem? (i := 27) rfl))) (Or.inr (hw _ (List.mem_of_getElem? (i := 31) rfl))) (by decide) (t := .long) (t' := .long) (by decide) (by decide)))
  have fa1_globalCheckpoint_x8 := F7_globalCheckpoint.other W8 (Or.inr (slot_ne (Or.inr (hw _ (List.mem_of_getElem? (i := 29) rfl))) (Or.inr (hw _ (List.mem_of_getElem? (i := 31) rfl))) (by decide) (t := .long) (t' := .long) (by decide) (by decide)))
  have fa1_trimmedAboveSeqNo_x8 := fa1_trimmedAboveSeqNo_x7.other W8 (Or.inr (slot_ne (Or.inr (hw _ (List.mem_of_getElem? (i := 33) rfl))) (Or.inr (hw _ (List.mem_of_getElem? (i := 31) rfl))) (by decide) (t := .long) (t' := .long) (by decide) (by decide)))
  have k_x8 := k_x7.wr W8 (Or.inl (List.mem_of_getElem? (i := 0) rfl))
  have z_8 : n0 ≤ h8.size := Nat.le_trans z_7 (Keep.of_wr W8).1
  have F8_minGeneration := fa1_minGeneration_x7.same W8
  show G (T8.setTop (mkF m 44 #[.val (.ref a1), .val (.long x0), .second, .val (.int x1), .val (.long x2), .second, .val (.long x3), .second, .val (.long x4), .second, .val (.long x5), .second, .val (.long x6), .second, .val (.long x7), .second] []))
  refine hG _ (T8.setTop (mkF m 47 #[.val (.ref a1), .val (.long x0), .second, .val (.int x1), .val (.long x2), .second, .val (.long x3), .second, .val (.long x4), .second, .val (.long x5), .second, .val (.long x6), .second, .val (.long x7), .second] [(.long x7), (.ref a1)])) (fun t₀ k₀ => ?_) ?_
  · show Steps p.tables e below (T8.setTop (mkF m 44 #[.val (.ref a1), .val (.long x0), .second, .val (.int x1), .val (.long x2), .second, .val (.long x3), .second, .val (.long x4), .second, .val (.long x5), .second, .val (.long x6), .second, .val (.long x7), .second] [])) t₀
    refine XS.aloadN X8.here hx rfl (hb hby d2_44) rfl rfl ?_
    show Steps p.tables e below (T8.setTop (mkF m 45 #[.val (.ref a1), .val (.long x0), .second, .val (.int x1), .val (.long x2), .second, .val (.long x3), .second, .val (.long x4), .second, .val (.long x5), .second, .val (.long x6), .second, .val (.long x7), .second] [(.ref a1)])) t₀
    refine XS.lload X8.here hx rfl (hb hby d2_45) rfl ?_
    exact k₀
  obtain ⟨T9, h9, X9, e9, W9, st9⟩ := putF X8 hx hZ hown (host := "") (Or.inl (hw _ (List.mem_of_getElem? (i := 32) rfl))) Via.refl e8 fa1_trimmedAboveSeqNo_x8 ea1_x8 (Or.inr ⟨(hw _ (List.mem_of_getElem? (i := 33) rfl)), rfl, hnm⟩) (hw _ (List.mem_of_getElem? (i := 5) rfl)) (ty := .long) (by decide) rfl rfl (g := (mkF m 47 #[.val (.ref a1), .val (.long x0), .second, .val (.int x1), .val (.long x2), .second, .val (.long x3), .second, .val (.long x4), .second, .val (.long x5), .second, .val (.long x6), .second, .val (.long x7), .second] [(.long x7), (.ref a1)])) rfl rfl (hb hby d2_47)
  refine hG _ _ (fun t₀ k₀ => st9 _ k₀) ?_
  have N9 := Fr.snoc X9 N8 g1
  have ea1_x9 := ea1_x8.wr W9
  have fa1_offset_x9 := fa1_offset_x8.other W9 (Or.inr (slot_ne (Or.inr (hw _ (List.mem_of_getElem? (i := 19) rfl))) (Or.inr (hw _ (List.mem_of_getElem? (i := 33) rfl))) (by decide) (t := .long) (t' := .long) (by decide) (by decide)))
  have fa1_numOps_x9 := fa1_numOps_x8.other W9 (Or.inr (slot_ne (Or.inr (hw _ (List.mem_of_getElem? (i := 21) rfl))) (Or.inr (hw _ (List.mem_of_getElem? (i := 33) rfl))) (by decide) (t := .int) (t' := .long) (by decide) (by decide)))
  have fa1_generation_x9 := fa1_generation_x8.other W9 (Or.inr (slot_ne (Or.inr (hw _ (List.mem_of_getElem? (i := 23) rfl))) (Or.inr (hw _ (List.mem_of_getElem? (i := 33) rfl))) (by decide) (t := .long) (t' := .long) (by decide) (by decide)))
  have fa1_minSeqNo_x9 := fa1_minSeqNo_x8.other W9 (Or.inr (slot_ne (Or.inr (hw _ (List.mem_of_getElem? (i := 25) rfl))) (Or.inr (hw _ (List.mem_of_getElem? (i := 33) rfl))) (by decide) (t := .long) (t' := .long) (by decide) (by decide)))
  have fa1_maxSeqNo_x9 := fa1_maxSeqNo_x8.other W9 (Or.inr (slot_ne (Or.inr (hw _ (List.mem_of_getElem? (i := 27) rfl))) (Or.inr (hw _ (List.mem_of_getElem? (i := 33) rfl))) (by decide) (t := .long) (t' := .long) (by decide) (by decide)))
  have fa1_globalCheckpoint_x9 := fa1_globalCheckpoint_x8.other W9 (Or.inr (slot_ne (Or.inr (hw _ (List.mem_of_getElem? (i := 29) rfl))) (Or.inr (hw _ (List.mem_of_getElem? (i := 33) rfl))) (by decide) (t := .long) (t' := .long) (by decide) (by decide)))
  have fa1_minGeneration_x9 := F8_minGeneration.other W9 (Or.inr (slot_ne (Or.inr (hw _ (List.mem_of_getElem? (i := 31) rfl))) (Or.inr (hw _ (List.mem_of_getElem? (i := 33) rfl))) (by decide) (t := .long) (t' := .long) (by decide) (by decide)))
  have k_x9 := k_x8.wr W9 (Or.inl (List.mem_of_getElem? (i := 0) rfl))
  have z_9 : n0 ≤ h9.size := Nat.le_trans z_8 (Keep.of_wr W9).1
  have F9_trimmedAboveSeqNo := fa1_trimmedAboveSeqNo_x8.same W9
  show G (T9.setTop (mkF m 50 #[.val (.ref a1), .val (.long x0), .second, .val (.int x1), .val (.long x2), .second, .val (.long x3), .second, .val (.long x4), .second, .val (.long x5), .second, .val (.long x6), .second, .val (.long x7), .second] []))
  refine hF _ T9 _ _ _ none _ X9 e9 (fun _ => rfl) (by decide) (by decide) ?_ (fun fs hr => X9.returnOut hx hrt (hb hby d2_50) hr)
  exact ⟨rfl, N9, k_x9, fa1_offset_x9, fa1_numOps_x9, fa1_generation_x9, fa1_minSeqNo_x9, fa1_maxSeqNo_x9, fa1_globalCheckpoint_x9, fa1_minGeneration_x9, F9_trimmedAboveSeqNo⟩
theorem d5_0 : decode prog_2_method_9_code 0 = .ok (.aload_n 1, 1) := by decide +kernel
theorem d5_1 : decode prog_2_method_9_code 1 = .ok (.instanceof 1, 3) := by decide +kernel
theorem d5_4 : decode prog_2_method_9_code 4 = .ok (.ifCond .eq 107, 3) := by decide +kernel
theorem d5_7 : decode prog_2_method_9_code 7 = .ok (.aload_n 1, 1) := by decide +kernel
theorem d5_8 : decode prog_2_method_9_code 8 = .ok (.checkcast 1, 3) := by decide +kernel
theorem d5_11 : decode prog_2_method_9_code 11 = .ok (.astore_n 2, 1) := by decide +kernel
theorem d5_12 : decode prog_2_method_9_code 12 = .ok (.aload_n 0, 1) := by decide +kernel
theorem d5_13 : decode prog_2_method_9_code 13 = .ok (.getfield 9, 3) := by decide +kernel
theorem d5_16 : decode prog_2_method_9_code 16 = .ok (.aload_n 2, 1) := by decide +kernel
theorem d5_17 : decode prog_2_method_9_code 17 = .ok (.getfield 9, 3) := by decide +kernel
theorem d5_20 : decode prog_2_method_9_code 20 = .ok (.lcmp, 1) := by decide +kernel
theorem d5_21 : decode prog_2_method_9_code 21 = .ok (.ifCond .ne 90, 3) := by decide +kernel
theorem d5_24 : decode prog_2_method_9_code 24 = .ok (.aload_n 0, 1) := by decide +kernel
theorem d5_25 : decode prog_2_method_9_code 25 = .ok (.getfield 13, 3) := by decide +kernel
theorem d5_28 : decode prog_2_method_9_code 28 = .ok (.aload_n 2, 1) := by decide +kernel
theorem d5_29 : decode prog_2_method_9_code 29 = .ok (.getfield 13, 3) := by decide +kernel
theorem d5_32 : decode prog_2_method_9_code 32 = .ok (.if_icmp .ne 79, 3) := by decide +kernel
theorem d5_35 : decode prog_2_method_9_code 35 = .ok (.aload_n 0, 1) := by decide +kernel
theorem d5_36 : decode prog_2_method_9_code 36 = .ok (.getfield 17, 3) := by decide +kernel
theorem d5_39 : decode prog_2_method_9_code 39 = .ok (.aload_n 2, 1) := by decide +kernel
theorem d5_40 : decode prog_2_method_9_code 40 = .ok (.getfield 17, 3) := by decide +kernel
theorem d5_43 : decode prog_2_method_9_code 43 = .ok (.lcmp, 1) := by decide +kernel
theorem d5_44 : decode prog_2_method_9_code 44 = .ok (.ifCond .ne 67, 3) := by decide +kernel
theorem d5_47 : decode prog_2_method_9_code 47 = .ok (.aload_n 0, 1) := by decide +kernel
theorem d5_48 : decode prog_2_method_9_code 48 = .ok (.getfield 20, 3) := by decide +kernel
theorem d5_51 : decode prog_2_method_9_code 51 = .ok (.aload_n 2, 1) := by decide +kernel
theorem d5_52 : decode prog_2_method_9_code 52 = .ok (.getfield 20, 3) := by decide +kernel
theorem d5_55 : decode prog_2_method_9_code 55 = .ok (.lcmp, 1) := by decide +kernel
theorem d5_56 : decode prog_2_method_9_code 56 = .ok (.ifCond .ne 55, 3) := by decide +kernel
theorem d5_59 : decode prog_2_method_9_code 59 = .ok (.aload_n 0, 1) := by decide +kernel
theorem d5_60 : decode prog_2_method_9_code 60 = .ok (.getfield 23, 3) := by decide +kernel
theorem d5_63 : decode prog_2_method_9_code 63 = .ok (.aload_n 2, 1) := by decide +kernel
theorem d5_64 : decode prog_2_method_9_code 64 = .ok (.getfield 23, 3) := by decide +kernel
theorem d5_67 : decode prog_2_method_9_code 67 = .ok (.lcmp, 1) := by decide +kernel
theorem d5_68 : decode prog_2_method_9_code 68 = .ok (.ifCond .ne 43, 3) := by decide +kernel
theorem d5_71 : decode prog_2_method_9_code 71 = .ok (.aload_n 0, 1) := by decide +kernel
theorem d5_72 : decode prog_2_method_9_code 72 = .ok (.getfield 26, 3) := by decide +kernel
theorem d5_75 : decode prog_2_method_9_code 75 = .ok (.aload_n 2, 1) := by decide +kernel
theorem d5_76 : decode prog_2_method_9_code 76 = .ok (.getfield 26, 3) := by decide +kernel
theorem d5_79 : decode prog_2_method_9_code 79 = .ok (.lcmp, 1) := by decide +kernel
theorem d5_80 : decode prog_2_method_9_code 80 = .ok (.ifCond .ne 31, 3) := by decide +kernel
theorem d5_83 : decode prog_2_method_9_code 83 = .ok (.aload_n 0, 1) := by decide +kernel
theorem d5_84 : decode prog_2_method_9_code 84 = .ok (.getfield 29, 3) := by decide +kernel
theorem d5_87 : decode prog_2_method_9_code 87 = .ok (.aload_n 2, 1) := by decide +kernel
theorem d5_88 : decode prog_2_method_9_code 88 = .ok (.getfield 29, 3) := by decide +kernel
theorem d5_91 : decode prog_2_method_9_code 91 = .ok (.lcmp, 1) := by decide +kernel
theorem d5_92 : decode prog_2_method_9_code 92 = .ok (.ifCond .ne 19, 3) := by decide +kernel
theorem d5_95 : decode prog_2_method_9_code 95 = .ok (.aload_n 0, 1) := by decide +kernel
theorem d5_96 : decode prog_2_method_9_code 96 = .ok (.getfield 32, 3) := by decide +kernel
theorem d5_99 : decode prog_2_method_9_code 99 = .ok (.aload_n 2, 1) := by decide +kernel
theorem d5_100 : decode prog_2_method_9_code 100 = .ok (.getfield 32, 3) := by decide +kernel
theorem d5_103 : decode prog_2_method_9_code 103 = .ok (.lcmp, 1) := by decide +kernel
theorem d5_104 : decode prog_2_method_9_code 104 = .ok (.ifCond .ne 7, 3) := by decide +kernel
theorem d5_107 : decode prog_2_method_9_code 107 = .ok (.iconst 1, 1) := by decide +kernel
theorem d5_108 : decode prog_2_method_9_code 108 = .ok (.goto 4, 3) := by decide +kernel
theorem d5_111 : decode prog_2_method_9_code 111 = .ok (.iconst 0, 1) := by decide +kernel
theorem d5_112 : decode prog_2_method_9_code 112 = .ok (.ireturn, 1) := by decide +kernel
theorem pn_5 : plainFor (⟨"com/example/opledger/opledger/Checkpoint", "equals", "(Ljava/lang/Object;)Z"⟩ : MethodName) = true := plainFor_of_name (by first | (simp [plainName, overriddenIn]; done) | decide +kernel)
theorem ef_rmE (m : MethodId) (x0 : Addr) (x1 : Addr) : entryFrame m #[(.ref x0), (.ref x1)] 3 = mkF m 0 #[.val (.ref x0), .val (.ref x1), .unset] [] := by first | (simp [entryFrame, mkF, argsToLocals, Value.category]; done) | rfl
def Q_rmE (Z : State) (a1 a2 : Addr) (x0 : Int64) (x1 : Int32) (x2 : Int64) (x3 : Int64) (x4 : Int64) (x5 : Int64) (x6 : Int64) (x7 : Int64) (y0 : Int64) (y1 : Int32) (y2 : Int64) (y3 : Int64) (y4 : Int64) (y5 : Int64) (y6 : Int64) (y7 : Int64) (r : Int32) (h0 : Heap) (n0 : Nat) (v : Option Value) (h : Heap) (L : List Loc) : Prop := v = some (.int r) ∧ Fr n0 L ∧ h = h0
set_option maxRecDepth 65536 in
set_option maxHeartbeats 40000000 in
theorem rmE (l : Launch) (Z : State) (a0 : Array Value) (hw : ∀ d ∈ tables_1, d.before a0 Z = true) (ws : List Jvm.Cond) (a1 a2 : Addr) (x0 : Int64) (x1 : Int32) (x2 : Int64) (x3 : Int64) (x4 : Int64) (x5 : Int64) (x6 : Int64) (x7 : Int64) (y0 : Int64) (y1 : Int32) (y2 : Int64) (y3 : Int64) (y4 : Int64) (y5 : Int64) (y6 : Int64) (y7 : Int64) (r : Int32) (h0 : Heap) (n0 : Nat) (Z0 : n0 ≤ h0.size) (E2 : Exa Z h0 a2 "com/example/opledger/opledger/Checkpoint") (G0 : Fld Z h0 a1 "com/example/opledger/opledger/Checkpoint" "offset" "J" (.long x0)) (G1 : Fld Z h0 a1 "com/example/opledger/opledger/Checkpoint" "numOps" "I" (.int x1)) (G2 : Fld Z h0 a1 "com/example/opledger/opledger/Checkpoint" "generation" "J" (.long x2)) (G3 : Fld Z h0 a1 "com/example/opledger/opledger/Checkpoint" "minSeqNo" "J" (.long x3)) (G4 : Fld Z h0 a1 "com/example/opledger/opledger/Checkpoint" "maxSeqNo" "J" (.long x4)) (G5 : Fld Z h0 a1 "com/example/opledger/opledger/Checkpoint" "globalCheckpoint" "J" (.long x5)) (G6 : Fld Z h0 a1 "com/example/opledger/opledger/Checkpoint" "minGeneration" "J" (.long x6)) (G7 : Fld Z h0 a1 "com/example/opledger/opledger/Checkpoint" "trimmedAboveSeqNo" "J" (.long x7)) (H0 : Fld Z h0 a2 "com/example/opledger/opledger/Checkpoint" "offset" "J" (.long y0)) (H1 : Fld Z h0 a2 "com/example/opledger/opledger/Checkpoint" "numOps" "I" (.int y1)) (H2 : Fld Z h0 a2 "com/example/opledger/opledger/Checkpoint" "generation" "J" (.long y2)) (H3 : Fld Z h0 a2 "com/example/opledger/opledger/Checkpoint" "minSeqNo" "J" (.long y3)) (H4 : Fld Z h0 a2 "com/example/opledger/opledger/Checkpoint" "maxSeqNo" "J" (.long y4)) (H5 : Fld Z h0 a2 "com/example/opledger/opledger/Checkpoint" "globalCheckpoint" "J" (.long y5)) (H6 : Fld Z h0 a2 "com/example/opledger/opledger/Checkpoint" "minGeneration" "J" (.long y6)) (H7 : Fld Z h0 a2 "com/example/opledger/opledger/Checkpoint" "trimmedAboveSeqNo" "J" (.long y7)) (hr : own_ceq x0 x1 x2 x3 x4 x5 x6 x7 y0 y1 y2 y3 y4 y5 y6 y7 = r) :
    MetFree l (⟨"com/example/opledger/opledger/Checkpoint", "equals", "(Ljava/lang/Object;)Z"⟩ : MethodName) (head1 (Jvm.Cond.code (⟨"com/example/opledger/opledger/Checkpoint", "equals", "(Ljava/lang/Object;)Z"⟩ : MethodName) prog_2_method_9_code 3 (some .boolean) :: ws) ({ frames := 0, cells := 0, slots := 0, locals := 0 } : Room)) (fun a U => a = #[(.ref a1), (.ref a2)] ∧ Z.Warmed39 U.vm ∧ U.heap = h0) (fun _ _ _ _ _ => True) (fun _ U o U' => ∃ v L, o = .returned v ∧ Q_rmE Z a1 a2 x0 x1 x2 x3 x4 x5 x6 x7 y0 y1 y2 y3 y4 y5 y6 y7 r h0 n0 v U'.heap L ∧ FrameEnd U o U' L ({ frames := 0, cells := 0, slots := 0, locals := 0 } : Room).cells ({ frames := 0, cells := 0, slots := 0, locals := 0 } : Room).slots) := by
  refine own_body (Q := fun v h L => Q_rmE Z a1 a2 x0 x1 x2 x3 x4 x5 x6 x7 y0 y1 y2 y3 y4 y5 y6 y7 r h0 n0 v h L) pn_5 ?_
  intro p e s m below meth c s₁ G X0 hx hZ hby hml hown hnm hrt e0 hG hF
  have hown : s.vm.findClass "com/example/opledger/opledger/Checkpoint" = some m.cls := hown
  have N0 := Fr.nil n0
  rw [ef_rmE m a1 a2]
  show G (s₁.setTop (mkF m 0 #[.val (.ref a1), .val (.ref a2), .unset] []))
  refine hG _ (s₁.setTop (mkF m 1 #[.val (.ref a1), .val (.ref a2), .unset] [(.ref a2)])) (fun t₀ k₀ => ?_) ?_
  · show Steps p.tables e below (s₁.setTop (mkF m 0 #[.val (.ref a1), .val (.ref a2), .unset] [])) t₀
    refine XS.aloadN X0.here hx rfl (hb hby d5_0) rfl rfl ?_
    exact k₀
  obtain ⟨T1, X1, e1, st1⟩ := instY X0 hx hZ hown (hw _ (List.mem_of_getElem? (i := 39) rfl)) e0 (Ins.self E2) (g := (mkF m 1 #[.val (.ref a1), .val (.ref a2), .unset] [(.ref a2)])) rfl rfl (hb hby d5_1)
  refine hG _ _ (fun t₀ k₀ => st1 _ k₀) ?_
  show G (T1.setTop (mkF m 4 #[.val (.ref a1), .val (.ref a2), .unset] [(.int (1 : Int32))]))
  refine hG _ (T1.setTop (mkF m 8 #[.val (.ref a1), .val (.ref a2), .unset] [(.ref a2)])) (fun t₀ k₀ => ?_) ?_
  · show Steps p.tables e below (T1.setTop (mkF m 4 #[.val (.ref a1), .val (.ref a2), .unset] [(.int (1 : Int32))])) t₀
    refine XS.ifNo X1.here hx rfl (hb hby d5_4) rfl ((if0 _ _).trans (feq (by decide : ¬ ((1 : Int32) = (0 : Int32)))).1) ?_
    show Steps p.tables e below (T1.setTop (mkF m 7 #[.val (.ref a1), .val (.ref a2), .unset] [])) t₀
    refine XS.aloadN X1.here hx rfl (hb hby d5_7) rfl rfl ?_
    exact k₀
  obtain ⟨T2, X2, e2, st2⟩ := castY X1 hx hZ hown (hw _ (List.mem_of_getElem? (i := 39) rfl)) e1 (Ins.self E2) (g := (mkF m 8 #[.val (.ref a1), .val (.ref a2), .unset] [(.ref a2)])) rfl rfl (hb hby d5_8)
  refine hG _ _ (fun t₀ k₀ => st2 _ k₀) ?_
  show G (T2.setTop (mkF m 11 #[.val (.ref a1), .val (.ref a2), .unset] [(.ref a2)]))
  refine hG _ (T2.setTop (mkF m 13 #[.val (.ref a1), .val (.ref a2), .val (.ref a2)] [(.ref a1)])) (fun t₀ k₀ => ?_) ?_
  · show Steps p.tables e below (T2.setTop (mkF m 11 #[.val (.ref a1), .val (.ref a2), .unset] [(.ref a2)])) t₀
    refine XS.astoreN X2.here hx rfl (hb hby d5_11) rfl rfl (l' := #[.val (.ref a1), .val (.ref a2), .val (.ref a2)]) rfl ?_
    show Steps p.tables e below (T2.setTop (mkF m 12 #[.val (.ref a1), .val (.ref a2), .val (.ref a2)] [])) t₀
    refine XS.aloadN X2.here hx rfl (hb hby d5_12) rfl rfl ?_
    exact k₀
  obtain ⟨T3, X3, e3, st3⟩ := getF X2 hx hZ hown (host := "") (Or.inl (hw _ (List.mem_of_getElem? (i := 18) rfl))) Via.refl e2 G0 (g := (mkF m 13 #[.val (.ref a1), .val (.ref a2), .val (.ref a2)] [(.ref a1)])) rfl rfl (hb hby d5_13)
  refine hG _ _ (fun t₀ k₀ => st3 _ k₀) ?_
  show G (T3.setTop (mkF m 16 #[.val (.ref a1), .val (.ref a2), .val (.ref a2)] [(.long x0)]))
  refine hG _ (T3.setTop (mkF m 17 #[.val (.ref a1), .val (.ref a2), .val (.ref a2)] [(.ref a2), (.long x0)])) (fun t₀ k₀ => ?_) ?_
  · show Steps p.tables e below (T3.setTop (mkF m 16 #[.val (.ref a1), .val (.ref a2), .val (.ref a2)] [(.long x0)])) t₀
    refine XS.aloadN X3.here hx rfl (hb hby d5_16) rfl rfl ?_
    exact k₀
  obtain ⟨T4, X4, e4, st4⟩ := getF X3 hx hZ hown (host := "") (Or.inl (hw _ (List.mem_of_getElem? (i := 18) rfl))) Via.refl e3 H0 (g := (mkF m 17 #[.val (.ref a1), .val (.ref a2), .val (.ref a2)] [(.ref a2), (.long x0)])) rfl rfl (hb hby d5_17)
  refine hG _ _ (fun t₀ k₀ => st4 _ k₀) ?_
  show G (T4.setTop (mkF m 20 #[.val (.ref a1), .val (.ref a2), .val (.ref a2)] [(.long y0), (.long x0)]))
  refine hG _ (T4.setTop (mkF m 21 #[.val (.ref a1), .val (.ref a2), .val (.ref a2)] [(.int (lcmpW x0 y0))])) (fun t₀ k₀ => ?_) ?_
  · show Steps p.tables e below (T4.setTop (mkF m 20 #[.val (.ref a1), .val (.ref a2), .val (.ref a2)] [(.long y0), (.long x0)])) t₀
    refine XS.lcmp X4.here hx rfl (hb hby d5_20) rfl ?_
    exact k₀
  by_cases hc21 : x0 = y0
  ·
    refine hG _ (T4.setTop (mkF m 25 #[.val (.ref a1), .val (.ref a2), .val (.ref a2)] [(.ref a1)])) (fun t₀ k₀ => ?_) ?_
    · show Steps p.tables e below (T4.setTop (mkF m 21 #[.val (.ref a1), .val (.ref a2), .val (.ref a2)] [(.int (lcmpW x0 y0))])) t₀
      refine XS.ifNo X4.here hx rfl (hb hby d5_21) rfl ((if0 _ _).trans (teq ((lw_eq x0 y0).mpr hc21)).2) ?_
      show Steps p.tables e below (T4.setTop (mkF m 24 #[.val (.ref a1), .val (.ref a2), .val (.ref a2)] [])) t₀
      refine XS.aloadN X4.here hx rfl (hb hby d5_24) rfl rfl ?_
      exact k₀
    obtain ⟨T5, X5, e5, st5⟩ := getF X4 hx hZ hown (host := "") (Or.inl (hw _ (List.mem_of_getElem? (i := 20) rfl))) Via.refl e4 G1 (g := (mkF m 25 #[.val (.ref a1), .val (.ref a2), .val (.ref a2)] [(.ref a1)])) rfl rfl (hb hby d5_25)
    refine hG _ _ (fun t₀ k₀ => st5 _ k₀) ?_
    show G (T5.setTop (mkF m 28 #[.val (.ref a1), .val (.ref a2), .val (.ref a2)] [(.int x1)]))
    refine hG _ (T5.setTop (mkF m 29 #[.val (.ref a1), .val (.ref a2), .val (.ref a2)] [(.ref a2), (.int x1)])) (fun t₀ k₀ => ?_) ?_
    · show Steps p.tables e below (T5.setTop (mkF m 28 #[.val (.ref a1), .val (.ref a2), .val (.ref a2)] [(.int x1)])) t₀
      refine XS.aloadN X5.here hx rfl (hb hby d5_28) rfl rfl ?_
      exact k₀
    obtain ⟨T6, X6, e6, st6⟩ := getF X5 hx hZ hown (host := "") (Or.inl (hw _ (List.mem_of_getElem? (i := 20) rfl))) Via.refl e5 H1 (g := (mkF m 29 #[.val (.ref a1), .val (.ref a2), .val (.ref a2)] [(.ref a2), (.int x1)])) rfl rfl (hb hby d5_29)
    refine hG _ _ (fun t₀ k₀ => st6 _ k₀) ?_
    show G (T6.setTop (mkF m 32 #[.val (.ref a1), .val (.ref a2), .val (.ref a2)] [(.int y1), (.int x1)]))
    by_cases hc32 : x1 = y1
    ·
      refine hG _ (T6.setTop (mkF m 36 #[.val (.ref a1), .val (.ref a2), .val (.ref a2)] [(.ref a1)])) (fun t₀ k₀ => ?_) ?_
      · show Steps p.tables e below (T6.setTop (mkF m 32 #[.val (.ref a1), .val (.ref a2), .val (.ref a2)] [(.int y1), (.int x1)])) t₀
        refine XS.icmpNo X6.here hx rfl (hb hby d5_32) rfl (teq hc32).2 ?_
        show Steps p.tables e below (T6.setTop (mkF m 35 #[.val (.ref a1), .val (.ref a2), .val (.ref a2)] [])) t₀
        refine XS.aloadN X6.here hx rfl (hb hby d5_35) rfl rfl ?_
        exact k₀
      obtain ⟨T7, X7, e7, st7⟩ := getF X6 hx hZ hown (host := "") (Or.inl (hw _ (List.mem_of_getElem? (i := 22) rfl))) Via.refl e6 G2 (g := (mkF m 36 #[.val (.ref a1), .val (.ref a2), .val (.ref a2)] [(.ref a1)])) rfl rfl (hb hby d5_36)
      refine hG _ _ (fun t₀ k₀ => st7 _ k₀) ?_
      show G (T7.setTop (mkF m 39 #[.val (.ref a1), .val (.ref a2), .val (.ref a2)] [(.long x2)]))
      refine hG _ (T7.setTop (mkF m 40 #[.val (.ref a1), .val (.ref a2), .val (.ref a2)] [(.ref a2), (.long x2)])) (fun t₀ k₀ => ?_) ?_
      · show Steps p.tables e below (T7.setTop (mkF m 39 #[.val (.ref a1), .val (.ref a2), .val (.ref a2)] [(.long x2)])) t₀
        refine XS.aloadN X7.here hx rfl (hb hby d5_39) rfl rfl ?_
        exact k₀
      obtain ⟨T8, X8, e8, st8⟩ := getF X7 hx hZ hown (host := "") (Or.inl (hw _ (List.mem_of_getElem? (i := 22) rfl))) Via.refl e7 H2 (g := (mkF m 40 #[.val (.ref a1), .val (.ref a2), .val (.ref a2)] [(.ref a2), (.long x2)])) rfl rfl (hb hby d5_40)
      refine hG _ _ (fun t₀ k₀ => st8 _ k₀) ?_
      show G (T8.setTop (mkF m 43 #[.val (.ref a1), .val (.ref a2), .val (.ref a2)] [(.long y2), (.long x2)]))
      refine hG _ (T8.setTop (mkF m 44 #[.val (.ref a1), .val (.ref a2), .val (.ref a2)] [(.int (lcmpW x2 y2))])) (fun t₀ k₀ => ?_) ?_
      · show Steps p.tables e below (T8.setTop (mkF m 43 #[.val (.ref a1), .val (.ref a2), .val (.ref a2)] [(.long y2), (.long x2)])) t₀
        refine XS.lcmp X8.here hx rfl (hb hby d5_43) rfl ?_
        exact k₀
      by_cases hc44 : x2 = y2
      ·
        refine hG _ (T8.setTop (mkF m 48 #[.val (.ref a1), .val (.ref a2), .val (.ref a2)] [(.ref a1)])) (fun t₀ k₀ => ?_) ?_
        · show Steps p.tables e below (T8.setTop (mkF m 44 #[.val (.ref a1), .val (.ref a2), .val (.ref a2)] [(.int (lcmpW x2 y2))])) t₀
          refine XS.ifNo X8.here hx rfl (hb hby d5_44) rfl ((if0 _ _).trans (teq ((lw_eq x2 y2).mpr hc44)).2) ?_
          show Steps p.tables e below (T8.setTop (mkF m 47 #[.val (.ref a1), .val (.ref a2), .val (.ref a2)] [])) t₀
          refine XS.aloadN X8.here hx rfl (hb hby d5_47) rfl rfl ?_
          exact k₀
        obtain ⟨T9, X9, e9, st9⟩ := getF X8 hx hZ hown (host := "") (Or.inl (hw _ (List.mem_of_getElem? (i := 24) rfl))) Via.refl e8 G3 (g := (mkF m 48 #[.val (.ref a1), .val (.ref a2), .val (.ref a2)] [(.ref a1)])) rfl rfl (hb hby d5_48)
        refine hG _ _ (fun t₀ k₀ => st9 _ k₀) ?_
        show G (T9.setTop (mkF m 51 #[.val (.ref a1), .val (.ref a2), .val (.ref a2)] [(.long x3)]))
        refine hG _ (T9.setTop (mkF m 52 #[.val (.ref a1), .val (.ref a2), .val (.ref a2)] [(.ref a2), (.long x3)])) (fun t₀ k₀ => ?_) ?_
        · show Steps p.tables e below (T9.setTop (mkF m 51 #[.val (.ref a1), .val (.ref a2), .val (.ref a2)] [(.long x3)])) t₀
          refine XS.aloadN X9.here hx rfl (hb hby d5_51) rfl rfl ?_
          exact k₀
        obtain ⟨T10, X10, e10, st10⟩ := getF X9 hx hZ hown (host := "") (Or.inl (hw _ (List.mem_of_getElem? (i := 24) rfl))) Via.refl e9 H3 (g := (mkF m 52 #[.val (.ref a1), .val (.ref a2), .val (.ref a2)] [(.ref a2), (.long x3)])) rfl rfl (hb hby d5_52)
        refine hG _ _ (fun t₀ k₀ => st10 _ k₀) ?_
        show G (T10.setTop (mkF m 55 #[.val (.ref a1), .val (.ref a2), .val (.ref a2)] [(.long y3), (.long x3)]))
        refine hG _ (T10.setTop (mkF m 56 #[.val (.ref a1), .val (.ref a2), .val (.ref a2)] [(.int (lcmpW x3 y3))])) (fun t₀ k₀ => ?_) ?_
        · show Steps p.tables e below (T10.setTop (mkF m 55 #[.val (.ref a1), .val (.ref a2), .val (.ref a2)] [(.long y3), (.long x3)])) t₀
          refine XS.lcmp X10.here hx rfl (hb hby d5_55) rfl ?_
          exact k₀
        by_cases hc56 : x3 = y3
        ·
          refine hG _ (T10.setTop (mkF m 60 #[.val (.ref a1), .val (.ref a2), .val (.ref a2)] [(.ref a1)])) (fun t₀ k₀ => ?_) ?_
          · show Steps p.tables e below (T10.setTop (mkF m 56 #[.val (.ref a1), .val (.ref a2), .val (.ref a2)] [(.int (lcmpW x3 y3))])) t₀
            refine XS.ifNo X10.here hx rfl (hb hby d5_56) rfl ((if0 _ _).trans (teq ((lw_eq x3 y3).mpr hc56)).2) ?_
            show Steps p.tables e below (T10.setTop (mkF m 59 #[.val (.ref a1), .val (.ref a2), .val (.ref a2)] [])) t₀
            refine XS.aloadN X10.here hx rfl (hb hby d5_59) rfl rfl ?_
            exact k₀
          obtain ⟨T11, X11, e11, st11⟩ := getF X10 hx hZ hown (host := "") (Or.inl (hw _ (List.mem_of_getElem? (i := 26) rfl))) Via.refl e10 G4 (g := (mkF m 60 #[.val (.ref a1), .val (.ref a2), .val (.ref a2)] [(.ref a1)])) rfl rfl (hb hby d5_60)
          refine hG _ _ (fun t₀ k₀ => st11 _ k₀) ?_
          show G (T11.setTop (mkF m 63 #[.val (.ref a1), .val (.ref a2), .val (.ref a2)] [(.long x4)]))
          refine hG _ (T11.setTop (mkF m 64 #[.val (.ref a1), .val (.ref a2), .val (.ref a2)] [(.ref a2), (.long x4)])) (fun t₀ k₀ => ?_) ?_
          · show Steps p.tables e below (T11.setTop (mkF m 63 #[.val (.ref a1), .val (.ref a2), .val (.ref a2)] [(.long x4)])) t₀
            refine XS.aloadN X11.here hx rfl (hb hby d5_63) rfl rfl ?_
            exact k₀
          obtain ⟨T12, X12, e12, st12⟩ := getF X11 hx hZ hown (host := "") (Or.inl (hw _ (List.mem_of_getElem? (i := 26) rfl))) Via.refl e11 H4 (g := (mkF m 64 #[.val (.ref a1), .val (.ref a2), .val (.ref a2)] [(.ref a2), (.long x4)])) rfl rfl (hb hby d5_64)
          refine hG _ _ (fun t₀ k₀ => st12 _ k₀) ?_
          show G (T12.setTop (mkF m 67 #[.val (.ref a1), .val (.ref a2), .val (.ref a2)] [(.long y4), (.long x4)]))
          refine hG _ (T12.setTop (mkF m 68 #[.val (.ref a1), .val (.ref a2), .val (.ref a2)] [(.int (lcmpW x4 y4))])) (fun t₀ k₀ => ?_) ?_
          · show Steps p.tables e below (T12.setTop (mkF m 67 #[.val (.ref a1), .val (.ref a2), .val (.ref a2)] [(.long y4), (.long x4)])) t₀
            refine XS.lcmp X12.here hx rfl (hb hby d5_67) rfl ?_
            exact k₀
          by_cases hc68 : x4 = y4
          ·
            refine hG _ (T12.setTop (mkF m 72 #[.val (.ref a1), .val (.ref a2), .val (.ref a2)] [(.ref a1)])) (fun t₀ k₀ => ?_) ?_
            · show Steps p.tables e below (T12.setTop (mkF m 68 #[.val (.ref a1), .val (.ref a2), .val (.ref a2)] [(.int (lcmpW x4 y4))])) t₀
              refine XS.ifNo X12.here hx rfl (hb hby d5_68) rfl ((if0 _ _).trans (teq ((lw_eq x4 y4).mpr hc68)).2) ?_
              show Steps p.tables e below (T12.setTop (mkF m 71 #[.val (.ref a1), .val (.ref a2), .val (.ref a2)] [])) t₀
              refine XS.aloadN X12.here hx rfl (hb hby d5_71) rfl rfl ?_
              exact k₀
            obtain ⟨T13, X13, e13, st13⟩ := getF X12 hx hZ hown (host := "") (Or.inl (hw _ (List.mem_of_getElem? (i := 28) rfl))) Via.refl e12 G5 (g := (mkF m 72 #[.val (.ref a1), .val (.ref a2), .val (.ref a2)] [(.ref a1)])) rfl rfl (hb hby d5_72)
            refine hG _ _ (fun t₀ k₀ => st13 _ k₀) ?_
            show G (T13.setTop (mkF m 75 #[.val (.ref a1), .val (.ref a2), .val (.ref a2)] [(.long x5)]))
            refine hG _ (T13.setTop (mkF m 76 #[.val (.ref a1), .val (.ref a2), .val (.ref a2)] [(.ref a2), (.long x5)])) (fun t₀ k₀ => ?_) ?_
            · show Steps p.tables e below (T13.setTop (mkF m 75 #[.val (.ref a1), .val (.ref a2), .val (.ref a2)] [(.long x5)])) t₀
              refine XS.aloadN X13.here hx rfl (hb hby d5_75) rfl rfl ?_
              exact k₀
            obtain ⟨T14, X14, e14, st14⟩ := getF X13 hx hZ hown (host := "") (Or.inl (hw _ (List.mem_of_getElem? (i := 28) rfl))) Via.refl e13 H5 (g := (mkF m 76 #[.val (.ref a1), .val (.ref a2), .val (.ref a2)] [(.ref a2), (.long x5)])) rfl rfl (hb hby d5_76)
            refine hG _ _ (fun t₀ k₀ => st14 _ k₀) ?_
            show G (T14.setTop (mkF m 79 #[.val (.ref a1), .val (.ref a2), .val (.ref a2)] [(.long y5), (.long x5)]))
            refine hG _ (T14.setTop (mkF m 80 #[.val (.ref a1), .val (.ref a2), .val (.ref a2)] [(.int (lcmpW x5 y5))])) (fun t₀ k₀ => ?_) ?_
            · show Steps p.tables e below (T14.setTop (mkF m 79 #[.val (.ref a1), .val (.ref a2), .val (.ref a2)] [(.long y5), (.long x5)])) t₀
              refine XS.lcmp X14.here hx rfl (hb hby d5_79) rfl ?_
              exact k₀
            by_cases hc80 : x5 = y5
            ·
              refine hG _ (T14.setTop (mkF m 84 #[.val (.ref a1), .val (.ref a2), .val (.ref a2)] [(.ref a1)])) (fun t₀ k₀ => ?_) ?_
              · show Steps p.tables e below (T14.setTop (mkF m 80 #[.val (.ref a1), .val (.ref a2), .val (.ref a2)] [(.int (lcmpW x5 y5))])) t₀
                refine XS.ifNo X14.here hx rfl (hb hby d5_80) rfl ((if0 _ _).trans (teq ((lw_eq x5 y5).mpr hc80)).2) ?_
                show Steps p.tables e below (T14.setTop (mkF m 83 #[.val (.ref a1), .val (.ref a2), .val (.ref a2)] [])) t₀
                refine XS.aloadN X14.here hx rfl (hb hby d5_83) rfl rfl ?_
                exact k₀
              obtain ⟨T15, X15, e15, st15⟩ := getF X14 hx hZ hown (host := "") (Or.inl (hw _ (List.mem_of_getElem? (i := 30) rfl))) Via.refl e14 G6 (g := (mkF m 84 #[.val (.ref a1), .val (.ref a2), .val (.ref a2)] [(.ref a1)])) rfl rfl (hb hby d5_84)
              refine hG _ _ (fun t₀ k₀ => st15 _ k₀) ?_
              show G (T15.setTop (mkF m 87 #[.val (.ref a1), .val (.ref a2), .val (.ref a2)] [(.long x6)]))
              refine hG _ (T15.setTop (mkF m 88 #[.val (.ref a1), .val (.ref a2), .val (.ref a2)] [(.ref a2), (.long x6)])) (fun t₀ k₀ => ?_) ?_
              · show Steps p.tables e below (T15.setTop (mkF m 87 #[.val (.ref a1), .val (.ref a2), .val (.ref a2)] [(.long x6)])) t₀
                refine XS.aloadN X15.here hx rfl (hb hby d5_87) rfl rfl ?_
                exact k₀
              obtain ⟨T16, X16, e16, st16⟩ := getF X15 hx hZ hown (host := "") (Or.inl (hw _ (List.mem_of_getElem? (i := 30) rfl))) Via.refl e15 H6 (g := (mkF m 88 #[.val (.ref a1), .val (.ref a2), .val (.ref a2)] [(.ref a2), (.long x6)])) rfl rfl (hb hby d5_88)
              refine hG _ _ (fun t₀ k₀ => st16 _ k₀) ?_
              show G (T16.setTop (mkF m 91 #[.val (.ref a1), .val (.ref a2), .val (.ref a2)] [(.long y6), (.long x6)]))
              refine hG _ (T16.setTop (mkF m 92 #[.val (.ref a1), .val (.ref a2), .val (.ref a2)] [(.int (lcmpW x6 y6))])) (fun t₀ k₀ => ?_) ?_
              · show Steps p.tables e below (T16.setTop (mkF m 91 #[.val (.ref a1), .val (.ref a2), .val (.ref a2)] [(.long y6), (.long x6)])) t₀
                refine XS.lcmp X16.here hx rfl (hb hby d5_91) rfl ?_
                exact k₀
              by_cases hc92 : x6 = y6
              ·
                refine hG _ (T16.setTop (mkF m 96 #[.val (.ref a1), .val (.ref a2), .val (.ref a2)] [(.ref a1)])) (fun t₀ k₀ => ?_) ?_
                · show Steps p.tables e below (T16.setTop (mkF m 92 #[.val (.ref a1), .val (.ref a2), .val (.ref a2)] [(.int (lcmpW x6 y6))])) t₀
                  refine XS.ifNo X16.here hx rfl (hb hby d5_92) rfl ((if0 _ _).trans (teq ((lw_eq x6 y6).mpr hc92)).2) ?_
                  show Steps p.tables e below (T16.setTop (mkF m 95 #[.val (.ref a1), .val (.ref a2), .val (.ref a2)] [])) t₀
                  refine XS.aloadN X16.here hx rfl (hb hby d5_95) rfl rfl ?_
                  exact k₀
                obtain ⟨T17, X17, e17, st17⟩ := getF X16 hx hZ hown (host := "") (Or.inl (hw _ (List.mem_of_getElem? (i := 32) rfl))) Via.refl e16 G7 (g := (mkF m 96 #[.val (.ref a1), .val (.ref a2), .val (.ref a2)] [(.ref a1)])) rfl rfl (hb hby d5_96)
                refine hG _ _ (fun t₀ k₀ => st17 _ k₀) ?_
                show G (T17.setTop (mkF m 99 #[.val (.ref a1), .val (.ref a2), .val (.ref a2)] [(.long x7)]))
                refine hG _ (T17.setTop (mkF m 100 #[.val (.ref a1), .val (.ref a2), .val (.ref a2)] [(.ref a2), (.long x7)])) (fun t₀ k₀ => ?_) ?_
                · show Steps p.tables e below (T17.setTop (mkF m 99 #[.val (.ref a1), .val (.ref a2), .val (.ref a2)] [(.long x7)])) t₀
                  refine XS.aloadN X17.here hx rfl (hb hby d5_99) rfl rfl ?_
                  exact k₀
                obtain ⟨T18, X18, e18, st18⟩ := getF X17 hx hZ hown (host := "") (Or.inl (hw _ (List.mem_of_getElem? (i := 32) rfl))) Via.refl e17 H7 (g := (mkF m 100 #[.val (.ref a1), .val (.ref a2), .val (.ref a2)] [(.ref a2), (.long x7)])) rfl rfl (hb hby d5_100)
                refine hG _ _ (fun t₀ k₀ => st18 _ k₀) ?_
                show G (T18.setTop (mkF m 103 #[.val (.ref a1), .val (.ref a2), .val (.ref a2)] [(.long y7), (.long x7)]))
                refine hG _ (T18.setTop (mkF m 104 #[.val (.ref a1), .val (.ref a2), .val (.ref a2)] [(.int (lcmpW x7 y7))])) (fun t₀ k₀ => ?_) ?_
                · show Steps p.tables e below (T18.setTop (mkF m 103 #[.val (.ref a1), .val (.ref a2), .val (.ref a2)] [(.long y7), (.long x7)])) t₀
                  refine XS.lcmp X18.here hx rfl (hb hby d5_103) rfl ?_
                  exact k₀
                by_cases hc104 : x7 = y7
                ·
                  refine hG _ (T18.setTop (mkF m 112 #[.val (.ref a1), .val (.ref a2), .val (.ref a2)] [(.int (1 : Int32))])) (fun t₀ k₀ => ?_) ?_
                  · show Steps p.tables e below (T18.setTop (mkF m 104 #[.val (.ref a1), .val (.ref a2), .val (.ref a2)] [(.int (lcmpW x7 y7))])) t₀
                    refine XS.ifNo X18.here hx rfl (hb hby d5_104) rfl ((if0 _ _).trans (teq ((lw_eq x7 y7).mpr hc104)).2) ?_
                    show Steps p.tables e below (T18.setTop (mkF m 107 #[.val (.ref a1), .val (.ref a2), .val (.ref a2)] [])) t₀
                    refine XS.iconst X18.here hx rfl (hb hby d5_107) ?_
                    show Steps p.tables e below (T18.setTop (mkF m 108 #[.val (.ref a1), .val (.ref a2), .val (.ref a2)] [(.int (1 : Int32))])) t₀
                    refine XS.goto X18.here hx rfl (pc0 := 108) (pc' := 112) rfl (hb hby d5_108) (by decide) (by decide) ?_
                    exact k₀
                  refine hF _ T18 _ _ _ (some (.int (1 : Int32))) _ X18 e18 (fun h => by rw [hrt] at h; cases h) (by decide) (by decide) ?_ (fun fs hr => retN X18 hx (t := .boolean) hrt (by simp) (hb hby d5_112) hr)
                  exact ⟨by rw [← hr]; simp [own_ceq, hc21, hc32, hc44, hc56, hc68, hc80, hc92, hc104], N0, rfl⟩
                ·
                  refine hG _ (T18.setTop (mkF m 112 #[.val (.ref a1), .val (.ref a2), .val (.ref a2)] [(.int (0 : Int32))])) (fun t₀ k₀ => ?_) ?_
                  · show Steps p.tables e below (T18.setTop (mkF m 104 #[.val (.ref a1), .val (.ref a2), .val (.ref a2)] [(.int (lcmpW x7 y7))])) t₀
                    refine XS.ifYes X18.here hx rfl (pc0 := 104) (pc' := 111) rfl (hb hby d5_104) rfl ((if0 _ _).trans (feq (fun z => hc104 ((lw_eq x7 y7).mp z))).2) (by decide) (by decide) ?_
                    show Steps p.tables e below (T18.setTop (mkF m 111 #[.val (.ref a1), .val (.ref a2), .val (.ref a2)] [])) t₀
                    refine XS.iconst X18.here hx rfl (hb hby d5_111) ?_
                    exact k₀
                  refine hF _ T18 _ _ _ (some (.int (0 : Int32))) _ X18 e18 (fun h => by rw [hrt] at h; cases h) (by decide) (by decide) ?_ (fun fs hr => retN X18 hx (t := .boolean) hrt (by simp) (hb hby d5_112) hr)
                  exact ⟨by rw [← hr]; simp [own_ceq, hc21, hc32, hc44, hc56, hc68, hc80, hc92, hc104], N0, rfl⟩
              ·
                refine hG _ (T16.setTop (mkF m 112 #[.val (.ref a1), .val (.ref a2), .val (.ref a2)] [(.int (0 : Int32))])) (fun t₀ k₀ => ?_) ?_
                · show Steps p.tables e below (T16.setTop (mkF m 92 #[.val (.ref a1), .val (.ref a2), .val (.ref a2)] [(.int (lcmpW x6 y6))])) t₀
                  refine XS.ifYes X16.here hx rfl (pc0 := 92) (pc' := 111) rfl (hb hby d5_92) rfl ((if0 _ _).trans (feq (fun z => hc92 ((lw_eq x6 y6).mp z))).2) (by decide) (by decide) ?_
                  show Steps p.tables e below (T16.setTop (mkF m 111 #[.val (.ref a1), .val (.ref a2), .val (.ref a2)] [])) t₀
                  refine XS.iconst X16.here hx rfl (hb hby d5_111) ?_
                  exact k₀
                refine hF _ T16 _ _ _ (some (.int (0 : Int32))) _ X16 e16 (fun h => by rw [hrt] at h; cases h) (by decide) (by decide) ?_ (fun fs hr => retN X16 hx (t := .boolean) hrt (by simp) (hb hby d5_112) hr)
                exact ⟨by rw [← hr]; simp [own_ceq, hc21, hc32, hc44, hc56, hc68, hc80, hc92], N0, rfl⟩
            ·
              refine hG _ (T14.setTop (mkF m 112 #[.val (.ref a1), .val (.ref a2), .val (.ref a2)] [(.int (0 : Int32))])) (fun t₀ k₀ => ?_) ?_
              · show Steps p.tables e below (T14.setTop (mkF m 80 #[.val (.ref a1), .val (.ref a2), .val (.ref a2)] [(.int (lcmpW x5 y5))])) t₀
                refine XS.ifYes X14.here hx rfl (pc0 := 80) (pc' := 111) rfl (hb hby d5_80) rfl ((if0 _ _).trans (feq (fun z => hc80 ((lw_eq x5 y5).mp z))).2) (by decide) (by decide) ?_
                show Steps p.tables e below (T14.setTop (mkF m 111 #[.val (.ref a1), .val (.ref a2), .val (.ref a2)] [])) t₀
                refine XS.iconst X14.here hx rfl (hb hby d5_111) ?_
                exact k₀
              refine hF _ T14 _ _ _ (some (.int (0 : Int32))) _ X14 e14 (fun h => by rw [hrt] at h; cases h) (by decide) (by decide) ?_ (fun fs hr => retN X14 hx (t := .boolean) hrt (by simp) (hb hby d5_112) hr)
              exact ⟨by rw [← hr]; simp [own_ceq, hc21, hc32, hc44, hc56, hc68, hc80], N0, rfl⟩
          ·
            refine hG _ (T12.setTop (mkF m 112 #[.val (.ref a1), .val (.ref a2), .val (.ref a2)] [(.int (0 : Int32))])) (fun t₀ k₀ => ?_) ?_
            · show Steps p.tables e below (T12.setTop (mkF m 68 #[.val (.ref a1), .val (.ref a2), .val (.ref a2)] [(.int (lcmpW x4 y4))])) t₀
              refine XS.ifYes X12.here hx rfl (pc0 := 68) (pc' := 111) rfl (hb hby d5_68) rfl ((if0 _ _).trans (feq (fun z => hc68 ((lw_eq x4 y4).mp z))).2) (by decide) (by decide) ?_
              show Steps p.tables e below (T12.setTop (mkF m 111 #[.val (.ref a1), .val (.ref a2), .val (.ref a2)] [])) t₀
              refine XS.iconst X12.here hx rfl (hb hby d5_111) ?_
              exact k₀
            refine hF _ T12 _ _ _ (some (.int (0 : Int32))) _ X12 e12 (fun h => by rw [hrt] at h; cases h) (by decide) (by decide) ?_ (fun fs hr => retN X12 hx (t := .boolean) hrt (by simp) (hb hby d5_112) hr)
            exact ⟨by rw [← hr]; simp [own_ceq, hc21, hc32, hc44, hc56, hc68], N0, rfl⟩
        ·
          refine hG _ (T10.setTop (mkF m 112 #[.val (.ref a1), .val (.ref a2), .val (.ref a2)] [(.int (0 : Int32))])) (fun t₀ k₀ => ?_) ?_
          · show Steps p.tables e below (T10.setTop (mkF m 56 #[.val (.ref a1), .val (.ref a2), .val (.ref a2)] [(.int (lcmpW x3 y3))])) t₀
            refine XS.ifYes X10.here hx rfl (pc0 := 56) (pc' := 111) rfl (hb hby d5_56) rfl ((if0 _ _).trans (feq (fun z => hc56 ((lw_eq x3 y3).mp z))).2) (by decide) (by decide) ?_
            show Steps p.tables e below (T10.setTop (mkF m 111 #[.val (.ref a1), .val (.ref a2), .val (.ref a2)] [])) t₀
            refine XS.iconst X10.here hx rfl (hb hby d5_111) ?_
            exact k₀
          refine hF _ T10 _ _ _ (some (.int (0 : Int32))) _ X10 e10 (fun h => by rw [hrt] at h; cases h) (by decide) (by decide) ?_ (fun fs hr => retN X10 hx (t := .boolean) hrt (by simp) (hb hby d5_112) hr)
          exact ⟨by rw [← hr]; simp [own_ceq, hc21, hc32, hc44, hc56], N0, rfl⟩
      ·
        refine hG _ (T8.setTop (mkF m 112 #[.val (.ref a1), .val (.ref a2), .val (.ref a2)] [(.int (0 : Int32))])) (fun t₀ k₀ => ?_) ?_
        · show Steps p.tables e below (T8.setTop (mkF m 44 #[.val (.ref a1), .val (.ref a2), .val (.ref a2)] [(.int (lcmpW x2 y2))])) t₀
          refine XS.ifYes X8.here hx rfl (pc0 := 44) (pc' := 111) rfl (hb hby d5_44) rfl ((if0 _ _).trans (feq (fun z => hc44 ((lw_eq x2 y2).mp z))).2) (by decide) (by decide) ?_
          show Steps p.tables e below (T8.setTop (mkF m 111 #[.val (.ref a1), .val (.ref a2), .val (.ref a2)] [])) t₀
          refine XS.iconst X8.here hx rfl (hb hby d5_111) ?_
          exact k₀
        refine hF _ T8 _ _ _ (some (.int (0 : Int32))) _ X8 e8 (fun h => by rw [hrt] at h; cases h) (by decide) (by decide) ?_ (fun fs hr => retN X8 hx (t := .boolean) hrt (by simp) (hb hby d5_112) hr)
        exact ⟨by rw [← hr]; simp [own_ceq, hc21, hc32, hc44], N0, rfl⟩
    ·
      refine hG _ (T6.setTop (mkF m 112 #[.val (.ref a1), .val (.ref a2), .val (.ref a2)] [(.int (0 : Int32))])) (fun t₀ k₀ => ?_) ?_
      · show Steps p.tables e below (T6.setTop (mkF m 32 #[.val (.ref a1), .val (.ref a2), .val (.ref a2)] [(.int y1), (.int x1)])) t₀
        refine XS.icmpYes X6.here hx rfl (pc0 := 32) (pc' := 111) rfl (hb hby d5_32) rfl (feq hc32).2 (by decide) (by decide) ?_
        show Steps p.tables e below (T6.setTop (mkF m 111 #[.val (.ref a1), .val (.ref a2), .val (.ref a2)] [])) t₀
        refine XS.iconst X6.here hx rfl (hb hby d5_111) ?_
        exact k₀
      refine hF _ T6 _ _ _ (some (.int (0 : Int32))) _ X6 e6 (fun h => by rw [hrt] at h; cases h) (by decide) (by decide) ?_ (fun fs hr => retN X6 hx (t := .boolean) hrt (by simp) (hb hby d5_112) hr)
      exact ⟨by rw [← hr]; simp [own_ceq, hc21, hc32], N0, rfl⟩
  ·
    refine hG _ (T4.setTop (mkF m 112 #[.val (.ref a1), .val (.ref a2), .val (.ref a2)] [(.int (0 : Int32))])) (fun t₀ k₀ => ?_) ?_
    · show Steps p.tables e below (T4.setTop (mkF m 21 #[.val (.ref a1), .val (.ref a2), .val (.ref a2)] [(.int (lcmpW x0 y0))])) t₀
      refine XS.ifYes X4.here hx rfl (pc0 := 21) (pc' := 111) rfl (hb hby d5_21) rfl ((if0 _ _).trans (feq (fun z => hc21 ((lw_eq x0 y0).mp z))).2) (by decide) (by decide) ?_
      show Steps p.tables e below (T4.setTop (mkF m 111 #[.val (.ref a1), .val (.ref a2), .val (.ref a2)] [])) t₀
      refine XS.iconst X4.here hx rfl (hb hby d5_111) ?_
      exact k₀
    refine hF _ T4 _ _ _ (some (.int (0 : Int32))) _ X4 e4 (fun h => by rw [hrt] at h; cases h) (by decide) (by decide) ?_ (fun fs hr => retN X4 hx (t := .boolean) hrt (by simp) (hb hby d5_112) hr)
    exact ⟨by rw [← hr]; simp [own_ceq, hc21], N0, rfl⟩
theorem ef_rmN (m : MethodId) (x0 : Addr) : entryFrame m #[(.ref x0), .null] 3 = mkF m 0 #[.val (.ref x0), .val .null, .unset] [] := by first | (simp [entryFrame, mkF, argsToLocals, Value.category]; done) | rfl
def Q_rmN (Z : State) (a1 : Addr) (h0 : Heap) (n0 : Nat) (v : Option Value) (h : Heap) (L : List Loc) : Prop := v = some (.int (0 : Int32)) ∧ Fr n0 L ∧ h = h0
set_option maxRecDepth 65536 in
set_option maxHeartbeats 40000000 in
theorem rmN (l : Launch) (Z : State) (a0 : Array Value) (hw : ∀ d ∈ tables_1, d.before a0 Z = true) (ws : List Jvm.Cond) (a1 : Addr) (h0 : Heap) (n0 : Nat) (Z0 : n0 ≤ h0.size)  :
    MetFree l (⟨"com/example/opledger/opledger/Checkpoint", "equals", "(Ljava/lang/Object;)Z"⟩ : MethodName) (head1 (Jvm.Cond.code (⟨"com/example/opledger/opledger/Checkpoint", "equals", "(Ljava/lang/Object;)Z"⟩ : MethodName) prog_2_method_9_code 3 (some .boolean) :: ws) ({ frames := 0, cells := 0, slots := 0, locals := 0 } : Room)) (fun a U => a = #[(.ref a1), .null] ∧ Z.Warmed39 U.vm ∧ U.heap = h0) (fun _ _ _ _ _ => True) (fun _ U o U' => ∃ v L, o = .returned v ∧ Q_rmN Z a1 h0 n0 v U'.heap L ∧ FrameEnd U o U' L ({ frames := 0, cells := 0, slots := 0, locals := 0 } : Room).cells ({ frames := 0, cells := 0, slots := 0, locals := 0 } : Room).slots) := by
  refine own_body (Q := fun v h L => Q_rmN Z a1 h0 n0 v h L) pn_5 ?_
  intro p e s m below meth c s₁ G X0 hx hZ hby hml hown hnm hrt e0 hG hF
  have hown : s.vm.findClass "com/example/opledger/opledger/Checkpoint" = some m.cls := hown
  have N0 := Fr.nil n0
  rw [ef_rmN m a1]
  show G (s₁.setTop (mkF m 0 #[.val (.ref a1), .val .null, .unset] []))
  refine hG _ (s₁.setTop (mkF m 112 #[.val (.ref a1), .val .null, .unset] [(.int (0 : Int32))])) (fun t₀ k₀ => ?_) ?_
  · show Steps p.tables e below (s₁.setTop (mkF m 0 #[.val (.ref a1), .val .null, .unset] [])) t₀
    refine XS.aloadN X0.here hx rfl (hb hby d5_0) rfl rfl ?_
    show Steps p.tables e below (s₁.setTop (mkF m 1 #[.val (.ref a1), .val .null, .unset] [.null])) t₀
    refine X0.instanceofNull hx (g := (mkF m 1 #[.val (.ref a1), .val .null, .unset] [.null])) rfl rfl (hb hby d5_1) _ ?_
    show Steps p.tables e below (s₁.setTop (mkF m 4 #[.val (.ref a1), .val .null, .unset] [(.int (0 : Int32))])) t₀
    refine XS.ifYes X0.here hx rfl (pc0 := 4) (pc' := 111) rfl (hb hby d5_4) rfl ((if0 _ _).trans (teq (by decide : ((0 : Int32) = (0 : Int32)))).1) (by decide) (by decide) ?_
    show Steps p.tables e below (s₁.setTop (mkF m 111 #[.val (.ref a1), .val .null, .unset] [])) t₀
    refine XS.iconst X0.here hx rfl (hb hby d5_111) ?_
    exact k₀
  refine hF _ s₁ _ _ _ (some (.int (0 : Int32))) _ X0 e0 (fun h => by rw [hrt] at h; cases h) (by decide) (by decide) ?_ (fun fs hr => retN X0 hx (t := .boolean) hrt (by simp) (hb hby d5_112) hr)
  exact ⟨rfl, N0, rfl⟩
theorem ef_rmI (m : MethodId) (x0 : Addr) (x1 : Addr) : entryFrame m #[(.ref x0), (.ref x1)] 3 = mkF m 0 #[.val (.ref x0), .val (.ref x1), .unset] [] := by first | (simp [entryFrame, mkF, argsToLocals, Value.category]; done) | rfl
def Q_rmI (Z : State) (a1 a2 : Addr) (h0 : Heap) (n0 : Nat) (v : Option Value) (h : Heap) (L : List Loc) : Prop := v = some (.int (0 : Int32)) ∧ Fr n0 L ∧ h = h0
set_option maxRecDepth 65536 in
set_option maxHeartbeats 40000000 in
theorem rmI (l : Launch) (Z : State) (a0 : Array Value) (hw : ∀ d ∈ tables_1, d.before a0 Z = true) (ws : List Jvm.Cond) (a1 a2 : Addr) (h0 : Heap) (n0 : Nat) (Z0 : n0 ≤ h0.size) (E2 : Exa Z h0 a2 "java/lang/Long") :
    MetFree l (⟨"com/example/opledger/opledger/Checkpoint", "equals", "(Ljava/lang/Object;)Z"⟩ : MethodName) (head1 (Jvm.Cond.code (⟨"com/example/opledger/opledger/Checkpoint", "equals", "(Ljava/lang/Object;)Z"⟩ : MethodName) prog_2_method_9_code 3 (some .boolean) :: ws) ({ frames := 0, cells := 0, slots := 0, locals := 0 } : Room)) (fun a U => a = #[(.ref a1), (.ref a2)] ∧ Z.Warmed39 U.vm ∧ U.heap = h0) (fun _ _ _ _ _ => True) (fun _ U o U' => ∃ v L, o = .returned v ∧ Q_rmI Z a1 a2 h0 n0 v U'.heap L ∧ FrameEnd U o U' L ({ frames := 0, cells := 0, slots := 0, locals := 0 } : Room).cells ({ frames := 0, cells := 0, slots := 0, locals := 0 } : Room).slots) := by
  refine own_body (Q := fun v h L => Q_rmI Z a1 a2 h0 n0 v h L) pn_5 ?_
  intro p e s m below meth c s₁ G X0 hx hZ hby hml hown hnm hrt e0 hG hF
  have hown : s.vm.findClass "com/example/opledger/opledger/Checkpoint" = some m.cls := hown
  have N0 := Fr.nil n0
  rw [ef_rmI m a1 a2]
  show G (s₁.setTop (mkF m 0 #[.val (.ref a1), .val (.ref a2), .unset] []))
  refine hG _ (s₁.setTop (mkF m 1 #[.val (.ref a1), .val (.ref a2), .unset] [(.ref a2)])) (fun t₀ k₀ => ?_) ?_
  · show Steps p.tables e below (s₁.setTop (mkF m 0 #[.val (.ref a1), .val (.ref a2), .unset] [])) t₀
    refine XS.aloadN X0.here hx rfl (hb hby d5_0) rfl rfl ?_
    exact k₀
  obtain ⟨T1, X1, e1, st1⟩ := instNo X0 hx hZ hown (hw _ (List.mem_of_getElem? (i := 39) rfl)) e0 E2 (own_no (hw _ (List.mem_of_getElem? (i := 62) rfl)) (hw _ (List.mem_of_getElem? (i := 5) rfl)) (NS.step (hw _ (List.mem_of_getElem? (i := 62) rfl)) (NS.step (hw _ (List.mem_of_getElem? (i := 63) rfl)) (own_root (hw _ (List.mem_of_getElem? (i := 64) rfl)) (hw _ (List.mem_of_getElem? (i := 5) rfl)) (by decide)) (by decide)) (by decide)) (by decide)) (g := (mkF m 1 #[.val (.ref a1), .val (.ref a2), .unset] [(.ref a2)])) rfl rfl (hb hby d5_1)
  refine hG _ _ (fun t₀ k₀ => st1 _ k₀) ?_
  show G (T1.setTop (mkF m 4 #[.val (.ref a1), .val (.ref a2), .unset] [(.int (0 : Int32))]))
  refine hG _ (T1.setTop (mkF m 112 #[.val (.ref a1), .val (.ref a2), .unset] [(.int (0 : Int32))])) (fun t₀ k₀ => ?_) ?_
  · show Steps p.tables e below (T1.setTop (mkF m 4 #[.val (.ref a1), .val (.ref a2), .unset] [(.int (0 : Int32))])) t₀
    refine XS.ifYes X1.here hx rfl (pc0 := 4) (pc' := 111) rfl (hb hby d5_4) rfl ((if0 _ _).trans (teq (by decide : ((0 : Int32) = (0 : Int32)))).1) (by decide) (by decide) ?_
    show Steps p.tables e below (T1.setTop (mkF m 111 #[.val (.ref a1), .val (.ref a2), .unset] [])) t₀
    refine XS.iconst X1.here hx rfl (hb hby d5_111) ?_
    exact k₀
  refine hF _ T1 _ _ _ (some (.int (0 : Int32))) _ X1 e1 (fun h => by rw [hrt] at h; cases h) (by decide) (by decide) ?_ (fun fs hr => retN X1 hx (t := .boolean) hrt (by simp) (hb hby d5_112) hr)
  exact ⟨rfl, N0, rfl⟩
theorem pn_0 : plainFor (⟨"com/example/opledger/opledger/CheckpointEqualsPinLaw", "law", "(JJJIIJ)Z"⟩ : MethodName) = true := plainFor_of_name (by first | (simp [plainName, overriddenIn]; done) | decide +kernel)
theorem ef_rm0 (m : MethodId) (x0 : Int64) (x1 : Int64) (x2 : Int64) (x3 : Int32) (x4 : Int32) (x5 : Int64) : entryFrame m #[(.long x0), (.long x1), (.long x2), (.int x3), (.int x4), (.long x5)] maxLocals = mkF m 0 #[.val (.long x0), .second, .val (.long x1), .second, .val (.long x2), .second, .val (.int x3), .val (.int x4), .val (.long x5), .second, .unset, .unset, .unset, .unset, .unset, .unset, .unset, .unset, .unset] [] := by first | (simp [entryFrame, mkF, argsToLocals, Value.category, maxLocals]; done) | rfl
def Q_rm0 (Z : State) (p1 p2 p3 : Int64) (p4 p5 : Int32) (p6 : Int64) (wc : Addr) (cl : Cell) (h0 : Heap) (n0 : Nat) (v : Option Value) (h : Heap) (L : List Loc) : Prop := v = some (.int (1 : Int32)) ∧ Fr n0 L
set_option maxRecDepth 65536 in
set_option maxHeartbeats 40000000 in
theorem rm0 (l : Launch) (Z : State) (a0 : Array Value) (hw : ∀ d ∈ tables_1, d.before a0 Z = true) (ws : List Jvm.Cond) (p1 p2 p3 : Int64) (p4 p5 : Int32) (p6 : Int64) (wc : Addr) (cl : Cell) (h0 : Heap) (n0 : Nat) (Z0 : n0 ≤ h0.size) (O0 : Old Z n0 h0) (S_cache : Sta Z Z.heap "java/lang/Long$LongCache" "cache" "[Ljava/lang/Long;" (.ref wc)) (Ac : Arr Z Z.heap wc cl (.object "java/lang/Long")) (hsz : cl.slots.size = 256) (hel : ∀ i, i < 256 → ∃ b, cl.slots[i]? = some (.ref b) ∧ Exa Z Z.heap b "java/lang/Long") :
    MetFree l x (head1 (Jvm.Cond.code x code maxLocals ret :: ws) room_1) (fun a U => a = #[(.long p1), (.long p2), (.long p3), (.int p4), (.int p5), (.long p6)] ∧ Z.Warmed39 U.vm ∧ U.heap = h0) (fun _ _ _ _ _ => True) (fun _ U o U' => ∃ v L, o = .returned v ∧ Q_rm0 Z p1 p2 p3 p4 p5 p6 wc cl h0 n0 v U'.heap L ∧ FrameEnd U o U' L room_1.cells room_1.slots) := by
  refine own_body (Q := fun v h L => Q_rm0 Z p1 p2 p3 p4 p5 p6 wc cl h0 n0 v h L) pn_0 ?_
  intro p e s m below meth c s₁ G X0 hx hZ hby hml hown hnm hrt e0 hG hF
  have hml : c.maxLocals = 19 := hml
  have hrt : meth.sig.returnType = some .boolean := hrt
  have hown : s.vm.findClass "com/example/opledger/opledger/CheckpointEqualsPinLaw" = some m.cls := hown
  have N0 := Fr.nil n0
  rw [ef_rm0 m p1 p2 p3 p4 p5 p6]
  show G (s₁.setTop (mkF m 0 #[.val (.long p1), .second, .val (.long p2), .second, .val (.long p3), .second, .val (.int p4), .val (.int p5), .val (.long p6), .second, .unset, .unset, .unset, .unset, .unset, .unset, .unset, .unset, .unset] []))
  have tlE : ∀ (TT : State) (hT : Heap) (LT : List Loc) (XT : Stand p l e room_1 s m #[(.long p1), (.long p2), (.long p3), (.int p4), (.int p5), (.long p6)] below meth c TT LT 2 16) (eT : TT.heap = hT) (NT : Fr n0 LT) (zT : n0 ≤ hT.size) (OT : Old Z n0 hT) (c1 c2 : Addr) (E1 : Exa Z hT c1 "com/example/opledger/opledger/Checkpoint") (E2 : Exa Z hT c2 "com/example/opledger/opledger/Checkpoint") (G0 : Fld Z hT c1 "com/example/opledger/opledger/Checkpoint" "offset" "J" (.long p1)) (G1 : Fld Z hT c1 "com/example/opledger/opledger/Checkpoint" "numOps" "I" (.int p4)) (G2 : Fld Z hT c1 "com/example/opledger/opledger/Checkpoint" "generation" "J" (.long p2)) (G3 : Fld Z hT c1 "com/example/opledger/opledger/Checkpoint" "minSeqNo" "J" (.long p3)) (G4 : Fld Z hT c1 "com/example/opledger/opledger/Checkpoint" "maxSeqNo" "J" (.long (p1 ^^^ p2))) (G5 : Fld Z hT c1 "com/example/opledger/opledger/Checkpoint" "globalCheckpoint" "J" (.long (p2 ^^^ p3))) (G6 : Fld Z hT c1 "com/example/opledger/opledger/Checkpoint" "minGeneration" "J" (.long (p1 + p3))) (G7 : Fld Z hT c1 "com/example/opledger/opledger/Checkpoint" "trimmedAboveSeqNo" "J" (.long (p2 - p3))) (y0 : Int64) (y1 : Int32) (y2 : Int64) (y3 : Int64) (y4 : Int64) (y5 : Int64) (y6 : Int64) (y7 : Int64) (H0 : Fld Z hT c2 "com/example/opledger/opledger/Checkpoint" "offset" "J" (.long y0)) (H1 : Fld Z hT c2 "com/example/opledger/opledger/Checkpoint" "numOps" "I" (.int y1)) (H2 : Fld Z hT c2 "com/example/opledger/opledger/Checkpoint" "generation" "J" (.long y2)) (H3 : Fld Z hT c2 "com/example/opledger/opledger/Checkpoint" "minSeqNo" "J" (.long y3)) (H4 : Fld Z hT c2 "com/example/opledger/opledger/Checkpoint" "maxSeqNo" "J" (.long y4)) (H5 : Fld Z hT c2 "com/example/opledger/opledger/Checkpoint" "globalCheckpoint" "J" (.long y5)) (H6 : Fld Z hT c2 "com/example/opledger/opledger/Checkpoint" "minGeneration" "J" (.long y6)) (H7 : Fld Z hT c2 "com/example/opledger/opledger/Checkpoint" "trimmedAboveSeqNo" "J" (.long y7)) (sl md ex : Int32) (od vv : Int64) (hr : own_ceq p1 p4 p2 p3 (p1 ^^^ p2) (p2 ^^^ p3) (p1 + p3) (p2 - p3) y0 y1 y2 y3 y4 y5 y6 y7 = ex), G (TT.setTop (mkF m 232 #[.val (.long p1), .second, .val (.long p2), .second, .val (.long p3), .second, .val (.int p4), .val (.int p5), .val (.long p6), .second, .val (.int sl), .val (.int md), .val (.long od), .second, .val (.long vv), .second, .val (.ref c1), .val (.ref c2), .val (.int ex)] [])) := by
    intro TT hT LT XT eT NT zT OT c1 c2 E1 E2 G0 G1 G2 G3 G4 G5 G6 G7 y0 y1 y2 y3 y4 y5 y6 y7 H0 H1 H2 H3 H4 H5 H6 H7 sl md ex od vv hr
    refine hG _ (TT.setTop (mkF m 235 #[.val (.long p1), .second, .val (.long p2), .second, .val (.long p3), .second, .val (.int p4), .val (.int p5), .val (.long p6), .second, .val (.int sl), .val (.int md), .val (.long od), .second, .val (.long vv), .second, .val (.ref c1), .val (.ref c2), .val (.int ex)] [(.int (1 : Int32)), (.int md)])) (fun t₀ k₀ => ?_) ?_
    · show Steps p.tables e below (TT.setTop (mkF m 232 #[.val (.long p1), .second, .val (.long p2), .second, .val (.long p3), .second, .val (.int p4), .val (.int p5), .val (.long p6), .second, .val (.int sl), .val (.int md), .val (.long od), .second, .val (.long vv), .second, .val (.ref c1), .val (.ref c2), .val (.int ex)] [])) t₀
      refine XS.iload XT.here hx rfl (hb hby at_232) rfl ?_
      show Steps p.tables e below (TT.setTop (mkF m 234 #[.val (.long p1), .second, .val (.long p2), .second, .val (.long p3), .second, .val (.int p4), .val (.int p5), .val (.long p6), .second, .val (.int sl), .val (.int md), .val (.long od), .second, .val (.long vv), .second, .val (.ref c1), .val (.ref c2), .val (.int ex)] [(.int md)])) t₀
      refine XS.iconst XT.here hx rfl (hb hby at_234) ?_
      exact k₀
    by_cases hc235 : md = (1 : Int32)
    ·
      refine hG _ (TT.setTop (mkF m 241 #[.val (.long p1), .second, .val (.long p2), .second, .val (.long p3), .second, .val (.int p4), .val (.int p5), .val (.long p6), .second, .val (.int sl), .val (.int md), .val (.long od), .second, .val (.long vv), .second, .val (.ref c1), .val (.ref c2), .val (.int ex)] [.null, (.ref c1)])) (fun t₀ k₀ => ?_) ?_
      · show Steps p.tables e below (TT.setTop (mkF m 235 #[.val (.long p1), .second, .val (.long p2), .second, .val (.long p3), .second, .val (.int p4), .val (.int p5), .val (.long p6), .second, .val (.int sl), .val (.int md), .val (.long od), .second, .val (.long vv), .second, .val (.ref c1), .val (.ref c2), .val (.int ex)] [(.int (1 : Int32)), (.int md)])) t₀
        refine XS.icmpNo XT.here hx rfl (hb hby at_235) rfl (teq hc235).2 ?_
        show Steps p.tables e below (TT.setTop (mkF m 238 #[.val (.long p1), .second, .val (.long p2), .second, .val (.long p3), .second, .val (.int p4), .val (.int p5), .val (.long p6), .second, .val (.int sl), .val (.int md), .val (.long od), .second, .val (.long vv), .second, .val (.ref c1), .val (.ref c2), .val (.int ex)] [])) t₀
        refine XS.aload XT.here hx rfl (hb hby at_238) rfl rfl ?_
        show Steps p.tables e below (TT.setTop (mkF m 240 #[.val (.long p1), .second, .val (.long p2), .second, .val (.long p3), .second, .val (.int p4), .val (.int p5), .val (.long p6), .second, .val (.int sl), .val (.int md), .val (.long od), .second, .val (.long vv), .second, .val (.ref c1), .val (.ref c2), .val (.int ex)] [(.ref c1)])) t₀
        refine XS.aconstNull XT.here hx rfl (hb hby at_240) ?_
        exact k₀
      obtain ⟨cq1, kq1, q1a, q1b, q1c⟩ := isOf hZ eT E1
      obtain ⟨_, _, ⟨T1, L1, k1, n1⟩, -, X1, ⟨Lc1, hQ1, l1, y1, z1⟩, st1⟩ := XT.virtualBack hx (y := (⟨"com/example/opledger/opledger/Checkpoint", "equals", "(Ljava/lang/Object;)Z"⟩ : MethodName)) (z := (⟨"com/example/opledger/opledger/Checkpoint", "equals", "(Ljava/lang/Object;)Z"⟩ : MethodName)) hown (mvT hZ (hw _ (List.mem_of_getElem? (i := 34) rfl))) (mvT hZ (hw _ (List.mem_of_getElem? (i := 35) rfl))) (notFace_of_selects (args := #[]) (mvT hZ (hw _ (List.mem_of_getElem? (i := 37) rfl)))) (mvT hZ (hw _ (List.mem_of_getElem? (i := 37) rfl))) (mvT hZ (hw _ (List.mem_of_getElem? (i := 36) rfl))) (by decide) (backOf (W := 0) (rmN l Z a0 hw [] c1 hT n0 zT) hZ (hw _ (List.mem_of_getElem? (i := 38) rfl)) (hw _ (List.mem_of_getElem? (i := 6) rfl)) (by decide) (by decide)) q1a q1c (g := (mkF m 241 #[.val (.long p1), .second, .val (.long p2), .second, .val (.long p3), .second, .val (.int p4), .val (.int p5), .val (.long p6), .second, .val (.int sl), .val (.int md), .val (.long od), .second, .val (.long vv), .second, .val (.ref c1), .val (.ref c2), .val (.int ex)] [.null, (.ref c1)])) rfl (by rw [hml]; rfl) (Steps.refl _) (argsL := [.null]) (rest := []) (lenOf pd_3 rfl) rfl (by show 2 * 0 + _ ≤ _; exact Nat.le_of_eq rfl) (hb hby at_241) (fun _ _ => ⟨rfl, eT, (by decide : 2 + 0 ≤ _), (by decide : 16 + 0 ≤ _)⟩)
      dsimp only [Pt.U, Pt.locs, Pt.cells, Pt.slots] at X1 l1 y1 z1 st1 hQ1
      subst l1 y1 z1
      obtain ⟨rfl, N1q, e1⟩ := hQ1
      have N1 := Fr.app NT N1q
      refine hG _ _ (fun t₀ k₀ => st1.trans k₀) ?_
      show G (T1.setTop (mkF m 244 #[.val (.long p1), .second, .val (.long p2), .second, .val (.long p3), .second, .val (.int p4), .val (.int p5), .val (.long p6), .second, .val (.int sl), .val (.int md), .val (.long od), .second, .val (.long vv), .second, .val (.ref c1), .val (.ref c2), .val (.int ex)] [(.int (0 : Int32))]))
      refine hG _ (T1.setTop (mkF m 251 #[.val (.long p1), .second, .val (.long p2), .second, .val (.long p3), .second, .val (.int p4), .val (.int p5), .val (.long p6), .second, .val (.int sl), .val (.int md), .val (.long od), .second, .val (.long vv), .second, .val (.ref c1), .val (.ref c2), .val (.int ex)] [(.ref c1), (.ref c1)])) (fun t₀ k₀ => ?_) ?_
      · show Steps p.tables e below (T1.setTop (mkF m 244 #[.val (.long p1), .second, .val (.long p2), .second, .val (.long p3), .second, .val (.int p4), .val (.int p5), .val (.long p6), .second, .val (.int sl), .val (.int md), .val (.long od), .second, .val (.long vv), .second, .val (.ref c1), .val (.ref c2), .val (.int ex)] [(.int (0 : Int32))])) t₀
        refine XS.ifNo X1.here hx rfl (hb hby at_244) rfl ((if0 _ _).trans (teq (by decide : ((0 : Int32) = (0 : Int32)))).2) ?_
        show Steps p.tables e below (T1.setTop (mkF m 247 #[.val (.long p1), .second, .val (.long p2), .second, .val (.long p3), .second, .val (.int p4), .val (.int p5), .val (.long p6), .second, .val (.int sl), .val (.int md), .val (.long od), .second, .val (.long vv), .second, .val (.ref c1), .val (.ref c2), .val (.int ex)] [])) t₀
        refine XS.aload X1.here hx rfl (hb hby at_247) rfl rfl ?_
        show Steps p.tables e below (T1.setTop (mkF m 249 #[.val (.long p1), .second, .val (.long p2), .second, .val (.long p3), .second, .val (.int p4), .val (.int p5), .val (.long p6), .second, .val (.int sl), .val (.int md), .val (.long od), .second, .val (.long vv), .second, .val (.ref c1), .val (.ref c2), .val (.int ex)] [(.ref c1)])) t₀
        refine XS.aload X1.here hx rfl (hb hby at_249) rfl rfl ?_
        exact k₀
      obtain ⟨cq2, kq2, q2a, q2b, q2c⟩ := isOf hZ e1 E1
      obtain ⟨_, _, ⟨T2, L2, k2, n2⟩, -, X2, ⟨Lc2, hQ2, l2, y2, z2⟩, st2⟩ := X1.virtualBack hx (y := (⟨"com/example/opledger/opledger/Checkpoint", "equals", "(Ljava/lang/Object;)Z"⟩ : MethodName)) (z := (⟨"com/example/opledger/opledger/Checkpoint", "equals", "(Ljava/lang/Object;)Z"⟩ : MethodName)) hown (mvT hZ (hw _ (List.mem_of_getElem? (i := 34) rfl))) (mvT hZ (hw _ (List.mem_of_getElem? (i := 35) rfl))) (notFace_of_selects (args := #[]) (mvT hZ (hw _ (List.mem_of_getElem? (i := 37) rfl)))) (mvT hZ (hw _ (List.mem_of_getElem? (i := 37) rfl))) (mvT hZ (hw _ (List.mem_of_getElem? (i := 36) rfl))) (by decide) (backOf (W := 0) (rmE l Z a0 hw [] c1 c1 p1 p4 p2 p3 (p1 ^^^ p2) (p2 ^^^ p3) (p1 + p3) (p2 - p3) p1 p4 p2 p3 (p1 ^^^ p2) (p2 ^^^ p3) (p1 + p3) (p2 - p3) (1 : Int32) hT n0 zT E1 G0 G1 G2 G3 G4 G5 G6 G7 G0 G1 G2 G3 G4 G5 G6 G7 (by simp [own_ceq])) hZ (hw _ (List.mem_of_getElem? (i := 38) rfl)) (hw _ (List.mem_of_getElem? (i := 6) rfl)) (by decide) (by decide)) q2a q2c (g := (mkF m 251 #[.val (.long p1), .second, .val (.long p2), .second, .val (.long p3), .second, .val (.int p4), .val (.int p5), .val (.long p6), .second, .val (.int sl), .val (.int md), .val (.long od), .second, .val (.long vv), .second, .val (.ref c1), .val (.ref c2), .val (.int ex)] [(.ref c1), (.ref c1)])) rfl (by rw [hml]; rfl) (Steps.refl _) (argsL := [(.ref c1)]) (rest := []) (lenOf pd_3 rfl) rfl (by show 2 * 0 + _ ≤ _; exact Nat.le_of_eq rfl) (hb hby at_251) (fun _ _ => ⟨rfl, e1, (by decide : 2 + 0 ≤ _), (by decide : 16 + 0 ≤ _)⟩)
      dsimp only [Pt.U, Pt.locs, Pt.cells, Pt.slots] at X2 l2 y2 z2 st2 hQ2
      subst l2 y2 z2
      obtain ⟨rfl, N2q, e2⟩ := hQ2
      have N2 := Fr.app N1 N2q
      refine hG _ _ (fun t₀ k₀ => st2.trans k₀) ?_
      show G (T2.setTop (mkF m 254 #[.val (.long p1), .second, .val (.long p2), .second, .val (.long p3), .second, .val (.int p4), .val (.int p5), .val (.long p6), .second, .val (.int sl), .val (.int md), .val (.long od), .second, .val (.long vv), .second, .val (.ref c1), .val (.ref c2), .val (.int ex)] [(.int (1 : Int32))]))
      refine hG _ (T2.setTop (mkF m 262 #[.val (.long p1), .second, .val (.long p2), .second, .val (.long p3), .second, .val (.int p4), .val (.int p5), .val (.long p6), .second, .val (.int sl), .val (.int md), .val (.long od), .second, .val (.long vv), .second, .val (.ref c1), .val (.ref c2), .val (.int ex)] [(.int (1 : Int32))])) (fun t₀ k₀ => ?_) ?_
      · show Steps p.tables e below (T2.setTop (mkF m 254 #[.val (.long p1), .second, .val (.long p2), .second, .val (.long p3), .second, .val (.int p4), .val (.int p5), .val (.long p6), .second, .val (.int sl), .val (.int md), .val (.long od), .second, .val (.long vv), .second, .val (.ref c1), .val (.ref c2), .val (.int ex)] [(.int (1 : Int32))])) t₀
        refine XS.ifNo X2.here hx rfl (hb hby at_254) rfl ((if0 _ _).trans (feq (by decide : ¬ ((1 : Int32) = (0 : Int32)))).1) ?_
        show Steps p.tables e below (T2.setTop (mkF m 257 #[.val (.long p1), .second, .val (.long p2), .second, .val (.long p3), .second, .val (.int p4), .val (.int p5), .val (.long p6), .second, .val (.int sl), .val (.int md), .val (.long od), .second, .val (.long vv), .second, .val (.ref c1), .val (.ref c2), .val (.int ex)] [])) t₀
        refine XS.iconst X2.here hx rfl (hb hby at_257) ?_
        show Steps p.tables e below (T2.setTop (mkF m 258 #[.val (.long p1), .second, .val (.long p2), .second, .val (.long p3), .second, .val (.int p4), .val (.int p5), .val (.long p6), .second, .val (.int sl), .val (.int md), .val (.long od), .second, .val (.long vv), .second, .val (.ref c1), .val (.ref c2), .val (.int ex)] [(.int (1 : Int32))])) t₀
        refine XS.goto X2.here hx rfl (pc0 := 258) (pc' := 262) rfl (hb hby at_258) (by decide) (by decide) ?_
        exact k₀
      refine hF _ T2 _ _ _ (some (.int (1 : Int32))) _ X2 e2 (fun h => by rw [hrt] at h; cases h) (by decide) (by decide) ?_ (fun fs hr => retN X2 hx (t := .boolean) hrt (by simp) (hb hby at_262) hr)
      exact ⟨rfl, N2⟩
    ·
      refine hG _ (TT.setTop (mkF m 266 #[.val (.long p1), .second, .val (.long p2), .second, .val (.long p3), .second, .val (.int p4), .val (.int p5), .val (.long p6), .second, .val (.int sl), .val (.int md), .val (.long od), .second, .val (.long vv), .second, .val (.ref c1), .val (.ref c2), .val (.int ex)] [(.int (2 : Int32)), (.int md)])) (fun t₀ k₀ => ?_) ?_
      · show Steps p.tables e below (TT.setTop (mkF m 235 #[.val (.long p1), .second, .val (.long p2), .second, .val (.long p3), .second, .val (.int p4), .val (.int p5), .val (.long p6), .second, .val (.int sl), .val (.int md), .val (.long od), .second, .val (.long vv), .second, .val (.ref c1), .val (.ref c2), .val (.int ex)] [(.int (1 : Int32)), (.int md)])) t₀
        refine XS.icmpYes XT.here hx rfl (pc0 := 235) (pc' := 263) rfl (hb hby at_235) rfl (feq hc235).2 (by decide) (by decide) ?_
        show Steps p.tables e below (TT.setTop (mkF m 263 #[.val (.long p1), .second, .val (.long p2), .second, .val (.long p3), .second, .val (.int p4), .val (.int p5), .val (.long p6), .second, .val (.int sl), .val (.int md), .val (.long od), .second, .val (.long vv), .second, .val (.ref c1), .val (.ref c2), .val (.int ex)] [])) t₀
        refine XS.iload XT.here hx rfl (hb hby at_263) rfl ?_
        show Steps p.tables e below (TT.setTop (mkF m 265 #[.val (.long p1), .second, .val (.long p2), .second, .val (.long p3), .second, .val (.int p4), .val (.int p5), .val (.long p6), .second, .val (.int sl), .val (.int md), .val (.long od), .second, .val (.long vv), .second, .val (.ref c1), .val (.ref c2), .val (.int ex)] [(.int md)])) t₀
        refine XS.iconst XT.here hx rfl (hb hby at_265) ?_
        exact k₀
      by_cases hc266 : md = (2 : Int32)
      ·
        refine hG _ (TT.setTop (mkF m 272 #[.val (.long p1), .second, .val (.long p2), .second, .val (.long p3), .second, .val (.int p4), .val (.int p5), .val (.long p6), .second, .val (.int sl), .val (.int md), .val (.long od), .second, .val (.long vv), .second, .val (.ref c1), .val (.ref c2), .val (.int ex)] [(.long p1), (.ref c1)])) (fun t₀ k₀ => ?_) ?_
        · show Steps p.tables e below (TT.setTop (mkF m 266 #[.val (.long p1), .second, .val (.long p2), .second, .val (.long p3), .second, .val (.int p4), .val (.int p5), .val (.long p6), .second, .val (.int sl), .val (.int md), .val (.long od), .second, .val (.long vv), .second, .val (.ref c1), .val (.ref c2), .val (.int ex)] [(.int (2 : Int32)), (.int md)])) t₀
          refine XS.icmpNo XT.here hx rfl (hb hby at_266) rfl (teq hc266).2 ?_
          show Steps p.tables e below (TT.setTop (mkF m 269 #[.val (.long p1), .second, .val (.long p2), .second, .val (.long p3), .second, .val (.int p4), .val (.int p5), .val (.long p6), .second, .val (.int sl), .val (.int md), .val (.long od), .second, .val (.long vv), .second, .val (.ref c1), .val (.ref c2), .val (.int ex)] [])) t₀
          refine XS.aload XT.here hx rfl (hb hby at_269) rfl rfl ?_
          show Steps p.tables e below (TT.setTop (mkF m 271 #[.val (.long p1), .second, .val (.long p2), .second, .val (.long p3), .second, .val (.int p4), .val (.int p5), .val (.long p6), .second, .val (.int sl), .val (.int md), .val (.long od), .second, .val (.long vv), .second, .val (.ref c1), .val (.ref c2), .val (.int ex)] [(.ref c1)])) t₀
          refine XS.lloadN XT.here hx rfl (hb hby at_271) rfl ?_
          exact k₀
        obtain ⟨_, _, ⟨T3, L3, k3, n3⟩, -, X3, ⟨Lc3, hQ3, l3, y3, z3⟩, st3⟩ := Jvm.LawKit.callS XT hx (y := (⟨"java/lang/Long", "valueOf", "(J)Ljava/lang/Long;"⟩ : MethodName)) hown (mvT hZ (hw _ (List.mem_of_getElem? (i := 41) rfl))) (mvT hZ (hw _ (List.mem_of_getElem? (i := 42) rfl))) (mvT hZ (hw _ (List.mem_of_getElem? (i := 43) rfl))) (mvT hZ (hw _ (List.mem_of_getElem? (i := 44) rfl))) (by decide) (backOf (W := 1) (rm6 l Z a0 hw [] p1 wc cl hT n0 zT OT S_cache Ac hsz hel) hZ (hw _ (List.mem_of_getElem? (i := 44) rfl)) (hw _ (List.mem_of_getElem? (i := 43) rfl)) (by decide) (by decide)) (g := (mkF m 272 #[.val (.long p1), .second, .val (.long p2), .second, .val (.long p3), .second, .val (.int p4), .val (.int p5), .val (.long p6), .second, .val (.int sl), .val (.int md), .val (.long od), .second, .val (.long vv), .second, .val (.ref c1), .val (.ref c2), .val (.int ex)] [(.long p1), (.ref c1)])) rfl (by rw [hml]; rfl) (argsL := [(.long p1)]) (rest := [(.ref c1)]) (lenOf pd_4 rfl) rfl (by show 2 * 0 + _ ≤ _; exact Nat.le_of_eq rfl) (hb hby at_272) (fun _ _ => ⟨rfl, eT, (by decide : 2 + 1 ≤ _), (by decide : 16 + 1 ≤ _)⟩)
        dsimp only [Pt.U, Pt.locs, Pt.cells, Pt.slots] at X3 l3 y3 z3 st3 hQ3
        subst l3 y3 z3
        obtain ⟨bx3, rfl, N3q, K3, Eb3⟩ := hQ3
        have N3 := Fr.app NT N3q
        refine hG _ _ (fun t₀ k₀ => st3 _ k₀) ?_
        have z_x3 := Nat.le_trans zT K3.1
        have o_x3 := OT.keep K3 all0
        have ec1_x3 := E1.keep K3
        have ec2_x3 := E2.keep K3
        have fc1_offset_x3 := G0.keep K3 nin0
        have fc2_offset_x3 := H0.keep K3 nin0
        have fc1_numOps_x3 := G1.keep K3 nin0
        have fc2_numOps_x3 := H1.keep K3 nin0
        have fc1_generation_x3 := G2.keep K3 nin0
        have fc2_generation_x3 := H2.keep K3 nin0
        have fc1_minSeqNo_x3 := G3.keep K3 nin0
        have fc2_minSeqNo_x3 := H3.keep K3 nin0
        have fc1_maxSeqNo_x3 := G4.keep K3 nin0
        have fc2_maxSeqNo_x3 := H4.keep K3 nin0
        have fc1_globalCheckpoint_x3 := G5.keep K3 nin0
        have fc2_globalCheckpoint_x3 := H5.keep K3 nin0
        have fc1_minGeneration_x3 := G6.keep K3 nin0
        have fc2_minGeneration_x3 := H6.keep K3 nin0
        have fc1_trimmedAboveSeqNo_x3 := G7.keep K3 nin0
        have fc2_trimmedAboveSeqNo_x3 := H7.keep K3 nin0
        show G (T3.setTop (mkF m 275 #[.val (.long p1), .second, .val (.long p2), .second, .val (.long p3), .second, .val (.int p4), .val (.int p5), .val (.long p6), .second, .val (.int sl), .val (.int md), .val (.long od), .second, .val (.long vv), .second, .val (.ref c1), .val (.ref c2), .val (.int ex)] [(.ref bx3), (.ref c1)]))
        obtain ⟨cq4, kq4, q4a, q4b, q4c⟩ := isOf hZ rfl ec1_x3
        obtain ⟨_, _, ⟨T4, L4, k4, n4⟩, -, X4, ⟨Lc4, hQ4, l4, y4, z4⟩, st4⟩ := X3.virtualBack hx (y := (⟨"com/example/opledger/opledger/Checkpoint", "equals", "(Ljava/lang/Object;)Z"⟩ : MethodName)) (z := (⟨"com/example/opledger/opledger/Checkpoint", "equals", "(Ljava/lang/Object;)Z"⟩ : MethodName)) hown (mvT hZ (hw _ (List.mem_of_getElem? (i := 34) rfl))) (mvT hZ (hw _ (List.mem_of_getElem? (i := 35) rfl))) (notFace_of_selects (args := #[]) (mvT hZ (hw _ (List.mem_of_getElem? (i := 37) rfl)))) (mvT hZ (hw _ (List.mem_of_getElem? (i := 37) rfl))) (mvT hZ (hw _ (List.mem_of_getElem? (i := 36) rfl))) (by decide) (backOf (W := 0) (rmI l Z a0 hw [] c1 bx3 T3.heap n0 z_x3 Eb3) hZ (hw _ (List.mem_of_getElem? (i := 38) rfl)) (hw _ (List.mem_of_getElem? (i := 6) rfl)) (by decide) (by decide)) q4a q4c (g := (mkF m 275 #[.val (.long p1), .second, .val (.long p2), .second, .val (.long p3), .second, .val (.int p4), .val (.int p5), .val (.long p6), .second, .val (.int sl), .val (.int md), .val (.long od), .second, .val (.long vv), .second, .val (.ref c1), .val (.ref c2), .val (.int ex)] [(.ref bx3), (.ref c1)])) rfl (by rw [hml]; rfl) (Steps.refl _) (argsL := [(.ref bx3)]) (rest := []) (lenOf pd_3 rfl) rfl (by show 2 * 0 + _ ≤ _; exact Nat.le_of_eq rfl) (hb hby at_275) (fun _ _ => ⟨rfl, rfl, (by decide : 3 + 0 ≤ _), (by decide : 17 + 0 ≤ _)⟩)
        dsimp only [Pt.U, Pt.locs, Pt.cells, Pt.slots] at X4 l4 y4 z4 st4 hQ4
        subst l4 y4 z4
        obtain ⟨rfl, N4q, e4⟩ := hQ4
        have N4 := Fr.app N3 N4q
        refine hG _ _ (fun t₀ k₀ => st4.trans k₀) ?_
        show G (T4.setTop (mkF m 278 #[.val (.long p1), .second, .val (.long p2), .second, .val (.long p3), .second, .val (.int p4), .val (.int p5), .val (.long p6), .second, .val (.int sl), .val (.int md), .val (.long od), .second, .val (.long vv), .second, .val (.ref c1), .val (.ref c2), .val (.int ex)] [(.int (0 : Int32))]))
        refine hG _ (T4.setTop (mkF m 286 #[.val (.long p1), .second, .val (.long p2), .second, .val (.long p3), .second, .val (.int p4), .val (.int p5), .val (.long p6), .second, .val (.int sl), .val (.int md), .val (.long od), .second, .val (.long vv), .second, .val (.ref c1), .val (.ref c2), .val (.int ex)] [(.int (1 : Int32))])) (fun t₀ k₀ => ?_) ?_
        · show Steps p.tables e below (T4.setTop (mkF m 278 #[.val (.long p1), .second, .val (.long p2), .second, .val (.long p3), .second, .val (.int p4), .val (.int p5), .val (.long p6), .second, .val (.int sl), .val (.int md), .val (.long od), .second, .val (.long vv), .second, .val (.ref c1), .val (.ref c2), .val (.int ex)] [(.int (0 : Int32))])) t₀
          refine XS.ifNo X4.here hx rfl (hb hby at_278) rfl ((if0 _ _).trans (teq (by decide : ((0 : Int32) = (0 : Int32)))).2) ?_
          show Steps p.tables e below (T4.setTop (mkF m 281 #[.val (.long p1), .second, .val (.long p2), .second, .val (.long p3), .second, .val (.int p4), .val (.int p5), .val (.long p6), .second, .val (.int sl), .val (.int md), .val (.long od), .second, .val (.long vv), .second, .val (.ref c1), .val (.ref c2), .val (.int ex)] [])) t₀
          refine XS.iconst X4.here hx rfl (hb hby at_281) ?_
          show Steps p.tables e below (T4.setTop (mkF m 282 #[.val (.long p1), .second, .val (.long p2), .second, .val (.long p3), .second, .val (.int p4), .val (.int p5), .val (.long p6), .second, .val (.int sl), .val (.int md), .val (.long od), .second, .val (.long vv), .second, .val (.ref c1), .val (.ref c2), .val (.int ex)] [(.int (1 : Int32))])) t₀
          refine XS.goto X4.here hx rfl (pc0 := 282) (pc' := 286) rfl (hb hby at_282) (by decide) (by decide) ?_
          exact k₀
        refine hF _ T4 _ _ _ (some (.int (1 : Int32))) _ X4 e4 (fun h => by rw [hrt] at h; cases h) (by decide) (by decide) ?_ (fun fs hr => retN X4 hx (t := .boolean) hrt (by simp) (hb hby at_286) hr)
        exact ⟨rfl, N4⟩
      ·
        refine hG _ (TT.setTop (mkF m 290 #[.val (.long p1), .second, .val (.long p2), .second, .val (.long p3), .second, .val (.int p4), .val (.int p5), .val (.long p6), .second, .val (.int sl), .val (.int md), .val (.long od), .second, .val (.long vv), .second, .val (.ref c1), .val (.ref c2), .val (.int ex)] [(.int (3 : Int32)), (.int md)])) (fun t₀ k₀ => ?_) ?_
        · show Steps p.tables e below (TT.setTop (mkF m 266 #[.val (.long p1), .second, .val (.long p2), .second, .val (.long p3), .second, .val (.int p4), .val (.int p5), .val (.long p6), .second, .val (.int sl), .val (.int md), .val (.long od), .second, .val (.long vv), .second, .val (.ref c1), .val (.ref c2), .val (.int ex)] [(.int (2 : Int32)), (.int md)])) t₀
          refine XS.icmpYes XT.here hx rfl (pc0 := 266) (pc' := 287) rfl (hb hby at_266) rfl (feq hc266).2 (by decide) (by decide) ?_
          show Steps p.tables e below (TT.setTop (mkF m 287 #[.val (.long p1), .second, .val (.long p2), .second, .val (.long p3), .second, .val (.int p4), .val (.int p5), .val (.long p6), .second, .val (.int sl), .val (.int md), .val (.long od), .second, .val (.long vv), .second, .val (.ref c1), .val (.ref c2), .val (.int ex)] [])) t₀
          refine XS.iload XT.here hx rfl (hb hby at_287) rfl ?_
          show Steps p.tables e below (TT.setTop (mkF m 289 #[.val (.long p1), .second, .val (.long p2), .second, .val (.long p3), .second, .val (.int p4), .val (.int p5), .val (.long p6), .second, .val (.int sl), .val (.int md), .val (.long od), .second, .val (.long vv), .second, .val (.ref c1), .val (.ref c2), .val (.int ex)] [(.int md)])) t₀
          refine XS.iconst XT.here hx rfl (hb hby at_289) ?_
          exact k₀
        by_cases hc290 : md = (3 : Int32)
        ·
          refine hG _ (TT.setTop (mkF m 297 #[.val (.long p1), .second, .val (.long p2), .second, .val (.long p3), .second, .val (.int p4), .val (.int p5), .val (.long p6), .second, .val (.int sl), .val (.int md), .val (.long od), .second, .val (.long vv), .second, .val (.ref c1), .val (.ref c2), .val (.int ex)] [(.ref c1), (.ref c2)])) (fun t₀ k₀ => ?_) ?_
          · show Steps p.tables e below (TT.setTop (mkF m 290 #[.val (.long p1), .second, .val (.long p2), .second, .val (.long p3), .second, .val (.int p4), .val (.int p5), .val (.long p6), .second, .val (.int sl), .val (.int md), .val (.long od), .second, .val (.long vv), .second, .val (.ref c1), .val (.ref c2), .val (.int ex)] [(.int (3 : Int32)), (.int md)])) t₀
            refine XS.icmpNo XT.here hx rfl (hb hby at_290) rfl (teq hc290).2 ?_
            show Steps p.tables e below (TT.setTop (mkF m 293 #[.val (.long p1), .second, .val (.long p2), .second, .val (.long p3), .second, .val (.int p4), .val (.int p5), .val (.long p6), .second, .val (.int sl), .val (.int md), .val (.long od), .second, .val (.long vv), .second, .val (.ref c1), .val (.ref c2), .val (.int ex)] [])) t₀
            refine XS.aload XT.here hx rfl (hb hby at_293) rfl rfl ?_
            show Steps p.tables e below (TT.setTop (mkF m 295 #[.val (.long p1), .second, .val (.long p2), .second, .val (.long p3), .second, .val (.int p4), .val (.int p5), .val (.long p6), .second, .val (.int sl), .val (.int md), .val (.long od), .second, .val (.long vv), .second, .val (.ref c1), .val (.ref c2), .val (.int ex)] [(.ref c2)])) t₀
            refine XS.aload XT.here hx rfl (hb hby at_295) rfl rfl ?_
            exact k₀
          obtain ⟨cq5, kq5, q5a, q5b, q5c⟩ := isOf hZ eT E2
          obtain ⟨_, _, ⟨T5, L5, k5, n5⟩, -, X5, ⟨Lc5, hQ5, l5, y5, z5⟩, st5⟩ := XT.virtualBack hx (y := (⟨"com/example/opledger/opledger/Checkpoint", "equals", "(Ljava/lang/Object;)Z"⟩ : MethodName)) (z := (⟨"com/example/opledger/opledger/Checkpoint", "equals", "(Ljava/lang/Object;)Z"⟩ : MethodName)) hown (mvT hZ (hw _ (List.mem_of_getElem? (i := 34) rfl))) (mvT hZ (hw _ (List.mem_of_getElem? (i := 35) rfl))) (notFace_of_selects (args := #[]) (mvT hZ (hw _ (List.mem_of_getElem? (i := 37) rfl)))) (mvT hZ (hw _ (List.mem_of_getElem? (i := 37) rfl))) (mvT hZ (hw _ (List.mem_of_getElem? (i := 36) rfl))) (by decide) (backOf (W := 0) (rmE l Z a0 hw [] c2 c1 y0 y1 y2 y3 y4 y5 y6 y7 p1 p4 p2 p3 (p1 ^^^ p2) (p2 ^^^ p3) (p1 + p3) (p2 - p3) ex hT n0 zT E1 H0 H1 H2 H3 H4 H5 H6 H7 G0 G1 G2 G3 G4 G5 G6 G7 ((own_ceq_symm y0 y1 y2 y3 y4 y5 y6 y7 p1 p4 p2 p3 (p1 ^^^ p2) (p2 ^^^ p3) (p1 + p3) (p2 - p3)).trans hr)) hZ (hw _ (List.mem_of_getElem? (i := 38) rfl)) (hw _ (List.mem_of_getElem? (i := 6) rfl)) (by decide) (by decide)) q5a q5c (g := (mkF m 297 #[.val (.long p1), .second, .val (.long p2), .second, .val (.long p3), .second, .val (.int p4), .val (.int p5), .val (.long p6), .second, .val (.int sl), .val (.int md), .val (.long od), .second, .val (.long vv), .second, .val (.ref c1), .val (.ref c2), .val (.int ex)] [(.ref c1), (.ref c2)])) rfl (by rw [hml]; rfl) (Steps.refl _) (argsL := [(.ref c1)]) (rest := []) (lenOf pd_3 rfl) rfl (by show 2 * 0 + _ ≤ _; exact Nat.le_of_eq rfl) (hb hby at_297) (fun _ _ => ⟨rfl, eT, (by decide : 2 + 0 ≤ _), (by decide : 16 + 0 ≤ _)⟩)
          dsimp only [Pt.U, Pt.locs, Pt.cells, Pt.slots] at X5 l5 y5 z5 st5 hQ5
          subst l5 y5 z5
          obtain ⟨rfl, N5q, e5⟩ := hQ5
          have N5 := Fr.app NT N5q
          refine hG _ _ (fun t₀ k₀ => st5.trans k₀) ?_
          show G (T5.setTop (mkF m 300 #[.val (.long p1), .second, .val (.long p2), .second, .val (.long p3), .second, .val (.int p4), .val (.int p5), .val (.long p6), .second, .val (.int sl), .val (.int md), .val (.long od), .second, .val (.long vv), .second, .val (.ref c1), .val (.ref c2), .val (.int ex)] [(.int ex)]))
          refine hG _ (T5.setTop (mkF m 310 #[.val (.long p1), .second, .val (.long p2), .second, .val (.long p3), .second, .val (.int p4), .val (.int p5), .val (.long p6), .second, .val (.int sl), .val (.int md), .val (.long od), .second, .val (.long vv), .second, .val (.ref c1), .val (.ref c2), .val (.int ex)] [(.int (1 : Int32))])) (fun t₀ k₀ => ?_) ?_
          · show Steps p.tables e below (T5.setTop (mkF m 300 #[.val (.long p1), .second, .val (.long p2), .second, .val (.long p3), .second, .val (.int p4), .val (.int p5), .val (.long p6), .second, .val (.int sl), .val (.int md), .val (.long od), .second, .val (.long vv), .second, .val (.ref c1), .val (.ref c2), .val (.int ex)] [(.int ex)])) t₀
            refine XS.iload X5.here hx rfl (hb hby at_300) rfl ?_
            show Steps p.tables e below (T5.setTop (mkF m 302 #[.val (.long p1), .second, .val (.long p2), .second, .val (.long p3), .second, .val (.int p4), .val (.int p5), .val (.long p6), .second, .val (.int sl), .val (.int md), .val (.long od), .second, .val (.long vv), .second, .val (.ref c1), .val (.ref c2), .val (.int ex)] [(.int ex), (.int ex)])) t₀
            refine XS.icmpNo X5.here hx rfl (hb hby at_302) rfl (teq rfl).2 ?_
            show Steps p.tables e below (T5.setTop (mkF m 305 #[.val (.long p1), .second, .val (.long p2), .second, .val (.long p3), .second, .val (.int p4), .val (.int p5), .val (.long p6), .second, .val (.int sl), .val (.int md), .val (.long od), .second, .val (.long vv), .second, .val (.ref c1), .val (.ref c2), .val (.int ex)] [])) t₀
            refine XS.iconst X5.here hx rfl (hb hby at_305) ?_
            show Steps p.tables e below (T5.setTop (mkF m 306 #[.val (.long p1), .second, .val (.long p2), .second, .val (.long p3), .second, .val (.int p4), .val (.int p5), .val (.long p6), .second, .val (.int sl), .val (.int md), .val (.long od), .second, .val (.long vv), .second, .val (.ref c1), .val (.ref c2), .val (.int ex)] [(.int (1 : Int32))])) t₀
            refine XS.goto X5.here hx rfl (pc0 := 306) (pc' := 310) rfl (hb hby at_306) (by decide) (by decide) ?_
            exact k₀
          refine hF _ T5 _ _ _ (some (.int (1 : Int32))) _ X5 e5 (fun h => by rw [hrt] at h; cases h) (by decide) (by decide) ?_ (fun fs hr => retN X5 hx (t := .boolean) hrt (by simp) (hb hby at_310) hr)
          exact ⟨rfl, N5⟩
        ·
          refine hG _ (TT.setTop (mkF m 315 #[.val (.long p1), .second, .val (.long p2), .second, .val (.long p3), .second, .val (.int p4), .val (.int p5), .val (.long p6), .second, .val (.int sl), .val (.int md), .val (.long od), .second, .val (.long vv), .second, .val (.ref c1), .val (.ref c2), .val (.int ex)] [(.ref c2), (.ref c1)])) (fun t₀ k₀ => ?_) ?_
          · show Steps p.tables e below (TT.setTop (mkF m 290 #[.val (.long p1), .second, .val (.long p2), .second, .val (.long p3), .second, .val (.int p4), .val (.int p5), .val (.long p6), .second, .val (.int sl), .val (.int md), .val (.long od), .second, .val (.long vv), .second, .val (.ref c1), .val (.ref c2), .val (.int ex)] [(.int (3 : Int32)), (.int md)])) t₀
            refine XS.icmpYes XT.here hx rfl (pc0 := 290) (pc' := 311) rfl (hb hby at_290) rfl (feq hc290).2 (by decide) (by decide) ?_
            show Steps p.tables e below (TT.setTop (mkF m 311 #[.val (.long p1), .second, .val (.long p2), .second, .val (.long p3), .second, .val (.int p4), .val (.int p5), .val (.long p6), .second, .val (.int sl), .val (.int md), .val (.long od), .second, .val (.long vv), .second, .val (.ref c1), .val (.ref c2), .val (.int ex)] [])) t₀
            refine XS.aload XT.here hx rfl (hb hby at_311) rfl rfl ?_
            show Steps p.tables e below (TT.setTop (mkF m 313 #[.val (.long p1), .second, .val (.long p2), .second, .val (.long p3), .second, .val (.int p4), .val (.int p5), .val (.long p6), .second, .val (.int sl), .val (.int md), .val (.long od), .second, .val (.long vv), .second, .val (.ref c1), .val (.ref c2), .val (.int ex)] [(.ref c1)])) t₀
            refine XS.aload XT.here hx rfl (hb hby at_313) rfl rfl ?_
            exact k₀
          obtain ⟨cq6, kq6, q6a, q6b, q6c⟩ := isOf hZ eT E1
          obtain ⟨_, _, ⟨T6, L6, k6, n6⟩, -, X6, ⟨Lc6, hQ6, l6, y6, z6⟩, st6⟩ := XT.virtualBack hx (y := (⟨"com/example/opledger/opledger/Checkpoint", "equals", "(Ljava/lang/Object;)Z"⟩ : MethodName)) (z := (⟨"com/example/opledger/opledger/Checkpoint", "equals", "(Ljava/lang/Object;)Z"⟩ : MethodName)) hown (mvT hZ (hw _ (List.mem_of_getElem? (i := 34) rfl))) (mvT hZ (hw _ (List.mem_of_getElem? (i := 35) rfl))) (notFace_of_selects (args := #[]) (mvT hZ (hw _ (List.mem_of_getElem? (i := 37) rfl)))) (mvT hZ (hw _ (List.mem_of_getElem? (i := 37) rfl))) (mvT hZ (hw _ (List.mem_of_getElem? (i := 36) rfl))) (by decide) (backOf (W := 0) (rmE l Z a0 hw [] c1 c2 p1 p4 p2 p3 (p1 ^^^ p2) (p2 ^^^ p3) (p1 + p3) (p2 - p3) y0 y1 y2 y3 y4 y5 y6 y7 ex hT n0 zT E2 G0 G1 G2 G3 G4 G5 G6 G7 H0 H1 H2 H3 H4 H5 H6 H7 hr) hZ (hw _ (List.mem_of_getElem? (i := 38) rfl)) (hw _ (List.mem_of_getElem? (i := 6) rfl)) (by decide) (by decide)) q6a q6c (g := (mkF m 315 #[.val (.long p1), .second, .val (.long p2), .second, .val (.long p3), .second, .val (.int p4), .val (.int p5), .val (.long p6), .second, .val (.int sl), .val (.int md), .val (.long od), .second, .val (.long vv), .second, .val (.ref c1), .val (.ref c2), .val (.int ex)] [(.ref c2), (.ref c1)])) rfl (by rw [hml]; rfl) (Steps.refl _) (argsL := [(.ref c2)]) (rest := []) (lenOf pd_3 rfl) rfl (by show 2 * 0 + _ ≤ _; exact Nat.le_of_eq rfl) (hb hby at_315) (fun _ _ => ⟨rfl, eT, (by decide : 2 + 0 ≤ _), (by decide : 16 + 0 ≤ _)⟩)
          dsimp only [Pt.U, Pt.locs, Pt.cells, Pt.slots] at X6 l6 y6 z6 st6 hQ6
          subst l6 y6 z6
          obtain ⟨rfl, N6q, e6⟩ := hQ6
          have N6 := Fr.app NT N6q
          refine hG _ _ (fun t₀ k₀ => st6.trans k₀) ?_
          show G (T6.setTop (mkF m 318 #[.val (.long p1), .second, .val (.long p2), .second, .val (.long p3), .second, .val (.int p4), .val (.int p5), .val (.long p6), .second, .val (.int sl), .val (.int md), .val (.long od), .second, .val (.long vv), .second, .val (.ref c1), .val (.ref c2), .val (.int ex)] [(.int ex)]))
          refine hG _ (T6.setTop (mkF m 328 #[.val (.long p1), .second, .val (.long p2), .second, .val (.long p3), .second, .val (.int p4), .val (.int p5), .val (.long p6), .second, .val (.int sl), .val (.int md), .val (.long od), .second, .val (.long vv), .second, .val (.ref c1), .val (.ref c2), .val (.int ex)] [(.int (1 : Int32))])) (fun t₀ k₀ => ?_) ?_
          · show Steps p.tables e below (T6.setTop (mkF m 318 #[.val (.long p1), .second, .val (.long p2), .second, .val (.long p3), .second, .val (.int p4), .val (.int p5), .val (.long p6), .second, .val (.int sl), .val (.int md), .val (.long od), .second, .val (.long vv), .second, .val (.ref c1), .val (.ref c2), .val (.int ex)] [(.int ex)])) t₀
            refine XS.iload X6.here hx rfl (hb hby at_318) rfl ?_
            show Steps p.tables e below (T6.setTop (mkF m 320 #[.val (.long p1), .second, .val (.long p2), .second, .val (.long p3), .second, .val (.int p4), .val (.int p5), .val (.long p6), .second, .val (.int sl), .val (.int md), .val (.long od), .second, .val (.long vv), .second, .val (.ref c1), .val (.ref c2), .val (.int ex)] [(.int ex), (.int ex)])) t₀
            refine XS.icmpNo X6.here hx rfl (hb hby at_320) rfl (teq rfl).2 ?_
            show Steps p.tables e below (T6.setTop (mkF m 323 #[.val (.long p1), .second, .val (.long p2), .second, .val (.long p3), .second, .val (.int p4), .val (.int p5), .val (.long p6), .second, .val (.int sl), .val (.int md), .val (.long od), .second, .val (.long vv), .second, .val (.ref c1), .val (.ref c2), .val (.int ex)] [])) t₀
            refine XS.iconst X6.here hx rfl (hb hby at_323) ?_
            show Steps p.tables e below (T6.setTop (mkF m 324 #[.val (.long p1), .second, .val (.long p2), .second, .val (.long p3), .second, .val (.int p4), .val (.int p5), .val (.long p6), .second, .val (.int sl), .val (.int md), .val (.long od), .second, .val (.long vv), .second, .val (.ref c1), .val (.ref c2), .val (.int ex)] [(.int (1 : Int32))])) t₀
            refine XS.goto X6.here hx rfl (pc0 := 324) (pc' := 328) rfl (hb hby at_324) (by decide) (by decide) ?_
            exact k₀
          refine hF _ T6 _ _ _ (some (.int (1 : Int32))) _ X6 e6 (fun h => by rw [hrt] at h; cases h) (by decide) (by decide) ?_ (fun fs hr => retN X6 hx (t := .boolean) hrt (by simp) (hb hby at_328) hr)
          exact ⟨rfl, N6⟩
  refine hG _ (s₁.setTop (mkF m 15 #[.val (.long p1), .second, .val (.long p2), .second, .val (.long p3), .second, .val (.int p4), .val (.int p5), .val (.long p6), .second, .val (.int (p5 &&& (7 : Int32))), .val (.int (((p5.toUInt32 >>> ((3 : Int32) &&& 31).toUInt32).toInt32) &&& (3 : Int32))), .unset, .unset, .unset, .unset, .unset, .unset, .unset] [])) (fun t₀ k₀ => ?_) ?_
  · show Steps p.tables e below (s₁.setTop (mkF m 0 #[.val (.long p1), .second, .val (.long p2), .second, .val (.long p3), .second, .val (.int p4), .val (.int p5), .val (.long p6), .second, .unset, .unset, .unset, .unset, .unset, .unset, .unset, .unset, .unset] [])) t₀
    refine XS.iload X0.here hx rfl (hb hby at_0) rfl ?_
    show Steps p.tables e below (s₁.setTop (mkF m 2 #[.val (.long p1), .second, .val (.long p2), .second, .val (.long p3), .second, .val (.int p4), .val (.int p5), .val (.long p6), .second, .unset, .unset, .unset, .unset, .unset, .unset, .unset, .unset, .unset] [(.int p5)])) t₀
    refine XS.bipush X0.here hx rfl (hb hby at_2) ?_
    show Steps p.tables e below (s₁.setTop (mkF m 4 #[.val (.long p1), .second, .val (.long p2), .second, .val (.long p3), .second, .val (.int p4), .val (.int p5), .val (.long p6), .second, .unset, .unset, .unset, .unset, .unset, .unset, .unset, .unset, .unset] [(.int (7 : Int32)), (.int p5)])) t₀
    refine XS.iand X0.here hx rfl (hb hby at_4) rfl ?_
    show Steps p.tables e below (s₁.setTop (mkF m 5 #[.val (.long p1), .second, .val (.long p2), .second, .val (.long p3), .second, .val (.int p4), .val (.int p5), .val (.long p6), .second, .unset, .unset, .unset, .unset, .unset, .unset, .unset, .unset, .unset] [(.int (p5 &&& (7 : Int32)))])) t₀
    refine XS.istore X0.here hx rfl (hb hby at_5) rfl (l' := #[.val (.long p1), .second, .val (.long p2), .second, .val (.long p3), .second, .val (.int p4), .val (.int p5), .val (.long p6), .second, .val (.int (p5 &&& (7 : Int32))), .unset, .unset, .unset, .unset, .unset, .unset, .unset, .unset]) rfl ?_
    show Steps p.tables e below (s₁.setTop (mkF m 7 #[.val (.long p1), .second, .val (.long p2), .second, .val (.long p3), .second, .val (.int p4), .val (.int p5), .val (.long p6), .second, .val (.int (p5 &&& (7 : Int32))), .unset, .unset, .unset, .unset, .unset, .unset, .unset, .unset] [])) t₀
    refine XS.iload X0.here hx rfl (hb hby at_7) rfl ?_
    show Steps p.tables e below (s₁.setTop (mkF m 9 #[.val (.long p1), .second, .val (.long p2), .second, .val (.long p3), .second, .val (.int p4), .val (.int p5), .val (.long p6), .second, .val (.int (p5 &&& (7 : Int32))), .unset, .unset, .unset, .unset, .unset, .unset, .unset, .unset] [(.int p5)])) t₀
    refine XS.iconst X0.here hx rfl (hb hby at_9) ?_
    show Steps p.tables e below (s₁.setTop (mkF m 10 #[.val (.long p1), .second, .val (.long p2), .second, .val (.long p3), .second, .val (.int p4), .val (.int p5), .val (.long p6), .second, .val (.int (p5 &&& (7 : Int32))), .unset, .unset, .unset, .unset, .unset, .unset, .unset, .unset] [(.int (3 : Int32)), (.int p5)])) t₀
    refine XS.iushr X0.here hx rfl (hb hby at_10) rfl ?_
    show Steps p.tables e below (s₁.setTop (mkF m 11 #[.val (.long p1), .second, .val (.long p2), .second, .val (.long p3), .second, .val (.int p4), .val (.int p5), .val (.long p6), .second, .val (.int (p5 &&& (7 : Int32))), .unset, .unset, .unset, .unset, .unset, .unset, .unset, .unset] [(.int ((p5.toUInt32 >>> ((3 : Int32) &&& 31).toUInt32).toInt32))])) t₀
    refine XS.iconst X0.here hx rfl (hb hby at_11) ?_
    show Steps p.tables e below (s₁.setTop (mkF m 12 #[.val (.long p1), .second, .val (.long p2), .second, .val (.long p3), .second, .val (.int p4), .val (.int p5), .val (.long p6), .second, .val (.int (p5 &&& (7 : Int32))), .unset, .unset, .unset, .unset, .unset, .unset, .unset, .unset] [(.int (3 : Int32)), (.int ((p5.toUInt32 >>> ((3 : Int32) &&& 31).toUInt32).toInt32))])) t₀
    refine XS.iand X0.here hx rfl (hb hby at_12) rfl ?_
    show Steps p.tables e below (s₁.setTop (mkF m 13 #[.val (.long p1), .second, .val (.long p2), .second, .val (.long p3), .second, .val (.int p4), .val (.int p5), .val (.long p6), .second, .val (.int (p5 &&& (7 : Int32))), .unset, .unset, .unset, .unset, .unset, .unset, .unset, .unset] [(.int (((p5.toUInt32 >>> ((3 : Int32) &&& 31).toUInt32).toInt32) &&& (3 : Int32)))])) t₀
    refine XS.istore X0.here hx rfl (hb hby at_13) rfl (l' := #[.val (.long p1), .second, .val (.long p2), .second, .val (.long p3), .second, .val (.int p4), .val (.int p5), .val (.long p6), .second, .val (.int (p5 &&& (7 : Int32))), .val (.int (((p5.toUInt32 >>> ((3 : Int32) &&& 31).toUInt32).toInt32) &&& (3 : Int32))), .unset, .unset, .unset, .unset, .unset, .unset, .unset]) rfl ?_
    exact k₀
  obtain ⟨sl, hsl⟩ : ∃ z, z = (p5 &&& (7 : Int32)) := ⟨_, rfl⟩
  rw [← hsl]
  show G (s₁.setTop (mkF m 15 #[.val (.long p1), .second, .val (.long p2), .second, .val (.long p3), .second, .val (.int p4), .val (.int p5), .val (.long p6), .second, .val (.int sl), .val (.int (((p5.toUInt32 >>> ((3 : Int32) &&& 31).toUInt32).toInt32) &&& (3 : Int32))), .unset, .unset, .unset, .unset, .unset, .unset, .unset] []))
  obtain ⟨md, hmd⟩ : ∃ z, z = (((p5.toUInt32 >>> ((3 : Int32) &&& 31).toUInt32).toInt32) &&& (3 : Int32)) := ⟨_, rfl⟩
  rw [← hmd]
  show G (s₁.setTop (mkF m 15 #[.val (.long p1), .second, .val (.long p2), .second, .val (.long p3), .second, .val (.int p4), .val (.int p5), .val (.long p6), .second, .val (.int sl), .val (.int md), .unset, .unset, .unset, .unset, .unset, .unset, .unset] []))
  refine hG _ (s₁.setTop (mkF m 23 #[.val (.long p1), .second, .val (.long p2), .second, .val (.long p3), .second, .val (.int p4), .val (.int p5), .val (.long p6), .second, .val (.int sl), .val (.int md), .unset, .unset, .unset, .unset, .unset, .unset, .unset] [(.int p4), (.long p3), (.long p2), (.long p1), (.int sl)])) (fun t₀ k₀ => ?_) ?_
  · show Steps p.tables e below (s₁.setTop (mkF m 15 #[.val (.long p1), .second, .val (.long p2), .second, .val (.long p3), .second, .val (.int p4), .val (.int p5), .val (.long p6), .second, .val (.int sl), .val (.int md), .unset, .unset, .unset, .unset, .unset, .unset, .unset] [])) t₀
    refine XS.iload X0.here hx rfl (hb hby at_15) rfl ?_
    show Steps p.tables e below (s₁.setTop (mkF m 17 #[.val (.long p1), .second, .val (.long p2), .second, .val (.long p3), .second, .val (.int p4), .val (.int p5), .val (.long p6), .second, .val (.int sl), .val (.int md), .unset, .unset, .unset, .unset, .unset, .unset, .unset] [(.int sl)])) t₀
    refine XS.lloadN X0.here hx rfl (hb hby at_17) rfl ?_
    show Steps p.tables e below (s₁.setTop (mkF m 18 #[.val (.long p1), .second, .val (.long p2), .second, .val (.long p3), .second, .val (.int p4), .val (.int p5), .val (.long p6), .second, .val (.int sl), .val (.int md), .unset, .unset, .unset, .unset, .unset, .unset, .unset] [(.long p1), (.int sl)])) t₀
    refine XS.lloadN X0.here hx rfl (hb hby at_18) rfl ?_
    show Steps p.tables e below (s₁.setTop (mkF m 19 #[.val (.long p1), .second, .val (.long p2), .second, .val (.long p3), .second, .val (.int p4), .val (.int p5), .val (.long p6), .second, .val (.int sl), .val (.int md), .unset, .unset, .unset, .unset, .unset, .unset, .unset] [(.long p2), (.long p1), (.int sl)])) t₀
    refine XS.lload X0.here hx rfl (hb hby at_19) rfl ?_
    show Steps p.tables e below (s₁.setTop (mkF m 21 #[.val (.long p1), .second, .val (.long p2), .second, .val (.long p3), .second, .val (.int p4), .val (.int p5), .val (.long p6), .second, .val (.int sl), .val (.int md), .unset, .unset, .unset, .unset, .unset, .unset, .unset] [(.long p3), (.long p2), (.long p1), (.int sl)])) t₀
    refine XS.iload X0.here hx rfl (hb hby at_21) rfl ?_
    exact k₀
  obtain ⟨_, _, ⟨T7, L7, k7, n7⟩, -, X7, ⟨Lc7, hQ7, l7, y7, z7⟩, st7⟩ := Jvm.LawKit.callS X0 hx (y := (⟨"com/example/opledger/opledger/CheckpointEqualsPinLaw", "oldValue", "(IJJJI)J"⟩ : MethodName)) hown (mvT hZ (hw _ (List.mem_of_getElem? (i := 0) rfl))) (mvT hZ (hw _ (List.mem_of_getElem? (i := 1) rfl))) (mvT hZ (hw _ (List.mem_of_getElem? (i := 2) rfl))) (mvT hZ (hw _ (List.mem_of_getElem? (i := 3) rfl))) (by decide) (backOf (W := 0) (rmV l Z a0 hw [] sl p1 p2 p3 p4 h0 n0 Z0) hZ (hw _ (List.mem_of_getElem? (i := 3) rfl)) (hw _ (List.mem_of_getElem? (i := 2) rfl)) (by decide) (by decide)) (g := (mkF m 23 #[.val (.long p1), .second, .val (.long p2), .second, .val (.long p3), .second, .val (.int p4), .val (.int p5), .val (.long p6), .second, .val (.int sl), .val (.int md), .unset, .unset, .unset, .unset, .unset, .unset, .unset] [(.int p4), (.long p3), (.long p2), (.long p1), (.int sl)])) rfl (by rw [hml]; rfl) (argsL := [(.int sl), (.long p1), (.long p2), (.long p3), (.int p4)]) (rest := []) (lenOf pd_0 rfl) rfl (by show 2 * 0 + _ ≤ _; exact Nat.le_of_eq rfl) (hb hby at_23) (fun _ _ => ⟨rfl, e0, (by decide : 0 + 0 ≤ _), (by decide : 0 + 0 ≤ _)⟩)
  dsimp only [Pt.U, Pt.locs, Pt.cells, Pt.slots] at X7 l7 y7 z7 st7 hQ7
  subst l7 y7 z7
  obtain ⟨rfl, N7q, e7⟩ := hQ7
  have N7 := Fr.app N0 N7q
  refine hG _ _ (fun t₀ k₀ => st7 _ k₀) ?_
  show G (T7.setTop (mkF m 26 #[.val (.long p1), .second, .val (.long p2), .second, .val (.long p3), .second, .val (.int p4), .val (.int p5), .val (.long p6), .second, .val (.int sl), .val (.int md), .unset, .unset, .unset, .unset, .unset, .unset, .unset] [(.long (own_old sl p1 p2 p3 p4))]))
  obtain ⟨od, hod⟩ : ∃ z, z = (own_old sl p1 p2 p3 p4) := ⟨_, rfl⟩
  rw [← hod]
  show G (T7.setTop (mkF m 26 #[.val (.long p1), .second, .val (.long p2), .second, .val (.long p3), .second, .val (.int p4), .val (.int p5), .val (.long p6), .second, .val (.int sl), .val (.int md), .unset, .unset, .unset, .unset, .unset, .unset, .unset] [(.long od)]))
  refine hG _ (T7.setTop (mkF m 28 #[.val (.long p1), .second, .val (.long p2), .second, .val (.long p3), .second, .val (.int p4), .val (.int p5), .val (.long p6), .second, .val (.int sl), .val (.int md), .val (.long od), .second, .unset, .unset, .unset, .unset, .unset] [])) (fun t₀ k₀ => ?_) ?_
  · show Steps p.tables e below (T7.setTop (mkF m 26 #[.val (.long p1), .second, .val (.long p2), .second, .val (.long p3), .second, .val (.int p4), .val (.int p5), .val (.long p6), .second, .val (.int sl), .val (.int md), .unset, .unset, .unset, .unset, .unset, .unset, .unset] [(.long od)])) t₀
    refine XS.lstore X7.here hx rfl (hb hby at_26) rfl (l' := #[.val (.long p1), .second, .val (.long p2), .second, .val (.long p3), .second, .val (.int p4), .val (.int p5), .val (.long p6), .second, .val (.int sl), .val (.int md), .val (.long od), .second, .unset, .unset, .unset, .unset, .unset]) rfl ?_
    exact k₀
  have tlV : ∀  (vv : Int64), G (T7.setTop (mkF m 45 #[.val (.long p1), .second, .val (.long p2), .second, .val (.long p3), .second, .val (.int p4), .val (.int p5), .val (.long p6), .second, .val (.int sl), .val (.int md), .val (.long od), .second, .val (.long vv), .second, .unset, .unset, .unset] [])) := by
    intro vv
    obtain ⟨T8, h8, X8, e8, E8, A8, D8, -, st8⟩ := newO X7 hx hZ hown (hw _ (List.mem_of_getElem? (i := 4) rfl)) (hw _ (List.mem_of_getElem? (i := 5) rfl)) (hw _ (List.mem_of_getElem? (i := 6) rfl)) e7 (g := (mkF m 45 #[.val (.long p1), .second, .val (.long p2), .second, .val (.long p3), .second, .val (.int p4), .val (.int p5), .val (.long p6), .second, .val (.int sl), .val (.int md), .val (.long od), .second, .val (.long vv), .second, .unset, .unset, .unset] [])) rfl (hb hby at_45) (by decide) (by decide)
    obtain ⟨ob8, g8⟩ : ∃ z, z = h0.size := ⟨_, rfl⟩
    rw [← g8] at A8 D8 st8
    have g_ob8 : n0 ≤ ob8 := Nat.le_trans Z0 (Nat.le_of_eq g8.symm)
    have z_8 : n0 ≤ h8.size := Nat.le_trans Z0 E8.1
    have o_x8 := O0.ext E8
    have F_offset_ob8 : Fld Z h8 ob8 "com/example/opledger/opledger/Checkpoint" "offset" "J" (.long (0 : Int64)) := D8 (Or.inr (hw _ (List.mem_of_getElem? (i := 19) rfl))) (ty := .long) (by decide)
    have F_numOps_ob8 : Fld Z h8 ob8 "com/example/opledger/opledger/Checkpoint" "numOps" "I" (.int (0 : Int32)) := D8 (Or.inr (hw _ (List.mem_of_getElem? (i := 21) rfl))) (ty := .int) (by decide)
    have F_generation_ob8 : Fld Z h8 ob8 "com/example/opledger/opledger/Checkpoint" "generation" "J" (.long (0 : Int64)) := D8 (Or.inr (hw _ (List.mem_of_getElem? (i := 23) rfl))) (ty := .long) (by decide)
    have F_minSeqNo_ob8 : Fld Z h8 ob8 "com/example/opledger/opledger/Checkpoint" "minSeqNo" "J" (.long (0 : Int64)) := D8 (Or.inr (hw _ (List.mem_of_getElem? (i := 25) rfl))) (ty := .long) (by decide)
    have F_maxSeqNo_ob8 : Fld Z h8 ob8 "com/example/opledger/opledger/Checkpoint" "maxSeqNo" "J" (.long (0 : Int64)) := D8 (Or.inr (hw _ (List.mem_of_getElem? (i := 27) rfl))) (ty := .long) (by decide)
    have F_globalCheckpoint_ob8 : Fld Z h8 ob8 "com/example/opledger/opledger/Checkpoint" "globalCheckpoint" "J" (.long (0 : Int64)) := D8 (Or.inr (hw _ (List.mem_of_getElem? (i := 29) rfl))) (ty := .long) (by decide)
    have F_minGeneration_ob8 : Fld Z h8 ob8 "com/example/opledger/opledger/Checkpoint" "minGeneration" "J" (.long (0 : Int64)) := D8 (Or.inr (hw _ (List.mem_of_getElem? (i := 31) rfl))) (ty := .long) (by decide)
    have F_trimmedAboveSeqNo_ob8 : Fld Z h8 ob8 "com/example/opledger/opledger/Checkpoint" "trimmedAboveSeqNo" "J" (.long (0 : Int64)) := D8 (Or.inr (hw _ (List.mem_of_getElem? (i := 33) rfl))) (ty := .long) (by decide)
    refine hG _ _ (fun t₀ k₀ => st8 _ k₀) ?_
    show G (T8.setTop (mkF m 48 #[.val (.long p1), .second, .val (.long p2), .second, .val (.long p3), .second, .val (.int p4), .val (.int p5), .val (.long p6), .second, .val (.int sl), .val (.int md), .val (.long od), .second, .val (.long vv), .second, .unset, .unset, .unset] [(.ref ob8)]))
    refine hG _ (T8.setTop (mkF m 70 #[.val (.long p1), .second, .val (.long p2), .second, .val (.long p3), .second, .val (.int p4), .val (.int p5), .val (.long p6), .second, .val (.int sl), .val (.int md), .val (.long od), .second, .val (.long vv), .second, .unset, .unset, .unset] [(.long (p2 - p3)), (.long (p1 + p3)), (.long (p2 ^^^ p3)), (.long (p1 ^^^ p2)), (.long p3), (.long p2), (.int p4), (.long p1), (.ref ob8), (.ref ob8)])) (fun t₀ k₀ => ?_) ?_
    · show Steps p.tables e below (T8.setTop (mkF m 48 #[.val (.long p1), .second, .val (.long p2), .second, .val (.long p3), .second, .val (.int p4), .val (.int p5), .val (.long p6), .second, .val (.int sl), .val (.int md), .val (.long od), .second, .val (.long vv), .second, .unset, .unset, .unset] [(.ref ob8)])) t₀
      refine XS.dup X8.here hx rfl (hb hby at_48) rfl rfl ?_
      show Steps p.tables e below (T8.setTop (mkF m 49 #[.val (.long p1), .second, .val (.long p2), .second, .val (.long p3), .second, .val (.int p4), .val (.int p5), .val (.long p6), .second, .val (.int sl), .val (.int md), .val (.long od), .second, .val (.long vv), .second, .unset, .unset, .unset] [(.ref ob8), (.ref ob8)])) t₀
      refine XS.lloadN X8.here hx rfl (hb hby at_49) rfl ?_
      show Steps p.tables e below (T8.setTop (mkF m 50 #[.val (.long p1), .second, .val (.long p2), .second, .val (.long p3), .second, .val (.int p4), .val (.int p5), .val (.long p6), .second, .val (.int sl), .val (.int md), .val (.long od), .second, .val (.long vv), .second, .unset, .unset, .unset] [(.long p1), (.ref ob8), (.ref ob8)])) t₀
      refine XS.iload X8.here hx rfl (hb hby at_50) rfl ?_
      show Steps p.tables e below (T8.setTop (mkF m 52 #[.val (.long p1), .second, .val (.long p2), .second, .val (.long p3), .second, .val (.int p4), .val (.int p5), .val (.long p6), .second, .val (.int sl), .val (.int md), .val (.long od), .second, .val (.long vv), .second, .unset, .unset, .unset] [(.int p4), (.long p1), (.ref ob8), (.ref ob8)])) t₀
      refine XS.lloadN X8.here hx rfl (hb hby at_52) rfl ?_
      show Steps p.tables e below (T8.setTop (mkF m 53 #[.val (.long p1), .second, .val (.long p2), .second, .val (.long p3), .second, .val (.int p4), .val (.int p5), .val (.long p6), .second, .val (.int sl), .val (.int md), .val (.long od), .second, .val (.long vv), .second, .unset, .unset, .unset] [(.long p2), (.int p4), (.long p1), (.ref ob8), (.ref ob8)])) t₀
      refine XS.lload X8.here hx rfl (hb hby at_53) rfl ?_
      show Steps p.tables e below (T8.setTop (mkF m 55 #[.val (.long p1), .second, .val (.long p2), .second, .val (.long p3), .second, .val (.int p4), .val (.int p5), .val (.long p6), .second, .val (.int sl), .val (.int md), .val (.long od), .second, .val (.long vv), .second, .unset, .unset, .unset] [(.long p3), (.long p2), (.int p4), (.long p1), (.ref ob8), (.ref ob8)])) t₀
      refine XS.lloadN X8.here hx rfl (hb hby at_55) rfl ?_
      show Steps p.tables e below (T8.setTop (mkF m 56 #[.val (.long p1), .second, .val (.long p2), .second, .val (.long p3), .second, .val (.int p4), .val (.int p5), .val (.long p6), .second, .val (.int sl), .val (.int md), .val (.long od), .second, .val (.long vv), .second, .unset, .unset, .unset] [(.long p1), (.long p3), (.long p2), (.int p4), (.long p1), (.ref ob8), (.ref ob8)])) t₀
      refine XS.lloadN X8.here hx rfl (hb hby at_56) rfl ?_
      show Steps p.tables e below (T8.setTop (mkF m 57 #[.val (.long p1), .second, .val (.long p2), .second, .val (.long p3), .second, .val (.int p4), .val (.int p5), .val (.long p6), .second, .val (.int sl), .val (.int md), .val (.long od), .second, .val (.long vv), .second, .unset, .unset, .unset] [(.long p2), (.long p1), (.long p3), (.long p2), (.int p4), (.long p1), (.ref ob8), (.ref ob8)])) t₀
      refine XS.lxor X8.here hx rfl (hb hby at_57) rfl ?_
      show Steps p.tables e below (T8.setTop (mkF m 58 #[.val (.long p1), .second, .val (.long p2), .second, .val (.long p3), .second, .val (.int p4), .val (.int p5), .val (.long p6), .second, .val (.int sl), .val (.int md), .val (.long od), .second, .val (.long vv), .second, .unset, .unset, .unset] [(.long (p1 ^^^ p2)), (.long p3), (.long p2), (.int p4), (.long p1), (.ref ob8), (.ref ob8)])) t₀
      refine XS.lloadN X8.here hx rfl (hb hby at_58) rfl ?_
      show Steps p.tables e below (T8.setTop (mkF m 59 #[.val (.long p1), .second, .val (.long p2), .second, .val (.long p3), .second, .val (.int p4), .val (.int p5), .val (.long p6), .second, .val (.int sl), .val (.int md), .val (.long od), .second, .val (.long vv), .second, .unset, .unset, .unset] [(.long p2), (.long (p1 ^^^ p2)), (.long p3), (.long p2), (.int p4), (.long p1), (.ref ob8), (.ref ob8)])) t₀
      refine XS.lload X8.here hx rfl (hb hby at_59) rfl ?_
      show Steps p.tables e below (T8.setTop (mkF m 61 #[.val (.long p1), .second, .val (.long p2), .second, .val (.long p3), .second, .val (.int p4), .val (.int p5), .val (.long p6), .second, .val (.int sl), .val (.int md), .val (.long od), .second, .val (.long vv), .second, .unset, .unset, .unset] [(.long p3), (.long p2), (.long (p1 ^^^ p2)), (.long p3), (.long p2), (.int p4), (.long p1), (.ref ob8), (.ref ob8)])) t₀
      refine XS.lxor X8.here hx rfl (hb hby at_61) rfl ?_
      show Steps p.tables e below (T8.setTop (mkF m 62 #[.val (.long p1), .second, .val (.long p2), .second, .val (.long p3), .second, .val (.int p4), .val (.int p5), .val (.long p6), .second, .val (.int sl), .val (.int md), .val (.long od), .second, .val (.long vv), .second, .unset, .unset, .unset] [(.long (p2 ^^^ p3)), (.long (p1 ^^^ p2)), (.long p3), (.long p2), (.int p4), (.long p1), (.ref ob8), (.ref ob8)])) t₀
      refine XS.lloadN X8.here hx rfl (hb hby at_62) rfl ?_
      show Steps p.tables e below (T8.setTop (mkF m 63 #[.val (.long p1), .second, .val (.long p2), .second, .val (.long p3), .second, .val (.int p4), .val (.int p5), .val (.long p6), .second, .val (.int sl), .val (.int md), .val (.long od), .second, .val (.long vv), .second, .unset, .unset, .unset] [(.long p1), (.long (p2 ^^^ p3)), (.long (p1 ^^^ p2)), (.long p3), (.long p2), (.int p4), (.long p1), (.ref ob8), (.ref ob8)])) t₀
      refine XS.lload X8.here hx rfl (hb hby at_63) rfl ?_
      show Steps p.tables e below (T8.setTop (mkF m 65 #[.val (.long p1), .second, .val (.long p2), .second, .val (.long p3), .second, .val (.int p4), .val (.int p5), .val (.long p6), .second, .val (.int sl), .val (.int md), .val (.long od), .second, .val (.long vv), .second, .unset, .unset, .unset] [(.long p3), (.long p1), (.long (p2 ^^^ p3)), (.long (p1 ^^^ p2)), (.long p3), (.long p2), (.int p4), (.long p1), (.ref ob8), (.ref ob8)])) t₀
      refine XS.ladd X8.here hx rfl (hb hby at_65) rfl ?_
      show Steps p.tables e below (T8.setTop (mkF m 66 #[.val (.long p1), .second, .val (.long p2), .second, .val (.long p3), .second, .val (.int p4), .val (.int p5), .val (.long p6), .second, .val (.int sl), .val (.int md), .val (.long od), .second, .val (.long vv), .second, .unset, .unset, .unset] [(.long (p1 + p3)), (.long (p2 ^^^ p3)), (.long (p1 ^^^ p2)), (.long p3), (.long p2), (.int p4), (.long p1), (.ref ob8), (.ref ob8)])) t₀
      refine XS.lloadN X8.here hx rfl (hb hby at_66) rfl ?_
      show Steps p.tables e below (T8.setTop (mkF m 67 #[.val (.long p1), .second, .val (.long p2), .second, .val (.long p3), .second, .val (.int p4), .val (.int p5), .val (.long p6), .second, .val (.int sl), .val (.int md), .val (.long od), .second, .val (.long vv), .second, .unset, .unset, .unset] [(.long p2), (.long (p1 + p3)), (.long (p2 ^^^ p3)), (.long (p1 ^^^ p2)), (.long p3), (.long p2), (.int p4), (.long p1), (.ref ob8), (.ref ob8)])) t₀
      refine XS.lload X8.here hx rfl (hb hby at_67) rfl ?_
      show Steps p.tables e below (T8.setTop (mkF m 69 #[.val (.long p1), .second, .val (.long p2), .second, .val (.long p3), .second, .val (.int p4), .val (.int p5), .val (.long p6), .second, .val (.int sl), .val (.int md), .val (.long od), .second, .val (.long vv), .second, .unset, .unset, .unset] [(.long p3), (.long p2), (.long (p1 + p3)), (.long (p2 ^^^ p3)), (.long (p1 ^^^ p2)), (.long p3), (.long p2), (.int p4), (.long p1), (.ref ob8), (.ref ob8)])) t₀
      refine XS.lsub X8.here hx rfl (hb hby at_69) rfl ?_
      exact k₀
    obtain ⟨_, _, ⟨T9, L9, k9, n9⟩, -, X9, ⟨Lc9, hQ9, l9, y9, z9⟩, st9⟩ := X8.specialBack hx (y := (⟨"com/example/opledger/opledger/Checkpoint", "<init>", "(JIJJJJJJ)V"⟩ : MethodName)) rfl hown (mvT hZ (hw _ (List.mem_of_getElem? (i := 7) rfl))) (mvT hZ (hw _ (List.mem_of_getElem? (i := 8) rfl))) (mvT hZ (hw _ (List.mem_of_getElem? (i := 9) rfl))) (by decide) (backOf (W := 1) (rmC l Z a0 hw [] ob8 p1 p4 p2 p3 (p1 ^^^ p2) (p2 ^^^ p3) (p1 + p3) (p2 - p3) h8 n0 z_8 A8 g_ob8 F_offset_ob8 F_numOps_ob8 F_generation_ob8 F_minSeqNo_ob8 F_maxSeqNo_ob8 F_globalCheckpoint_ob8 F_minGeneration_ob8 F_trimmedAboveSeqNo_ob8) hZ (hw _ (List.mem_of_getElem? (i := 9) rfl)) (hw _ (List.mem_of_getElem? (i := 6) rfl)) (by decide) (by decide)) (g := (mkF m 70 #[.val (.long p1), .second, .val (.long p2), .second, .val (.long p3), .second, .val (.int p4), .val (.int p5), .val (.long p6), .second, .val (.int sl), .val (.int md), .val (.long od), .second, .val (.long vv), .second, .unset, .unset, .unset] [(.long (p2 - p3)), (.long (p1 + p3)), (.long (p2 ^^^ p3)), (.long (p1 ^^^ p2)), (.long p3), (.long p2), (.int p4), (.long p1), (.ref ob8), (.ref ob8)])) rfl (by rw [hml]; rfl) (Steps.refl _) (a := ob8) (argsL := [(.long p1), (.int p4), (.long p2), (.long p3), (.long (p1 ^^^ p2)), (.long (p2 ^^^ p3)), (.long (p1 + p3)), (.long (p2 - p3))]) (rest := [(.ref ob8)]) (lenOf pd_1 rfl) rfl (by show 2 * 0 + _ ≤ _; exact Nat.le_of_eq rfl) (hb hby at_70) (fun _ _ => ⟨rfl, e8, (by decide : 1 + 0 ≤ _), (by decide : 8 + 0 ≤ _)⟩)
    dsimp only [Pt.U, Pt.locs, Pt.cells, Pt.slots] at X9 l9 y9 z9 st9 hQ9
    subst l9 y9 z9
    obtain ⟨rfl, N9q, K9, Q9_0, Q9_1, Q9_2, Q9_3, Q9_4, Q9_5, Q9_6, Q9_7⟩ := hQ9
    have N9 := Fr.app N7 N9q
    refine hG _ _ (fun t₀ k₀ => st9.trans k₀) ?_
    have z_x9 := Nat.le_trans z_8 K9.1
    have o_x9 := o_x8.keep K9 (allS g_ob8 all0)
    have eob8_x9 := A8.keep K9
    show G (T9.setTop (mkF m 73 #[.val (.long p1), .second, .val (.long p2), .second, .val (.long p3), .second, .val (.int p4), .val (.int p5), .val (.long p6), .second, .val (.int sl), .val (.int md), .val (.long od), .second, .val (.long vv), .second, .unset, .unset, .unset] [(.ref ob8)]))
    refine hG _ (T9.setTop (mkF m 75 #[.val (.long p1), .second, .val (.long p2), .second, .val (.long p3), .second, .val (.int p4), .val (.int p5), .val (.long p6), .second, .val (.int sl), .val (.int md), .val (.long od), .second, .val (.long vv), .second, .val (.ref ob8), .unset, .unset] [])) (fun t₀ k₀ => ?_) ?_
    · show Steps p.tables e below (T9.setTop (mkF m 73 #[.val (.long p1), .second, .val (.long p2), .second, .val (.long p3), .second, .val (.int p4), .val (.int p5), .val (.long p6), .second, .val (.int sl), .val (.int md), .val (.long od), .second, .val (.long vv), .second, .unset, .unset, .unset] [(.ref ob8)])) t₀
      refine XS.astore X9.here hx rfl (hb hby at_73) rfl rfl (l' := #[.val (.long p1), .second, .val (.long p2), .second, .val (.long p3), .second, .val (.int p4), .val (.int p5), .val (.long p6), .second, .val (.int sl), .val (.int md), .val (.long od), .second, .val (.long vv), .second, .val (.ref ob8), .unset, .unset]) rfl ?_
      exact k₀
    obtain ⟨T10, h10, X10, e10, E10, A10, D10, -, st10⟩ := newO X9 hx hZ hown (hw _ (List.mem_of_getElem? (i := 4) rfl)) (hw _ (List.mem_of_getElem? (i := 5) rfl)) (hw _ (List.mem_of_getElem? (i := 6) rfl)) rfl (g := (mkF m 75 #[.val (.long p1), .second, .val (.long p2), .second, .val (.long p3), .second, .val (.int p4), .val (.int p5), .val (.long p6), .second, .val (.int sl), .val (.int md), .val (.long od), .second, .val (.long vv), .second, .val (.ref ob8), .unset, .unset] [])) rfl (hb hby at_75) (by decide) (by decide)
    obtain ⟨ob10, g10⟩ : ∃ z, z = T9.heap.size := ⟨_, rfl⟩
    rw [← g10] at A10 D10 st10
    have g_ob10 : n0 ≤ ob10 := Nat.le_trans z_x9 (Nat.le_of_eq g10.symm)
    have ne_ob8_ob10 : ob8 ≠ ob10 := Nat.ne_of_lt (Nat.lt_of_lt_of_le eob8_x9.lt (Nat.le_of_eq g10.symm))
    have z_10 : n0 ≤ h10.size := Nat.le_trans z_x9 E10.1
    have o_x10 := o_x9.ext E10
    have eob8_x10 := eob8_x9.ext E10
    have fob8_offset_x10 := Q9_0.ext E10
    have fob8_numOps_x10 := Q9_1.ext E10
    have fob8_generation_x10 := Q9_2.ext E10
    have fob8_minSeqNo_x10 := Q9_3.ext E10
    have fob8_maxSeqNo_x10 := Q9_4.ext E10
    have fob8_globalCheckpoint_x10 := Q9_5.ext E10
    have fob8_minGeneration_x10 := Q9_6.ext E10
    have fob8_trimmedAboveSeqNo_x10 := Q9_7.ext E10
    have F_offset_ob10 : Fld Z h10 ob10 "com/example/opledger/opledger/Checkpoint" "offset" "J" (.long (0 : Int64)) := D10 (Or.inr (hw _ (List.mem_of_getElem? (i := 19) rfl))) (ty := .long) (by decide)
    have F_numOps_ob10 : Fld Z h10 ob10 "com/example/opledger/opledger/Checkpoint" "numOps" "I" (.int (0 : Int32)) := D10 (Or.inr (hw _ (List.mem_of_getElem? (i := 21) rfl))) (ty := .int) (by decide)
    have F_generation_ob10 : Fld Z h10 ob10 "com/example/opledger/opledger/Checkpoint" "generation" "J" (.long (0 : Int64)) := D10 (Or.inr (hw _ (List.mem_of_getElem? (i := 23) rfl))) (ty := .long) (by decide)
    have F_minSeqNo_ob10 : Fld Z h10 ob10 "com/example/opledger/opledger/Checkpoint" "minSeqNo" "J" (.long (0 : Int64)) := D10 (Or.inr (hw _ (List.mem_of_getElem? (i := 25) rfl))) (ty := .long) (by decide)
    have F_maxSeqNo_ob10 : Fld Z h10 ob10 "com/example/opledger/opledger/Checkpoint" "maxSeqNo" "J" (.long (0 : Int64)) := D10 (Or.inr (hw _ (List.mem_of_getElem? (i := 27) rfl))) (ty := .long) (by decide)
    have F_globalCheckpoint_ob10 : Fld Z h10 ob10 "com/example/opledger/opledger/Checkpoint" "globalCheckpoint" "J" (.long (0 : Int64)) := D10 (Or.inr (hw _ (List.mem_of_getElem? (i := 29) rfl))) (ty := .long) (by decide)
    have F_minGeneration_ob10 : Fld Z h10 ob10 "com/example/opledger/opledger/Checkpoint" "minGeneration" "J" (.long (0 : Int64)) := D10 (Or.inr (hw _ (List.mem_of_getElem? (i := 31) rfl))) (ty := .long) (by decide)
    have F_trimmedAboveSeqNo_ob10 : Fld Z h10 ob10 "com/example/opledger/opledger/Checkpoint" "trimmedAboveSeqNo" "J" (.long (0 : Int64)) := D10 (Or.inr (hw _ (List.mem_of_getElem? (i := 33) rfl))) (ty := .long) (by decide)
    refine hG _ _ (fun t₀ k₀ => st10 _ k₀) ?_
    show G (T10.setTop (mkF m 78 #[.val (.long p1), .second, .val (.long p2), .second, .val (.long p3), .second, .val (.int p4), .val (.int p5), .val (.long p6), .second, .val (.int sl), .val (.int md), .val (.long od), .second, .val (.long vv), .second, .val (.ref ob8), .unset, .unset] [(.ref ob10)]))
    refine hG _ (T10.setTop (mkF m 79 #[.val (.long p1), .second, .val (.long p2), .second, .val (.long p3), .second, .val (.int p4), .val (.int p5), .val (.long p6), .second, .val (.int sl), .val (.int md), .val (.long od), .second, .val (.long vv), .second, .val (.ref ob8), .unset, .unset] [(.ref ob10), (.ref ob10)])) (fun t₀ k₀ => ?_) ?_
    · show Steps p.tables e below (T10.setTop (mkF m 78 #[.val (.long p1), .second, .val (.long p2), .second, .val (.long p3), .second, .val (.int p4), .val (.int p5), .val (.long p6), .second, .val (.int sl), .val (.int md), .val (.long od), .second, .val (.long vv), .second, .val (.ref ob8), .unset, .unset] [(.ref ob10)])) t₀
      refine XS.dup X10.here hx rfl (hb hby at_78) rfl rfl ?_
      exact k₀
    have h8 := own_8 p5
    rw [← hsl] at h8
    rcases h8 with h8 | h8 | h8 | h8 | h8 | h8 | h8 | h8
    ·
      subst h8
      show G (T10.setTop (mkF m 79 #[.val (.long p1), .second, .val (.long p2), .second, .val (.long p3), .second, .val (.int p4), .val (.int p5), .val (.long p6), .second, .val (.int (0 : Int32)), .val (.int md), .val (.long od), .second, .val (.long vv), .second, .val (.ref ob8), .unset, .unset] [(.ref ob10), (.ref ob10)]))
      have hodi : od = p1 := hod.trans (by simp [own_old])
      refine hG _ (T10.setTop (mkF m 190 #[.val (.long p1), .second, .val (.long p2), .second, .val (.long p3), .second, .val (.int p4), .val (.int p5), .val (.long p6), .second, .val (.int (0 : Int32)), .val (.int md), .val (.long od), .second, .val (.long vv), .second, .val (.ref ob8), .unset, .unset] [(.long (p2 - p3)), (.long (p1 + p3)), (.long (p2 ^^^ p3)), (.long (p1 ^^^ p2)), (.long p3), (.long p2), (.int p4), (.long vv), (.ref ob10), (.ref ob10)])) (fun t₀ k₀ => ?_) ?_
      · show Steps p.tables e below (T10.setTop (mkF m 79 #[.val (.long p1), .second, .val (.long p2), .second, .val (.long p3), .second, .val (.int p4), .val (.int p5), .val (.long p6), .second, .val (.int (0 : Int32)), .val (.int md), .val (.long od), .second, .val (.long vv), .second, .val (.ref ob8), .unset, .unset] [(.ref ob10), (.ref ob10)])) t₀
        refine XS.iload X10.here hx rfl (hb hby at_79) rfl ?_
        show Steps p.tables e below (T10.setTop (mkF m 81 #[.val (.long p1), .second, .val (.long p2), .second, .val (.long p3), .second, .val (.int p4), .val (.int p5), .val (.long p6), .second, .val (.int (0 : Int32)), .val (.int md), .val (.long od), .second, .val (.long vv), .second, .val (.ref ob8), .unset, .unset] [(.int (0 : Int32)), (.ref ob10), (.ref ob10)])) t₀
        refine XS.ifNo X10.here hx rfl (hb hby at_81) rfl ((if0 _ _).trans (teq (by decide : ((0 : Int32) = (0 : Int32)))).2) ?_
        show Steps p.tables e below (T10.setTop (mkF m 84 #[.val (.long p1), .second, .val (.long p2), .second, .val (.long p3), .second, .val (.int p4), .val (.int p5), .val (.long p6), .second, .val (.int (0 : Int32)), .val (.int md), .val (.long od), .second, .val (.long vv), .second, .val (.ref ob8), .unset, .unset] [(.ref ob10), (.ref ob10)])) t₀
        refine XS.lload X10.here hx rfl (hb hby at_84) rfl ?_
        show Steps p.tables e below (T10.setTop (mkF m 86 #[.val (.long p1), .second, .val (.long p2), .second, .val (.long p3), .second, .val (.int p4), .val (.int p5), .val (.long p6), .second, .val (.int (0 : Int32)), .val (.int md), .val (.long od), .second, .val (.long vv), .second, .val (.ref ob8), .unset, .unset] [(.long vv), (.ref ob10), (.ref ob10)])) t₀
        refine XS.goto X10.here hx rfl (pc0 := 86) (pc' := 90) rfl (hb hby at_86) (by decide) (by decide) ?_
        show Steps p.tables e below (T10.setTop (mkF m 90 #[.val (.long p1), .second, .val (.long p2), .second, .val (.long p3), .second, .val (.int p4), .val (.int p5), .val (.long p6), .second, .val (.int (0 : Int32)), .val (.int md), .val (.long od), .second, .val (.long vv), .second, .val (.ref ob8), .unset, .unset] [(.long vv), (.ref ob10), (.ref ob10)])) t₀
        refine XS.iload X10.here hx rfl (hb hby at_90) rfl ?_
        show Steps p.tables e below (T10.setTop (mkF m 92 #[.val (.long p1), .second, .val (.long p2), .second, .val (.long p3), .second, .val (.int p4), .val (.int p5), .val (.long p6), .second, .val (.int (0 : Int32)), .val (.int md), .val (.long od), .second, .val (.long vv), .second, .val (.ref ob8), .unset, .unset] [(.int (0 : Int32)), (.long vv), (.ref ob10), (.ref ob10)])) t₀
        refine XS.iconst X10.here hx rfl (hb hby at_92) ?_
        show Steps p.tables e below (T10.setTop (mkF m 93 #[.val (.long p1), .second, .val (.long p2), .second, .val (.long p3), .second, .val (.int p4), .val (.int p5), .val (.long p6), .second, .val (.int (0 : Int32)), .val (.int md), .val (.long od), .second, .val (.long vv), .second, .val (.ref ob8), .unset, .unset] [(.int (1 : Int32)), (.int (0 : Int32)), (.long vv), (.ref ob10), (.ref ob10)])) t₀
        refine XS.icmpYes X10.here hx rfl (pc0 := 93) (pc' := 102) rfl (hb hby at_93) rfl (feq (by decide : ¬ ((0 : Int32) = (1 : Int32)))).2 (by decide) (by decide) ?_
        show Steps p.tables e below (T10.setTop (mkF m 102 #[.val (.long p1), .second, .val (.long p2), .second, .val (.long p3), .second, .val (.int p4), .val (.int p5), .val (.long p6), .second, .val (.int (0 : Int32)), .val (.int md), .val (.long od), .second, .val (.long vv), .second, .val (.ref ob8), .unset, .unset] [(.long vv), (.ref ob10), (.ref ob10)])) t₀
        refine XS.iload X10.here hx rfl (hb hby at_102) rfl ?_
        show Steps p.tables e below (T10.setTop (mkF m 104 #[.val (.long p1), .second, .val (.long p2), .second, .val (.long p3), .second, .val (.int p4), .val (.int p5), .val (.long p6), .second, .val (.int (0 : Int32)), .val (.int md), .val (.long od), .second, .val (.long vv), .second, .val (.ref ob8), .unset, .unset] [(.int p4), (.long vv), (.ref ob10), (.ref ob10)])) t₀
        refine XS.iload X10.here hx rfl (hb hby at_104) rfl ?_
        show Steps p.tables e below (T10.setTop (mkF m 106 #[.val (.long p1), .second, .val (.long p2), .second, .val (.long p3), .second, .val (.int p4), .val (.int p5), .val (.long p6), .second, .val (.int (0 : Int32)), .val (.int md), .val (.long od), .second, .val (.long vv), .second, .val (.ref ob8), .unset, .unset] [(.int (0 : Int32)), (.int p4), (.long vv), (.ref ob10), (.ref ob10)])) t₀
        refine XS.iconst X10.here hx rfl (hb hby at_106) ?_
        show Steps p.tables e below (T10.setTop (mkF m 107 #[.val (.long p1), .second, .val (.long p2), .second, .val (.long p3), .second, .val (.int p4), .val (.int p5), .val (.long p6), .second, .val (.int (0 : Int32)), .val (.int md), .val (.long od), .second, .val (.long vv), .second, .val (.ref ob8), .unset, .unset] [(.int (2 : Int32)), (.int (0 : Int32)), (.int p4), (.long vv), (.ref ob10), (.ref ob10)])) t₀
        refine XS.icmpYes X10.here hx rfl (pc0 := 107) (pc' := 115) rfl (hb hby at_107) rfl (feq (by decide : ¬ ((0 : Int32) = (2 : Int32)))).2 (by decide) (by decide) ?_
        show Steps p.tables e below (T10.setTop (mkF m 115 #[.val (.long p1), .second, .val (.long p2), .second, .val (.long p3), .second, .val (.int p4), .val (.int p5), .val (.long p6), .second, .val (.int (0 : Int32)), .val (.int md), .val (.long od), .second, .val (.long vv), .second, .val (.ref ob8), .unset, .unset] [(.int p4), (.long vv), (.ref ob10), (.ref ob10)])) t₀
        refine XS.lloadN X10.here hx rfl (hb hby at_115) rfl ?_
        show Steps p.tables e below (T10.setTop (mkF m 116 #[.val (.long p1), .second, .val (.long p2), .second, .val (.long p3), .second, .val (.int p4), .val (.int p5), .val (.long p6), .second, .val (.int (0 : Int32)), .val (.int md), .val (.long od), .second, .val (.long vv), .second, .val (.ref ob8), .unset, .unset] [(.long p2), (.int p4), (.long vv), (.ref ob10), (.ref ob10)])) t₀
        refine XS.iload X10.here hx rfl (hb hby at_116) rfl ?_
        show Steps p.tables e below (T10.setTop (mkF m 118 #[.val (.long p1), .second, .val (.long p2), .second, .val (.long p3), .second, .val (.int p4), .val (.int p5), .val (.long p6), .second, .val (.int (0 : Int32)), .val (.int md), .val (.long od), .second, .val (.long vv), .second, .val (.ref ob8), .unset, .unset] [(.int (0 : Int32)), (.long p2), (.int p4), (.long vv), (.ref ob10), (.ref ob10)])) t₀
        refine XS.iconst X10.here hx rfl (hb hby at_118) ?_
        show Steps p.tables e below (T10.setTop (mkF m 119 #[.val (.long p1), .second, .val (.long p2), .second, .val (.long p3), .second, .val (.int p4), .val (.int p5), .val (.long p6), .second, .val (.int (0 : Int32)), .val (.int md), .val (.long od), .second, .val (.long vv), .second, .val (.ref ob8), .unset, .unset] [(.int (3 : Int32)), (.int (0 : Int32)), (.long p2), (.int p4), (.long vv), (.ref ob10), (.ref ob10)])) t₀
        refine XS.icmpYes X10.here hx rfl (pc0 := 119) (pc' := 127) rfl (hb hby at_119) rfl (feq (by decide : ¬ ((0 : Int32) = (3 : Int32)))).2 (by decide) (by decide) ?_
        show Steps p.tables e below (T10.setTop (mkF m 127 #[.val (.long p1), .second, .val (.long p2), .second, .val (.long p3), .second, .val (.int p4), .val (.int p5), .val (.long p6), .second, .val (.int (0 : Int32)), .val (.int md), .val (.long od), .second, .val (.long vv), .second, .val (.ref ob8), .unset, .unset] [(.long p2), (.int p4), (.long vv), (.ref ob10), (.ref ob10)])) t₀
        refine XS.lload X10.here hx rfl (hb hby at_127) rfl ?_
        show Steps p.tables e below (T10.setTop (mkF m 129 #[.val (.long p1), .second, .val (.long p2), .second, .val (.long p3), .second, .val (.int p4), .val (.int p5), .val (.long p6), .second, .val (.int (0 : Int32)), .val (.int md), .val (.long od), .second, .val (.long vv), .second, .val (.ref ob8), .unset, .unset] [(.long p3), (.long p2), (.int p4), (.long vv), (.ref ob10), (.ref ob10)])) t₀
        refine XS.iload X10.here hx rfl (hb hby at_129) rfl ?_
        show Steps p.tables e below (T10.setTop (mkF m 131 #[.val (.long p1), .second, .val (.long p2), .second, .val (.long p3), .second, .val (.int p4), .val (.int p5), .val (.long p6), .second, .val (.int (0 : Int32)), .val (.int md), .val (.long od), .second, .val (.long vv), .second, .val (.ref ob8), .unset, .unset] [(.int (0 : Int32)), (.long p3), (.long p2), (.int p4), (.long vv), (.ref ob10), (.ref ob10)])) t₀
        refine XS.iconst X10.here hx rfl (hb hby at_131) ?_
        show Steps p.tables e below (T10.setTop (mkF m 132 #[.val (.long p1), .second, .val (.long p2), .second, .val (.long p3), .second, .val (.int p4), .val (.int p5), .val (.long p6), .second, .val (.int (0 : Int32)), .val (.int md), .val (.long od), .second, .val (.long vv), .second, .val (.ref ob8), .unset, .unset] [(.int (4 : Int32)), (.int (0 : Int32)), (.long p3), (.long p2), (.int p4), (.long vv), (.ref ob10), (.ref ob10)])) t₀
        refine XS.icmpYes X10.here hx rfl (pc0 := 132) (pc' := 140) rfl (hb hby at_132) rfl (feq (by decide : ¬ ((0 : Int32) = (4 : Int32)))).2 (by decide) (by decide) ?_
        show Steps p.tables e below (T10.setTop (mkF m 140 #[.val (.long p1), .second, .val (.long p2), .second, .val (.long p3), .second, .val (.int p4), .val (.int p5), .val (.long p6), .second, .val (.int (0 : Int32)), .val (.int md), .val (.long od), .second, .val (.long vv), .second, .val (.ref ob8), .unset, .unset] [(.long p3), (.long p2), (.int p4), (.long vv), (.ref ob10), (.ref ob10)])) t₀
        refine XS.lloadN X10.here hx rfl (hb hby at_140) rfl ?_
        show Steps p.tables e below (T10.setTop (mkF m 141 #[.val (.long p1), .second, .val (.long p2), .second, .val (.long p3), .second, .val (.int p4), .val (.int p5), .val (.long p6), .second, .val (.int (0 : Int32)), .val (.int md), .val (.long od), .second, .val (.long vv), .second, .val (.ref ob8), .unset, .unset] [(.long p1), (.long p3), (.long p2), (.int p4), (.long vv), (.ref ob10), (.ref ob10)])) t₀
        refine XS.lloadN X10.here hx rfl (hb hby at_141) rfl ?_
        show Steps p.tables e below (T10.setTop (mkF m 142 #[.val (.long p1), .second, .val (.long p2), .second, .val (.long p3), .second, .val (.int p4), .val (.int p5), .val (.long p6), .second, .val (.int (0 : Int32)), .val (.int md), .val (.long od), .second, .val (.long vv), .second, .val (.ref ob8), .unset, .unset] [(.long p2), (.long p1), (.long p3), (.long p2), (.int p4), (.long vv), (.ref ob10), (.ref ob10)])) t₀
        refine XS.lxor X10.here hx rfl (hb hby at_142) rfl ?_
        show Steps p.tables e below (T10.setTop (mkF m 143 #[.val (.long p1), .second, .val (.long p2), .second, .val (.long p3), .second, .val (.int p4), .val (.int p5), .val (.long p6), .second, .val (.int (0 : Int32)), .val (.int md), .val (.long od), .second, .val (.long vv), .second, .val (.ref ob8), .unset, .unset] [(.long (p1 ^^^ p2)), (.long p3), (.long p2), (.int p4), (.long vv), (.ref ob10), (.ref ob10)])) t₀
        refine XS.iload X10.here hx rfl (hb hby at_143) rfl ?_
        show Steps p.tables e below (T10.setTop (mkF m 145 #[.val (.long p1), .second, .val (.long p2), .second, .val (.long p3), .second, .val (.int p4), .val (.int p5), .val (.long p6), .second, .val (.int (0 : Int32)), .val (.int md), .val (.long od), .second, .val (.long vv), .second, .val (.ref ob8), .unset, .unset] [(.int (0 : Int32)), (.long (p1 ^^^ p2)), (.long p3), (.long p2), (.int p4), (.long vv), (.ref ob10), (.ref ob10)])) t₀
        refine XS.iconst X10.here hx rfl (hb hby at_145) ?_
        show Steps p.tables e below (T10.setTop (mkF m 146 #[.val (.long p1), .second, .val (.long p2), .second, .val (.long p3), .second, .val (.int p4), .val (.int p5), .val (.long p6), .second, .val (.int (0 : Int32)), .val (.int md), .val (.long od), .second, .val (.long vv), .second, .val (.ref ob8), .unset, .unset] [(.int (5 : Int32)), (.int (0 : Int32)), (.long (p1 ^^^ p2)), (.long p3), (.long p2), (.int p4), (.long vv), (.ref ob10), (.ref ob10)])) t₀
        refine XS.icmpYes X10.here hx rfl (pc0 := 146) (pc' := 154) rfl (hb hby at_146) rfl (feq (by decide : ¬ ((0 : Int32) = (5 : Int32)))).2 (by decide) (by decide) ?_
        show Steps p.tables e below (T10.setTop (mkF m 154 #[.val (.long p1), .second, .val (.long p2), .second, .val (.long p3), .second, .val (.int p4), .val (.int p5), .val (.long p6), .second, .val (.int (0 : Int32)), .val (.int md), .val (.long od), .second, .val (.long vv), .second, .val (.ref ob8), .unset, .unset] [(.long (p1 ^^^ p2)), (.long p3), (.long p2), (.int p4), (.long vv), (.ref ob10), (.ref ob10)])) t₀
        refine XS.lloadN X10.here hx rfl (hb hby at_154) rfl ?_
        show Steps p.tables e below (T10.setTop (mkF m 155 #[.val (.long p1), .second, .val (.long p2), .second, .val (.long p3), .second, .val (.int p4), .val (.int p5), .val (.long p6), .second, .val (.int (0 : Int32)), .val (.int md), .val (.long od), .second, .val (.long vv), .second, .val (.ref ob8), .unset, .unset] [(.long p2), (.long (p1 ^^^ p2)), (.long p3), (.long p2), (.int p4), (.long vv), (.ref ob10), (.ref ob10)])) t₀
        refine XS.lload X10.here hx rfl (hb hby at_155) rfl ?_
        show Steps p.tables e below (T10.setTop (mkF m 157 #[.val (.long p1), .second, .val (.long p2), .second, .val (.long p3), .second, .val (.int p4), .val (.int p5), .val (.long p6), .second, .val (.int (0 : Int32)), .val (.int md), .val (.long od), .second, .val (.long vv), .second, .val (.ref ob8), .unset, .unset] [(.long p3), (.long p2), (.long (p1 ^^^ p2)), (.long p3), (.long p2), (.int p4), (.long vv), (.ref ob10), (.ref ob10)])) t₀
        refine XS.lxor X10.here hx rfl (hb hby at_157) rfl ?_
        show Steps p.tables e below (T10.setTop (mkF m 158 #[.val (.long p1), .second, .val (.long p2), .second, .val (.long p3), .second, .val (.int p4), .val (.int p5), .val (.long p6), .second, .val (.int (0 : Int32)), .val (.int md), .val (.long od), .second, .val (.long vv), .second, .val (.ref ob8), .unset, .unset] [(.long (p2 ^^^ p3)), (.long (p1 ^^^ p2)), (.long p3), (.long p2), (.int p4), (.long vv), (.ref ob10), (.ref ob10)])) t₀
        refine XS.iload X10.here hx rfl (hb hby at_158) rfl ?_
        show Steps p.tables e below (T10.setTop (mkF m 160 #[.val (.long p1), .second, .val (.long p2), .second, .val (.long p3), .second, .val (.int p4), .val (.int p5), .val (.long p6), .second, .val (.int (0 : Int32)), .val (.int md), .val (.long od), .second, .val (.long vv), .second, .val (.ref ob8), .unset, .unset] [(.int (0 : Int32)), (.long (p2 ^^^ p3)), (.long (p1 ^^^ p2)), (.long p3), (.long p2), (.int p4), (.long vv), (.ref ob10), (.ref ob10)])) t₀
        refine XS.bipush X10.here hx rfl (hb hby at_160) ?_
        show Steps p.tables e below (T10.setTop (mkF m 162 #[.val (.long p1), .second, .val (.long p2), .second, .val (.long p3), .second, .val (.int p4), .val (.int p5), .val (.long p6), .second, .val (.int (0 : Int32)), .val (.int md), .val (.long od), .second, .val (.long vv), .second, .val (.ref ob8), .unset, .unset] [(.int (6 : Int32)), (.int (0 : Int32)), (.long (p2 ^^^ p3)), (.long (p1 ^^^ p2)), (.long p3), (.long p2), (.int p4), (.long vv), (.ref ob10), (.ref ob10)])) t₀
        refine XS.icmpYes X10.here hx rfl (pc0 := 162) (pc' := 170) rfl (hb hby at_162) rfl (feq (by decide : ¬ ((0 : Int32) = (6 : Int32)))).2 (by decide) (by decide) ?_
        show Steps p.tables e below (T10.setTop (mkF m 170 #[.val (.long p1), .second, .val (.long p2), .second, .val (.long p3), .second, .val (.int p4), .val (.int p5), .val (.long p6), .second, .val (.int (0 : Int32)), .val (.int md), .val (.long od), .second, .val (.long vv), .second, .val (.ref ob8), .unset, .unset] [(.long (p2 ^^^ p3)), (.long (p1 ^^^ p2)), (.long p3), (.long p2), (.int p4), (.long vv), (.ref ob10), (.ref ob10)])) t₀
        refine XS.lloadN X10.here hx rfl (hb hby at_170) rfl ?_
        show Steps p.tables e below (T10.setTop (mkF m 171 #[.val (.long p1), .second, .val (.long p2), .second, .val (.long p3), .second, .val (.int p4), .val (.int p5), .val (.long p6), .second, .val (.int (0 : Int32)), .val (.int md), .val (.long od), .second, .val (.long vv), .second, .val (.ref ob8), .unset, .unset] [(.long p1), (.long (p2 ^^^ p3)), (.long (p1 ^^^ p2)), (.long p3), (.long p2), (.int p4), (.long vv), (.ref ob10), (.ref ob10)])) t₀
        refine XS.lload X10.here hx rfl (hb hby at_171) rfl ?_
        show Steps p.tables e below (T10.setTop (mkF m 173 #[.val (.long p1), .second, .val (.long p2), .second, .val (.long p3), .second, .val (.int p4), .val (.int p5), .val (.long p6), .second, .val (.int (0 : Int32)), .val (.int md), .val (.long od), .second, .val (.long vv), .second, .val (.ref ob8), .unset, .unset] [(.long p3), (.long p1), (.long (p2 ^^^ p3)), (.long (p1 ^^^ p2)), (.long p3), (.long p2), (.int p4), (.long vv), (.ref ob10), (.ref ob10)])) t₀
        refine XS.ladd X10.here hx rfl (hb hby at_173) rfl ?_
        show Steps p.tables e below (T10.setTop (mkF m 174 #[.val (.long p1), .second, .val (.long p2), .second, .val (.long p3), .second, .val (.int p4), .val (.int p5), .val (.long p6), .second, .val (.int (0 : Int32)), .val (.int md), .val (.long od), .second, .val (.long vv), .second, .val (.ref ob8), .unset, .unset] [(.long (p1 + p3)), (.long (p2 ^^^ p3)), (.long (p1 ^^^ p2)), (.long p3), (.long p2), (.int p4), (.long vv), (.ref ob10), (.ref ob10)])) t₀
        refine XS.iload X10.here hx rfl (hb hby at_174) rfl ?_
        show Steps p.tables e below (T10.setTop (mkF m 176 #[.val (.long p1), .second, .val (.long p2), .second, .val (.long p3), .second, .val (.int p4), .val (.int p5), .val (.long p6), .second, .val (.int (0 : Int32)), .val (.int md), .val (.long od), .second, .val (.long vv), .second, .val (.ref ob8), .unset, .unset] [(.int (0 : Int32)), (.long (p1 + p3)), (.long (p2 ^^^ p3)), (.long (p1 ^^^ p2)), (.long p3), (.long p2), (.int p4), (.long vv), (.ref ob10), (.ref ob10)])) t₀
        refine XS.bipush X10.here hx rfl (hb hby at_176) ?_
        show Steps p.tables e below (T10.setTop (mkF m 178 #[.val (.long p1), .second, .val (.long p2), .second, .val (.long p3), .second, .val (.int p4), .val (.int p5), .val (.long p6), .second, .val (.int (0 : Int32)), .val (.int md), .val (.long od), .second, .val (.long vv), .second, .val (.ref ob8), .unset, .unset] [(.int (7 : Int32)), (.int (0 : Int32)), (.long (p1 + p3)), (.long (p2 ^^^ p3)), (.long (p1 ^^^ p2)), (.long p3), (.long p2), (.int p4), (.long vv), (.ref ob10), (.ref ob10)])) t₀
        refine XS.icmpYes X10.here hx rfl (pc0 := 178) (pc' := 186) rfl (hb hby at_178) rfl (feq (by decide : ¬ ((0 : Int32) = (7 : Int32)))).2 (by decide) (by decide) ?_
        show Steps p.tables e below (T10.setTop (mkF m 186 #[.val (.long p1), .second, .val (.long p2), .second, .val (.long p3), .second, .val (.int p4), .val (.int p5), .val (.long p6), .second, .val (.int (0 : Int32)), .val (.int md), .val (.long od), .second, .val (.long vv), .second, .val (.ref ob8), .unset, .unset] [(.long (p1 + p3)), (.long (p2 ^^^ p3)), (.long (p1 ^^^ p2)), (.long p3), (.long p2), (.int p4), (.long vv), (.ref ob10), (.ref ob10)])) t₀
        refine XS.lloadN X10.here hx rfl (hb hby at_186) rfl ?_
        show Steps p.tables e below (T10.setTop (mkF m 187 #[.val (.long p1), .second, .val (.long p2), .second, .val (.long p3), .second, .val (.int p4), .val (.int p5), .val (.long p6), .second, .val (.int (0 : Int32)), .val (.int md), .val (.long od), .second, .val (.long vv), .second, .val (.ref ob8), .unset, .unset] [(.long p2), (.long (p1 + p3)), (.long (p2 ^^^ p3)), (.long (p1 ^^^ p2)), (.long p3), (.long p2), (.int p4), (.long vv), (.ref ob10), (.ref ob10)])) t₀
        refine XS.lload X10.here hx rfl (hb hby at_187) rfl ?_
        show Steps p.tables e below (T10.setTop (mkF m 189 #[.val (.long p1), .second, .val (.long p2), .second, .val (.long p3), .second, .val (.int p4), .val (.int p5), .val (.long p6), .second, .val (.int (0 : Int32)), .val (.int md), .val (.long od), .second, .val (.long vv), .second, .val (.ref ob8), .unset, .unset] [(.long p3), (.long p2), (.long (p1 + p3)), (.long (p2 ^^^ p3)), (.long (p1 ^^^ p2)), (.long p3), (.long p2), (.int p4), (.long vv), (.ref ob10), (.ref ob10)])) t₀
        refine XS.lsub X10.here hx rfl (hb hby at_189) rfl ?_
        exact k₀
      obtain ⟨_, _, ⟨T11, L11, k11, n11⟩, -, X11, ⟨Lc11, hQ11, l11, y11, z11⟩, st11⟩ := X10.specialBack hx (y := (⟨"com/example/opledger/opledger/Checkpoint", "<init>", "(JIJJJJJJ)V"⟩ : MethodName)) rfl hown (mvT hZ (hw _ (List.mem_of_getElem? (i := 7) rfl))) (mvT hZ (hw _ (List.mem_of_getElem? (i := 8) rfl))) (mvT hZ (hw _ (List.mem_of_getElem? (i := 9) rfl))) (by decide) (backOf (W := 1) (rmC l Z a0 hw [] ob10 vv p4 p2 p3 (p1 ^^^ p2) (p2 ^^^ p3) (p1 + p3) (p2 - p3) h10 n0 z_10 A10 g_ob10 F_offset_ob10 F_numOps_ob10 F_generation_ob10 F_minSeqNo_ob10 F_maxSeqNo_ob10 F_globalCheckpoint_ob10 F_minGeneration_ob10 F_trimmedAboveSeqNo_ob10) hZ (hw _ (List.mem_of_getElem? (i := 9) rfl)) (hw _ (List.mem_of_getElem? (i := 6) rfl)) (by decide) (by decide)) (g := (mkF m 190 #[.val (.long p1), .second, .val (.long p2), .second, .val (.long p3), .second, .val (.int p4), .val (.int p5), .val (.long p6), .second, .val (.int (0 : Int32)), .val (.int md), .val (.long od), .second, .val (.long vv), .second, .val (.ref ob8), .unset, .unset] [(.long (p2 - p3)), (.long (p1 + p3)), (.long (p2 ^^^ p3)), (.long (p1 ^^^ p2)), (.long p3), (.long p2), (.int p4), (.long vv), (.ref ob10), (.ref ob10)])) rfl (by rw [hml]; rfl) (Steps.refl _) (a := ob10) (argsL := [(.long vv), (.int p4), (.long p2), (.long p3), (.long (p1 ^^^ p2)), (.long (p2 ^^^ p3)), (.long (p1 + p3)), (.long (p2 - p3))]) (rest := [(.ref ob10)]) (lenOf pd_1 rfl) rfl (by show 2 * 0 + _ ≤ _; exact Nat.le_of_eq rfl) (hb hby at_190) (fun _ _ => ⟨rfl, e10, (by decide : 2 + 0 ≤ _), (by decide : 16 + 0 ≤ _)⟩)
      dsimp only [Pt.U, Pt.locs, Pt.cells, Pt.slots] at X11 l11 y11 z11 st11 hQ11
      subst l11 y11 z11
      obtain ⟨rfl, N11q, K11, Q11_0, Q11_1, Q11_2, Q11_3, Q11_4, Q11_5, Q11_6, Q11_7⟩ := hQ11
      have N11 := Fr.app N9 N11q
      refine hG _ _ (fun t₀ k₀ => st11.trans k₀) ?_
      have z_x11 := Nat.le_trans z_10 K11.1
      have o_x11 := o_x10.keep K11 (allS g_ob10 all0)
      have eob8_x11 := eob8_x10.keep K11
      have fob8_offset_x11 := fob8_offset_x10.keep K11 (ninS ne_ob8_ob10 nin0)
      have fob8_numOps_x11 := fob8_numOps_x10.keep K11 (ninS ne_ob8_ob10 nin0)
      have fob8_generation_x11 := fob8_generation_x10.keep K11 (ninS ne_ob8_ob10 nin0)
      have fob8_minSeqNo_x11 := fob8_minSeqNo_x10.keep K11 (ninS ne_ob8_ob10 nin0)
      have fob8_maxSeqNo_x11 := fob8_maxSeqNo_x10.keep K11 (ninS ne_ob8_ob10 nin0)
      have fob8_globalCheckpoint_x11 := fob8_globalCheckpoint_x10.keep K11 (ninS ne_ob8_ob10 nin0)
      have fob8_minGeneration_x11 := fob8_minGeneration_x10.keep K11 (ninS ne_ob8_ob10 nin0)
      have fob8_trimmedAboveSeqNo_x11 := fob8_trimmedAboveSeqNo_x10.keep K11 (ninS ne_ob8_ob10 nin0)
      have eob10_x11 := A10.keep K11
      show G (T11.setTop (mkF m 193 #[.val (.long p1), .second, .val (.long p2), .second, .val (.long p3), .second, .val (.int p4), .val (.int p5), .val (.long p6), .second, .val (.int (0 : Int32)), .val (.int md), .val (.long od), .second, .val (.long vv), .second, .val (.ref ob8), .unset, .unset] [(.ref ob10)]))
      refine hG _ (T11.setTop (mkF m 222 #[.val (.long p1), .second, .val (.long p2), .second, .val (.long p3), .second, .val (.int p4), .val (.int p5), .val (.long p6), .second, .val (.int (0 : Int32)), .val (.int md), .val (.long od), .second, .val (.long vv), .second, .val (.ref ob8), .val (.ref ob10), .unset] [(.int (lcmpW vv od))])) (fun t₀ k₀ => ?_) ?_
      · show Steps p.tables e below (T11.setTop (mkF m 193 #[.val (.long p1), .second, .val (.long p2), .second, .val (.long p3), .second, .val (.int p4), .val (.int p5), .val (.long p6), .second, .val (.int (0 : Int32)), .val (.int md), .val (.long od), .second, .val (.long vv), .second, .val (.ref ob8), .unset, .unset] [(.ref ob10)])) t₀
        refine XS.astore X11.here hx rfl (hb hby at_193) rfl rfl (l' := #[.val (.long p1), .second, .val (.long p2), .second, .val (.long p3), .second, .val (.int p4), .val (.int p5), .val (.long p6), .second, .val (.int (0 : Int32)), .val (.int md), .val (.long od), .second, .val (.long vv), .second, .val (.ref ob8), .val (.ref ob10), .unset]) rfl ?_
        show Steps p.tables e below (T11.setTop (mkF m 195 #[.val (.long p1), .second, .val (.long p2), .second, .val (.long p3), .second, .val (.int p4), .val (.int p5), .val (.long p6), .second, .val (.int (0 : Int32)), .val (.int md), .val (.long od), .second, .val (.long vv), .second, .val (.ref ob8), .val (.ref ob10), .unset] [])) t₀
        refine XS.iload X11.here hx rfl (hb hby at_195) rfl ?_
        show Steps p.tables e below (T11.setTop (mkF m 197 #[.val (.long p1), .second, .val (.long p2), .second, .val (.long p3), .second, .val (.int p4), .val (.int p5), .val (.long p6), .second, .val (.int (0 : Int32)), .val (.int md), .val (.long od), .second, .val (.long vv), .second, .val (.ref ob8), .val (.ref ob10), .unset] [(.int (0 : Int32))])) t₀
        refine XS.iconst X11.here hx rfl (hb hby at_197) ?_
        show Steps p.tables e below (T11.setTop (mkF m 198 #[.val (.long p1), .second, .val (.long p2), .second, .val (.long p3), .second, .val (.int p4), .val (.int p5), .val (.long p6), .second, .val (.int (0 : Int32)), .val (.int md), .val (.long od), .second, .val (.long vv), .second, .val (.ref ob8), .val (.ref ob10), .unset] [(.int (1 : Int32)), (.int (0 : Int32))])) t₀
        refine XS.icmpYes X11.here hx rfl (pc0 := 198) (pc' := 217) rfl (hb hby at_198) rfl (feq (by decide : ¬ ((0 : Int32) = (1 : Int32)))).2 (by decide) (by decide) ?_
        show Steps p.tables e below (T11.setTop (mkF m 217 #[.val (.long p1), .second, .val (.long p2), .second, .val (.long p3), .second, .val (.int p4), .val (.int p5), .val (.long p6), .second, .val (.int (0 : Int32)), .val (.int md), .val (.long od), .second, .val (.long vv), .second, .val (.ref ob8), .val (.ref ob10), .unset] [])) t₀
        refine XS.lload X11.here hx rfl (hb hby at_217) rfl ?_
        show Steps p.tables e below (T11.setTop (mkF m 219 #[.val (.long p1), .second, .val (.long p2), .second, .val (.long p3), .second, .val (.int p4), .val (.int p5), .val (.long p6), .second, .val (.int (0 : Int32)), .val (.int md), .val (.long od), .second, .val (.long vv), .second, .val (.ref ob8), .val (.ref ob10), .unset] [(.long vv)])) t₀
        refine XS.lload X11.here hx rfl (hb hby at_219) rfl ?_
        show Steps p.tables e below (T11.setTop (mkF m 221 #[.val (.long p1), .second, .val (.long p2), .second, .val (.long p3), .second, .val (.int p4), .val (.int p5), .val (.long p6), .second, .val (.int (0 : Int32)), .val (.int md), .val (.long od), .second, .val (.long vv), .second, .val (.ref ob8), .val (.ref ob10), .unset] [(.long od), (.long vv)])) t₀
        refine XS.lcmp X11.here hx rfl (hb hby at_221) rfl ?_
        exact k₀
      by_cases hx222 : vv = od
      ·
        refine hG _ (T11.setTop (mkF m 232 #[.val (.long p1), .second, .val (.long p2), .second, .val (.long p3), .second, .val (.int p4), .val (.int p5), .val (.long p6), .second, .val (.int (0 : Int32)), .val (.int md), .val (.long od), .second, .val (.long vv), .second, .val (.ref ob8), .val (.ref ob10), .val (.int (1 : Int32))] [])) (fun t₀ k₀ => ?_) ?_
        · show Steps p.tables e below (T11.setTop (mkF m 222 #[.val (.long p1), .second, .val (.long p2), .second, .val (.long p3), .second, .val (.int p4), .val (.int p5), .val (.long p6), .second, .val (.int (0 : Int32)), .val (.int md), .val (.long od), .second, .val (.long vv), .second, .val (.ref ob8), .val (.ref ob10), .unset] [(.int (lcmpW vv od))])) t₀
          refine XS.ifNo X11.here hx rfl (hb hby at_222) rfl ((if0 _ _).trans (teq ((lw_eq vv od).mpr hx222)).2) ?_
          show Steps p.tables e below (T11.setTop (mkF m 225 #[.val (.long p1), .second, .val (.long p2), .second, .val (.long p3), .second, .val (.int p4), .val (.int p5), .val (.long p6), .second, .val (.int (0 : Int32)), .val (.int md), .val (.long od), .second, .val (.long vv), .second, .val (.ref ob8), .val (.ref ob10), .unset] [])) t₀
          refine XS.iconst X11.here hx rfl (hb hby at_225) ?_
          show Steps p.tables e below (T11.setTop (mkF m 226 #[.val (.long p1), .second, .val (.long p2), .second, .val (.long p3), .second, .val (.int p4), .val (.int p5), .val (.long p6), .second, .val (.int (0 : Int32)), .val (.int md), .val (.long od), .second, .val (.long vv), .second, .val (.ref ob8), .val (.ref ob10), .unset] [(.int (1 : Int32))])) t₀
          refine XS.goto X11.here hx rfl (pc0 := 226) (pc' := 230) rfl (hb hby at_226) (by decide) (by decide) ?_
          show Steps p.tables e below (T11.setTop (mkF m 230 #[.val (.long p1), .second, .val (.long p2), .second, .val (.long p3), .second, .val (.int p4), .val (.int p5), .val (.long p6), .second, .val (.int (0 : Int32)), .val (.int md), .val (.long od), .second, .val (.long vv), .second, .val (.ref ob8), .val (.ref ob10), .unset] [(.int (1 : Int32))])) t₀
          refine XS.istore X11.here hx rfl (hb hby at_230) rfl (l' := #[.val (.long p1), .second, .val (.long p2), .second, .val (.long p3), .second, .val (.int p4), .val (.int p5), .val (.long p6), .second, .val (.int (0 : Int32)), .val (.int md), .val (.long od), .second, .val (.long vv), .second, .val (.ref ob8), .val (.ref ob10), .val (.int (1 : Int32))]) rfl ?_
          exact k₀
        have h' : p1 = vv := (hx222.trans hodi).symm
        exact tlE T11 T11.heap _ X11 rfl N11 z_x11 o_x11 ob8 ob10 eob8_x11 eob10_x11 fob8_offset_x11 fob8_numOps_x11 fob8_generation_x11 fob8_minSeqNo_x11 fob8_maxSeqNo_x11 fob8_globalCheckpoint_x11 fob8_minGeneration_x11 fob8_trimmedAboveSeqNo_x11 vv p4 p2 p3 (p1 ^^^ p2) (p2 ^^^ p3) (p1 + p3) (p2 - p3) Q11_0 Q11_1 Q11_2 Q11_3 Q11_4 Q11_5 Q11_6 Q11_7 _ _ (1 : Int32) _ _ (by simp [own_ceq, h'])
      ·
        refine hG _ (T11.setTop (mkF m 232 #[.val (.long p1), .second, .val (.long p2), .second, .val (.long p3), .second, .val (.int p4), .val (.int p5), .val (.long p6), .second, .val (.int (0 : Int32)), .val (.int md), .val (.long od), .second, .val (.long vv), .second, .val (.ref ob8), .val (.ref ob10), .val (.int (0 : Int32))] [])) (fun t₀ k₀ => ?_) ?_
        · show Steps p.tables e below (T11.setTop (mkF m 222 #[.val (.long p1), .second, .val (.long p2), .second, .val (.long p3), .second, .val (.int p4), .val (.int p5), .val (.long p6), .second, .val (.int (0 : Int32)), .val (.int md), .val (.long od), .second, .val (.long vv), .second, .val (.ref ob8), .val (.ref ob10), .unset] [(.int (lcmpW vv od))])) t₀
          refine XS.ifYes X11.here hx rfl (pc0 := 222) (pc' := 229) rfl (hb hby at_222) rfl ((if0 _ _).trans (feq (fun z => hx222 ((lw_eq vv od).mp z))).2) (by decide) (by decide) ?_
          show Steps p.tables e below (T11.setTop (mkF m 229 #[.val (.long p1), .second, .val (.long p2), .second, .val (.long p3), .second, .val (.int p4), .val (.int p5), .val (.long p6), .second, .val (.int (0 : Int32)), .val (.int md), .val (.long od), .second, .val (.long vv), .second, .val (.ref ob8), .val (.ref ob10), .unset] [])) t₀
          refine XS.iconst X11.here hx rfl (hb hby at_229) ?_
          show Steps p.tables e below (T11.setTop (mkF m 230 #[.val (.long p1), .second, .val (.long p2), .second, .val (.long p3), .second, .val (.int p4), .val (.int p5), .val (.long p6), .second, .val (.int (0 : Int32)), .val (.int md), .val (.long od), .second, .val (.long vv), .second, .val (.ref ob8), .val (.ref ob10), .unset] [(.int (0 : Int32))])) t₀
          refine XS.istore X11.here hx rfl (hb hby at_230) rfl (l' := #[.val (.long p1), .second, .val (.long p2), .second, .val (.long p3), .second, .val (.int p4), .val (.int p5), .val (.long p6), .second, .val (.int (0 : Int32)), .val (.int md), .val (.long od), .second, .val (.long vv), .second, .val (.ref ob8), .val (.ref ob10), .val (.int (0 : Int32))]) rfl ?_
          exact k₀
        have h' : ¬ (p1 = vv) := fun q => hx222 (q.symm.trans hodi.symm)
        exact tlE T11 T11.heap _ X11 rfl N11 z_x11 o_x11 ob8 ob10 eob8_x11 eob10_x11 fob8_offset_x11 fob8_numOps_x11 fob8_generation_x11 fob8_minSeqNo_x11 fob8_maxSeqNo_x11 fob8_globalCheckpoint_x11 fob8_minGeneration_x11 fob8_trimmedAboveSeqNo_x11 vv p4 p2 p3 (p1 ^^^ p2) (p2 ^^^ p3) (p1 + p3) (p2 - p3) Q11_0 Q11_1 Q11_2 Q11_3 Q11_4 Q11_5 Q11_6 Q11_7 _ _ (0 : Int32) _ _ (by simp [own_ceq, h'])
    ·
      subst h8
      show G (T10.setTop (mkF m 79 #[.val (.long p1), .second, .val (.long p2), .second, .val (.long p3), .second, .val (.int p4), .val (.int p5), .val (.long p6), .second, .val (.int (1 : Int32)), .val (.int md), .val (.long od), .second, .val (.long vv), .second, .val (.ref ob8), .unset, .unset] [(.ref ob10), (.ref ob10)]))
      have hodi : od = (p4.toInt64) := hod.trans (by simp [own_old])
      refine hG _ (T10.setTop (mkF m 190 #[.val (.long p1), .second, .val (.long p2), .second, .val (.long p3), .second, .val (.int p4), .val (.int p5), .val (.long p6), .second, .val (.int (1 : Int32)), .val (.int md), .val (.long od), .second, .val (.long vv), .second, .val (.ref ob8), .unset, .unset] [(.long (p2 - p3)), (.long (p1 + p3)), (.long (p2 ^^^ p3)), (.long (p1 ^^^ p2)), (.long p3), (.long p2), (.int (vv.toInt32)), (.long p1), (.ref ob10), (.ref ob10)])) (fun t₀ k₀ => ?_) ?_
      · show Steps p.tables e below (T10.setTop (mkF m 79 #[.val (.long p1), .second, .val (.long p2), .second, .val (.long p3), .second, .val (.int p4), .val (.int p5), .val (.long p6), .second, .val (.int (1 : Int32)), .val (.int md), .val (.long od), .second, .val (.long vv), .second, .val (.ref ob8), .unset, .unset] [(.ref ob10), (.ref ob10)])) t₀
        refine XS.iload X10.here hx rfl (hb hby at_79) rfl ?_
        show Steps p.tables e below (T10.setTop (mkF m 81 #[.val (.long p1), .second, .val (.long p2), .second, .val (.long p3), .second, .val (.int p4), .val (.int p5), .val (.long p6), .second, .val (.int (1 : Int32)), .val (.int md), .val (.long od), .second, .val (.long vv), .second, .val (.ref ob8), .unset, .unset] [(.int (1 : Int32)), (.ref ob10), (.ref ob10)])) t₀
        refine XS.ifYes X10.here hx rfl (pc0 := 81) (pc' := 89) rfl (hb hby at_81) rfl ((if0 _ _).trans (feq (by decide : ¬ ((1 : Int32) = (0 : Int32)))).2) (by decide) (by decide) ?_
        show Steps p.tables e below (T10.setTop (mkF m 89 #[.val (.long p1), .second, .val (.long p2), .second, .val (.long p3), .second, .val (.int p4), .val (.int p5), .val (.long p6), .second, .val (.int (1 : Int32)), .val (.int md), .val (.long od), .second, .val (.long vv), .second, .val (.ref ob8), .unset, .unset] [(.ref ob10), (.ref ob10)])) t₀
        refine XS.lloadN X10.here hx rfl (hb hby at_89) rfl ?_
        show Steps p.tables e below (T10.setTop (mkF m 90 #[.val (.long p1), .second, .val (.long p2), .second, .val (.long p3), .second, .val (.int p4), .val (.int p5), .val (.long p6), .second, .val (.int (1 : Int32)), .val (.int md), .val (.long od), .second, .val (.long vv), .second, .val (.ref ob8), .unset, .unset] [(.long p1), (.ref ob10), (.ref ob10)])) t₀
        refine XS.iload X10.here hx rfl (hb hby at_90) rfl ?_
        show Steps p.tables e below (T10.setTop (mkF m 92 #[.val (.long p1), .second, .val (.long p2), .second, .val (.long p3), .second, .val (.int p4), .val (.int p5), .val (.long p6), .second, .val (.int (1 : Int32)), .val (.int md), .val (.long od), .second, .val (.long vv), .second, .val (.ref ob8), .unset, .unset] [(.int (1 : Int32)), (.long p1), (.ref ob10), (.ref ob10)])) t₀
        refine XS.iconst X10.here hx rfl (hb hby at_92) ?_
        show Steps p.tables e below (T10.setTop (mkF m 93 #[.val (.long p1), .second, .val (.long p2), .second, .val (.long p3), .second, .val (.int p4), .val (.int p5), .val (.long p6), .second, .val (.int (1 : Int32)), .val (.int md), .val (.long od), .second, .val (.long vv), .second, .val (.ref ob8), .unset, .unset] [(.int (1 : Int32)), (.int (1 : Int32)), (.long p1), (.ref ob10), (.ref ob10)])) t₀
        refine XS.icmpNo X10.here hx rfl (hb hby at_93) rfl (teq (by decide : ((1 : Int32) = (1 : Int32)))).2 ?_
        show Steps p.tables e below (T10.setTop (mkF m 96 #[.val (.long p1), .second, .val (.long p2), .second, .val (.long p3), .second, .val (.int p4), .val (.int p5), .val (.long p6), .second, .val (.int (1 : Int32)), .val (.int md), .val (.long od), .second, .val (.long vv), .second, .val (.ref ob8), .unset, .unset] [(.long p1), (.ref ob10), (.ref ob10)])) t₀
        refine XS.lload X10.here hx rfl (hb hby at_96) rfl ?_
        show Steps p.tables e below (T10.setTop (mkF m 98 #[.val (.long p1), .second, .val (.long p2), .second, .val (.long p3), .second, .val (.int p4), .val (.int p5), .val (.long p6), .second, .val (.int (1 : Int32)), .val (.int md), .val (.long od), .second, .val (.long vv), .second, .val (.ref ob8), .unset, .unset] [(.long vv), (.long p1), (.ref ob10), (.ref ob10)])) t₀
        refine XS.l2i X10.here hx rfl (hb hby at_98) rfl ?_
        show Steps p.tables e below (T10.setTop (mkF m 99 #[.val (.long p1), .second, .val (.long p2), .second, .val (.long p3), .second, .val (.int p4), .val (.int p5), .val (.long p6), .second, .val (.int (1 : Int32)), .val (.int md), .val (.long od), .second, .val (.long vv), .second, .val (.ref ob8), .unset, .unset] [(.int (vv.toInt32)), (.long p1), (.ref ob10), (.ref ob10)])) t₀
        refine XS.goto X10.here hx rfl (pc0 := 99) (pc' := 104) rfl (hb hby at_99) (by decide) (by decide) ?_
        show Steps p.tables e below (T10.setTop (mkF m 104 #[.val (.long p1), .second, .val (.long p2), .second, .val (.long p3), .second, .val (.int p4), .val (.int p5), .val (.long p6), .second, .val (.int (1 : Int32)), .val (.int md), .val (.long od), .second, .val (.long vv), .second, .val (.ref ob8), .unset, .unset] [(.int (vv.toInt32)), (.long p1), (.ref ob10), (.ref ob10)])) t₀
        refine XS.iload X10.here hx rfl (hb hby at_104) rfl ?_
        show Steps p.tables e below (T10.setTop (mkF m 106 #[.val (.long p1), .second, .val (.long p2), .second, .val (.long p3), .second, .val (.int p4), .val (.int p5), .val (.long p6), .second, .val (.int (1 : Int32)), .val (.int md), .val (.long od), .second, .val (.long vv), .second, .val (.ref ob8), .unset, .unset] [(.int (1 : Int32)), (.int (vv.toInt32)), (.long p1), (.ref ob10), (.ref ob10)])) t₀
        refine XS.iconst X10.here hx rfl (hb hby at_106) ?_
        show Steps p.tables e below (T10.setTop (mkF m 107 #[.val (.long p1), .second, .val (.long p2), .second, .val (.long p3), .second, .val (.int p4), .val (.int p5), .val (.long p6), .second, .val (.int (1 : Int32)), .val (.int md), .val (.long od), .second, .val (.long vv), .second, .val (.ref ob8), .unset, .unset] [(.int (2 : Int32)), (.int (1 : Int32)), (.int (vv.toInt32)), (.long p1), (.ref ob10), (.ref ob10)])) t₀
        refine XS.icmpYes X10.here hx rfl (pc0 := 107) (pc' := 115) rfl (hb hby at_107) rfl (feq (by decide : ¬ ((1 : Int32) = (2 : Int32)))).2 (by decide) (by decide) ?_
        show Steps p.tables e below (T10.setTop (mkF m 115 #[.val (.long p1), .second, .val (.long p2), .second, .val (.long p3), .second, .val (.int p4), .val (.int p5), .val (.long p6), .second, .val (.int (1 : Int32)), .val (.int md), .val (.long od), .second, .val (.long vv), .second, .val (.ref ob8), .unset, .unset] [(.int (vv.toInt32)), (.long p1), (.ref ob10), (.ref ob10)])) t₀
        refine XS.lloadN X10.here hx rfl (hb hby at_115) rfl ?_
        show Steps p.tables e below (T10.setTop (mkF m 116 #[.val (.long p1), .second, .val (.long p2), .second, .val (.long p3), .second, .val (.int p4), .val (.int p5), .val (.long p6), .second, .val (.int (1 : Int32)), .val (.int md), .val (.long od), .second, .val (.long vv), .second, .val (.ref ob8), .unset, .unset] [(.long p2), (.int (vv.toInt32)), (.long p1), (.ref ob10), (.ref ob10)])) t₀
        refine XS.iload X10.here hx rfl (hb hby at_116) rfl ?_
        show Steps p.tables e below (T10.setTop (mkF m 118 #[.val (.long p1), .second, .val (.long p2), .second, .val (.long p3), .second, .val (.int p4), .val (.int p5), .val (.long p6), .second, .val (.int (1 : Int32)), .val (.int md), .val (.long od), .second, .val (.long vv), .second, .val (.ref ob8), .unset, .unset] [(.int (1 : Int32)), (.long p2), (.int (vv.toInt32)), (.long p1), (.ref ob10), (.ref ob10)])) t₀
        refine XS.iconst X10.here hx rfl (hb hby at_118) ?_
        show Steps p.tables e below (T10.setTop (mkF m 119 #[.val (.long p1), .second, .val (.long p2), .second, .val (.long p3), .second, .val (.int p4), .val (.int p5), .val (.long p6), .second, .val (.int (1 : Int32)), .val (.int md), .val (.long od), .second, .val (.long vv), .second, .val (.ref ob8), .unset, .unset] [(.int (3 : Int32)), (.int (1 : Int32)), (.long p2), (.int (vv.toInt32)), (.long p1), (.ref ob10), (.ref ob10)])) t₀
        refine XS.icmpYes X10.here hx rfl (pc0 := 119) (pc' := 127) rfl (hb hby at_119) rfl (feq (by decide : ¬ ((1 : Int32) = (3 : Int32)))).2 (by decide) (by decide) ?_
        show Steps p.tables e below (T10.setTop (mkF m 127 #[.val (.long p1), .second, .val (.long p2), .second, .val (.long p3), .second, .val (.int p4), .val (.int p5), .val (.long p6), .second, .val (.int (1 : Int32)), .val (.int md), .val (.long od), .second, .val (.long vv), .second, .val (.ref ob8), .unset, .unset] [(.long p2), (.int (vv.toInt32)), (.long p1), (.ref ob10), (.ref ob10)])) t₀
        refine XS.lload X10.here hx rfl (hb hby at_127) rfl ?_
        show Steps p.tables e below (T10.setTop (mkF m 129 #[.val (.long p1), .second, .val (.long p2), .second, .val (.long p3), .second, .val (.int p4), .val (.int p5), .val (.long p6), .second, .val (.int (1 : Int32)), .val (.int md), .val (.long od), .second, .val (.long vv), .second, .val (.ref ob8), .unset, .unset] [(.long p3), (.long p2), (.int (vv.toInt32)), (.long p1), (.ref ob10), (.ref ob10)])) t₀
        refine XS.iload X10.here hx rfl (hb hby at_129) rfl ?_
        show Steps p.tables e below (T10.setTop (mkF m 131 #[.val (.long p1), .second, .val (.long p2), .second, .val (.long p3), .second, .val (.int p4), .val (.int p5), .val (.long p6), .second, .val (.int (1 : Int32)), .val (.int md), .val (.long od), .second, .val (.long vv), .second, .val (.ref ob8), .unset, .unset] [(.int (1 : Int32)), (.long p3), (.long p2), (.int (vv.toInt32)), (.long p1), (.ref ob10), (.ref ob10)])) t₀
        refine XS.iconst X10.here hx rfl (hb hby at_131) ?_
        show Steps p.tables e below (T10.setTop (mkF m 132 #[.val (.long p1), .second, .val (.long p2), .second, .val (.long p3), .second, .val (.int p4), .val (.int p5), .val (.long p6), .second, .val (.int (1 : Int32)), .val (.int md), .val (.long od), .second, .val (.long vv), .second, .val (.ref ob8), .unset, .unset] [(.int (4 : Int32)), (.int (1 : Int32)), (.long p3), (.long p2), (.int (vv.toInt32)), (.long p1), (.ref ob10), (.ref ob10)])) t₀
        refine XS.icmpYes X10.here hx rfl (pc0 := 132) (pc' := 140) rfl (hb hby at_132) rfl (feq (by decide : ¬ ((1 : Int32) = (4 : Int32)))).2 (by decide) (by decide) ?_
        show Steps p.tables e below (T10.setTop (mkF m 140 #[.val (.long p1), .second, .val (.long p2), .second, .val (.long p3), .second, .val (.int p4), .val (.int p5), .val (.long p6), .second, .val (.int (1 : Int32)), .val (.int md), .val (.long od), .second, .val (.long vv), .second, .val (.ref ob8), .unset, .unset] [(.long p3), (.long p2), (.int (vv.toInt32)), (.long p1), (.ref ob10), (.ref ob10)])) t₀
        refine XS.lloadN X10.here hx rfl (hb hby at_140) rfl ?_
        show Steps p.tables e below (T10.setTop (mkF m 141 #[.val (.long p1), .second, .val (.long p2), .second, .val (.long p3), .second, .val (.int p4), .val (.int p5), .val (.long p6), .second, .val (.int (1 : Int32)), .val (.int md), .val (.long od), .second, .val (.long vv), .second, .val (.ref ob8), .unset, .unset] [(.long p1), (.long p3), (.long p2), (.int (vv.toInt32)), (.long p1), (.ref ob10), (.ref ob10)])) t₀
        refine XS.lloadN X10.here hx rfl (hb hby at_141) rfl ?_
        show Steps p.tables e below (T10.setTop (mkF m 142 #[.val (.long p1), .second, .val (.long p2), .second, .val (.long p3), .second, .val (.int p4), .val (.int p5), .val (.long p6), .second, .val (.int (1 : Int32)), .val (.int md), .val (.long od), .second, .val (.long vv), .second, .val (.ref ob8), .unset, .unset] [(.long p2), (.long p1), (.long p3), (.long p2), (.int (vv.toInt32)), (.long p1), (.ref ob10), (.ref ob10)])) t₀
        refine XS.lxor X10.here hx rfl (hb hby at_142) rfl ?_
        show Steps p.tables e below (T10.setTop (mkF m 143 #[.val (.long p1), .second, .val (.long p2), .second, .val (.long p3), .second, .val (.int p4), .val (.int p5), .val (.long p6), .second, .val (.int (1 : Int32)), .val (.int md), .val (.long od), .second, .val (.long vv), .second, .val (.ref ob8), .unset, .unset] [(.long (p1 ^^^ p2)), (.long p3), (.long p2), (.int (vv.toInt32)), (.long p1), (.ref ob10), (.ref ob10)])) t₀
        refine XS.iload X10.here hx rfl (hb hby at_143) rfl ?_
        show Steps p.tables e below (T10.setTop (mkF m 145 #[.val (.long p1), .second, .val (.long p2), .second, .val (.long p3), .second, .val (.int p4), .val (.int p5), .val (.long p6), .second, .val (.int (1 : Int32)), .val (.int md), .val (.long od), .second, .val (.long vv), .second, .val (.ref ob8), .unset, .unset] [(.int (1 : Int32)), (.long (p1 ^^^ p2)), (.long p3), (.long p2), (.int (vv.toInt32)), (.long p1), (.ref ob10), (.ref ob10)])) t₀
        refine XS.iconst X10.here hx rfl (hb hby at_145) ?_
        show Steps p.tables e below (T10.setTop (mkF m 146 #[.val (.long p1), .second, .val (.long p2), .second, .val (.long p3), .second, .val (.int p4), .val (.int p5), .val (.long p6), .second, .val (.int (1 : Int32)), .val (.int md), .val (.long od), .second, .val (.long vv), .second, .val (.ref ob8), .unset, .unset] [(.int (5 : Int32)), (.int (1 : Int32)), (.long (p1 ^^^ p2)), (.long p3), (.long p2), (.int (vv.toInt32)), (.long p1), (.ref ob10), (.ref ob10)])) t₀
        refine XS.icmpYes X10.here hx rfl (pc0 := 146) (pc' := 154) rfl (hb hby at_146) rfl (feq (by decide : ¬ ((1 : Int32) = (5 : Int32)))).2 (by decide) (by decide) ?_
        show Steps p.tables e below (T10.setTop (mkF m 154 #[.val (.long p1), .second, .val (.long p2), .second, .val (.long p3), .second, .val (.int p4), .val (.int p5), .val (.long p6), .second, .val (.int (1 : Int32)), .val (.int md), .val (.long od), .second, .val (.long vv), .second, .val (.ref ob8), .unset, .unset] [(.long (p1 ^^^ p2)), (.long p3), (.long p2), (.int (vv.toInt32)), (.long p1), (.ref ob10), (.ref ob10)])) t₀
        refine XS.lloadN X10.here hx rfl (hb hby at_154) rfl ?_
        show Steps p.tables e below (T10.setTop (mkF m 155 #[.val (.long p1), .second, .val (.long p2), .second, .val (.long p3), .second, .val (.int p4), .val (.int p5), .val (.long p6), .second, .val (.int (1 : Int32)), .val (.int md), .val (.long od), .second, .val (.long vv), .second, .val (.ref ob8), .unset, .unset] [(.long p2), (.long (p1 ^^^ p2)), (.long p3), (.long p2), (.int (vv.toInt32)), (.long p1), (.ref ob10), (.ref ob10)])) t₀
        refine XS.lload X10.here hx rfl (hb hby at_155) rfl ?_
        show Steps p.tables e below (T10.setTop (mkF m 157 #[.val (.long p1), .second, .val (.long p2), .second, .val (.long p3), .second, .val (.int p4), .val (.int p5), .val (.long p6), .second, .val (.int (1 : Int32)), .val (.int md), .val (.long od), .second, .val (.long vv), .second, .val (.ref ob8), .unset, .unset] [(.long p3), (.long p2), (.long (p1 ^^^ p2)), (.long p3), (.long p2), (.int (vv.toInt32)), (.long p1), (.ref ob10), (.ref ob10)])) t₀
        refine XS.lxor X10.here hx rfl (hb hby at_157) rfl ?_
        show Steps p.tables e below (T10.setTop (mkF m 158 #[.val (.long p1), .second, .val (.long p2), .second, .val (.long p3), .second, .val (.int p4), .val (.int p5), .val (.long p6), .second, .val (.int (1 : Int32)), .val (.int md), .val (.long od), .second, .val (.long vv), .second, .val (.ref ob8), .unset, .unset] [(.long (p2 ^^^ p3)), (.long (p1 ^^^ p2)), (.long p3), (.long p2), (.int (vv.toInt32)), (.long p1), (.ref ob10), (.ref ob10)])) t₀
        refine XS.iload X10.here hx rfl (hb hby at_158) rfl ?_
        show Steps p.tables e below (T10.setTop (mkF m 160 #[.val (.long p1), .second, .val (.long p2), .second, .val (.long p3), .second, .val (.int p4), .val (.int p5), .val (.long p6), .second, .val (.int (1 : Int32)), .val (.int md), .val (.long od), .second, .val (.long vv), .second, .val (.ref ob8), .unset, .unset] [(.int (1 : Int32)), (.long (p2 ^^^ p3)), (.long (p1 ^^^ p2)), (.long p3), (.long p2), (.int (vv.toInt32)), (.long p1), (.ref ob10), (.ref ob10)])) t₀
        refine XS.bipush X10.here hx rfl (hb hby at_160) ?_
        show Steps p.tables e below (T10.setTop (mkF m 162 #[.val (.long p1), .second, .val (.long p2), .second, .val (.long p3), .second, .val (.int p4), .val (.int p5), .val (.long p6), .second, .val (.int (1 : Int32)), .val (.int md), .val (.long od), .second, .val (.long vv), .second, .val (.ref ob8), .unset, .unset] [(.int (6 : Int32)), (.int (1 : Int32)), (.long (p2 ^^^ p3)), (.long (p1 ^^^ p2)), (.long p3), (.long p2), (.int (vv.toInt32)), (.long p1), (.ref ob10), (.ref ob10)])) t₀
        refine XS.icmpYes X10.here hx rfl (pc0 := 162) (pc' := 170) rfl (hb hby at_162) rfl (feq (by decide : ¬ ((1 : Int32) = (6 : Int32)))).2 (by decide) (by decide) ?_
        show Steps p.tables e below (T10.setTop (mkF m 170 #[.val (.long p1), .second, .val (.long p2), .second, .val (.long p3), .second, .val (.int p4), .val (.int p5), .val (.long p6), .second, .val (.int (1 : Int32)), .val (.int md), .val (.long od), .second, .val (.long vv), .second, .val (.ref ob8), .unset, .unset] [(.long (p2 ^^^ p3)), (.long (p1 ^^^ p2)), (.long p3), (.long p2), (.int (vv.toInt32)), (.long p1), (.ref ob10), (.ref ob10)])) t₀
        refine XS.lloadN X10.here hx rfl (hb hby at_170) rfl ?_
        show Steps p.tables e below (T10.setTop (mkF m 171 #[.val (.long p1), .second, .val (.long p2), .second, .val (.long p3), .second, .val (.int p4), .val (.int p5), .val (.long p6), .second, .val (.int (1 : Int32)), .val (.int md), .val (.long od), .second, .val (.long vv), .second, .val (.ref ob8), .unset, .unset] [(.long p1), (.long (p2 ^^^ p3)), (.long (p1 ^^^ p2)), (.long p3), (.long p2), (.int (vv.toInt32)), (.long p1), (.ref ob10), (.ref ob10)])) t₀
        refine XS.lload X10.here hx rfl (hb hby at_171) rfl ?_
        show Steps p.tables e below (T10.setTop (mkF m 173 #[.val (.long p1), .second, .val (.long p2), .second, .val (.long p3), .second, .val (.int p4), .val (.int p5), .val (.long p6), .second, .val (.int (1 : Int32)), .val (.int md), .val (.long od), .second, .val (.long vv), .second, .val (.ref ob8), .unset, .unset] [(.long p3), (.long p1), (.long (p2 ^^^ p3)), (.long (p1 ^^^ p2)), (.long p3), (.long p2), (.int (vv.toInt32)), (.long p1), (.ref ob10), (.ref ob10)])) t₀
        refine XS.ladd X10.here hx rfl (hb hby at_173) rfl ?_
        show Steps p.tables e below (T10.setTop (mkF m 174 #[.val (.long p1), .second, .val (.long p2), .second, .val (.long p3), .second, .val (.int p4), .val (.int p5), .val (.long p6), .second, .val (.int (1 : Int32)), .val (.int md), .val (.long od), .second, .val (.long vv), .second, .val (.ref ob8), .unset, .unset] [(.long (p1 + p3)), (.long (p2 ^^^ p3)), (.long (p1 ^^^ p2)), (.long p3), (.long p2), (.int (vv.toInt32)), (.long p1), (.ref ob10), (.ref ob10)])) t₀
        refine XS.iload X10.here hx rfl (hb hby at_174) rfl ?_
        show Steps p.tables e below (T10.setTop (mkF m 176 #[.val (.long p1), .second, .val (.long p2), .second, .val (.long p3), .second, .val (.int p4), .val (.int p5), .val (.long p6), .second, .val (.int (1 : Int32)), .val (.int md), .val (.long od), .second, .val (.long vv), .second, .val (.ref ob8), .unset, .unset] [(.int (1 : Int32)), (.long (p1 + p3)), (.long (p2 ^^^ p3)), (.long (p1 ^^^ p2)), (.long p3), (.long p2), (.int (vv.toInt32)), (.long p1), (.ref ob10), (.ref ob10)])) t₀
        refine XS.bipush X10.here hx rfl (hb hby at_176) ?_
        show Steps p.tables e below (T10.setTop (mkF m 178 #[.val (.long p1), .second, .val (.long p2), .second, .val (.long p3), .second, .val (.int p4), .val (.int p5), .val (.long p6), .second, .val (.int (1 : Int32)), .val (.int md), .val (.long od), .second, .val (.long vv), .second, .val (.ref ob8), .unset, .unset] [(.int (7 : Int32)), (.int (1 : Int32)), (.long (p1 + p3)), (.long (p2 ^^^ p3)), (.long (p1 ^^^ p2)), (.long p3), (.long p2), (.int (vv.toInt32)), (.long p1), (.ref ob10), (.ref ob10)])) t₀
        refine XS.icmpYes X10.here hx rfl (pc0 := 178) (pc' := 186) rfl (hb hby at_178) rfl (feq (by decide : ¬ ((1 : Int32) = (7 : Int32)))).2 (by decide) (by decide) ?_
        show Steps p.tables e below (T10.setTop (mkF m 186 #[.val (.long p1), .second, .val (.long p2), .second, .val (.long p3), .second, .val (.int p4), .val (.int p5), .val (.long p6), .second, .val (.int (1 : Int32)), .val (.int md), .val (.long od), .second, .val (.long vv), .second, .val (.ref ob8), .unset, .unset] [(.long (p1 + p3)), (.long (p2 ^^^ p3)), (.long (p1 ^^^ p2)), (.long p3), (.long p2), (.int (vv.toInt32)), (.long p1), (.ref ob10), (.ref ob10)])) t₀
        refine XS.lloadN X10.here hx rfl (hb hby at_186) rfl ?_
        show Steps p.tables e below (T10.setTop (mkF m 187 #[.val (.long p1), .second, .val (.long p2), .second, .val (.long p3), .second, .val (.int p4), .val (.int p5), .val (.long p6), .second, .val (.int (1 : Int32)), .val (.int md), .val (.long od), .second, .val (.long vv), .second, .val (.ref ob8), .unset, .unset] [(.long p2), (.long (p1 + p3)), (.long (p2 ^^^ p3)), (.long (p1 ^^^ p2)), (.long p3), (.long p2), (.int (vv.toInt32)), (.long p1), (.ref ob10), (.ref ob10)])) t₀
        refine XS.lload X10.here hx rfl (hb hby at_187) rfl ?_
        show Steps p.tables e below (T10.setTop (mkF m 189 #[.val (.long p1), .second, .val (.long p2), .second, .val (.long p3), .second, .val (.int p4), .val (.int p5), .val (.long p6), .second, .val (.int (1 : Int32)), .val (.int md), .val (.long od), .second, .val (.long vv), .second, .val (.ref ob8), .unset, .unset] [(.long p3), (.long p2), (.long (p1 + p3)), (.long (p2 ^^^ p3)), (.long (p1 ^^^ p2)), (.long p3), (.long p2), (.int (vv.toInt32)), (.long p1), (.ref ob10), (.ref ob10)])) t₀
        refine XS.lsub X10.here hx rfl (hb hby at_189) rfl ?_
        exact k₀
      obtain ⟨_, _, ⟨T12, L12, k12, n12⟩, -, X12, ⟨Lc12, hQ12, l12, y12, z12⟩, st12⟩ := X10.specialBack hx (y := (⟨"com/example/opledger/opledger/Checkpoint", "<init>", "(JIJJJJJJ)V"⟩ : MethodName)) rfl hown (mvT hZ (hw _ (List.mem_of_getElem? (i := 7) rfl))) (mvT hZ (hw _ (List.mem_of_getElem? (i := 8) rfl))) (mvT hZ (hw _ (List.mem_of_getElem? (i := 9) rfl))) (by decide) (backOf (W := 1) (rmC l Z a0 hw [] ob10 p1 (vv.toInt32) p2 p3 (p1 ^^^ p2) (p2 ^^^ p3) (p1 + p3) (p2 - p3) h10 n0 z_10 A10 g_ob10 F_offset_ob10 F_numOps_ob10 F_generation_ob10 F_minSeqNo_ob10 F_maxSeqNo_ob10 F_globalCheckpoint_ob10 F_minGeneration_ob10 F_trimmedAboveSeqNo_ob10) hZ (hw _ (List.mem_of_getElem? (i := 9) rfl)) (hw _ (List.mem_of_getElem? (i := 6) rfl)) (by decide) (by decide)) (g := (mkF m 190 #[.val (.long p1), .second, .val (.long p2), .second, .val (.long p3), .second, .val (.int p4), .val (.int p5), .val (.long p6), .second, .val (.int (1 : Int32)), .val (.int md), .val (.long od), .second, .val (.long vv), .second, .val (.ref ob8), .unset, .unset] [(.long (p2 - p3)), (.long (p1 + p3)), (.long (p2 ^^^ p3)), (.long (p1 ^^^ p2)), (.long p3), (.long p2), (.int (vv.toInt32)), (.long p1), (.ref ob10), (.ref ob10)])) rfl (by rw [hml]; rfl) (Steps.refl _) (a := ob10) (argsL := [(.long p1), (.int (vv.toInt32)), (.long p2), (.long p3), (.long (p1 ^^^ p2)), (.long (p2 ^^^ p3)), (.long (p1 + p3)), (.long (p2 - p3))]) (rest := [(.ref ob10)]) (lenOf pd_1 rfl) rfl (by show 2 * 0 + _ ≤ _; exact Nat.le_of_eq rfl) (hb hby at_190) (fun _ _ => ⟨rfl, e10, (by decide : 2 + 0 ≤ _), (by decide : 16 + 0 ≤ _)⟩)
      dsimp only [Pt.U, Pt.locs, Pt.cells, Pt.slots] at X12 l12 y12 z12 st12 hQ12
      subst l12 y12 z12
      obtain ⟨rfl, N12q, K12, Q12_0, Q12_1, Q12_2, Q12_3, Q12_4, Q12_5, Q12_6, Q12_7⟩ := hQ12
      have N12 := Fr.app N9 N12q
      refine hG _ _ (fun t₀ k₀ => st12.trans k₀) ?_
      have z_x12 := Nat.le_trans z_10 K12.1
      have o_x12 := o_x10.keep K12 (allS g_ob10 all0)
      have eob8_x12 := eob8_x10.keep K12
      have fob8_offset_x12 := fob8_offset_x10.keep K12 (ninS ne_ob8_ob10 nin0)
      have fob8_numOps_x12 := fob8_numOps_x10.keep K12 (ninS ne_ob8_ob10 nin0)
      have fob8_generation_x12 := fob8_generation_x10.keep K12 (ninS ne_ob8_ob10 nin0)
      have fob8_minSeqNo_x12 := fob8_minSeqNo_x10.keep K12 (ninS ne_ob8_ob10 nin0)
      have fob8_maxSeqNo_x12 := fob8_maxSeqNo_x10.keep K12 (ninS ne_ob8_ob10 nin0)
      have fob8_globalCheckpoint_x12 := fob8_globalCheckpoint_x10.keep K12 (ninS ne_ob8_ob10 nin0)
      have fob8_minGeneration_x12 := fob8_minGeneration_x10.keep K12 (ninS ne_ob8_ob10 nin0)
      have fob8_trimmedAboveSeqNo_x12 := fob8_trimmedAboveSeqNo_x10.keep K12 (ninS ne_ob8_ob10 nin0)
      have eob10_x12 := A10.keep K12
      show G (T12.setTop (mkF m 193 #[.val (.long p1), .second, .val (.long p2), .second, .val (.long p3), .second, .val (.int p4), .val (.int p5), .val (.long p6), .second, .val (.int (1 : Int32)), .val (.int md), .val (.long od), .second, .val (.long vv), .second, .val (.ref ob8), .unset, .unset] [(.ref ob10)]))
      refine hG _ (T12.setTop (mkF m 206 #[.val (.long p1), .second, .val (.long p2), .second, .val (.long p3), .second, .val (.int p4), .val (.int p5), .val (.long p6), .second, .val (.int (1 : Int32)), .val (.int md), .val (.long od), .second, .val (.long vv), .second, .val (.ref ob8), .val (.ref ob10), .unset] [(.int p4), (.int (vv.toInt32))])) (fun t₀ k₀ => ?_) ?_
      · show Steps p.tables e below (T12.setTop (mkF m 193 #[.val (.long p1), .second, .val (.long p2), .second, .val (.long p3), .second, .val (.int p4), .val (.int p5), .val (.long p6), .second, .val (.int (1 : Int32)), .val (.int md), .val (.long od), .second, .val (.long vv), .second, .val (.ref ob8), .unset, .unset] [(.ref ob10)])) t₀
        refine XS.astore X12.here hx rfl (hb hby at_193) rfl rfl (l' := #[.val (.long p1), .second, .val (.long p2), .second, .val (.long p3), .second, .val (.int p4), .val (.int p5), .val (.long p6), .second, .val (.int (1 : Int32)), .val (.int md), .val (.long od), .second, .val (.long vv), .second, .val (.ref ob8), .val (.ref ob10), .unset]) rfl ?_
        show Steps p.tables e below (T12.setTop (mkF m 195 #[.val (.long p1), .second, .val (.long p2), .second, .val (.long p3), .second, .val (.int p4), .val (.int p5), .val (.long p6), .second, .val (.int (1 : Int32)), .val (.int md), .val (.long od), .second, .val (.long vv), .second, .val (.ref ob8), .val (.ref ob10), .unset] [])) t₀
        refine XS.iload X12.here hx rfl (hb hby at_195) rfl ?_
        show Steps p.tables e below (T12.setTop (mkF m 197 #[.val (.long p1), .second, .val (.long p2), .second, .val (.long p3), .second, .val (.int p4), .val (.int p5), .val (.long p6), .second, .val (.int (1 : Int32)), .val (.int md), .val (.long od), .second, .val (.long vv), .second, .val (.ref ob8), .val (.ref ob10), .unset] [(.int (1 : Int32))])) t₀
        refine XS.iconst X12.here hx rfl (hb hby at_197) ?_
        show Steps p.tables e below (T12.setTop (mkF m 198 #[.val (.long p1), .second, .val (.long p2), .second, .val (.long p3), .second, .val (.int p4), .val (.int p5), .val (.long p6), .second, .val (.int (1 : Int32)), .val (.int md), .val (.long od), .second, .val (.long vv), .second, .val (.ref ob8), .val (.ref ob10), .unset] [(.int (1 : Int32)), (.int (1 : Int32))])) t₀
        refine XS.icmpNo X12.here hx rfl (hb hby at_198) rfl (teq (by decide : ((1 : Int32) = (1 : Int32)))).2 ?_
        show Steps p.tables e below (T12.setTop (mkF m 201 #[.val (.long p1), .second, .val (.long p2), .second, .val (.long p3), .second, .val (.int p4), .val (.int p5), .val (.long p6), .second, .val (.int (1 : Int32)), .val (.int md), .val (.long od), .second, .val (.long vv), .second, .val (.ref ob8), .val (.ref ob10), .unset] [])) t₀
        refine XS.lload X12.here hx rfl (hb hby at_201) rfl ?_
        show Steps p.tables e below (T12.setTop (mkF m 203 #[.val (.long p1), .second, .val (.long p2), .second, .val (.long p3), .second, .val (.int p4), .val (.int p5), .val (.long p6), .second, .val (.int (1 : Int32)), .val (.int md), .val (.long od), .second, .val (.long vv), .second, .val (.ref ob8), .val (.ref ob10), .unset] [(.long vv)])) t₀
        refine XS.l2i X12.here hx rfl (hb hby at_203) rfl ?_
        show Steps p.tables e below (T12.setTop (mkF m 204 #[.val (.long p1), .second, .val (.long p2), .second, .val (.long p3), .second, .val (.int p4), .val (.int p5), .val (.long p6), .second, .val (.int (1 : Int32)), .val (.int md), .val (.long od), .second, .val (.long vv), .second, .val (.ref ob8), .val (.ref ob10), .unset] [(.int (vv.toInt32))])) t₀
        refine XS.iload X12.here hx rfl (hb hby at_204) rfl ?_
        exact k₀
      by_cases hx206 : (vv.toInt32) = p4
      ·
        refine hG _ (T12.setTop (mkF m 232 #[.val (.long p1), .second, .val (.long p2), .second, .val (.long p3), .second, .val (.int p4), .val (.int p5), .val (.long p6), .second, .val (.int (1 : Int32)), .val (.int md), .val (.long od), .second, .val (.long vv), .second, .val (.ref ob8), .val (.ref ob10), .val (.int (1 : Int32))] [])) (fun t₀ k₀ => ?_) ?_
        · show Steps p.tables e below (T12.setTop (mkF m 206 #[.val (.long p1), .second, .val (.long p2), .second, .val (.long p3), .second, .val (.int p4), .val (.int p5), .val (.long p6), .second, .val (.int (1 : Int32)), .val (.int md), .val (.long od), .second, .val (.long vv), .second, .val (.ref ob8), .val (.ref ob10), .unset] [(.int p4), (.int (vv.toInt32))])) t₀
          refine XS.icmpNo X12.here hx rfl (hb hby at_206) rfl (teq hx206).2 ?_
          show Steps p.tables e below (T12.setTop (mkF m 209 #[.val (.long p1), .second, .val (.long p2), .second, .val (.long p3), .second, .val (.int p4), .val (.int p5), .val (.long p6), .second, .val (.int (1 : Int32)), .val (.int md), .val (.long od), .second, .val (.long vv), .second, .val (.ref ob8), .val (.ref ob10), .unset] [])) t₀
          refine XS.iconst X12.here hx rfl (hb hby at_209) ?_
          show Steps p.tables e below (T12.setTop (mkF m 210 #[.val (.long p1), .second, .val (.long p2), .second, .val (.long p3), .second, .val (.int p4), .val (.int p5), .val (.long p6), .second, .val (.int (1 : Int32)), .val (.int md), .val (.long od), .second, .val (.long vv), .second, .val (.ref ob8), .val (.ref ob10), .unset] [(.int (1 : Int32))])) t₀
          refine XS.goto X12.here hx rfl (pc0 := 210) (pc' := 230) rfl (hb hby at_210) (by decide) (by decide) ?_
          show Steps p.tables e below (T12.setTop (mkF m 230 #[.val (.long p1), .second, .val (.long p2), .second, .val (.long p3), .second, .val (.int p4), .val (.int p5), .val (.long p6), .second, .val (.int (1 : Int32)), .val (.int md), .val (.long od), .second, .val (.long vv), .second, .val (.ref ob8), .val (.ref ob10), .unset] [(.int (1 : Int32))])) t₀
          refine XS.istore X12.here hx rfl (hb hby at_230) rfl (l' := #[.val (.long p1), .second, .val (.long p2), .second, .val (.long p3), .second, .val (.int p4), .val (.int p5), .val (.long p6), .second, .val (.int (1 : Int32)), .val (.int md), .val (.long od), .second, .val (.long vv), .second, .val (.ref ob8), .val (.ref ob10), .val (.int (1 : Int32))]) rfl ?_
          exact k₀
        have h' : p4 = vv.toInt32 := hx206.symm
        exact tlE T12 T12.heap _ X12 rfl N12 z_x12 o_x12 ob8 ob10 eob8_x12 eob10_x12 fob8_offset_x12 fob8_numOps_x12 fob8_generation_x12 fob8_minSeqNo_x12 fob8_maxSeqNo_x12 fob8_globalCheckpoint_x12 fob8_minGeneration_x12 fob8_trimmedAboveSeqNo_x12 p1 (vv.toInt32) p2 p3 (p1 ^^^ p2) (p2 ^^^ p3) (p1 + p3) (p2 - p3) Q12_0 Q12_1 Q12_2 Q12_3 Q12_4 Q12_5 Q12_6 Q12_7 _ _ (1 : Int32) _ _ (by simp [own_ceq, h'])
      ·
        refine hG _ (T12.setTop (mkF m 232 #[.val (.long p1), .second, .val (.long p2), .second, .val (.long p3), .second, .val (.int p4), .val (.int p5), .val (.long p6), .second, .val (.int (1 : Int32)), .val (.int md), .val (.long od), .second, .val (.long vv), .second, .val (.ref ob8), .val (.ref ob10), .val (.int (0 : Int32))] [])) (fun t₀ k₀ => ?_) ?_
        · show Steps p.tables e below (T12.setTop (mkF m 206 #[.val (.long p1), .second, .val (.long p2), .second, .val (.long p3), .second, .val (.int p4), .val (.int p5), .val (.long p6), .second, .val (.int (1 : Int32)), .val (.int md), .val (.long od), .second, .val (.long vv), .second, .val (.ref ob8), .val (.ref ob10), .unset] [(.int p4), (.int (vv.toInt32))])) t₀
          refine XS.icmpYes X12.here hx rfl (pc0 := 206) (pc' := 213) rfl (hb hby at_206) rfl (feq hx206).2 (by decide) (by decide) ?_
          show Steps p.tables e below (T12.setTop (mkF m 213 #[.val (.long p1), .second, .val (.long p2), .second, .val (.long p3), .second, .val (.int p4), .val (.int p5), .val (.long p6), .second, .val (.int (1 : Int32)), .val (.int md), .val (.long od), .second, .val (.long vv), .second, .val (.ref ob8), .val (.ref ob10), .unset] [])) t₀
          refine XS.iconst X12.here hx rfl (hb hby at_213) ?_
          show Steps p.tables e below (T12.setTop (mkF m 214 #[.val (.long p1), .second, .val (.long p2), .second, .val (.long p3), .second, .val (.int p4), .val (.int p5), .val (.long p6), .second, .val (.int (1 : Int32)), .val (.int md), .val (.long od), .second, .val (.long vv), .second, .val (.ref ob8), .val (.ref ob10), .unset] [(.int (0 : Int32))])) t₀
          refine XS.goto X12.here hx rfl (pc0 := 214) (pc' := 230) rfl (hb hby at_214) (by decide) (by decide) ?_
          show Steps p.tables e below (T12.setTop (mkF m 230 #[.val (.long p1), .second, .val (.long p2), .second, .val (.long p3), .second, .val (.int p4), .val (.int p5), .val (.long p6), .second, .val (.int (1 : Int32)), .val (.int md), .val (.long od), .second, .val (.long vv), .second, .val (.ref ob8), .val (.ref ob10), .unset] [(.int (0 : Int32))])) t₀
          refine XS.istore X12.here hx rfl (hb hby at_230) rfl (l' := #[.val (.long p1), .second, .val (.long p2), .second, .val (.long p3), .second, .val (.int p4), .val (.int p5), .val (.long p6), .second, .val (.int (1 : Int32)), .val (.int md), .val (.long od), .second, .val (.long vv), .second, .val (.ref ob8), .val (.ref ob10), .val (.int (0 : Int32))]) rfl ?_
          exact k₀
        have h' : ¬ (p4 = vv.toInt32) := fun q => hx206 q.symm
        exact tlE T12 T12.heap _ X12 rfl N12 z_x12 o_x12 ob8 ob10 eob8_x12 eob10_x12 fob8_offset_x12 fob8_numOps_x12 fob8_generation_x12 fob8_minSeqNo_x12 fob8_maxSeqNo_x12 fob8_globalCheckpoint_x12 fob8_minGeneration_x12 fob8_trimmedAboveSeqNo_x12 p1 (vv.toInt32) p2 p3 (p1 ^^^ p2) (p2 ^^^ p3) (p1 + p3) (p2 - p3) Q12_0 Q12_1 Q12_2 Q12_3 Q12_4 Q12_5 Q12_6 Q12_7 _ _ (0 : Int32) _ _ (by simp [own_ceq, h'])
    ·
      subst h8
      show G (T10.setTop (mkF m 79 #[.val (.long p1), .second, .val (.long p2), .second, .val (.long p3), .second, .val (.int p4), .val (.int p5), .val (.long p6), .second, .val (.int (2 : Int32)), .val (.int md), .val (.long od), .second, .val (.long vv), .second, .val (.ref ob8), .unset, .unset] [(.ref ob10), (.ref ob10)]))
      have hodi : od = p2 := hod.trans (by simp [own_old])
      refine hG _ (T10.setTop (mkF m 190 #[.val (.long p1), .second, .val (.long p2), .second, .val (.long p3), .second, .val (.int p4), .val (.int p5), .val (.long p6), .second, .val (.int (2 : Int32)), .val (.int md), .val (.long od), .second, .val (.long vv), .second, .val (.ref ob8), .unset, .unset] [(.long (p2 - p3)), (.long (p1 + p3)), (.long (p2 ^^^ p3)), (.long (p1 ^^^ p2)), (.long p3), (.long vv), (.int p4), (.long p1), (.ref ob10), (.ref ob10)])) (fun t₀ k₀ => ?_) ?_
      · show Steps p.tables e below (T10.setTop (mkF m 79 #[.val (.long p1), .second, .val (.long p2), .second, .val (.long p3), .second, .val (.int p4), .val (.int p5), .val (.long p6), .second, .val (.int (2 : Int32)), .val (.int md), .val (.long od), .second, .val (.long vv), .second, .val (.ref ob8), .unset, .unset] [(.ref ob10), (.ref ob10)])) t₀
        refine XS.iload X10.here hx rfl (hb hby at_79) rfl ?_
        show Steps p.tables e below (T10.setTop (mkF m 81 #[.val (.long p1), .second, .val (.long p2), .second, .val (.long p3), .second, .val (.int p4), .val (.int p5), .val (.long p6), .second, .val (.int (2 : Int32)), .val (.int md), .val (.long od), .second, .val (.long vv), .second, .val (.ref ob8), .unset, .unset] [(.int (2 : Int32)), (.ref ob10), (.ref ob10)])) t₀
        refine XS.ifYes X10.here hx rfl (pc0 := 81) (pc' := 89) rfl (hb hby at_81) rfl ((if0 _ _).trans (feq (by decide : ¬ ((2 : Int32) = (0 : Int32)))).2) (by decide) (by decide) ?_
        show Steps p.tables e below (T10.setTop (mkF m 89 #[.val (.long p1), .second, .val (.long p2), .second, .val (.long p3), .second, .val (.int p4), .val (.int p5), .val (.long p6), .second, .val (.int (2 : Int32)), .val (.int md), .val (.long od), .second, .val (.long vv), .second, .val (.ref ob8), .unset, .unset] [(.ref ob10), (.ref ob10)])) t₀
        refine XS.lloadN X10.here hx rfl (hb hby at_89) rfl ?_
        show Steps p.tables e below (T10.setTop (mkF m 90 #[.val (.long p1), .second, .val (.long p2), .second, .val (.long p3), .second, .val (.int p4), .val (.int p5), .val (.long p6), .second, .val (.int (2 : Int32)), .val (.int md), .val (.long od), .second, .val (.long vv), .second, .val (.ref ob8), .unset, .unset] [(.long p1), (.ref ob10), (.ref ob10)])) t₀
        refine XS.iload X10.here hx rfl (hb hby at_90) rfl ?_
        show Steps p.tables e below (T10.setTop (mkF m 92 #[.val (.long p1), .second, .val (.long p2), .second, .val (.long p3), .second, .val (.int p4), .val (.int p5), .val (.long p6), .second, .val (.int (2 : Int32)), .val (.int md), .val (.long od), .second, .val (.long vv), .second, .val (.ref ob8), .unset, .unset] [(.int (2 : Int32)), (.long p1), (.ref ob10), (.ref ob10)])) t₀
        refine XS.iconst X10.here hx rfl (hb hby at_92) ?_
        show Steps p.tables e below (T10.setTop (mkF m 93 #[.val (.long p1), .second, .val (.long p2), .second, .val (.long p3), .second, .val (.int p4), .val (.int p5), .val (.long p6), .second, .val (.int (2 : Int32)), .val (.int md), .val (.long od), .second, .val (.long vv), .second, .val (.ref ob8), .unset, .unset] [(.int (1 : Int32)), (.int (2 : Int32)), (.long p1), (.ref ob10), (.ref ob10)])) t₀
        refine XS.icmpYes X10.here hx rfl (pc0 := 93) (pc' := 102) rfl (hb hby at_93) rfl (feq (by decide : ¬ ((2 : Int32) = (1 : Int32)))).2 (by decide) (by decide) ?_
        show Steps p.tables e below (T10.setTop (mkF m 102 #[.val (.long p1), .second, .val (.long p2), .second, .val (.long p3), .second, .val (.int p4), .val (.int p5), .val (.long p6), .second, .val (.int (2 : Int32)), .val (.int md), .val (.long od), .second, .val (.long vv), .second, .val (.ref ob8), .unset, .unset] [(.long p1), (.ref ob10), (.ref ob10)])) t₀
        refine XS.iload X10.here hx rfl (hb hby at_102) rfl ?_
        show Steps p.tables e below (T10.setTop (mkF m 104 #[.val (.long p1), .second, .val (.long p2), .second, .val (.long p3), .second, .val (.int p4), .val (.int p5), .val (.long p6), .second, .val (.int (2 : Int32)), .val (.int md), .val (.long od), .second, .val (.long vv), .second, .val (.ref ob8), .unset, .unset] [(.int p4), (.long p1), (.ref ob10), (.ref ob10)])) t₀
        refine XS.iload X10.here hx rfl (hb hby at_104) rfl ?_
        show Steps p.tables e below (T10.setTop (mkF m 106 #[.val (.long p1), .second, .val (.long p2), .second, .val (.long p3), .second, .val (.int p4), .val (.int p5), .val (.long p6), .second, .val (.int (2 : Int32)), .val (.int md), .val (.long od), .second, .val (.long vv), .second, .val (.ref ob8), .unset, .unset] [(.int (2 : Int32)), (.int p4), (.long p1), (.ref ob10), (.ref ob10)])) t₀
        refine XS.iconst X10.here hx rfl (hb hby at_106) ?_
        show Steps p.tables e below (T10.setTop (mkF m 107 #[.val (.long p1), .second, .val (.long p2), .second, .val (.long p3), .second, .val (.int p4), .val (.int p5), .val (.long p6), .second, .val (.int (2 : Int32)), .val (.int md), .val (.long od), .second, .val (.long vv), .second, .val (.ref ob8), .unset, .unset] [(.int (2 : Int32)), (.int (2 : Int32)), (.int p4), (.long p1), (.ref ob10), (.ref ob10)])) t₀
        refine XS.icmpNo X10.here hx rfl (hb hby at_107) rfl (teq (by decide : ((2 : Int32) = (2 : Int32)))).2 ?_
        show Steps p.tables e below (T10.setTop (mkF m 110 #[.val (.long p1), .second, .val (.long p2), .second, .val (.long p3), .second, .val (.int p4), .val (.int p5), .val (.long p6), .second, .val (.int (2 : Int32)), .val (.int md), .val (.long od), .second, .val (.long vv), .second, .val (.ref ob8), .unset, .unset] [(.int p4), (.long p1), (.ref ob10), (.ref ob10)])) t₀
        refine XS.lload X10.here hx rfl (hb hby at_110) rfl ?_
        show Steps p.tables e below (T10.setTop (mkF m 112 #[.val (.long p1), .second, .val (.long p2), .second, .val (.long p3), .second, .val (.int p4), .val (.int p5), .val (.long p6), .second, .val (.int (2 : Int32)), .val (.int md), .val (.long od), .second, .val (.long vv), .second, .val (.ref ob8), .unset, .unset] [(.long vv), (.int p4), (.long p1), (.ref ob10), (.ref ob10)])) t₀
        refine XS.goto X10.here hx rfl (pc0 := 112) (pc' := 116) rfl (hb hby at_112) (by decide) (by decide) ?_
        show Steps p.tables e below (T10.setTop (mkF m 116 #[.val (.long p1), .second, .val (.long p2), .second, .val (.long p3), .second, .val (.int p4), .val (.int p5), .val (.long p6), .second, .val (.int (2 : Int32)), .val (.int md), .val (.long od), .second, .val (.long vv), .second, .val (.ref ob8), .unset, .unset] [(.long vv), (.int p4), (.long p1), (.ref ob10), (.ref ob10)])) t₀
        refine XS.iload X10.here hx rfl (hb hby at_116) rfl ?_
        show Steps p.tables e below (T10.setTop (mkF m 118 #[.val (.long p1), .second, .val (.long p2), .second, .val (.long p3), .second, .val (.int p4), .val (.int p5), .val (.long p6), .second, .val (.int (2 : Int32)), .val (.int md), .val (.long od), .second, .val (.long vv), .second, .val (.ref ob8), .unset, .unset] [(.int (2 : Int32)), (.long vv), (.int p4), (.long p1), (.ref ob10), (.ref ob10)])) t₀
        refine XS.iconst X10.here hx rfl (hb hby at_118) ?_
        show Steps p.tables e below (T10.setTop (mkF m 119 #[.val (.long p1), .second, .val (.long p2), .second, .val (.long p3), .second, .val (.int p4), .val (.int p5), .val (.long p6), .second, .val (.int (2 : Int32)), .val (.int md), .val (.long od), .second, .val (.long vv), .second, .val (.ref ob8), .unset, .unset] [(.int (3 : Int32)), (.int (2 : Int32)), (.long vv), (.int p4), (.long p1), (.ref ob10), (.ref ob10)])) t₀
        refine XS.icmpYes X10.here hx rfl (pc0 := 119) (pc' := 127) rfl (hb hby at_119) rfl (feq (by decide : ¬ ((2 : Int32) = (3 : Int32)))).2 (by decide) (by decide) ?_
        show Steps p.tables e below (T10.setTop (mkF m 127 #[.val (.long p1), .second, .val (.long p2), .second, .val (.long p3), .second, .val (.int p4), .val (.int p5), .val (.long p6), .second, .val (.int (2 : Int32)), .val (.int md), .val (.long od), .second, .val (.long vv), .second, .val (.ref ob8), .unset, .unset] [(.long vv), (.int p4), (.long p1), (.ref ob10), (.ref ob10)])) t₀
        refine XS.lload X10.here hx rfl (hb hby at_127) rfl ?_
        show Steps p.tables e below (T10.setTop (mkF m 129 #[.val (.long p1), .second, .val (.long p2), .second, .val (.long p3), .second, .val (.int p4), .val (.int p5), .val (.long p6), .second, .val (.int (2 : Int32)), .val (.int md), .val (.long od), .second, .val (.long vv), .second, .val (.ref ob8), .unset, .unset] [(.long p3), (.long vv), (.int p4), (.long p1), (.ref ob10), (.ref ob10)])) t₀
        refine XS.iload X10.here hx rfl (hb hby at_129) rfl ?_
        show Steps p.tables e below (T10.setTop (mkF m 131 #[.val (.long p1), .second, .val (.long p2), .second, .val (.long p3), .second, .val (.int p4), .val (.int p5), .val (.long p6), .second, .val (.int (2 : Int32)), .val (.int md), .val (.long od), .second, .val (.long vv), .second, .val (.ref ob8), .unset, .unset] [(.int (2 : Int32)), (.long p3), (.long vv), (.int p4), (.long p1), (.ref ob10), (.ref ob10)])) t₀
        refine XS.iconst X10.here hx rfl (hb hby at_131) ?_
        show Steps p.tables e below (T10.setTop (mkF m 132 #[.val (.long p1), .second, .val (.long p2), .second, .val (.long p3), .second, .val (.int p4), .val (.int p5), .val (.long p6), .second, .val (.int (2 : Int32)), .val (.int md), .val (.long od), .second, .val (.long vv), .second, .val (.ref ob8), .unset, .unset] [(.int (4 : Int32)), (.int (2 : Int32)), (.long p3), (.long vv), (.int p4), (.long p1), (.ref ob10), (.ref ob10)])) t₀
        refine XS.icmpYes X10.here hx rfl (pc0 := 132) (pc' := 140) rfl (hb hby at_132) rfl (feq (by decide : ¬ ((2 : Int32) = (4 : Int32)))).2 (by decide) (by decide) ?_
        show Steps p.tables e below (T10.setTop (mkF m 140 #[.val (.long p1), .second, .val (.long p2), .second, .val (.long p3), .second, .val (.int p4), .val (.int p5), .val (.long p6), .second, .val (.int (2 : Int32)), .val (.int md), .val (.long od), .second, .val (.long vv), .second, .val (.ref ob8), .unset, .unset] [(.long p3), (.long vv), (.int p4), (.long p1), (.ref ob10), (.ref ob10)])) t₀
        refine XS.lloadN X10.here hx rfl (hb hby at_140) rfl ?_
        show Steps p.tables e below (T10.setTop (mkF m 141 #[.val (.long p1), .second, .val (.long p2), .second, .val (.long p3), .second, .val (.int p4), .val (.int p5), .val (.long p6), .second, .val (.int (2 : Int32)), .val (.int md), .val (.long od), .second, .val (.long vv), .second, .val (.ref ob8), .unset, .unset] [(.long p1), (.long p3), (.long vv), (.int p4), (.long p1), (.ref ob10), (.ref ob10)])) t₀
        refine XS.lloadN X10.here hx rfl (hb hby at_141) rfl ?_
        show Steps p.tables e below (T10.setTop (mkF m 142 #[.val (.long p1), .second, .val (.long p2), .second, .val (.long p3), .second, .val (.int p4), .val (.int p5), .val (.long p6), .second, .val (.int (2 : Int32)), .val (.int md), .val (.long od), .second, .val (.long vv), .second, .val (.ref ob8), .unset, .unset] [(.long p2), (.long p1), (.long p3), (.long vv), (.int p4), (.long p1), (.ref ob10), (.ref ob10)])) t₀
        refine XS.lxor X10.here hx rfl (hb hby at_142) rfl ?_
        show Steps p.tables e below (T10.setTop (mkF m 143 #[.val (.long p1), .second, .val (.long p2), .second, .val (.long p3), .second, .val (.int p4), .val (.int p5), .val (.long p6), .second, .val (.int (2 : Int32)), .val (.int md), .val (.long od), .second, .val (.long vv), .second, .val (.ref ob8), .unset, .unset] [(.long (p1 ^^^ p2)), (.long p3), (.long vv), (.int p4), (.long p1), (.ref ob10), (.ref ob10)])) t₀
        refine XS.iload X10.here hx rfl (hb hby at_143) rfl ?_
        show Steps p.tables e below (T10.setTop (mkF m 145 #[.val (.long p1), .second, .val (.long p2), .second, .val (.long p3), .second, .val (.int p4), .val (.int p5), .val (.long p6), .second, .val (.int (2 : Int32)), .val (.int md), .val (.long od), .second, .val (.long vv), .second, .val (.ref ob8), .unset, .unset] [(.int (2 : Int32)), (.long (p1 ^^^ p2)), (.long p3), (.long vv), (.int p4), (.long p1), (.ref ob10), (.ref ob10)])) t₀
        refine XS.iconst X10.here hx rfl (hb hby at_145) ?_
        show Steps p.tables e below (T10.setTop (mkF m 146 #[.val (.long p1), .second, .val (.long p2), .second, .val (.long p3), .second, .val (.int p4), .val (.int p5), .val (.long p6), .second, .val (.int (2 : Int32)), .val (.int md), .val (.long od), .second, .val (.long vv), .second, .val (.ref ob8), .unset, .unset] [(.int (5 : Int32)), (.int (2 : Int32)), (.long (p1 ^^^ p2)), (.long p3), (.long vv), (.int p4), (.long p1), (.ref ob10), (.ref ob10)])) t₀
        refine XS.icmpYes X10.here hx rfl (pc0 := 146) (pc' := 154) rfl (hb hby at_146) rfl (feq (by decide : ¬ ((2 : Int32) = (5 : Int32)))).2 (by decide) (by decide) ?_
        show Steps p.tables e below (T10.setTop (mkF m 154 #[.val (.long p1), .second, .val (.long p2), .second, .val (.long p3), .second, .val (.int p4), .val (.int p5), .val (.long p6), .second, .val (.int (2 : Int32)), .val (.int md), .val (.long od), .second, .val (.long vv), .second, .val (.ref ob8), .unset, .unset] [(.long (p1 ^^^ p2)), (.long p3), (.long vv), (.int p4), (.long p1), (.ref ob10), (.ref ob10)])) t₀
        refine XS.lloadN X10.here hx rfl (hb hby at_154) rfl ?_
        show Steps p.tables e below (T10.setTop (mkF m 155 #[.val (.long p1), .second, .val (.long p2), .second, .val (.long p3), .second, .val (.int p4), .val (.int p5), .val (.long p6), .second, .val (.int (2 : Int32)), .val (.int md), .val (.long od), .second, .val (.long vv), .second, .val (.ref ob8), .unset, .unset] [(.long p2), (.long (p1 ^^^ p2)), (.long p3), (.long vv), (.int p4), (.long p1), (.ref ob10), (.ref ob10)])) t₀
        refine XS.lload X10.here hx rfl (hb hby at_155) rfl ?_
        show Steps p.tables e below (T10.setTop (mkF m 157 #[.val (.long p1), .second, .val (.long p2), .second, .val (.long p3), .second, .val (.int p4), .val (.int p5), .val (.long p6), .second, .val (.int (2 : Int32)), .val (.int md), .val (.long od), .second, .val (.long vv), .second, .val (.ref ob8), .unset, .unset] [(.long p3), (.long p2), (.long (p1 ^^^ p2)), (.long p3), (.long vv), (.int p4), (.long p1), (.ref ob10), (.ref ob10)])) t₀
        refine XS.lxor X10.here hx rfl (hb hby at_157) rfl ?_
        show Steps p.tables e below (T10.setTop (mkF m 158 #[.val (.long p1), .second, .val (.long p2), .second, .val (.long p3), .second, .val (.int p4), .val (.int p5), .val (.long p6), .second, .val (.int (2 : Int32)), .val (.int md), .val (.long od), .second, .val (.long vv), .second, .val (.ref ob8), .unset, .unset] [(.long (p2 ^^^ p3)), (.long (p1 ^^^ p2)), (.long p3), (.long vv), (.int p4), (.long p1), (.ref ob10), (.ref ob10)])) t₀
        refine XS.iload X10.here hx rfl (hb hby at_158) rfl ?_
        show Steps p.tables e below (T10.setTop (mkF m 160 #[.val (.long p1), .second, .val (.long p2), .second, .val (.long p3), .second, .val (.int p4), .val (.int p5), .val (.long p6), .second, .val (.int (2 : Int32)), .val (.int md), .val (.long od), .second, .val (.long vv), .second, .val (.ref ob8), .unset, .unset] [(.int (2 : Int32)), (.long (p2 ^^^ p3)), (.long (p1 ^^^ p2)), (.long p3), (.long vv), (.int p4), (.long p1), (.ref ob10), (.ref ob10)])) t₀
        refine XS.bipush X10.here hx rfl (hb hby at_160) ?_
        show Steps p.tables e below (T10.setTop (mkF m 162 #[.val (.long p1), .second, .val (.long p2), .second, .val (.long p3), .second, .val (.int p4), .val (.int p5), .val (.long p6), .second, .val (.int (2 : Int32)), .val (.int md), .val (.long od), .second, .val (.long vv), .second, .val (.ref ob8), .unset, .unset] [(.int (6 : Int32)), (.int (2 : Int32)), (.long (p2 ^^^ p3)), (.long (p1 ^^^ p2)), (.long p3), (.long vv), (.int p4), (.long p1), (.ref ob10), (.ref ob10)])) t₀
        refine XS.icmpYes X10.here hx rfl (pc0 := 162) (pc' := 170) rfl (hb hby at_162) rfl (feq (by decide : ¬ ((2 : Int32) = (6 : Int32)))).2 (by decide) (by decide) ?_
        show Steps p.tables e below (T10.setTop (mkF m 170 #[.val (.long p1), .second, .val (.long p2), .second, .val (.long p3), .second, .val (.int p4), .val (.int p5), .val (.long p6), .second, .val (.int (2 : Int32)), .val (.int md), .val (.long od), .second, .val (.long vv), .second, .val (.ref ob8), .unset, .unset] [(.long (p2 ^^^ p3)), (.long (p1 ^^^ p2)), (.long p3), (.long vv), (.int p4), (.long p1), (.ref ob10), (.ref ob10)])) t₀
        refine XS.lloadN X10.here hx rfl (hb hby at_170) rfl ?_
        show Steps p.tables e below (T10.setTop (mkF m 171 #[.val (.long p1), .second, .val (.long p2), .second, .val (.long p3), .second, .val (.int p4), .val (.int p5), .val (.long p6), .second, .val (.int (2 : Int32)), .val (.int md), .val (.long od), .second, .val (.long vv), .second, .val (.ref ob8), .unset, .unset] [(.long p1), (.long (p2 ^^^ p3)), (.long (p1 ^^^ p2)), (.long p3), (.long vv), (.int p4), (.long p1), (.ref ob10), (.ref ob10)])) t₀
        refine XS.lload X10.here hx rfl (hb hby at_171) rfl ?_
        show Steps p.tables e below (T10.setTop (mkF m 173 #[.val (.long p1), .second, .val (.long p2), .second, .val (.long p3), .second, .val (.int p4), .val (.int p5), .val (.long p6), .second, .val (.int (2 : Int32)), .val (.int md), .val (.long od), .second, .val (.long vv), .second, .val (.ref ob8), .unset, .unset] [(.long p3), (.long p1), (.long (p2 ^^^ p3)), (.long (p1 ^^^ p2)), (.long p3), (.long vv), (.int p4), (.long p1), (.ref ob10), (.ref ob10)])) t₀
        refine XS.ladd X10.here hx rfl (hb hby at_173) rfl ?_
        show Steps p.tables e below (T10.setTop (mkF m 174 #[.val (.long p1), .second, .val (.long p2), .second, .val (.long p3), .second, .val (.int p4), .val (.int p5), .val (.long p6), .second, .val (.int (2 : Int32)), .val (.int md), .val (.long od), .second, .val (.long vv), .second, .val (.ref ob8), .unset, .unset] [(.long (p1 + p3)), (.long (p2 ^^^ p3)), (.long (p1 ^^^ p2)), (.long p3), (.long vv), (.int p4), (.long p1), (.ref ob10), (.ref ob10)])) t₀
        refine XS.iload X10.here hx rfl (hb hby at_174) rfl ?_
        show Steps p.tables e below (T10.setTop (mkF m 176 #[.val (.long p1), .second, .val (.long p2), .second, .val (.long p3), .second, .val (.int p4), .val (.int p5), .val (.long p6), .second, .val (.int (2 : Int32)), .val (.int md), .val (.long od), .second, .val (.long vv), .second, .val (.ref ob8), .unset, .unset] [(.int (2 : Int32)), (.long (p1 + p3)), (.long (p2 ^^^ p3)), (.long (p1 ^^^ p2)), (.long p3), (.long vv), (.int p4), (.long p1), (.ref ob10), (.ref ob10)])) t₀
        refine XS.bipush X10.here hx rfl (hb hby at_176) ?_
        show Steps p.tables e below (T10.setTop (mkF m 178 #[.val (.long p1), .second, .val (.long p2), .second, .val (.long p3), .second, .val (.int p4), .val (.int p5), .val (.long p6), .second, .val (.int (2 : Int32)), .val (.int md), .val (.long od), .second, .val (.long vv), .second, .val (.ref ob8), .unset, .unset] [(.int (7 : Int32)), (.int (2 : Int32)), (.long (p1 + p3)), (.long (p2 ^^^ p3)), (.long (p1 ^^^ p2)), (.long p3), (.long vv), (.int p4), (.long p1), (.ref ob10), (.ref ob10)])) t₀
        refine XS.icmpYes X10.here hx rfl (pc0 := 178) (pc' := 186) rfl (hb hby at_178) rfl (feq (by decide : ¬ ((2 : Int32) = (7 : Int32)))).2 (by decide) (by decide) ?_
        show Steps p.tables e below (T10.setTop (mkF m 186 #[.val (.long p1), .second, .val (.long p2), .second, .val (.long p3), .second, .val (.int p4), .val (.int p5), .val (.long p6), .second, .val (.int (2 : Int32)), .val (.int md), .val (.long od), .second, .val (.long vv), .second, .val (.ref ob8), .unset, .unset] [(.long (p1 + p3)), (.long (p2 ^^^ p3)), (.long (p1 ^^^ p2)), (.long p3), (.long vv), (.int p4), (.long p1), (.ref ob10), (.ref ob10)])) t₀
        refine XS.lloadN X10.here hx rfl (hb hby at_186) rfl ?_
        show Steps p.tables e below (T10.setTop (mkF m 187 #[.val (.long p1), .second, .val (.long p2), .second, .val (.long p3), .second, .val (.int p4), .val (.int p5), .val (.long p6), .second, .val (.int (2 : Int32)), .val (.int md), .val (.long od), .second, .val (.long vv), .second, .val (.ref ob8), .unset, .unset] [(.long p2), (.long (p1 + p3)), (.long (p2 ^^^ p3)), (.long (p1 ^^^ p2)), (.long p3), (.long vv), (.int p4), (.long p1), (.ref ob10), (.ref ob10)])) t₀
        refine XS.lload X10.here hx rfl (hb hby at_187) rfl ?_
        show Steps p.tables e below (T10.setTop (mkF m 189 #[.val (.long p1), .second, .val (.long p2), .second, .val (.long p3), .second, .val (.int p4), .val (.int p5), .val (.long p6), .second, .val (.int (2 : Int32)), .val (.int md), .val (.long od), .second, .val (.long vv), .second, .val (.ref ob8), .unset, .unset] [(.long p3), (.long p2), (.long (p1 + p3)), (.long (p2 ^^^ p3)), (.long (p1 ^^^ p2)), (.long p3), (.long vv), (.int p4), (.long p1), (.ref ob10), (.ref ob10)])) t₀
        refine XS.lsub X10.here hx rfl (hb hby at_189) rfl ?_
        exact k₀
      obtain ⟨_, _, ⟨T13, L13, k13, n13⟩, -, X13, ⟨Lc13, hQ13, l13, y13, z13⟩, st13⟩ := X10.specialBack hx (y := (⟨"com/example/opledger/opledger/Checkpoint", "<init>", "(JIJJJJJJ)V"⟩ : MethodName)) rfl hown (mvT hZ (hw _ (List.mem_of_getElem? (i := 7) rfl))) (mvT hZ (hw _ (List.mem_of_getElem? (i := 8) rfl))) (mvT hZ (hw _ (List.mem_of_getElem? (i := 9) rfl))) (by decide) (backOf (W := 1) (rmC l Z a0 hw [] ob10 p1 p4 vv p3 (p1 ^^^ p2) (p2 ^^^ p3) (p1 + p3) (p2 - p3) h10 n0 z_10 A10 g_ob10 F_offset_ob10 F_numOps_ob10 F_generation_ob10 F_minSeqNo_ob10 F_maxSeqNo_ob10 F_globalCheckpoint_ob10 F_minGeneration_ob10 F_trimmedAboveSeqNo_ob10) hZ (hw _ (List.mem_of_getElem? (i := 9) rfl)) (hw _ (List.mem_of_getElem? (i := 6) rfl)) (by decide) (by decide)) (g := (mkF m 190 #[.val (.long p1), .second, .val (.long p2), .second, .val (.long p3), .second, .val (.int p4), .val (.int p5), .val (.long p6), .second, .val (.int (2 : Int32)), .val (.int md), .val (.long od), .second, .val (.long vv), .second, .val (.ref ob8), .unset, .unset] [(.long (p2 - p3)), (.long (p1 + p3)), (.long (p2 ^^^ p3)), (.long (p1 ^^^ p2)), (.long p3), (.long vv), (.int p4), (.long p1), (.ref ob10), (.ref ob10)])) rfl (by rw [hml]; rfl) (Steps.refl _) (a := ob10) (argsL := [(.long p1), (.int p4), (.long vv), (.long p3), (.long (p1 ^^^ p2)), (.long (p2 ^^^ p3)), (.long (p1 + p3)), (.long (p2 - p3))]) (rest := [(.ref ob10)]) (lenOf pd_1 rfl) rfl (by show 2 * 0 + _ ≤ _; exact Nat.le_of_eq rfl) (hb hby at_190) (fun _ _ => ⟨rfl, e10, (by decide : 2 + 0 ≤ _), (by decide : 16 + 0 ≤ _)⟩)
      dsimp only [Pt.U, Pt.locs, Pt.cells, Pt.slots] at X13 l13 y13 z13 st13 hQ13
      subst l13 y13 z13
      obtain ⟨rfl, N13q, K13, Q13_0, Q13_1, Q13_2, Q13_3, Q13_4, Q13_5, Q13_6, Q13_7⟩ := hQ13
      have N13 := Fr.app N9 N13q
      refine hG _ _ (fun t₀ k₀ => st13.trans k₀) ?_
      have z_x13 := Nat.le_trans z_10 K13.1
      have o_x13 := o_x10.keep K13 (allS g_ob10 all0)
      have eob8_x13 := eob8_x10.keep K13
      have fob8_offset_x13 := fob8_offset_x10.keep K13 (ninS ne_ob8_ob10 nin0)
      have fob8_numOps_x13 := fob8_numOps_x10.keep K13 (ninS ne_ob8_ob10 nin0)
      have fob8_generation_x13 := fob8_generation_x10.keep K13 (ninS ne_ob8_ob10 nin0)
      have fob8_minSeqNo_x13 := fob8_minSeqNo_x10.keep K13 (ninS ne_ob8_ob10 nin0)
      have fob8_maxSeqNo_x13 := fob8_maxSeqNo_x10.keep K13 (ninS ne_ob8_ob10 nin0)
      have fob8_globalCheckpoint_x13 := fob8_globalCheckpoint_x10.keep K13 (ninS ne_ob8_ob10 nin0)
      have fob8_minGeneration_x13 := fob8_minGeneration_x10.keep K13 (ninS ne_ob8_ob10 nin0)
      have fob8_trimmedAboveSeqNo_x13 := fob8_trimmedAboveSeqNo_x10.keep K13 (ninS ne_ob8_ob10 nin0)
      have eob10_x13 := A10.keep K13
      show G (T13.setTop (mkF m 193 #[.val (.long p1), .second, .val (.long p2), .second, .val (.long p3), .second, .val (.int p4), .val (.int p5), .val (.long p6), .second, .val (.int (2 : Int32)), .val (.int md), .val (.long od), .second, .val (.long vv), .second, .val (.ref ob8), .unset, .unset] [(.ref ob10)]))
      refine hG _ (T13.setTop (mkF m 222 #[.val (.long p1), .second, .val (.long p2), .second, .val (.long p3), .second, .val (.int p4), .val (.int p5), .val (.long p6), .second, .val (.int (2 : Int32)), .val (.int md), .val (.long od), .second, .val (.long vv), .second, .val (.ref ob8), .val (.ref ob10), .unset] [(.int (lcmpW vv od))])) (fun t₀ k₀ => ?_) ?_
      · show Steps p.tables e below (T13.setTop (mkF m 193 #[.val (.long p1), .second, .val (.long p2), .second, .val (.long p3), .second, .val (.int p4), .val (.int p5), .val (.long p6), .second, .val (.int (2 : Int32)), .val (.int md), .val (.long od), .second, .val (.long vv), .second, .val (.ref ob8), .unset, .unset] [(.ref ob10)])) t₀
        refine XS.astore X13.here hx rfl (hb hby at_193) rfl rfl (l' := #[.val (.long p1), .second, .val (.long p2), .second, .val (.long p3), .second, .val (.int p4), .val (.int p5), .val (.long p6), .second, .val (.int (2 : Int32)), .val (.int md), .val (.long od), .second, .val (.long vv), .second, .val (.ref ob8), .val (.ref ob10), .unset]) rfl ?_
        show Steps p.tables e below (T13.setTop (mkF m 195 #[.val (.long p1), .second, .val (.long p2), .second, .val (.long p3), .second, .val (.int p4), .val (.int p5), .val (.long p6), .second, .val (.int (2 : Int32)), .val (.int md), .val (.long od), .second, .val (.long vv), .second, .val (.ref ob8), .val (.ref ob10), .unset] [])) t₀
        refine XS.iload X13.here hx rfl (hb hby at_195) rfl ?_
        show Steps p.tables e below (T13.setTop (mkF m 197 #[.val (.long p1), .second, .val (.long p2), .second, .val (.long p3), .second, .val (.int p4), .val (.int p5), .val (.long p6), .second, .val (.int (2 : Int32)), .val (.int md), .val (.long od), .second, .val (.long vv), .second, .val (.ref ob8), .val (.ref ob10), .unset] [(.int (2 : Int32))])) t₀
        refine XS.iconst X13.here hx rfl (hb hby at_197) ?_
        show Steps p.tables e below (T13.setTop (mkF m 198 #[.val (.long p1), .second, .val (.long p2), .second, .val (.long p3), .second, .val (.int p4), .val (.int p5), .val (.long p6), .second, .val (.int (2 : Int32)), .val (.int md), .val (.long od), .second, .val (.long vv), .second, .val (.ref ob8), .val (.ref ob10), .unset] [(.int (1 : Int32)), (.int (2 : Int32))])) t₀
        refine XS.icmpYes X13.here hx rfl (pc0 := 198) (pc' := 217) rfl (hb hby at_198) rfl (feq (by decide : ¬ ((2 : Int32) = (1 : Int32)))).2 (by decide) (by decide) ?_
        show Steps p.tables e below (T13.setTop (mkF m 217 #[.val (.long p1), .second, .val (.long p2), .second, .val (.long p3), .second, .val (.int p4), .val (.int p5), .val (.long p6), .second, .val (.int (2 : Int32)), .val (.int md), .val (.long od), .second, .val (.long vv), .second, .val (.ref ob8), .val (.ref ob10), .unset] [])) t₀
        refine XS.lload X13.here hx rfl (hb hby at_217) rfl ?_
        show Steps p.tables e below (T13.setTop (mkF m 219 #[.val (.long p1), .second, .val (.long p2), .second, .val (.long p3), .second, .val (.int p4), .val (.int p5), .val (.long p6), .second, .val (.int (2 : Int32)), .val (.int md), .val (.long od), .second, .val (.long vv), .second, .val (.ref ob8), .val (.ref ob10), .unset] [(.long vv)])) t₀
        refine XS.lload X13.here hx rfl (hb hby at_219) rfl ?_
        show Steps p.tables e below (T13.setTop (mkF m 221 #[.val (.long p1), .second, .val (.long p2), .second, .val (.long p3), .second, .val (.int p4), .val (.int p5), .val (.long p6), .second, .val (.int (2 : Int32)), .val (.int md), .val (.long od), .second, .val (.long vv), .second, .val (.ref ob8), .val (.ref ob10), .unset] [(.long od), (.long vv)])) t₀
        refine XS.lcmp X13.here hx rfl (hb hby at_221) rfl ?_
        exact k₀
      by_cases hx222 : vv = od
      ·
        refine hG _ (T13.setTop (mkF m 232 #[.val (.long p1), .second, .val (.long p2), .second, .val (.long p3), .second, .val (.int p4), .val (.int p5), .val (.long p6), .second, .val (.int (2 : Int32)), .val (.int md), .val (.long od), .second, .val (.long vv), .second, .val (.ref ob8), .val (.ref ob10), .val (.int (1 : Int32))] [])) (fun t₀ k₀ => ?_) ?_
        · show Steps p.tables e below (T13.setTop (mkF m 222 #[.val (.long p1), .second, .val (.long p2), .second, .val (.long p3), .second, .val (.int p4), .val (.int p5), .val (.long p6), .second, .val (.int (2 : Int32)), .val (.int md), .val (.long od), .second, .val (.long vv), .second, .val (.ref ob8), .val (.ref ob10), .unset] [(.int (lcmpW vv od))])) t₀
          refine XS.ifNo X13.here hx rfl (hb hby at_222) rfl ((if0 _ _).trans (teq ((lw_eq vv od).mpr hx222)).2) ?_
          show Steps p.tables e below (T13.setTop (mkF m 225 #[.val (.long p1), .second, .val (.long p2), .second, .val (.long p3), .second, .val (.int p4), .val (.int p5), .val (.long p6), .second, .val (.int (2 : Int32)), .val (.int md), .val (.long od), .second, .val (.long vv), .second, .val (.ref ob8), .val (.ref ob10), .unset] [])) t₀
          refine XS.iconst X13.here hx rfl (hb hby at_225) ?_
          show Steps p.tables e below (T13.setTop (mkF m 226 #[.val (.long p1), .second, .val (.long p2), .second, .val (.long p3), .second, .val (.int p4), .val (.int p5), .val (.long p6), .second, .val (.int (2 : Int32)), .val (.int md), .val (.long od), .second, .val (.long vv), .second, .val (.ref ob8), .val (.ref ob10), .unset] [(.int (1 : Int32))])) t₀
          refine XS.goto X13.here hx rfl (pc0 := 226) (pc' := 230) rfl (hb hby at_226) (by decide) (by decide) ?_
          show Steps p.tables e below (T13.setTop (mkF m 230 #[.val (.long p1), .second, .val (.long p2), .second, .val (.long p3), .second, .val (.int p4), .val (.int p5), .val (.long p6), .second, .val (.int (2 : Int32)), .val (.int md), .val (.long od), .second, .val (.long vv), .second, .val (.ref ob8), .val (.ref ob10), .unset] [(.int (1 : Int32))])) t₀
          refine XS.istore X13.here hx rfl (hb hby at_230) rfl (l' := #[.val (.long p1), .second, .val (.long p2), .second, .val (.long p3), .second, .val (.int p4), .val (.int p5), .val (.long p6), .second, .val (.int (2 : Int32)), .val (.int md), .val (.long od), .second, .val (.long vv), .second, .val (.ref ob8), .val (.ref ob10), .val (.int (1 : Int32))]) rfl ?_
          exact k₀
        have h' : p2 = vv := (hx222.trans hodi).symm
        exact tlE T13 T13.heap _ X13 rfl N13 z_x13 o_x13 ob8 ob10 eob8_x13 eob10_x13 fob8_offset_x13 fob8_numOps_x13 fob8_generation_x13 fob8_minSeqNo_x13 fob8_maxSeqNo_x13 fob8_globalCheckpoint_x13 fob8_minGeneration_x13 fob8_trimmedAboveSeqNo_x13 p1 p4 vv p3 (p1 ^^^ p2) (p2 ^^^ p3) (p1 + p3) (p2 - p3) Q13_0 Q13_1 Q13_2 Q13_3 Q13_4 Q13_5 Q13_6 Q13_7 _ _ (1 : Int32) _ _ (by simp [own_ceq, h'])
      ·
        refine hG _ (T13.setTop (mkF m 232 #[.val (.long p1), .second, .val (.long p2), .second, .val (.long p3), .second, .val (.int p4), .val (.int p5), .val (.long p6), .second, .val (.int (2 : Int32)), .val (.int md), .val (.long od), .second, .val (.long vv), .second, .val (.ref ob8), .val (.ref ob10), .val (.int (0 : Int32))] [])) (fun t₀ k₀ => ?_) ?_
        · show Steps p.tables e below (T13.setTop (mkF m 222 #[.val (.long p1), .second, .val (.long p2), .second, .val (.long p3), .second, .val (.int p4), .val (.int p5), .val (.long p6), .second, .val (.int (2 : Int32)), .val (.int md), .val (.long od), .second, .val (.long vv), .second, .val (.ref ob8), .val (.ref ob10), .unset] [(.int (lcmpW vv od))])) t₀
          refine XS.ifYes X13.here hx rfl (pc0 := 222) (pc' := 229) rfl (hb hby at_222) rfl ((if0 _ _).trans (feq (fun z => hx222 ((lw_eq vv od).mp z))).2) (by decide) (by decide) ?_
          show Steps p.tables e below (T13.setTop (mkF m 229 #[.val (.long p1), .second, .val (.long p2), .second, .val (.long p3), .second, .val (.int p4), .val (.int p5), .val (.long p6), .second, .val (.int (2 : Int32)), .val (.int md), .val (.long od), .second, .val (.long vv), .second, .val (.ref ob8), .val (.ref ob10), .unset] [])) t₀
          refine XS.iconst X13.here hx rfl (hb hby at_229) ?_
          show Steps p.tables e below (T13.setTop (mkF m 230 #[.val (.long p1), .second, .val (.long p2), .second, .val (.long p3), .second, .val (.int p4), .val (.int p5), .val (.long p6), .second, .val (.int (2 : Int32)), .val (.int md), .val (.long od), .second, .val (.long vv), .second, .val (.ref ob8), .val (.ref ob10), .unset] [(.int (0 : Int32))])) t₀
          refine XS.istore X13.here hx rfl (hb hby at_230) rfl (l' := #[.val (.long p1), .second, .val (.long p2), .second, .val (.long p3), .second, .val (.int p4), .val (.int p5), .val (.long p6), .second, .val (.int (2 : Int32)), .val (.int md), .val (.long od), .second, .val (.long vv), .second, .val (.ref ob8), .val (.ref ob10), .val (.int (0 : Int32))]) rfl ?_
          exact k₀
        have h' : ¬ (p2 = vv) := fun q => hx222 (q.symm.trans hodi.symm)
        exact tlE T13 T13.heap _ X13 rfl N13 z_x13 o_x13 ob8 ob10 eob8_x13 eob10_x13 fob8_offset_x13 fob8_numOps_x13 fob8_generation_x13 fob8_minSeqNo_x13 fob8_maxSeqNo_x13 fob8_globalCheckpoint_x13 fob8_minGeneration_x13 fob8_trimmedAboveSeqNo_x13 p1 p4 vv p3 (p1 ^^^ p2) (p2 ^^^ p3) (p1 + p3) (p2 - p3) Q13_0 Q13_1 Q13_2 Q13_3 Q13_4 Q13_5 Q13_6 Q13_7 _ _ (0 : Int32) _ _ (by simp [own_ceq, h'])
    ·
      subst h8
      show G (T10.setTop (mkF m 79 #[.val (.long p1), .second, .val (.long p2), .second, .val (.long p3), .second, .val (.int p4), .val (.int p5), .val (.long p6), .second, .val (.int (3 : Int32)), .val (.int md), .val (.long od), .second, .val (.long vv), .second, .val (.ref ob8), .unset, .unset] [(.ref ob10), (.ref ob10)]))
      have hodi : od = p3 := hod.trans (by simp [own_old])
      refine hG _ (T10.setTop (mkF m 190 #[.val (.long p1), .second, .val (.long p2), .second, .val (.long p3), .second, .val (.int p4), .val (.int p5), .val (.long p6), .second, .val (.int (3 : Int32)), .val (.int md), .val (.long od), .second, .val (.long vv), .second, .val (.ref ob8), .unset, .unset] [(.long (p2 - p3)), (.long (p1 + p3)), (.long (p2 ^^^ p3)), (.long (p1 ^^^ p2)), (.long vv), (.long p2), (.int p4), (.long p1), (.ref ob10), (.ref ob10)])) (fun t₀ k₀ => ?_) ?_
      · show Steps p.tables e below (T10.setTop (mkF m 79 #[.val (.long p1), .second, .val (.long p2), .second, .val (.long p3), .second, .val (.int p4), .val (.int p5), .val (.long p6), .second, .val (.int (3 : Int32)), .val (.int md), .val (.long od), .second, .val (.long vv), .second, .val (.ref ob8), .unset, .unset] [(.ref ob10), (.ref ob10)])) t₀
        refine XS.iload X10.here hx rfl (hb hby at_79) rfl ?_
        show Steps p.tables e below (T10.setTop (mkF m 81 #[.val (.long p1), .second, .val (.long p2), .second, .val (.long p3), .second, .val (.int p4), .val (.int p5), .val (.long p6), .second, .val (.int (3 : Int32)), .val (.int md), .val (.long od), .second, .val (.long vv), .second, .val (.ref ob8), .unset, .unset] [(.int (3 : Int32)), (.ref ob10), (.ref ob10)])) t₀
        refine XS.ifYes X10.here hx rfl (pc0 := 81) (pc' := 89) rfl (hb hby at_81) rfl ((if0 _ _).trans (feq (by decide : ¬ ((3 : Int32) = (0 : Int32)))).2) (by decide) (by decide) ?_
        show Steps p.tables e below (T10.setTop (mkF m 89 #[.val (.long p1), .second, .val (.long p2), .second, .val (.long p3), .second, .val (.int p4), .val (.int p5), .val (.long p6), .second, .val (.int (3 : Int32)), .val (.int md), .val (.long od), .second, .val (.long vv), .second, .val (.ref ob8), .unset, .unset] [(.ref ob10), (.ref ob10)])) t₀
        refine XS.lloadN X10.here hx rfl (hb hby at_89) rfl ?_
        show Steps p.tables e below (T10.setTop (mkF m 90 #[.val (.long p1), .second, .val (.long p2), .second, .val (.long p3), .second, .val (.int p4), .val (.int p5), .val (.long p6), .second, .val (.int (3 : Int32)), .val (.int md), .val (.long od), .second, .val (.long vv), .second, .val (.ref ob8), .unset, .unset] [(.long p1), (.ref ob10), (.ref ob10)])) t₀
        refine XS.iload X10.here hx rfl (hb hby at_90) rfl ?_
        show Steps p.tables e below (T10.setTop (mkF m 92 #[.val (.long p1), .second, .val (.long p2), .second, .val (.long p3), .second, .val (.int p4), .val (.int p5), .val (.long p6), .second, .val (.int (3 : Int32)), .val (.int md), .val (.long od), .second, .val (.long vv), .second, .val (.ref ob8), .unset, .unset] [(.int (3 : Int32)), (.long p1), (.ref ob10), (.ref ob10)])) t₀
        refine XS.iconst X10.here hx rfl (hb hby at_92) ?_
        show Steps p.tables e below (T10.setTop (mkF m 93 #[.val (.long p1), .second, .val (.long p2), .second, .val (.long p3), .second, .val (.int p4), .val (.int p5), .val (.long p6), .second, .val (.int (3 : Int32)), .val (.int md), .val (.long od), .second, .val (.long vv), .second, .val (.ref ob8), .unset, .unset] [(.int (1 : Int32)), (.int (3 : Int32)), (.long p1), (.ref ob10), (.ref ob10)])) t₀
        refine XS.icmpYes X10.here hx rfl (pc0 := 93) (pc' := 102) rfl (hb hby at_93) rfl (feq (by decide : ¬ ((3 : Int32) = (1 : Int32)))).2 (by decide) (by decide) ?_
        show Steps p.tables e below (T10.setTop (mkF m 102 #[.val (.long p1), .second, .val (.long p2), .second, .val (.long p3), .second, .val (.int p4), .val (.int p5), .val (.long p6), .second, .val (.int (3 : Int32)), .val (.int md), .val (.long od), .second, .val (.long vv), .second, .val (.ref ob8), .unset, .unset] [(.long p1), (.ref ob10), (.ref ob10)])) t₀
        refine XS.iload X10.here hx rfl (hb hby at_102) rfl ?_
        show Steps p.tables e below (T10.setTop (mkF m 104 #[.val (.long p1), .second, .val (.long p2), .second, .val (.long p3), .second, .val (.int p4), .val (.int p5), .val (.long p6), .second, .val (.int (3 : Int32)), .val (.int md), .val (.long od), .second, .val (.long vv), .second, .val (.ref ob8), .unset, .unset] [(.int p4), (.long p1), (.ref ob10), (.ref ob10)])) t₀
        refine XS.iload X10.here hx rfl (hb hby at_104) rfl ?_
        show Steps p.tables e below (T10.setTop (mkF m 106 #[.val (.long p1), .second, .val (.long p2), .second, .val (.long p3), .second, .val (.int p4), .val (.int p5), .val (.long p6), .second, .val (.int (3 : Int32)), .val (.int md), .val (.long od), .second, .val (.long vv), .second, .val (.ref ob8), .unset, .unset] [(.int (3 : Int32)), (.int p4), (.long p1), (.ref ob10), (.ref ob10)])) t₀
        refine XS.iconst X10.here hx rfl (hb hby at_106) ?_
        show Steps p.tables e below (T10.setTop (mkF m 107 #[.val (.long p1), .second, .val (.long p2), .second, .val (.long p3), .second, .val (.int p4), .val (.int p5), .val (.long p6), .second, .val (.int (3 : Int32)), .val (.int md), .val (.long od), .second, .val (.long vv), .second, .val (.ref ob8), .unset, .unset] [(.int (2 : Int32)), (.int (3 : Int32)), (.int p4), (.long p1), (.ref ob10), (.ref ob10)])) t₀
        refine XS.icmpYes X10.here hx rfl (pc0 := 107) (pc' := 115) rfl (hb hby at_107) rfl (feq (by decide : ¬ ((3 : Int32) = (2 : Int32)))).2 (by decide) (by decide) ?_
        show Steps p.tables e below (T10.setTop (mkF m 115 #[.val (.long p1), .second, .val (.long p2), .second, .val (.long p3), .second, .val (.int p4), .val (.int p5), .val (.long p6), .second, .val (.int (3 : Int32)), .val (.int md), .val (.long od), .second, .val (.long vv), .second, .val (.ref ob8), .unset, .unset] [(.int p4), (.long p1), (.ref ob10), (.ref ob10)])) t₀
        refine XS.lloadN X10.here hx rfl (hb hby at_115) rfl ?_
        show Steps p.tables e below (T10.setTop (mkF m 116 #[.val (.long p1), .second, .val (.long p2), .second, .val (.long p3), .second, .val (.int p4), .val (.int p5), .val (.long p6), .second, .val (.int (3 : Int32)), .val (.int md), .val (.long od), .second, .val (.long vv), .second, .val (.ref ob8), .unset, .unset] [(.long p2), (.int p4), (.long p1), (.ref ob10), (.ref ob10)])) t₀
        refine XS.iload X10.here hx rfl (hb hby at_116) rfl ?_
        show Steps p.tables e below (T10.setTop (mkF m 118 #[.val (.long p1), .second, .val (.long p2), .second, .val (.long p3), .second, .val (.int p4), .val (.int p5), .val (.long p6), .second, .val (.int (3 : Int32)), .val (.int md), .val (.long od), .second, .val (.long vv), .second, .val (.ref ob8), .unset, .unset] [(.int (3 : Int32)), (.long p2), (.int p4), (.long p1), (.ref ob10), (.ref ob10)])) t₀
        refine XS.iconst X10.here hx rfl (hb hby at_118) ?_
        show Steps p.tables e below (T10.setTop (mkF m 119 #[.val (.long p1), .second, .val (.long p2), .second, .val (.long p3), .second, .val (.int p4), .val (.int p5), .val (.long p6), .second, .val (.int (3 : Int32)), .val (.int md), .val (.long od), .second, .val (.long vv), .second, .val (.ref ob8), .unset, .unset] [(.int (3 : Int32)), (.int (3 : Int32)), (.long p2), (.int p4), (.long p1), (.ref ob10), (.ref ob10)])) t₀
        refine XS.icmpNo X10.here hx rfl (hb hby at_119) rfl (teq (by decide : ((3 : Int32) = (3 : Int32)))).2 ?_
        show Steps p.tables e below (T10.setTop (mkF m 122 #[.val (.long p1), .second, .val (.long p2), .second, .val (.long p3), .second, .val (.int p4), .val (.int p5), .val (.long p6), .second, .val (.int (3 : Int32)), .val (.int md), .val (.long od), .second, .val (.long vv), .second, .val (.ref ob8), .unset, .unset] [(.long p2), (.int p4), (.long p1), (.ref ob10), (.ref ob10)])) t₀
        refine XS.lload X10.here hx rfl (hb hby at_122) rfl ?_
        show Steps p.tables e below (T10.setTop (mkF m 124 #[.val (.long p1), .second, .val (.long p2), .second, .val (.long p3), .second, .val (.int p4), .val (.int p5), .val (.long p6), .second, .val (.int (3 : Int32)), .val (.int md), .val (.long od), .second, .val (.long vv), .second, .val (.ref ob8), .unset, .unset] [(.long vv), (.long p2), (.int p4), (.long p1), (.ref ob10), (.ref ob10)])) t₀
        refine XS.goto X10.here hx rfl (pc0 := 124) (pc' := 129) rfl (hb hby at_124) (by decide) (by decide) ?_
        show Steps p.tables e below (T10.setTop (mkF m 129 #[.val (.long p1), .second, .val (.long p2), .second, .val (.long p3), .second, .val (.int p4), .val (.int p5), .val (.long p6), .second, .val (.int (3 : Int32)), .val (.int md), .val (.long od), .second, .val (.long vv), .second, .val (.ref ob8), .unset, .unset] [(.long vv), (.long p2), (.int p4), (.long p1), (.ref ob10), (.ref ob10)])) t₀
        refine XS.iload X10.here hx rfl (hb hby at_129) rfl ?_
        show Steps p.tables e below (T10.setTop (mkF m 131 #[.val (.long p1), .second, .val (.long p2), .second, .val (.long p3), .second, .val (.int p4), .val (.int p5), .val (.long p6), .second, .val (.int (3 : Int32)), .val (.int md), .val (.long od), .second, .val (.long vv), .second, .val (.ref ob8), .unset, .unset] [(.int (3 : Int32)), (.long vv), (.long p2), (.int p4), (.long p1), (.ref ob10), (.ref ob10)])) t₀
        refine XS.iconst X10.here hx rfl (hb hby at_131) ?_
        show Steps p.tables e below (T10.setTop (mkF m 132 #[.val (.long p1), .second, .val (.long p2), .second, .val (.long p3), .second, .val (.int p4), .val (.int p5), .val (.long p6), .second, .val (.int (3 : Int32)), .val (.int md), .val (.long od), .second, .val (.long vv), .second, .val (.ref ob8), .unset, .unset] [(.int (4 : Int32)), (.int (3 : Int32)), (.long vv), (.long p2), (.int p4), (.long p1), (.ref ob10), (.ref ob10)])) t₀
        refine XS.icmpYes X10.here hx rfl (pc0 := 132) (pc' := 140) rfl (hb hby at_132) rfl (feq (by decide : ¬ ((3 : Int32) = (4 : Int32)))).2 (by decide) (by decide) ?_
        show Steps p.tables e below (T10.setTop (mkF m 140 #[.val (.long p1), .second, .val (.long p2), .second, .val (.long p3), .second, .val (.int p4), .val (.int p5), .val (.long p6), .second, .val (.int (3 : Int32)), .val (.int md), .val (.long od), .second, .val (.long vv), .second, .val (.ref ob8), .unset, .unset] [(.long vv), (.long p2), (.int p4), (.long p1), (.ref ob10), (.ref ob10)])) t₀
        refine XS.lloadN X10.here hx rfl (hb hby at_140) rfl ?_
        show Steps p.tables e below (T10.setTop (mkF m 141 #[.val (.long p1), .second, .val (.long p2), .second, .val (.long p3), .second, .val (.int p4), .val (.int p5), .val (.long p6), .second, .val (.int (3 : Int32)), .val (.int md), .val (.long od), .second, .val (.long vv), .second, .val (.ref ob8), .unset, .unset] [(.long p1), (.long vv), (.long p2), (.int p4), (.long p1), (.ref ob10), (.ref ob10)])) t₀
        refine XS.lloadN X10.here hx rfl (hb hby at_141) rfl ?_
        show Steps p.tables e below (T10.setTop (mkF m 142 #[.val (.long p1), .second, .val (.long p2), .second, .val (.long p3), .second, .val (.int p4), .val (.int p5), .val (.long p6), .second, .val (.int (3 : Int32)), .val (.int md), .val (.long od), .second, .val (.long vv), .second, .val (.ref ob8), .unset, .unset] [(.long p2), (.long p1), (.long vv), (.long p2), (.int p4), (.long p1), (.ref ob10), (.ref ob10)])) t₀
        refine XS.lxor X10.here hx rfl (hb hby at_142) rfl ?_
        show Steps p.tables e below (T10.setTop (mkF m 143 #[.val (.long p1), .second, .val (.long p2), .second, .val (.long p3), .second, .val (.int p4), .val (.int p5), .val (.long p6), .second, .val (.int (3 : Int32)), .val (.int md), .val (.long od), .second, .val (.long vv), .second, .val (.ref ob8), .unset, .unset] [(.long (p1 ^^^ p2)), (.long vv), (.long p2), (.int p4), (.long p1), (.ref ob10), (.ref ob10)])) t₀
        refine XS.iload X10.here hx rfl (hb hby at_143) rfl ?_
        show Steps p.tables e below (T10.setTop (mkF m 145 #[.val (.long p1), .second, .val (.long p2), .second, .val (.long p3), .second, .val (.int p4), .val (.int p5), .val (.long p6), .second, .val (.int (3 : Int32)), .val (.int md), .val (.long od), .second, .val (.long vv), .second, .val (.ref ob8), .unset, .unset] [(.int (3 : Int32)), (.long (p1 ^^^ p2)), (.long vv), (.long p2), (.int p4), (.long p1), (.ref ob10), (.ref ob10)])) t₀
        refine XS.iconst X10.here hx rfl (hb hby at_145) ?_
        show Steps p.tables e below (T10.setTop (mkF m 146 #[.val (.long p1), .second, .val (.long p2), .second, .val (.long p3), .second, .val (.int p4), .val (.int p5), .val (.long p6), .second, .val (.int (3 : Int32)), .val (.int md), .val (.long od), .second, .val (.long vv), .second, .val (.ref ob8), .unset, .unset] [(.int (5 : Int32)), (.int (3 : Int32)), (.long (p1 ^^^ p2)), (.long vv), (.long p2), (.int p4), (.long p1), (.ref ob10), (.ref ob10)])) t₀
        refine XS.icmpYes X10.here hx rfl (pc0 := 146) (pc' := 154) rfl (hb hby at_146) rfl (feq (by decide : ¬ ((3 : Int32) = (5 : Int32)))).2 (by decide) (by decide) ?_
        show Steps p.tables e below (T10.setTop (mkF m 154 #[.val (.long p1), .second, .val (.long p2), .second, .val (.long p3), .second, .val (.int p4), .val (.int p5), .val (.long p6), .second, .val (.int (3 : Int32)), .val (.int md), .val (.long od), .second, .val (.long vv), .second, .val (.ref ob8), .unset, .unset] [(.long (p1 ^^^ p2)), (.long vv), (.long p2), (.int p4), (.long p1), (.ref ob10), (.ref ob10)])) t₀
        refine XS.lloadN X10.here hx rfl (hb hby at_154) rfl ?_
        show Steps p.tables e below (T10.setTop (mkF m 155 #[.val (.long p1), .second, .val (.long p2), .second, .val (.long p3), .second, .val (.int p4), .val (.int p5), .val (.long p6), .second, .val (.int (3 : Int32)), .val (.int md), .val (.long od), .second, .val (.long vv), .second, .val (.ref ob8), .unset, .unset] [(.long p2), (.long (p1 ^^^ p2)), (.long vv), (.long p2), (.int p4), (.long p1), (.ref ob10), (.ref ob10)])) t₀
        refine XS.lload X10.here hx rfl (hb hby at_155) rfl ?_
        show Steps p.tables e below (T10.setTop (mkF m 157 #[.val (.long p1), .second, .val (.long p2), .second, .val (.long p3), .second, .val (.int p4), .val (.int p5), .val (.long p6), .second, .val (.int (3 : Int32)), .val (.int md), .val (.long od), .second, .val (.long vv), .second, .val (.ref ob8), .unset, .unset] [(.long p3), (.long p2), (.long (p1 ^^^ p2)), (.long vv), (.long p2), (.int p4), (.long p1), (.ref ob10), (.ref ob10)])) t₀
        refine XS.lxor X10.here hx rfl (hb hby at_157) rfl ?_
        show Steps p.tables e below (T10.setTop (mkF m 158 #[.val (.long p1), .second, .val (.long p2), .second, .val (.long p3), .second, .val (.int p4), .val (.int p5), .val (.long p6), .second, .val (.int (3 : Int32)), .val (.int md), .val (.long od), .second, .val (.long vv), .second, .val (.ref ob8), .unset, .unset] [(.long (p2 ^^^ p3)), (.long (p1 ^^^ p2)), (.long vv), (.long p2), (.int p4), (.long p1), (.ref ob10), (.ref ob10)])) t₀
        refine XS.iload X10.here hx rfl (hb hby at_158) rfl ?_
        show Steps p.tables e below (T10.setTop (mkF m 160 #[.val (.long p1), .second, .val (.long p2), .second, .val (.long p3), .second, .val (.int p4), .val (.int p5), .val (.long p6), .second, .val (.int (3 : Int32)), .val (.int md), .val (.long od), .second, .val (.long vv), .second, .val (.ref ob8), .unset, .unset] [(.int (3 : Int32)), (.long (p2 ^^^ p3)), (.long (p1 ^^^ p2)), (.long vv), (.long p2), (.int p4), (.long p1), (.ref ob10), (.ref ob10)])) t₀
        refine XS.bipush X10.here hx rfl (hb hby at_160) ?_
        show Steps p.tables e below (T10.setTop (mkF m 162 #[.val (.long p1), .second, .val (.long p2), .second, .val (.long p3), .second, .val (.int p4), .val (.int p5), .val (.long p6), .second, .val (.int (3 : Int32)), .val (.int md), .val (.long od), .second, .val (.long vv), .second, .val (.ref ob8), .unset, .unset] [(.int (6 : Int32)), (.int (3 : Int32)), (.long (p2 ^^^ p3)), (.long (p1 ^^^ p2)), (.long vv), (.long p2), (.int p4), (.long p1), (.ref ob10), (.ref ob10)])) t₀
        refine XS.icmpYes X10.here hx rfl (pc0 := 162) (pc' := 170) rfl (hb hby at_162) rfl (feq (by decide : ¬ ((3 : Int32) = (6 : Int32)))).2 (by decide) (by decide) ?_
        show Steps p.tables e below (T10.setTop (mkF m 170 #[.val (.long p1), .second, .val (.long p2), .second, .val (.long p3), .second, .val (.int p4), .val (.int p5), .val (.long p6), .second, .val (.int (3 : Int32)), .val (.int md), .val (.long od), .second, .val (.long vv), .second, .val (.ref ob8), .unset, .unset] [(.long (p2 ^^^ p3)), (.long (p1 ^^^ p2)), (.long vv), (.long p2), (.int p4), (.long p1), (.ref ob10), (.ref ob10)])) t₀
        refine XS.lloadN X10.here hx rfl (hb hby at_170) rfl ?_
        show Steps p.tables e below (T10.setTop (mkF m 171 #[.val (.long p1), .second, .val (.long p2), .second, .val (.long p3), .second, .val (.int p4), .val (.int p5), .val (.long p6), .second, .val (.int (3 : Int32)), .val (.int md), .val (.long od), .second, .val (.long vv), .second, .val (.ref ob8), .unset, .unset] [(.long p1), (.long (p2 ^^^ p3)), (.long (p1 ^^^ p2)), (.long vv), (.long p2), (.int p4), (.long p1), (.ref ob10), (.ref ob10)])) t₀
        refine XS.lload X10.here hx rfl (hb hby at_171) rfl ?_
        show Steps p.tables e below (T10.setTop (mkF m 173 #[.val (.long p1), .second, .val (.long p2), .second, .val (.long p3), .second, .val (.int p4), .val (.int p5), .val (.long p6), .second, .val (.int (3 : Int32)), .val (.int md), .val (.long od), .second, .val (.long vv), .second, .val (.ref ob8), .unset, .unset] [(.long p3), (.long p1), (.long (p2 ^^^ p3)), (.long (p1 ^^^ p2)), (.long vv), (.long p2), (.int p4), (.long p1), (.ref ob10), (.ref ob10)])) t₀
        refine XS.ladd X10.here hx rfl (hb hby at_173) rfl ?_
        show Steps p.tables e below (T10.setTop (mkF m 174 #[.val (.long p1), .second, .val (.long p2), .second, .val (.long p3), .second, .val (.int p4), .val (.int p5), .val (.long p6), .second, .val (.int (3 : Int32)), .val (.int md), .val (.long od), .second, .val (.long vv), .second, .val (.ref ob8), .unset, .unset] [(.long (p1 + p3)), (.long (p2 ^^^ p3)), (.long (p1 ^^^ p2)), (.long vv), (.long p2), (.int p4), (.long p1), (.ref ob10), (.ref ob10)])) t₀
        refine XS.iload X10.here hx rfl (hb hby at_174) rfl ?_
        show Steps p.tables e below (T10.setTop (mkF m 176 #[.val (.long p1), .second, .val (.long p2), .second, .val (.long p3), .second, .val (.int p4), .val (.int p5), .val (.long p6), .second, .val (.int (3 : Int32)), .val (.int md), .val (.long od), .second, .val (.long vv), .second, .val (.ref ob8), .unset, .unset] [(.int (3 : Int32)), (.long (p1 + p3)), (.long (p2 ^^^ p3)), (.long (p1 ^^^ p2)), (.long vv), (.long p2), (.int p4), (.long p1), (.ref ob10), (.ref ob10)])) t₀
        refine XS.bipush X10.here hx rfl (hb hby at_176) ?_
        show Steps p.tables e below (T10.setTop (mkF m 178 #[.val (.long p1), .second, .val (.long p2), .second, .val (.long p3), .second, .val (.int p4), .val (.int p5), .val (.long p6), .second, .val (.int (3 : Int32)), .val (.int md), .val (.long od), .second, .val (.long vv), .second, .val (.ref ob8), .unset, .unset] [(.int (7 : Int32)), (.int (3 : Int32)), (.long (p1 + p3)), (.long (p2 ^^^ p3)), (.long (p1 ^^^ p2)), (.long vv), (.long p2), (.int p4), (.long p1), (.ref ob10), (.ref ob10)])) t₀
        refine XS.icmpYes X10.here hx rfl (pc0 := 178) (pc' := 186) rfl (hb hby at_178) rfl (feq (by decide : ¬ ((3 : Int32) = (7 : Int32)))).2 (by decide) (by decide) ?_
        show Steps p.tables e below (T10.setTop (mkF m 186 #[.val (.long p1), .second, .val (.long p2), .second, .val (.long p3), .second, .val (.int p4), .val (.int p5), .val (.long p6), .second, .val (.int (3 : Int32)), .val (.int md), .val (.long od), .second, .val (.long vv), .second, .val (.ref ob8), .unset, .unset] [(.long (p1 + p3)), (.long (p2 ^^^ p3)), (.long (p1 ^^^ p2)), (.long vv), (.long p2), (.int p4), (.long p1), (.ref ob10), (.ref ob10)])) t₀
        refine XS.lloadN X10.here hx rfl (hb hby at_186) rfl ?_
        show Steps p.tables e below (T10.setTop (mkF m 187 #[.val (.long p1), .second, .val (.long p2), .second, .val (.long p3), .second, .val (.int p4), .val (.int p5), .val (.long p6), .second, .val (.int (3 : Int32)), .val (.int md), .val (.long od), .second, .val (.long vv), .second, .val (.ref ob8), .unset, .unset] [(.long p2), (.long (p1 + p3)), (.long (p2 ^^^ p3)), (.long (p1 ^^^ p2)), (.long vv), (.long p2), (.int p4), (.long p1), (.ref ob10), (.ref ob10)])) t₀
        refine XS.lload X10.here hx rfl (hb hby at_187) rfl ?_
        show Steps p.tables e below (T10.setTop (mkF m 189 #[.val (.long p1), .second, .val (.long p2), .second, .val (.long p3), .second, .val (.int p4), .val (.int p5), .val (.long p6), .second, .val (.int (3 : Int32)), .val (.int md), .val (.long od), .second, .val (.long vv), .second, .val (.ref ob8), .unset, .unset] [(.long p3), (.long p2), (.long (p1 + p3)), (.long (p2 ^^^ p3)), (.long (p1 ^^^ p2)), (.long vv), (.long p2), (.int p4), (.long p1), (.ref ob10), (.ref ob10)])) t₀
        refine XS.lsub X10.here hx rfl (hb hby at_189) rfl ?_
        exact k₀
      obtain ⟨_, _, ⟨T14, L14, k14, n14⟩, -, X14, ⟨Lc14, hQ14, l14, y14, z14⟩, st14⟩ := X10.specialBack hx (y := (⟨"com/example/opledger/opledger/Checkpoint", "<init>", "(JIJJJJJJ)V"⟩ : MethodName)) rfl hown (mvT hZ (hw _ (List.mem_of_getElem? (i := 7) rfl))) (mvT hZ (hw _ (List.mem_of_getElem? (i := 8) rfl))) (mvT hZ (hw _ (List.mem_of_getElem? (i := 9) rfl))) (by decide) (backOf (W := 1) (rmC l Z a0 hw [] ob10 p1 p4 p2 vv (p1 ^^^ p2) (p2 ^^^ p3) (p1 + p3) (p2 - p3) h10 n0 z_10 A10 g_ob10 F_offset_ob10 F_numOps_ob10 F_generation_ob10 F_minSeqNo_ob10 F_maxSeqNo_ob10 F_globalCheckpoint_ob10 F_minGeneration_ob10 F_trimmedAboveSeqNo_ob10) hZ (hw _ (List.mem_of_getElem? (i := 9) rfl)) (hw _ (List.mem_of_getElem? (i := 6) rfl)) (by decide) (by decide)) (g := (mkF m 190 #[.val (.long p1), .second, .val (.long p2), .second, .val (.long p3), .second, .val (.int p4), .val (.int p5), .val (.long p6), .second, .val (.int (3 : Int32)), .val (.int md), .val (.long od), .second, .val (.long vv), .second, .val (.ref ob8), .unset, .unset] [(.long (p2 - p3)), (.long (p1 + p3)), (.long (p2 ^^^ p3)), (.long (p1 ^^^ p2)), (.long vv), (.long p2), (.int p4), (.long p1), (.ref ob10), (.ref ob10)])) rfl (by rw [hml]; rfl) (Steps.refl _) (a := ob10) (argsL := [(.long p1), (.int p4), (.long p2), (.long vv), (.long (p1 ^^^ p2)), (.long (p2 ^^^ p3)), (.long (p1 + p3)), (.long (p2 - p3))]) (rest := [(.ref ob10)]) (lenOf pd_1 rfl) rfl (by show 2 * 0 + _ ≤ _; exact Nat.le_of_eq rfl) (hb hby at_190) (fun _ _ => ⟨rfl, e10, (by decide : 2 + 0 ≤ _), (by decide : 16 + 0 ≤ _)⟩)
      dsimp only [Pt.U, Pt.locs, Pt.cells, Pt.slots] at X14 l14 y14 z14 st14 hQ14
      subst l14 y14 z14
      obtain ⟨rfl, N14q, K14, Q14_0, Q14_1, Q14_2, Q14_3, Q14_4, Q14_5, Q14_6, Q14_7⟩ := hQ14
      have N14 := Fr.app N9 N14q
      refine hG _ _ (fun t₀ k₀ => st14.trans k₀) ?_
      have z_x14 := Nat.le_trans z_10 K14.1
      have o_x14 := o_x10.keep K14 (allS g_ob10 all0)
      have eob8_x14 := eob8_x10.keep K14
      have fob8_offset_x14 := fob8_offset_x10.keep K14 (ninS ne_ob8_ob10 nin0)
      have fob8_numOps_x14 := fob8_numOps_x10.keep K14 (ninS ne_ob8_ob10 nin0)
      have fob8_generation_x14 := fob8_generation_x10.keep K14 (ninS ne_ob8_ob10 nin0)
      have fob8_minSeqNo_x14 := fob8_minSeqNo_x10.keep K14 (ninS ne_ob8_ob10 nin0)
      have fob8_maxSeqNo_x14 := fob8_maxSeqNo_x10.keep K14 (ninS ne_ob8_ob10 nin0)
      have fob8_globalCheckpoint_x14 := fob8_globalCheckpoint_x10.keep K14 (ninS ne_ob8_ob10 nin0)
      have fob8_minGeneration_x14 := fob8_minGeneration_x10.keep K14 (ninS ne_ob8_ob10 nin0)
      have fob8_trimmedAboveSeqNo_x14 := fob8_trimmedAboveSeqNo_x10.keep K14 (ninS ne_ob8_ob10 nin0)
      have eob10_x14 := A10.keep K14
      show G (T14.setTop (mkF m 193 #[.val (.long p1), .second, .val (.long p2), .second, .val (.long p3), .second, .val (.int p4), .val (.int p5), .val (.long p6), .second, .val (.int (3 : Int32)), .val (.int md), .val (.long od), .second, .val (.long vv), .second, .val (.ref ob8), .unset, .unset] [(.ref ob10)]))
      refine hG _ (T14.setTop (mkF m 222 #[.val (.long p1), .second, .val (.long p2), .second, .val (.long p3), .second, .val (.int p4), .val (.int p5), .val (.long p6), .second, .val (.int (3 : Int32)), .val (.int md), .val (.long od), .second, .val (.long vv), .second, .val (.ref ob8), .val (.ref ob10), .unset] [(.int (lcmpW vv od))])) (fun t₀ k₀ => ?_) ?_
      · show Steps p.tables e below (T14.setTop (mkF m 193 #[.val (.long p1), .second, .val (.long p2), .second, .val (.long p3), .second, .val (.int p4), .val (.int p5), .val (.long p6), .second, .val (.int (3 : Int32)), .val (.int md), .val (.long od), .second, .val (.long vv), .second, .val (.ref ob8), .unset, .unset] [(.ref ob10)])) t₀
        refine XS.astore X14.here hx rfl (hb hby at_193) rfl rfl (l' := #[.val (.long p1), .second, .val (.long p2), .second, .val (.long p3), .second, .val (.int p4), .val (.int p5), .val (.long p6), .second, .val (.int (3 : Int32)), .val (.int md), .val (.long od), .second, .val (.long vv), .second, .val (.ref ob8), .val (.ref ob10), .unset]) rfl ?_
        show Steps p.tables e below (T14.setTop (mkF m 195 #[.val (.long p1), .second, .val (.long p2), .second, .val (.long p3), .second, .val (.int p4), .val (.int p5), .val (.long p6), .second, .val (.int (3 : Int32)), .val (.int md), .val (.long od), .second, .val (.long vv), .second, .val (.ref ob8), .val (.ref ob10), .unset] [])) t₀
        refine XS.iload X14.here hx rfl (hb hby at_195) rfl ?_
        show Steps p.tables e below (T14.setTop (mkF m 197 #[.val (.long p1), .second, .val (.long p2), .second, .val (.long p3), .second, .val (.int p4), .val (.int p5), .val (.long p6), .second, .val (.int (3 : Int32)), .val (.int md), .val (.long od), .second, .val (.long vv), .second, .val (.ref ob8), .val (.ref ob10), .unset] [(.int (3 : Int32))])) t₀
        refine XS.iconst X14.here hx rfl (hb hby at_197) ?_
        show Steps p.tables e below (T14.setTop (mkF m 198 #[.val (.long p1), .second, .val (.long p2), .second, .val (.long p3), .second, .val (.int p4), .val (.int p5), .val (.long p6), .second, .val (.int (3 : Int32)), .val (.int md), .val (.long od), .second, .val (.long vv), .second, .val (.ref ob8), .val (.ref ob10), .unset] [(.int (1 : Int32)), (.int (3 : Int32))])) t₀
        refine XS.icmpYes X14.here hx rfl (pc0 := 198) (pc' := 217) rfl (hb hby at_198) rfl (feq (by decide : ¬ ((3 : Int32) = (1 : Int32)))).2 (by decide) (by decide) ?_
        show Steps p.tables e below (T14.setTop (mkF m 217 #[.val (.long p1), .second, .val (.long p2), .second, .val (.long p3), .second, .val (.int p4), .val (.int p5), .val (.long p6), .second, .val (.int (3 : Int32)), .val (.int md), .val (.long od), .second, .val (.long vv), .second, .val (.ref ob8), .val (.ref ob10), .unset] [])) t₀
        refine XS.lload X14.here hx rfl (hb hby at_217) rfl ?_
        show Steps p.tables e below (T14.setTop (mkF m 219 #[.val (.long p1), .second, .val (.long p2), .second, .val (.long p3), .second, .val (.int p4), .val (.int p5), .val (.long p6), .second, .val (.int (3 : Int32)), .val (.int md), .val (.long od), .second, .val (.long vv), .second, .val (.ref ob8), .val (.ref ob10), .unset] [(.long vv)])) t₀
        refine XS.lload X14.here hx rfl (hb hby at_219) rfl ?_
        show Steps p.tables e below (T14.setTop (mkF m 221 #[.val (.long p1), .second, .val (.long p2), .second, .val (.long p3), .second, .val (.int p4), .val (.int p5), .val (.long p6), .second, .val (.int (3 : Int32)), .val (.int md), .val (.long od), .second, .val (.long vv), .second, .val (.ref ob8), .val (.ref ob10), .unset] [(.long od), (.long vv)])) t₀
        refine XS.lcmp X14.here hx rfl (hb hby at_221) rfl ?_
        exact k₀
      by_cases hx222 : vv = od
      ·
        refine hG _ (T14.setTop (mkF m 232 #[.val (.long p1), .second, .val (.long p2), .second, .val (.long p3), .second, .val (.int p4), .val (.int p5), .val (.long p6), .second, .val (.int (3 : Int32)), .val (.int md), .val (.long od), .second, .val (.long vv), .second, .val (.ref ob8), .val (.ref ob10), .val (.int (1 : Int32))] [])) (fun t₀ k₀ => ?_) ?_
        · show Steps p.tables e below (T14.setTop (mkF m 222 #[.val (.long p1), .second, .val (.long p2), .second, .val (.long p3), .second, .val (.int p4), .val (.int p5), .val (.long p6), .second, .val (.int (3 : Int32)), .val (.int md), .val (.long od), .second, .val (.long vv), .second, .val (.ref ob8), .val (.ref ob10), .unset] [(.int (lcmpW vv od))])) t₀
          refine XS.ifNo X14.here hx rfl (hb hby at_222) rfl ((if0 _ _).trans (teq ((lw_eq vv od).mpr hx222)).2) ?_
          show Steps p.tables e below (T14.setTop (mkF m 225 #[.val (.long p1), .second, .val (.long p2), .second, .val (.long p3), .second, .val (.int p4), .val (.int p5), .val (.long p6), .second, .val (.int (3 : Int32)), .val (.int md), .val (.long od), .second, .val (.long vv), .second, .val (.ref ob8), .val (.ref ob10), .unset] [])) t₀
          refine XS.iconst X14.here hx rfl (hb hby at_225) ?_
          show Steps p.tables e below (T14.setTop (mkF m 226 #[.val (.long p1), .second, .val (.long p2), .second, .val (.long p3), .second, .val (.int p4), .val (.int p5), .val (.long p6), .second, .val (.int (3 : Int32)), .val (.int md), .val (.long od), .second, .val (.long vv), .second, .val (.ref ob8), .val (.ref ob10), .unset] [(.int (1 : Int32))])) t₀
          refine XS.goto X14.here hx rfl (pc0 := 226) (pc' := 230) rfl (hb hby at_226) (by decide) (by decide) ?_
          show Steps p.tables e below (T14.setTop (mkF m 230 #[.val (.long p1), .second, .val (.long p2), .second, .val (.long p3), .second, .val (.int p4), .val (.int p5), .val (.long p6), .second, .val (.int (3 : Int32)), .val (.int md), .val (.long od), .second, .val (.long vv), .second, .val (.ref ob8), .val (.ref ob10), .unset] [(.int (1 : Int32))])) t₀
          refine XS.istore X14.here hx rfl (hb hby at_230) rfl (l' := #[.val (.long p1), .second, .val (.long p2), .second, .val (.long p3), .second, .val (.int p4), .val (.int p5), .val (.long p6), .second, .val (.int (3 : Int32)), .val (.int md), .val (.long od), .second, .val (.long vv), .second, .val (.ref ob8), .val (.ref ob10), .val (.int (1 : Int32))]) rfl ?_
          exact k₀
        have h' : p3 = vv := (hx222.trans hodi).symm
        exact tlE T14 T14.heap _ X14 rfl N14 z_x14 o_x14 ob8 ob10 eob8_x14 eob10_x14 fob8_offset_x14 fob8_numOps_x14 fob8_generation_x14 fob8_minSeqNo_x14 fob8_maxSeqNo_x14 fob8_globalCheckpoint_x14 fob8_minGeneration_x14 fob8_trimmedAboveSeqNo_x14 p1 p4 p2 vv (p1 ^^^ p2) (p2 ^^^ p3) (p1 + p3) (p2 - p3) Q14_0 Q14_1 Q14_2 Q14_3 Q14_4 Q14_5 Q14_6 Q14_7 _ _ (1 : Int32) _ _ (by simp [own_ceq, h'])
      ·
        refine hG _ (T14.setTop (mkF m 232 #[.val (.long p1), .second, .val (.long p2), .second, .val (.long p3), .second, .val (.int p4), .val (.int p5), .val (.long p6), .second, .val (.int (3 : Int32)), .val (.int md), .val (.long od), .second, .val (.long vv), .second, .val (.ref ob8), .val (.ref ob10), .val (.int (0 : Int32))] [])) (fun t₀ k₀ => ?_) ?_
        · show Steps p.tables e below (T14.setTop (mkF m 222 #[.val (.long p1), .second, .val (.long p2), .second, .val (.long p3), .second, .val (.int p4), .val (.int p5), .val (.long p6), .second, .val (.int (3 : Int32)), .val (.int md), .val (.long od), .second, .val (.long vv), .second, .val (.ref ob8), .val (.ref ob10), .unset] [(.int (lcmpW vv od))])) t₀
          refine XS.ifYes X14.here hx rfl (pc0 := 222) (pc' := 229) rfl (hb hby at_222) rfl ((if0 _ _).trans (feq (fun z => hx222 ((lw_eq vv od).mp z))).2) (by decide) (by decide) ?_
          show Steps p.tables e below (T14.setTop (mkF m 229 #[.val (.long p1), .second, .val (.long p2), .second, .val (.long p3), .second, .val (.int p4), .val (.int p5), .val (.long p6), .second, .val (.int (3 : Int32)), .val (.int md), .val (.long od), .second, .val (.long vv), .second, .val (.ref ob8), .val (.ref ob10), .unset] [])) t₀
          refine XS.iconst X14.here hx rfl (hb hby at_229) ?_
          show Steps p.tables e below (T14.setTop (mkF m 230 #[.val (.long p1), .second, .val (.long p2), .second, .val (.long p3), .second, .val (.int p4), .val (.int p5), .val (.long p6), .second, .val (.int (3 : Int32)), .val (.int md), .val (.long od), .second, .val (.long vv), .second, .val (.ref ob8), .val (.ref ob10), .unset] [(.int (0 : Int32))])) t₀
          refine XS.istore X14.here hx rfl (hb hby at_230) rfl (l' := #[.val (.long p1), .second, .val (.long p2), .second, .val (.long p3), .second, .val (.int p4), .val (.int p5), .val (.long p6), .second, .val (.int (3 : Int32)), .val (.int md), .val (.long od), .second, .val (.long vv), .second, .val (.ref ob8), .val (.ref ob10), .val (.int (0 : Int32))]) rfl ?_
          exact k₀
        have h' : ¬ (p3 = vv) := fun q => hx222 (q.symm.trans hodi.symm)
        exact tlE T14 T14.heap _ X14 rfl N14 z_x14 o_x14 ob8 ob10 eob8_x14 eob10_x14 fob8_offset_x14 fob8_numOps_x14 fob8_generation_x14 fob8_minSeqNo_x14 fob8_maxSeqNo_x14 fob8_globalCheckpoint_x14 fob8_minGeneration_x14 fob8_trimmedAboveSeqNo_x14 p1 p4 p2 vv (p1 ^^^ p2) (p2 ^^^ p3) (p1 + p3) (p2 - p3) Q14_0 Q14_1 Q14_2 Q14_3 Q14_4 Q14_5 Q14_6 Q14_7 _ _ (0 : Int32) _ _ (by simp [own_ceq, h'])
    ·
      subst h8
      show G (T10.setTop (mkF m 79 #[.val (.long p1), .second, .val (.long p2), .second, .val (.long p3), .second, .val (.int p4), .val (.int p5), .val (.long p6), .second, .val (.int (4 : Int32)), .val (.int md), .val (.long od), .second, .val (.long vv), .second, .val (.ref ob8), .unset, .unset] [(.ref ob10), (.ref ob10)]))
      have hodi : od = (p1 ^^^ p2) := hod.trans (by simp [own_old])
      refine hG _ (T10.setTop (mkF m 190 #[.val (.long p1), .second, .val (.long p2), .second, .val (.long p3), .second, .val (.int p4), .val (.int p5), .val (.long p6), .second, .val (.int (4 : Int32)), .val (.int md), .val (.long od), .second, .val (.long vv), .second, .val (.ref ob8), .unset, .unset] [(.long (p2 - p3)), (.long (p1 + p3)), (.long (p2 ^^^ p3)), (.long vv), (.long p3), (.long p2), (.int p4), (.long p1), (.ref ob10), (.ref ob10)])) (fun t₀ k₀ => ?_) ?_
      · show Steps p.tables e below (T10.setTop (mkF m 79 #[.val (.long p1), .second, .val (.long p2), .second, .val (.long p3), .second, .val (.int p4), .val (.int p5), .val (.long p6), .second, .val (.int (4 : Int32)), .val (.int md), .val (.long od), .second, .val (.long vv), .second, .val (.ref ob8), .unset, .unset] [(.ref ob10), (.ref ob10)])) t₀
        refine XS.iload X10.here hx rfl (hb hby at_79) rfl ?_
        show Steps p.tables e below (T10.setTop (mkF m 81 #[.val (.long p1), .second, .val (.long p2), .second, .val (.long p3), .second, .val (.int p4), .val (.int p5), .val (.long p6), .second, .val (.int (4 : Int32)), .val (.int md), .val (.long od), .second, .val (.long vv), .second, .val (.ref ob8), .unset, .unset] [(.int (4 : Int32)), (.ref ob10), (.ref ob10)])) t₀
        refine XS.ifYes X10.here hx rfl (pc0 := 81) (pc' := 89) rfl (hb hby at_81) rfl ((if0 _ _).trans (feq (by decide : ¬ ((4 : Int32) = (0 : Int32)))).2) (by decide) (by decide) ?_
        show Steps p.tables e below (T10.setTop (mkF m 89 #[.val (.long p1), .second, .val (.long p2), .second, .val (.long p3), .second, .val (.int p4), .val (.int p5), .val (.long p6), .second, .val (.int (4 : Int32)), .val (.int md), .val (.long od), .second, .val (.long vv), .second, .val (.ref ob8), .unset, .unset] [(.ref ob10), (.ref ob10)])) t₀
        refine XS.lloadN X10.here hx rfl (hb hby at_89) rfl ?_
        show Steps p.tables e below (T10.setTop (mkF m 90 #[.val (.long p1), .second, .val (.long p2), .second, .val (.long p3), .second, .val (.int p4), .val (.int p5), .val (.long p6), .second, .val (.int (4 : Int32)), .val (.int md), .val (.long od), .second, .val (.long vv), .second, .val (.ref ob8), .unset, .unset] [(.long p1), (.ref ob10), (.ref ob10)])) t₀
        refine XS.iload X10.here hx rfl (hb hby at_90) rfl ?_
        show Steps p.tables e below (T10.setTop (mkF m 92 #[.val (.long p1), .second, .val (.long p2), .second, .val (.long p3), .second, .val (.int p4), .val (.int p5), .val (.long p6), .second, .val (.int (4 : Int32)), .val (.int md), .val (.long od), .second, .val (.long vv), .second, .val (.ref ob8), .unset, .unset] [(.int (4 : Int32)), (.long p1), (.ref ob10), (.ref ob10)])) t₀
        refine XS.iconst X10.here hx rfl (hb hby at_92) ?_
        show Steps p.tables e below (T10.setTop (mkF m 93 #[.val (.long p1), .second, .val (.long p2), .second, .val (.long p3), .second, .val (.int p4), .val (.int p5), .val (.long p6), .second, .val (.int (4 : Int32)), .val (.int md), .val (.long od), .second, .val (.long vv), .second, .val (.ref ob8), .unset, .unset] [(.int (1 : Int32)), (.int (4 : Int32)), (.long p1), (.ref ob10), (.ref ob10)])) t₀
        refine XS.icmpYes X10.here hx rfl (pc0 := 93) (pc' := 102) rfl (hb hby at_93) rfl (feq (by decide : ¬ ((4 : Int32) = (1 : Int32)))).2 (by decide) (by decide) ?_
        show Steps p.tables e below (T10.setTop (mkF m 102 #[.val (.long p1), .second, .val (.long p2), .second, .val (.long p3), .second, .val (.int p4), .val (.int p5), .val (.long p6), .second, .val (.int (4 : Int32)), .val (.int md), .val (.long od), .second, .val (.long vv), .second, .val (.ref ob8), .unset, .unset] [(.long p1), (.ref ob10), (.ref ob10)])) t₀
        refine XS.iload X10.here hx rfl (hb hby at_102) rfl ?_
        show Steps p.tables e below (T10.setTop (mkF m 104 #[.val (.long p1), .second, .val (.long p2), .second, .val (.long p3), .second, .val (.int p4), .val (.int p5), .val (.long p6), .second, .val (.int (4 : Int32)), .val (.int md), .val (.long od), .second, .val (.long vv), .second, .val (.ref ob8), .unset, .unset] [(.int p4), (.long p1), (.ref ob10), (.ref ob10)])) t₀
        refine XS.iload X10.here hx rfl (hb hby at_104) rfl ?_
        show Steps p.tables e below (T10.setTop (mkF m 106 #[.val (.long p1), .second, .val (.long p2), .second, .val (.long p3), .second, .val (.int p4), .val (.int p5), .val (.long p6), .second, .val (.int (4 : Int32)), .val (.int md), .val (.long od), .second, .val (.long vv), .second, .val (.ref ob8), .unset, .unset] [(.int (4 : Int32)), (.int p4), (.long p1), (.ref ob10), (.ref ob10)])) t₀
        refine XS.iconst X10.here hx rfl (hb hby at_106) ?_
        show Steps p.tables e below (T10.setTop (mkF m 107 #[.val (.long p1), .second, .val (.long p2), .second, .val (.long p3), .second, .val (.int p4), .val (.int p5), .val (.long p6), .second, .val (.int (4 : Int32)), .val (.int md), .val (.long od), .second, .val (.long vv), .second, .val (.ref ob8), .unset, .unset] [(.int (2 : Int32)), (.int (4 : Int32)), (.int p4), (.long p1), (.ref ob10), (.ref ob10)])) t₀
        refine XS.icmpYes X10.here hx rfl (pc0 := 107) (pc' := 115) rfl (hb hby at_107) rfl (feq (by decide : ¬ ((4 : Int32) = (2 : Int32)))).2 (by decide) (by decide) ?_
        show Steps p.tables e below (T10.setTop (mkF m 115 #[.val (.long p1), .second, .val (.long p2), .second, .val (.long p3), .second, .val (.int p4), .val (.int p5), .val (.long p6), .second, .val (.int (4 : Int32)), .val (.int md), .val (.long od), .second, .val (.long vv), .second, .val (.ref ob8), .unset, .unset] [(.int p4), (.long p1), (.ref ob10), (.ref ob10)])) t₀
        refine XS.lloadN X10.here hx rfl (hb hby at_115) rfl ?_
        show Steps p.tables e below (T10.setTop (mkF m 116 #[.val (.long p1), .second, .val (.long p2), .second, .val (.long p3), .second, .val (.int p4), .val (.int p5), .val (.long p6), .second, .val (.int (4 : Int32)), .val (.int md), .val (.long od), .second, .val (.long vv), .second, .val (.ref ob8), .unset, .unset] [(.long p2), (.int p4), (.long p1), (.ref ob10), (.ref ob10)])) t₀
        refine XS.iload X10.here hx rfl (hb hby at_116) rfl ?_
        show Steps p.tables e below (T10.setTop (mkF m 118 #[.val (.long p1), .second, .val (.long p2), .second, .val (.long p3), .second, .val (.int p4), .val (.int p5), .val (.long p6), .second, .val (.int (4 : Int32)), .val (.int md), .val (.long od), .second, .val (.long vv), .second, .val (.ref ob8), .unset, .unset] [(.int (4 : Int32)), (.long p2), (.int p4), (.long p1), (.ref ob10), (.ref ob10)])) t₀
        refine XS.iconst X10.here hx rfl (hb hby at_118) ?_
        show Steps p.tables e below (T10.setTop (mkF m 119 #[.val (.long p1), .second, .val (.long p2), .second, .val (.long p3), .second, .val (.int p4), .val (.int p5), .val (.long p6), .second, .val (.int (4 : Int32)), .val (.int md), .val (.long od), .second, .val (.long vv), .second, .val (.ref ob8), .unset, .unset] [(.int (3 : Int32)), (.int (4 : Int32)), (.long p2), (.int p4), (.long p1), (.ref ob10), (.ref ob10)])) t₀
        refine XS.icmpYes X10.here hx rfl (pc0 := 119) (pc' := 127) rfl (hb hby at_119) rfl (feq (by decide : ¬ ((4 : Int32) = (3 : Int32)))).2 (by decide) (by decide) ?_
        show Steps p.tables e below (T10.setTop (mkF m 127 #[.val (.long p1), .second, .val (.long p2), .second, .val (.long p3), .second, .val (.int p4), .val (.int p5), .val (.long p6), .second, .val (.int (4 : Int32)), .val (.int md), .val (.long od), .second, .val (.long vv), .second, .val (.ref ob8), .unset, .unset] [(.long p2), (.int p4), (.long p1), (.ref ob10), (.ref ob10)])) t₀
        refine XS.lload X10.here hx rfl (hb hby at_127) rfl ?_
        show Steps p.tables e below (T10.setTop (mkF m 129 #[.val (.long p1), .second, .val (.long p2), .second, .val (.long p3), .second, .val (.int p4), .val (.int p5), .val (.long p6), .second, .val (.int (4 : Int32)), .val (.int md), .val (.long od), .second, .val (.long vv), .second, .val (.ref ob8), .unset, .unset] [(.long p3), (.long p2), (.int p4), (.long p1), (.ref ob10), (.ref ob10)])) t₀
        refine XS.iload X10.here hx rfl (hb hby at_129) rfl ?_
        show Steps p.tables e below (T10.setTop (mkF m 131 #[.val (.long p1), .second, .val (.long p2), .second, .val (.long p3), .second, .val (.int p4), .val (.int p5), .val (.long p6), .second, .val (.int (4 : Int32)), .val (.int md), .val (.long od), .second, .val (.long vv), .second, .val (.ref ob8), .unset, .unset] [(.int (4 : Int32)), (.long p3), (.long p2), (.int p4), (.long p1), (.ref ob10), (.ref ob10)])) t₀
        refine XS.iconst X10.here hx rfl (hb hby at_131) ?_
        show Steps p.tables e below (T10.setTop (mkF m 132 #[.val (.long p1), .second, .val (.long p2), .second, .val (.long p3), .second, .val (.int p4), .val (.int p5), .val (.long p6), .second, .val (.int (4 : Int32)), .val (.int md), .val (.long od), .second, .val (.long vv), .second, .val (.ref ob8), .unset, .unset] [(.int (4 : Int32)), (.int (4 : Int32)), (.long p3), (.long p2), (.int p4), (.long p1), (.ref ob10), (.ref ob10)])) t₀
        refine XS.icmpNo X10.here hx rfl (hb hby at_132) rfl (teq (by decide : ((4 : Int32) = (4 : Int32)))).2 ?_
        show Steps p.tables e below (T10.setTop (mkF m 135 #[.val (.long p1), .second, .val (.long p2), .second, .val (.long p3), .second, .val (.int p4), .val (.int p5), .val (.long p6), .second, .val (.int (4 : Int32)), .val (.int md), .val (.long od), .second, .val (.long vv), .second, .val (.ref ob8), .unset, .unset] [(.long p3), (.long p2), (.int p4), (.long p1), (.ref ob10), (.ref ob10)])) t₀
        refine XS.lload X10.here hx rfl (hb hby at_135) rfl ?_
        show Steps p.tables e below (T10.setTop (mkF m 137 #[.val (.long p1), .second, .val (.long p2), .second, .val (.long p3), .second, .val (.int p4), .val (.int p5), .val (.long p6), .second, .val (.int (4 : Int32)), .val (.int md), .val (.long od), .second, .val (.long vv), .second, .val (.ref ob8), .unset, .unset] [(.long vv), (.long p3), (.long p2), (.int p4), (.long p1), (.ref ob10), (.ref ob10)])) t₀
        refine XS.goto X10.here hx rfl (pc0 := 137) (pc' := 143) rfl (hb hby at_137) (by decide) (by decide) ?_
        show Steps p.tables e below (T10.setTop (mkF m 143 #[.val (.long p1), .second, .val (.long p2), .second, .val (.long p3), .second, .val (.int p4), .val (.int p5), .val (.long p6), .second, .val (.int (4 : Int32)), .val (.int md), .val (.long od), .second, .val (.long vv), .second, .val (.ref ob8), .unset, .unset] [(.long vv), (.long p3), (.long p2), (.int p4), (.long p1), (.ref ob10), (.ref ob10)])) t₀
        refine XS.iload X10.here hx rfl (hb hby at_143) rfl ?_
        show Steps p.tables e below (T10.setTop (mkF m 145 #[.val (.long p1), .second, .val (.long p2), .second, .val (.long p3), .second, .val (.int p4), .val (.int p5), .val (.long p6), .second, .val (.int (4 : Int32)), .val (.int md), .val (.long od), .second, .val (.long vv), .second, .val (.ref ob8), .unset, .unset] [(.int (4 : Int32)), (.long vv), (.long p3), (.long p2), (.int p4), (.long p1), (.ref ob10), (.ref ob10)])) t₀
        refine XS.iconst X10.here hx rfl (hb hby at_145) ?_
        show Steps p.tables e below (T10.setTop (mkF m 146 #[.val (.long p1), .second, .val (.long p2), .second, .val (.long p3), .second, .val (.int p4), .val (.int p5), .val (.long p6), .second, .val (.int (4 : Int32)), .val (.int md), .val (.long od), .second, .val (.long vv), .second, .val (.ref ob8), .unset, .unset] [(.int (5 : Int32)), (.int (4 : Int32)), (.long vv), (.long p3), (.long p2), (.int p4), (.long p1), (.ref ob10), (.ref ob10)])) t₀
        refine XS.icmpYes X10.here hx rfl (pc0 := 146) (pc' := 154) rfl (hb hby at_146) rfl (feq (by decide : ¬ ((4 : Int32) = (5 : Int32)))).2 (by decide) (by decide) ?_
        show Steps p.tables e below (T10.setTop (mkF m 154 #[.val (.long p1), .second, .val (.long p2), .second, .val (.long p3), .second, .val (.int p4), .val (.int p5), .val (.long p6), .second, .val (.int (4 : Int32)), .val (.int md), .val (.long od), .second, .val (.long vv), .second, .val (.ref ob8), .unset, .unset] [(.long vv), (.long p3), (.long p2), (.int p4), (.long p1), (.ref ob10), (.ref ob10)])) t₀
        refine XS.lloadN X10.here hx rfl (hb hby at_154) rfl ?_
        show Steps p.tables e below (T10.setTop (mkF m 155 #[.val (.long p1), .second, .val (.long p2), .second, .val (.long p3), .second, .val (.int p4), .val (.int p5), .val (.long p6), .second, .val (.int (4 : Int32)), .val (.int md), .val (.long od), .second, .val (.long vv), .second, .val (.ref ob8), .unset, .unset] [(.long p2), (.long vv), (.long p3), (.long p2), (.int p4), (.long p1), (.ref ob10), (.ref ob10)])) t₀
        refine XS.lload X10.here hx rfl (hb hby at_155) rfl ?_
        show Steps p.tables e below (T10.setTop (mkF m 157 #[.val (.long p1), .second, .val (.long p2), .second, .val (.long p3), .second, .val (.int p4), .val (.int p5), .val (.long p6), .second, .val (.int (4 : Int32)), .val (.int md), .val (.long od), .second, .val (.long vv), .second, .val (.ref ob8), .unset, .unset] [(.long p3), (.long p2), (.long vv), (.long p3), (.long p2), (.int p4), (.long p1), (.ref ob10), (.ref ob10)])) t₀
        refine XS.lxor X10.here hx rfl (hb hby at_157) rfl ?_
        show Steps p.tables e below (T10.setTop (mkF m 158 #[.val (.long p1), .second, .val (.long p2), .second, .val (.long p3), .second, .val (.int p4), .val (.int p5), .val (.long p6), .second, .val (.int (4 : Int32)), .val (.int md), .val (.long od), .second, .val (.long vv), .second, .val (.ref ob8), .unset, .unset] [(.long (p2 ^^^ p3)), (.long vv), (.long p3), (.long p2), (.int p4), (.long p1), (.ref ob10), (.ref ob10)])) t₀
        refine XS.iload X10.here hx rfl (hb hby at_158) rfl ?_
        show Steps p.tables e below (T10.setTop (mkF m 160 #[.val (.long p1), .second, .val (.long p2), .second, .val (.long p3), .second, .val (.int p4), .val (.int p5), .val (.long p6), .second, .val (.int (4 : Int32)), .val (.int md), .val (.long od), .second, .val (.long vv), .second, .val (.ref ob8), .unset, .unset] [(.int (4 : Int32)), (.long (p2 ^^^ p3)), (.long vv), (.long p3), (.long p2), (.int p4), (.long p1), (.ref ob10), (.ref ob10)])) t₀
        refine XS.bipush X10.here hx rfl (hb hby at_160) ?_
        show Steps p.tables e below (T10.setTop (mkF m 162 #[.val (.long p1), .second, .val (.long p2), .second, .val (.long p3), .second, .val (.int p4), .val (.int p5), .val (.long p6), .second, .val (.int (4 : Int32)), .val (.int md), .val (.long od), .second, .val (.long vv), .second, .val (.ref ob8), .unset, .unset] [(.int (6 : Int32)), (.int (4 : Int32)), (.long (p2 ^^^ p3)), (.long vv), (.long p3), (.long p2), (.int p4), (.long p1), (.ref ob10), (.ref ob10)])) t₀
        refine XS.icmpYes X10.here hx rfl (pc0 := 162) (pc' := 170) rfl (hb hby at_162) rfl (feq (by decide : ¬ ((4 : Int32) = (6 : Int32)))).2 (by decide) (by decide) ?_
        show Steps p.tables e below (T10.setTop (mkF m 170 #[.val (.long p1), .second, .val (.long p2), .second, .val (.long p3), .second, .val (.int p4), .val (.int p5), .val (.long p6), .second, .val (.int (4 : Int32)), .val (.int md), .val (.long od), .second, .val (.long vv), .second, .val (.ref ob8), .unset, .unset] [(.long (p2 ^^^ p3)), (.long vv), (.long p3), (.long p2), (.int p4), (.long p1), (.ref ob10), (.ref ob10)])) t₀
        refine XS.lloadN X10.here hx rfl (hb hby at_170) rfl ?_
        show Steps p.tables e below (T10.setTop (mkF m 171 #[.val (.long p1), .second, .val (.long p2), .second, .val (.long p3), .second, .val (.int p4), .val (.int p5), .val (.long p6), .second, .val (.int (4 : Int32)), .val (.int md), .val (.long od), .second, .val (.long vv), .second, .val (.ref ob8), .unset, .unset] [(.long p1), (.long (p2 ^^^ p3)), (.long vv), (.long p3), (.long p2), (.int p4), (.long p1), (.ref ob10), (.ref ob10)])) t₀
        refine XS.lload X10.here hx rfl (hb hby at_171) rfl ?_
        show Steps p.tables e below (T10.setTop (mkF m 173 #[.val (.long p1), .second, .val (.long p2), .second, .val (.long p3), .second, .val (.int p4), .val (.int p5), .val (.long p6), .second, .val (.int (4 : Int32)), .val (.int md), .val (.long od), .second, .val (.long vv), .second, .val (.ref ob8), .unset, .unset] [(.long p3), (.long p1), (.long (p2 ^^^ p3)), (.long vv), (.long p3), (.long p2), (.int p4), (.long p1), (.ref ob10), (.ref ob10)])) t₀
        refine XS.ladd X10.here hx rfl (hb hby at_173) rfl ?_
        show Steps p.tables e below (T10.setTop (mkF m 174 #[.val (.long p1), .second, .val (.long p2), .second, .val (.long p3), .second, .val (.int p4), .val (.int p5), .val (.long p6), .second, .val (.int (4 : Int32)), .val (.int md), .val (.long od), .second, .val (.long vv), .second, .val (.ref ob8), .unset, .unset] [(.long (p1 + p3)), (.long (p2 ^^^ p3)), (.long vv), (.long p3), (.long p2), (.int p4), (.long p1), (.ref ob10), (.ref ob10)])) t₀
        refine XS.iload X10.here hx rfl (hb hby at_174) rfl ?_
        show Steps p.tables e below (T10.setTop (mkF m 176 #[.val (.long p1), .second, .val (.long p2), .second, .val (.long p3), .second, .val (.int p4), .val (.int p5), .val (.long p6), .second, .val (.int (4 : Int32)), .val (.int md), .val (.long od), .second, .val (.long vv), .second, .val (.ref ob8), .unset, .unset] [(.int (4 : Int32)), (.long (p1 + p3)), (.long (p2 ^^^ p3)), (.long vv), (.long p3), (.long p2), (.int p4), (.long p1), (.ref ob10), (.ref ob10)])) t₀
        refine XS.bipush X10.here hx rfl (hb hby at_176) ?_
        show Steps p.tables e below (T10.setTop (mkF m 178 #[.val (.long p1), .second, .val (.long p2), .second, .val (.long p3), .second, .val (.int p4), .val (.int p5), .val (.long p6), .second, .val (.int (4 : Int32)), .val (.int md), .val (.long od), .second, .val (.long vv), .second, .val (.ref ob8), .unset, .unset] [(.int (7 : Int32)), (.int (4 : Int32)), (.long (p1 + p3)), (.long (p2 ^^^ p3)), (.long vv), (.long p3), (.long p2), (.int p4), (.long p1), (.ref ob10), (.ref ob10)])) t₀
        refine XS.icmpYes X10.here hx rfl (pc0 := 178) (pc' := 186) rfl (hb hby at_178) rfl (feq (by decide : ¬ ((4 : Int32) = (7 : Int32)))).2 (by decide) (by decide) ?_
        show Steps p.tables e below (T10.setTop (mkF m 186 #[.val (.long p1), .second, .val (.long p2), .second, .val (.long p3), .second, .val (.int p4), .val (.int p5), .val (.long p6), .second, .val (.int (4 : Int32)), .val (.int md), .val (.long od), .second, .val (.long vv), .second, .val (.ref ob8), .unset, .unset] [(.long (p1 + p3)), (.long (p2 ^^^ p3)), (.long vv), (.long p3), (.long p2), (.int p4), (.long p1), (.ref ob10), (.ref ob10)])) t₀
        refine XS.lloadN X10.here hx rfl (hb hby at_186) rfl ?_
        show Steps p.tables e below (T10.setTop (mkF m 187 #[.val (.long p1), .second, .val (.long p2), .second, .val (.long p3), .second, .val (.int p4), .val (.int p5), .val (.long p6), .second, .val (.int (4 : Int32)), .val (.int md), .val (.long od), .second, .val (.long vv), .second, .val (.ref ob8), .unset, .unset] [(.long p2), (.long (p1 + p3)), (.long (p2 ^^^ p3)), (.long vv), (.long p3), (.long p2), (.int p4), (.long p1), (.ref ob10), (.ref ob10)])) t₀
        refine XS.lload X10.here hx rfl (hb hby at_187) rfl ?_
        show Steps p.tables e below (T10.setTop (mkF m 189 #[.val (.long p1), .second, .val (.long p2), .second, .val (.long p3), .second, .val (.int p4), .val (.int p5), .val (.long p6), .second, .val (.int (4 : Int32)), .val (.int md), .val (.long od), .second, .val (.long vv), .second, .val (.ref ob8), .unset, .unset] [(.long p3), (.long p2), (.long (p1 + p3)), (.long (p2 ^^^ p3)), (.long vv), (.long p3), (.long p2), (.int p4), (.long p1), (.ref ob10), (.ref ob10)])) t₀
        refine XS.lsub X10.here hx rfl (hb hby at_189) rfl ?_
        exact k₀
      obtain ⟨_, _, ⟨T15, L15, k15, n15⟩, -, X15, ⟨Lc15, hQ15, l15, y15, z15⟩, st15⟩ := X10.specialBack hx (y := (⟨"com/example/opledger/opledger/Checkpoint", "<init>", "(JIJJJJJJ)V"⟩ : MethodName)) rfl hown (mvT hZ (hw _ (List.mem_of_getElem? (i := 7) rfl))) (mvT hZ (hw _ (List.mem_of_getElem? (i := 8) rfl))) (mvT hZ (hw _ (List.mem_of_getElem? (i := 9) rfl))) (by decide) (backOf (W := 1) (rmC l Z a0 hw [] ob10 p1 p4 p2 p3 vv (p2 ^^^ p3) (p1 + p3) (p2 - p3) h10 n0 z_10 A10 g_ob10 F_offset_ob10 F_numOps_ob10 F_generation_ob10 F_minSeqNo_ob10 F_maxSeqNo_ob10 F_globalCheckpoint_ob10 F_minGeneration_ob10 F_trimmedAboveSeqNo_ob10) hZ (hw _ (List.mem_of_getElem? (i := 9) rfl)) (hw _ (List.mem_of_getElem? (i := 6) rfl)) (by decide) (by decide)) (g := (mkF m 190 #[.val (.long p1), .second, .val (.long p2), .second, .val (.long p3), .second, .val (.int p4), .val (.int p5), .val (.long p6), .second, .val (.int (4 : Int32)), .val (.int md), .val (.long od), .second, .val (.long vv), .second, .val (.ref ob8), .unset, .unset] [(.long (p2 - p3)), (.long (p1 + p3)), (.long (p2 ^^^ p3)), (.long vv), (.long p3), (.long p2), (.int p4), (.long p1), (.ref ob10), (.ref ob10)])) rfl (by rw [hml]; rfl) (Steps.refl _) (a := ob10) (argsL := [(.long p1), (.int p4), (.long p2), (.long p3), (.long vv), (.long (p2 ^^^ p3)), (.long (p1 + p3)), (.long (p2 - p3))]) (rest := [(.ref ob10)]) (lenOf pd_1 rfl) rfl (by show 2 * 0 + _ ≤ _; exact Nat.le_of_eq rfl) (hb hby at_190) (fun _ _ => ⟨rfl, e10, (by decide : 2 + 0 ≤ _), (by decide : 16 + 0 ≤ _)⟩)
      dsimp only [Pt.U, Pt.locs, Pt.cells, Pt.slots] at X15 l15 y15 z15 st15 hQ15
      subst l15 y15 z15
      obtain ⟨rfl, N15q, K15, Q15_0, Q15_1, Q15_2, Q15_3, Q15_4, Q15_5, Q15_6, Q15_7⟩ := hQ15
      have N15 := Fr.app N9 N15q
      refine hG _ _ (fun t₀ k₀ => st15.trans k₀) ?_
      have z_x15 := Nat.le_trans z_10 K15.1
      have o_x15 := o_x10.keep K15 (allS g_ob10 all0)
      have eob8_x15 := eob8_x10.keep K15
      have fob8_offset_x15 := fob8_offset_x10.keep K15 (ninS ne_ob8_ob10 nin0)
      have fob8_numOps_x15 := fob8_numOps_x10.keep K15 (ninS ne_ob8_ob10 nin0)
      have fob8_generation_x15 := fob8_generation_x10.keep K15 (ninS ne_ob8_ob10 nin0)
      have fob8_minSeqNo_x15 := fob8_minSeqNo_x10.keep K15 (ninS ne_ob8_ob10 nin0)
      have fob8_maxSeqNo_x15 := fob8_maxSeqNo_x10.keep K15 (ninS ne_ob8_ob10 nin0)
      have fob8_globalCheckpoint_x15 := fob8_globalCheckpoint_x10.keep K15 (ninS ne_ob8_ob10 nin0)
      have fob8_minGeneration_x15 := fob8_minGeneration_x10.keep K15 (ninS ne_ob8_ob10 nin0)
      have fob8_trimmedAboveSeqNo_x15 := fob8_trimmedAboveSeqNo_x10.keep K15 (ninS ne_ob8_ob10 nin0)
      have eob10_x15 := A10.keep K15
      show G (T15.setTop (mkF m 193 #[.val (.long p1), .second, .val (.long p2), .second, .val (.long p3), .second, .val (.int p4), .val (.int p5), .val (.long p6), .second, .val (.int (4 : Int32)), .val (.int md), .val (.long od), .second, .val (.long vv), .second, .val (.ref ob8), .unset, .unset] [(.ref ob10)]))
      refine hG _ (T15.setTop (mkF m 222 #[.val (.long p1), .second, .val (.long p2), .second, .val (.long p3), .second, .val (.int p4), .val (.int p5), .val (.long p6), .second, .val (.int (4 : Int32)), .val (.int md), .val (.long od), .second, .val (.long vv), .second, .val (.ref ob8), .val (.ref ob10), .unset] [(.int (lcmpW vv od))])) (fun t₀ k₀ => ?_) ?_
      · show Steps p.tables e below (T15.setTop (mkF m 193 #[.val (.long p1), .second, .val (.long p2), .second, .val (.long p3), .second, .val (.int p4), .val (.int p5), .val (.long p6), .second, .val (.int (4 : Int32)), .val (.int md), .val (.long od), .second, .val (.long vv), .second, .val (.ref ob8), .unset, .unset] [(.ref ob10)])) t₀
        refine XS.astore X15.here hx rfl (hb hby at_193) rfl rfl (l' := #[.val (.long p1), .second, .val (.long p2), .second, .val (.long p3), .second, .val (.int p4), .val (.int p5), .val (.long p6), .second, .val (.int (4 : Int32)), .val (.int md), .val (.long od), .second, .val (.long vv), .second, .val (.ref ob8), .val (.ref ob10), .unset]) rfl ?_
        show Steps p.tables e below (T15.setTop (mkF m 195 #[.val (.long p1), .second, .val (.long p2), .second, .val (.long p3), .second, .val (.int p4), .val (.int p5), .val (.long p6), .second, .val (.int (4 : Int32)), .val (.int md), .val (.long od), .second, .val (.long vv), .second, .val (.ref ob8), .val (.ref ob10), .unset] [])) t₀
        refine XS.iload X15.here hx rfl (hb hby at_195) rfl ?_
        show Steps p.tables e below (T15.setTop (mkF m 197 #[.val (.long p1), .second, .val (.long p2), .second, .val (.long p3), .second, .val (.int p4), .val (.int p5), .val (.long p6), .second, .val (.int (4 : Int32)), .val (.int md), .val (.long od), .second, .val (.long vv), .second, .val (.ref ob8), .val (.ref ob10), .unset] [(.int (4 : Int32))])) t₀
        refine XS.iconst X15.here hx rfl (hb hby at_197) ?_
        show Steps p.tables e below (T15.setTop (mkF m 198 #[.val (.long p1), .second, .val (.long p2), .second, .val (.long p3), .second, .val (.int p4), .val (.int p5), .val (.long p6), .second, .val (.int (4 : Int32)), .val (.int md), .val (.long od), .second, .val (.long vv), .second, .val (.ref ob8), .val (.ref ob10), .unset] [(.int (1 : Int32)), (.int (4 : Int32))])) t₀
        refine XS.icmpYes X15.here hx rfl (pc0 := 198) (pc' := 217) rfl (hb hby at_198) rfl (feq (by decide : ¬ ((4 : Int32) = (1 : Int32)))).2 (by decide) (by decide) ?_
        show Steps p.tables e below (T15.setTop (mkF m 217 #[.val (.long p1), .second, .val (.long p2), .second, .val (.long p3), .second, .val (.int p4), .val (.int p5), .val (.long p6), .second, .val (.int (4 : Int32)), .val (.int md), .val (.long od), .second, .val (.long vv), .second, .val (.ref ob8), .val (.ref ob10), .unset] [])) t₀
        refine XS.lload X15.here hx rfl (hb hby at_217) rfl ?_
        show Steps p.tables e below (T15.setTop (mkF m 219 #[.val (.long p1), .second, .val (.long p2), .second, .val (.long p3), .second, .val (.int p4), .val (.int p5), .val (.long p6), .second, .val (.int (4 : Int32)), .val (.int md), .val (.long od), .second, .val (.long vv), .second, .val (.ref ob8), .val (.ref ob10), .unset] [(.long vv)])) t₀
        refine XS.lload X15.here hx rfl (hb hby at_219) rfl ?_
        show Steps p.tables e below (T15.setTop (mkF m 221 #[.val (.long p1), .second, .val (.long p2), .second, .val (.long p3), .second, .val (.int p4), .val (.int p5), .val (.long p6), .second, .val (.int (4 : Int32)), .val (.int md), .val (.long od), .second, .val (.long vv), .second, .val (.ref ob8), .val (.ref ob10), .unset] [(.long od), (.long vv)])) t₀
        refine XS.lcmp X15.here hx rfl (hb hby at_221) rfl ?_
        exact k₀
      by_cases hx222 : vv = od
      ·
        refine hG _ (T15.setTop (mkF m 232 #[.val (.long p1), .second, .val (.long p2), .second, .val (.long p3), .second, .val (.int p4), .val (.int p5), .val (.long p6), .second, .val (.int (4 : Int32)), .val (.int md), .val (.long od), .second, .val (.long vv), .second, .val (.ref ob8), .val (.ref ob10), .val (.int (1 : Int32))] [])) (fun t₀ k₀ => ?_) ?_
        · show Steps p.tables e below (T15.setTop (mkF m 222 #[.val (.long p1), .second, .val (.long p2), .second, .val (.long p3), .second, .val (.int p4), .val (.int p5), .val (.long p6), .second, .val (.int (4 : Int32)), .val (.int md), .val (.long od), .second, .val (.long vv), .second, .val (.ref ob8), .val (.ref ob10), .unset] [(.int (lcmpW vv od))])) t₀
          refine XS.ifNo X15.here hx rfl (hb hby at_222) rfl ((if0 _ _).trans (teq ((lw_eq vv od).mpr hx222)).2) ?_
          show Steps p.tables e below (T15.setTop (mkF m 225 #[.val (.long p1), .second, .val (.long p2), .second, .val (.long p3), .second, .val (.int p4), .val (.int p5), .val (.long p6), .second, .val (.int (4 : Int32)), .val (.int md), .val (.long od), .second, .val (.long vv), .second, .val (.ref ob8), .val (.ref ob10), .unset] [])) t₀
          refine XS.iconst X15.here hx rfl (hb hby at_225) ?_
          show Steps p.tables e below (T15.setTop (mkF m 226 #[.val (.long p1), .second, .val (.long p2), .second, .val (.long p3), .second, .val (.int p4), .val (.int p5), .val (.long p6), .second, .val (.int (4 : Int32)), .val (.int md), .val (.long od), .second, .val (.long vv), .second, .val (.ref ob8), .val (.ref ob10), .unset] [(.int (1 : Int32))])) t₀
          refine XS.goto X15.here hx rfl (pc0 := 226) (pc' := 230) rfl (hb hby at_226) (by decide) (by decide) ?_
          show Steps p.tables e below (T15.setTop (mkF m 230 #[.val (.long p1), .second, .val (.long p2), .second, .val (.long p3), .second, .val (.int p4), .val (.int p5), .val (.long p6), .second, .val (.int (4 : Int32)), .val (.int md), .val (.long od), .second, .val (.long vv), .second, .val (.ref ob8), .val (.ref ob10), .unset] [(.int (1 : Int32))])) t₀
          refine XS.istore X15.here hx rfl (hb hby at_230) rfl (l' := #[.val (.long p1), .second, .val (.long p2), .second, .val (.long p3), .second, .val (.int p4), .val (.int p5), .val (.long p6), .second, .val (.int (4 : Int32)), .val (.int md), .val (.long od), .second, .val (.long vv), .second, .val (.ref ob8), .val (.ref ob10), .val (.int (1 : Int32))]) rfl ?_
          exact k₀
        have h' : (p1 ^^^ p2) = vv := (hx222.trans hodi).symm
        exact tlE T15 T15.heap _ X15 rfl N15 z_x15 o_x15 ob8 ob10 eob8_x15 eob10_x15 fob8_offset_x15 fob8_numOps_x15 fob8_generation_x15 fob8_minSeqNo_x15 fob8_maxSeqNo_x15 fob8_globalCheckpoint_x15 fob8_minGeneration_x15 fob8_trimmedAboveSeqNo_x15 p1 p4 p2 p3 vv (p2 ^^^ p3) (p1 + p3) (p2 - p3) Q15_0 Q15_1 Q15_2 Q15_3 Q15_4 Q15_5 Q15_6 Q15_7 _ _ (1 : Int32) _ _ (by simp [own_ceq, h'])
      ·
        refine hG _ (T15.setTop (mkF m 232 #[.val (.long p1), .second, .val (.long p2), .second, .val (.long p3), .second, .val (.int p4), .val (.int p5), .val (.long p6), .second, .val (.int (4 : Int32)), .val (.int md), .val (.long od), .second, .val (.long vv), .second, .val (.ref ob8), .val (.ref ob10), .val (.int (0 : Int32))] [])) (fun t₀ k₀ => ?_) ?_
        · show Steps p.tables e below (T15.setTop (mkF m 222 #[.val (.long p1), .second, .val (.long p2), .second, .val (.long p3), .second, .val (.int p4), .val (.int p5), .val (.long p6), .second, .val (.int (4 : Int32)), .val (.int md), .val (.long od), .second, .val (.long vv), .second, .val (.ref ob8), .val (.ref ob10), .unset] [(.int (lcmpW vv od))])) t₀
          refine XS.ifYes X15.here hx rfl (pc0 := 222) (pc' := 229) rfl (hb hby at_222) rfl ((if0 _ _).trans (feq (fun z => hx222 ((lw_eq vv od).mp z))).2) (by decide) (by decide) ?_
          show Steps p.tables e below (T15.setTop (mkF m 229 #[.val (.long p1), .second, .val (.long p2), .second, .val (.long p3), .second, .val (.int p4), .val (.int p5), .val (.long p6), .second, .val (.int (4 : Int32)), .val (.int md), .val (.long od), .second, .val (.long vv), .second, .val (.ref ob8), .val (.ref ob10), .unset] [])) t₀
          refine XS.iconst X15.here hx rfl (hb hby at_229) ?_
          show Steps p.tables e below (T15.setTop (mkF m 230 #[.val (.long p1), .second, .val (.long p2), .second, .val (.long p3), .second, .val (.int p4), .val (.int p5), .val (.long p6), .second, .val (.int (4 : Int32)), .val (.int md), .val (.long od), .second, .val (.long vv), .second, .val (.ref ob8), .val (.ref ob10), .unset] [(.int (0 : Int32))])) t₀
          refine XS.istore X15.here hx rfl (hb hby at_230) rfl (l' := #[.val (.long p1), .second, .val (.long p2), .second, .val (.long p3), .second, .val (.int p4), .val (.int p5), .val (.long p6), .second, .val (.int (4 : Int32)), .val (.int md), .val (.long od), .second, .val (.long vv), .second, .val (.ref ob8), .val (.ref ob10), .val (.int (0 : Int32))]) rfl ?_
          exact k₀
        have h' : ¬ ((p1 ^^^ p2) = vv) := fun q => hx222 (q.symm.trans hodi.symm)
        exact tlE T15 T15.heap _ X15 rfl N15 z_x15 o_x15 ob8 ob10 eob8_x15 eob10_x15 fob8_offset_x15 fob8_numOps_x15 fob8_generation_x15 fob8_minSeqNo_x15 fob8_maxSeqNo_x15 fob8_globalCheckpoint_x15 fob8_minGeneration_x15 fob8_trimmedAboveSeqNo_x15 p1 p4 p2 p3 vv (p2 ^^^ p3) (p1 + p3) (p2 - p3) Q15_0 Q15_1 Q15_2 Q15_3 Q15_4 Q15_5 Q15_6 Q15_7 _ _ (0 : Int32) _ _ (by simp [own_ceq, h'])
    ·
      subst h8
      show G (T10.setTop (mkF m 79 #[.val (.long p1), .second, .val (.long p2), .second, .val (.long p3), .second, .val (.int p4), .val (.int p5), .val (.long p6), .second, .val (.int (5 : Int32)), .val (.int md), .val (.long od), .second, .val (.long vv), .second, .val (.ref ob8), .unset, .unset] [(.ref ob10), (.ref ob10)]))
      have hodi : od = (p2 ^^^ p3) := hod.trans (by simp [own_old])
      refine hG _ (T10.setTop (mkF m 190 #[.val (.long p1), .second, .val (.long p2), .second, .val (.long p3), .second, .val (.int p4), .val (.int p5), .val (.long p6), .second, .val (.int (5 : Int32)), .val (.int md), .val (.long od), .second, .val (.long vv), .second, .val (.ref ob8), .unset, .unset] [(.long (p2 - p3)), (.long (p1 + p3)), (.long vv), (.long (p1 ^^^ p2)), (.long p3), (.long p2), (.int p4), (.long p1), (.ref ob10), (.ref ob10)])) (fun t₀ k₀ => ?_) ?_
      · show Steps p.tables e below (T10.setTop (mkF m 79 #[.val (.long p1), .second, .val (.long p2), .second, .val (.long p3), .second, .val (.int p4), .val (.int p5), .val (.long p6), .second, .val (.int (5 : Int32)), .val (.int md), .val (.long od), .second, .val (.long vv), .second, .val (.ref ob8), .unset, .unset] [(.ref ob10), (.ref ob10)])) t₀
        refine XS.iload X10.here hx rfl (hb hby at_79) rfl ?_
        show Steps p.tables e below (T10.setTop (mkF m 81 #[.val (.long p1), .second, .val (.long p2), .second, .val (.long p3), .second, .val (.int p4), .val (.int p5), .val (.long p6), .second, .val (.int (5 : Int32)), .val (.int md), .val (.long od), .second, .val (.long vv), .second, .val (.ref ob8), .unset, .unset] [(.int (5 : Int32)), (.ref ob10), (.ref ob10)])) t₀
        refine XS.ifYes X10.here hx rfl (pc0 := 81) (pc' := 89) rfl (hb hby at_81) rfl ((if0 _ _).trans (feq (by decide : ¬ ((5 : Int32) = (0 : Int32)))).2) (by decide) (by decide) ?_
        show Steps p.tables e below (T10.setTop (mkF m 89 #[.val (.long p1), .second, .val (.long p2), .second, .val (.long p3), .second, .val (.int p4), .val (.int p5), .val (.long p6), .second, .val (.int (5 : Int32)), .val (.int md), .val (.long od), .second, .val (.long vv), .second, .val (.ref ob8), .unset, .unset] [(.ref ob10), (.ref ob10)])) t₀
        refine XS.lloadN X10.here hx rfl (hb hby at_89) rfl ?_
        show Steps p.tables e below (T10.setTop (mkF m 90 #[.val (.long p1), .second, .val (.long p2), .second, .val (.long p3), .second, .val (.int p4), .val (.int p5), .val (.long p6), .second, .val (.int (5 : Int32)), .val (.int md), .val (.long od), .second, .val (.long vv), .second, .val (.ref ob8), .unset, .unset] [(.long p1), (.ref ob10), (.ref ob10)])) t₀
        refine XS.iload X10.here hx rfl (hb hby at_90) rfl ?_
        show Steps p.tables e below (T10.setTop (mkF m 92 #[.val (.long p1), .second, .val (.long p2), .second, .val (.long p3), .second, .val (.int p4), .val (.int p5), .val (.long p6), .second, .val (.int (5 : Int32)), .val (.int md), .val (.long od), .second, .val (.long vv), .second, .val (.ref ob8), .unset, .unset] [(.int (5 : Int32)), (.long p1), (.ref ob10), (.ref ob10)])) t₀
        refine XS.iconst X10.here hx rfl (hb hby at_92) ?_
        show Steps p.tables e below (T10.setTop (mkF m 93 #[.val (.long p1), .second, .val (.long p2), .second, .val (.long p3), .second, .val (.int p4), .val (.int p5), .val (.long p6), .second, .val (.int (5 : Int32)), .val (.int md), .val (.long od), .second, .val (.long vv), .second, .val (.ref ob8), .unset, .unset] [(.int (1 : Int32)), (.int (5 : Int32)), (.long p1), (.ref ob10), (.ref ob10)])) t₀
        refine XS.icmpYes X10.here hx rfl (pc0 := 93) (pc' := 102) rfl (hb hby at_93) rfl (feq (by decide : ¬ ((5 : Int32) = (1 : Int32)))).2 (by decide) (by decide) ?_
        show Steps p.tables e below (T10.setTop (mkF m 102 #[.val (.long p1), .second, .val (.long p2), .second, .val (.long p3), .second, .val (.int p4), .val (.int p5), .val (.long p6), .second, .val (.int (5 : Int32)), .val (.int md), .val (.long od), .second, .val (.long vv), .second, .val (.ref ob8), .unset, .unset] [(.long p1), (.ref ob10), (.ref ob10)])) t₀
        refine XS.iload X10.here hx rfl (hb hby at_102) rfl ?_
        show Steps p.tables e below (T10.setTop (mkF m 104 #[.val (.long p1), .second, .val (.long p2), .second, .val (.long p3), .second, .val (.int p4), .val (.int p5), .val (.long p6), .second, .val (.int (5 : Int32)), .val (.int md), .val (.long od), .second, .val (.long vv), .second, .val (.ref ob8), .unset, .unset] [(.int p4), (.long p1), (.ref ob10), (.ref ob10)])) t₀
        refine XS.iload X10.here hx rfl (hb hby at_104) rfl ?_
        show Steps p.tables e below (T10.setTop (mkF m 106 #[.val (.long p1), .second, .val (.long p2), .second, .val (.long p3), .second, .val (.int p4), .val (.int p5), .val (.long p6), .second, .val (.int (5 : Int32)), .val (.int md), .val (.long od), .second, .val (.long vv), .second, .val (.ref ob8), .unset, .unset] [(.int (5 : Int32)), (.int p4), (.long p1), (.ref ob10), (.ref ob10)])) t₀
        refine XS.iconst X10.here hx rfl (hb hby at_106) ?_
        show Steps p.tables e below (T10.setTop (mkF m 107 #[.val (.long p1), .second, .val (.long p2), .second, .val (.long p3), .second, .val (.int p4), .val (.int p5), .val (.long p6), .second, .val (.int (5 : Int32)), .val (.int md), .val (.long od), .second, .val (.long vv), .second, .val (.ref ob8), .unset, .unset] [(.int (2 : Int32)), (.int (5 : Int32)), (.int p4), (.long p1), (.ref ob10), (.ref ob10)])) t₀
        refine XS.icmpYes X10.here hx rfl (pc0 := 107) (pc' := 115) rfl (hb hby at_107) rfl (feq (by decide : ¬ ((5 : Int32) = (2 : Int32)))).2 (by decide) (by decide) ?_
        show Steps p.tables e below (T10.setTop (mkF m 115 #[.val (.long p1), .second, .val (.long p2), .second, .val (.long p3), .second, .val (.int p4), .val (.int p5), .val (.long p6), .second, .val (.int (5 : Int32)), .val (.int md), .val (.long od), .second, .val (.long vv), .second, .val (.ref ob8), .unset, .unset] [(.int p4), (.long p1), (.ref ob10), (.ref ob10)])) t₀
        refine XS.lloadN X10.here hx rfl (hb hby at_115) rfl ?_
        show Steps p.tables e below (T10.setTop (mkF m 116 #[.val (.long p1), .second, .val (.long p2), .second, .val (.long p3), .second, .val (.int p4), .val (.int p5), .val (.long p6), .second, .val (.int (5 : Int32)), .val (.int md), .val (.long od), .second, .val (.long vv), .second, .val (.ref ob8), .unset, .unset] [(.long p2), (.int p4), (.long p1), (.ref ob10), (.ref ob10)])) t₀
        refine XS.iload X10.here hx rfl (hb hby at_116) rfl ?_
        show Steps p.tables e below (T10.setTop (mkF m 118 #[.val (.long p1), .second, .val (.long p2), .second, .val (.long p3), .second, .val (.int p4), .val (.int p5), .val (.long p6), .second, .val (.int (5 : Int32)), .val (.int md), .val (.long od), .second, .val (.long vv), .second, .val (.ref ob8), .unset, .unset] [(.int (5 : Int32)), (.long p2), (.int p4), (.long p1), (.ref ob10), (.ref ob10)])) t₀
        refine XS.iconst X10.here hx rfl (hb hby at_118) ?_
        show Steps p.tables e below (T10.setTop (mkF m 119 #[.val (.long p1), .second, .val (.long p2), .second, .val (.long p3), .second, .val (.int p4), .val (.int p5), .val (.long p6), .second, .val (.int (5 : Int32)), .val (.int md), .val (.long od), .second, .val (.long vv), .second, .val (.ref ob8), .unset, .unset] [(.int (3 : Int32)), (.int (5 : Int32)), (.long p2), (.int p4), (.long p1), (.ref ob10), (.ref ob10)])) t₀
        refine XS.icmpYes X10.here hx rfl (pc0 := 119) (pc' := 127) rfl (hb hby at_119) rfl (feq (by decide : ¬ ((5 : Int32) = (3 : Int32)))).2 (by decide) (by decide) ?_
        show Steps p.tables e below (T10.setTop (mkF m 127 #[.val (.long p1), .second, .val (.long p2), .second, .val (.long p3), .second, .val (.int p4), .val (.int p5), .val (.long p6), .second, .val (.int (5 : Int32)), .val (.int md), .val (.long od), .second, .val (.long vv), .second, .val (.ref ob8), .unset, .unset] [(.long p2), (.int p4), (.long p1), (.ref ob10), (.ref ob10)])) t₀
        refine XS.lload X10.here hx rfl (hb hby at_127) rfl ?_
        show Steps p.tables e below (T10.setTop (mkF m 129 #[.val (.long p1), .second, .val (.long p2), .second, .val (.long p3), .second, .val (.int p4), .val (.int p5), .val (.long p6), .second, .val (.int (5 : Int32)), .val (.int md), .val (.long od), .second, .val (.long vv), .second, .val (.ref ob8), .unset, .unset] [(.long p3), (.long p2), (.int p4), (.long p1), (.ref ob10), (.ref ob10)])) t₀
        refine XS.iload X10.here hx rfl (hb hby at_129) rfl ?_
        show Steps p.tables e below (T10.setTop (mkF m 131 #[.val (.long p1), .second, .val (.long p2), .second, .val (.long p3), .second, .val (.int p4), .val (.int p5), .val (.long p6), .second, .val (.int (5 : Int32)), .val (.int md), .val (.long od), .second, .val (.long vv), .second, .val (.ref ob8), .unset, .unset] [(.int (5 : Int32)), (.long p3), (.long p2), (.int p4), (.long p1), (.ref ob10), (.ref ob10)])) t₀
        refine XS.iconst X10.here hx rfl (hb hby at_131) ?_
        show Steps p.tables e below (T10.setTop (mkF m 132 #[.val (.long p1), .second, .val (.long p2), .second, .val (.long p3), .second, .val (.int p4), .val (.int p5), .val (.long p6), .second, .val (.int (5 : Int32)), .val (.int md), .val (.long od), .second, .val (.long vv), .second, .val (.ref ob8), .unset, .unset] [(.int (4 : Int32)), (.int (5 : Int32)), (.long p3), (.long p2), (.int p4), (.long p1), (.ref ob10), (.ref ob10)])) t₀
        refine XS.icmpYes X10.here hx rfl (pc0 := 132) (pc' := 140) rfl (hb hby at_132) rfl (feq (by decide : ¬ ((5 : Int32) = (4 : Int32)))).2 (by decide) (by decide) ?_
        show Steps p.tables e below (T10.setTop (mkF m 140 #[.val (.long p1), .second, .val (.long p2), .second, .val (.long p3), .second, .val (.int p4), .val (.int p5), .val (.long p6), .second, .val (.int (5 : Int32)), .val (.int md), .val (.long od), .second, .val (.long vv), .second, .val (.ref ob8), .unset, .unset] [(.long p3), (.long p2), (.int p4), (.long p1), (.ref ob10), (.ref ob10)])) t₀
        refine XS.lloadN X10.here hx rfl (hb hby at_140) rfl ?_
        show Steps p.tables e below (T10.setTop (mkF m 141 #[.val (.long p1), .second, .val (.long p2), .second, .val (.long p3), .second, .val (.int p4), .val (.int p5), .val (.long p6), .second, .val (.int (5 : Int32)), .val (.int md), .val (.long od), .second, .val (.long vv), .second, .val (.ref ob8), .unset, .unset] [(.long p1), (.long p3), (.long p2), (.int p4), (.long p1), (.ref ob10), (.ref ob10)])) t₀
        refine XS.lloadN X10.here hx rfl (hb hby at_141) rfl ?_
        show Steps p.tables e below (T10.setTop (mkF m 142 #[.val (.long p1), .second, .val (.long p2), .second, .val (.long p3), .second, .val (.int p4), .val (.int p5), .val (.long p6), .second, .val (.int (5 : Int32)), .val (.int md), .val (.long od), .second, .val (.long vv), .second, .val (.ref ob8), .unset, .unset] [(.long p2), (.long p1), (.long p3), (.long p2), (.int p4), (.long p1), (.ref ob10), (.ref ob10)])) t₀
        refine XS.lxor X10.here hx rfl (hb hby at_142) rfl ?_
        show Steps p.tables e below (T10.setTop (mkF m 143 #[.val (.long p1), .second, .val (.long p2), .second, .val (.long p3), .second, .val (.int p4), .val (.int p5), .val (.long p6), .second, .val (.int (5 : Int32)), .val (.int md), .val (.long od), .second, .val (.long vv), .second, .val (.ref ob8), .unset, .unset] [(.long (p1 ^^^ p2)), (.long p3), (.long p2), (.int p4), (.long p1), (.ref ob10), (.ref ob10)])) t₀
        refine XS.iload X10.here hx rfl (hb hby at_143) rfl ?_
        show Steps p.tables e below (T10.setTop (mkF m 145 #[.val (.long p1), .second, .val (.long p2), .second, .val (.long p3), .second, .val (.int p4), .val (.int p5), .val (.long p6), .second, .val (.int (5 : Int32)), .val (.int md), .val (.long od), .second, .val (.long vv), .second, .val (.ref ob8), .unset, .unset] [(.int (5 : Int32)), (.long (p1 ^^^ p2)), (.long p3), (.long p2), (.int p4), (.long p1), (.ref ob10), (.ref ob10)])) t₀
        refine XS.iconst X10.here hx rfl (hb hby at_145) ?_
        show Steps p.tables e below (T10.setTop (mkF m 146 #[.val (.long p1), .second, .val (.long p2), .second, .val (.long p3), .second, .val (.int p4), .val (.int p5), .val (.long p6), .second, .val (.int (5 : Int32)), .val (.int md), .val (.long od), .second, .val (.long vv), .second, .val (.ref ob8), .unset, .unset] [(.int (5 : Int32)), (.int (5 : Int32)), (.long (p1 ^^^ p2)), (.long p3), (.long p2), (.int p4), (.long p1), (.ref ob10), (.ref ob10)])) t₀
        refine XS.icmpNo X10.here hx rfl (hb hby at_146) rfl (teq (by decide : ((5 : Int32) = (5 : Int32)))).2 ?_
        show Steps p.tables e below (T10.setTop (mkF m 149 #[.val (.long p1), .second, .val (.long p2), .second, .val (.long p3), .second, .val (.int p4), .val (.int p5), .val (.long p6), .second, .val (.int (5 : Int32)), .val (.int md), .val (.long od), .second, .val (.long vv), .second, .val (.ref ob8), .unset, .unset] [(.long (p1 ^^^ p2)), (.long p3), (.long p2), (.int p4), (.long p1), (.ref ob10), (.ref ob10)])) t₀
        refine XS.lload X10.here hx rfl (hb hby at_149) rfl ?_
        show Steps p.tables e below (T10.setTop (mkF m 151 #[.val (.long p1), .second, .val (.long p2), .second, .val (.long p3), .second, .val (.int p4), .val (.int p5), .val (.long p6), .second, .val (.int (5 : Int32)), .val (.int md), .val (.long od), .second, .val (.long vv), .second, .val (.ref ob8), .unset, .unset] [(.long vv), (.long (p1 ^^^ p2)), (.long p3), (.long p2), (.int p4), (.long p1), (.ref ob10), (.ref ob10)])) t₀
        refine XS.goto X10.here hx rfl (pc0 := 151) (pc' := 158) rfl (hb hby at_151) (by decide) (by decide) ?_
        show Steps p.tables e below (T10.setTop (mkF m 158 #[.val (.long p1), .second, .val (.long p2), .second, .val (.long p3), .second, .val (.int p4), .val (.int p5), .val (.long p6), .second, .val (.int (5 : Int32)), .val (.int md), .val (.long od), .second, .val (.long vv), .second, .val (.ref ob8), .unset, .unset] [(.long vv), (.long (p1 ^^^ p2)), (.long p3), (.long p2), (.int p4), (.long p1), (.ref ob10), (.ref ob10)])) t₀
        refine XS.iload X10.here hx rfl (hb hby at_158) rfl ?_
        show Steps p.tables e below (T10.setTop (mkF m 160 #[.val (.long p1), .second, .val (.long p2), .second, .val (.long p3), .second, .val (.int p4), .val (.int p5), .val (.long p6), .second, .val (.int (5 : Int32)), .val (.int md), .val (.long od), .second, .val (.long vv), .second, .val (.ref ob8), .unset, .unset] [(.int (5 : Int32)), (.long vv), (.long (p1 ^^^ p2)), (.long p3), (.long p2), (.int p4), (.long p1), (.ref ob10), (.ref ob10)])) t₀
        refine XS.bipush X10.here hx rfl (hb hby at_160) ?_
        show Steps p.tables e below (T10.setTop (mkF m 162 #[.val (.long p1), .second, .val (.long p2), .second, .val (.long p3), .second, .val (.int p4), .val (.int p5), .val (.long p6), .second, .val (.int (5 : Int32)), .val (.int md), .val (.long od), .second, .val (.long vv), .second, .val (.ref ob8), .unset, .unset] [(.int (6 : Int32)), (.int (5 : Int32)), (.long vv), (.long (p1 ^^^ p2)), (.long p3), (.long p2), (.int p4), (.long p1), (.ref ob10), (.ref ob10)])) t₀
        refine XS.icmpYes X10.here hx rfl (pc0 := 162) (pc' := 170) rfl (hb hby at_162) rfl (feq (by decide : ¬ ((5 : Int32) = (6 : Int32)))).2 (by decide) (by decide) ?_
        show Steps p.tables e below (T10.setTop (mkF m 170 #[.val (.long p1), .second, .val (.long p2), .second, .val (.long p3), .second, .val (.int p4), .val (.int p5), .val (.long p6), .second, .val (.int (5 : Int32)), .val (.int md), .val (.long od), .second, .val (.long vv), .second, .val (.ref ob8), .unset, .unset] [(.long vv), (.long (p1 ^^^ p2)), (.long p3), (.long p2), (.int p4), (.long p1), (.ref ob10), (.ref ob10)])) t₀
        refine XS.lloadN X10.here hx rfl (hb hby at_170) rfl ?_
        show Steps p.tables e below (T10.setTop (mkF m 171 #[.val (.long p1), .second, .val (.long p2), .second, .val (.long p3), .second, .val (.int p4), .val (.int p5), .val (.long p6), .second, .val (.int (5 : Int32)), .val (.int md), .val (.long od), .second, .val (.long vv), .second, .val (.ref ob8), .unset, .unset] [(.long p1), (.long vv), (.long (p1 ^^^ p2)), (.long p3), (.long p2), (.int p4), (.long p1), (.ref ob10), (.ref ob10)])) t₀
        refine XS.lload X10.here hx rfl (hb hby at_171) rfl ?_
        show Steps p.tables e below (T10.setTop (mkF m 173 #[.val (.long p1), .second, .val (.long p2), .second, .val (.long p3), .second, .val (.int p4), .val (.int p5), .val (.long p6), .second, .val (.int (5 : Int32)), .val (.int md), .val (.long od), .second, .val (.long vv), .second, .val (.ref ob8), .unset, .unset] [(.long p3), (.long p1), (.long vv), (.long (p1 ^^^ p2)), (.long p3), (.long p2), (.int p4), (.long p1), (.ref ob10), (.ref ob10)])) t₀
        refine XS.ladd X10.here hx rfl (hb hby at_173) rfl ?_
        show Steps p.tables e below (T10.setTop (mkF m 174 #[.val (.long p1), .second, .val (.long p2), .second, .val (.long p3), .second, .val (.int p4), .val (.int p5), .val (.long p6), .second, .val (.int (5 : Int32)), .val (.int md), .val (.long od), .second, .val (.long vv), .second, .val (.ref ob8), .unset, .unset] [(.long (p1 + p3)), (.long vv), (.long (p1 ^^^ p2)), (.long p3), (.long p2), (.int p4), (.long p1), (.ref ob10), (.ref ob10)])) t₀
        refine XS.iload X10.here hx rfl (hb hby at_174) rfl ?_
        show Steps p.tables e below (T10.setTop (mkF m 176 #[.val (.long p1), .second, .val (.long p2), .second, .val (.long p3), .second, .val (.int p4), .val (.int p5), .val (.long p6), .second, .val (.int (5 : Int32)), .val (.int md), .val (.long od), .second, .val (.long vv), .second, .val (.ref ob8), .unset, .unset] [(.int (5 : Int32)), (.long (p1 + p3)), (.long vv), (.long (p1 ^^^ p2)), (.long p3), (.long p2), (.int p4), (.long p1), (.ref ob10), (.ref ob10)])) t₀
        refine XS.bipush X10.here hx rfl (hb hby at_176) ?_
        show Steps p.tables e below (T10.setTop (mkF m 178 #[.val (.long p1), .second, .val (.long p2), .second, .val (.long p3), .second, .val (.int p4), .val (.int p5), .val (.long p6), .second, .val (.int (5 : Int32)), .val (.int md), .val (.long od), .second, .val (.long vv), .second, .val (.ref ob8), .unset, .unset] [(.int (7 : Int32)), (.int (5 : Int32)), (.long (p1 + p3)), (.long vv), (.long (p1 ^^^ p2)), (.long p3), (.long p2), (.int p4), (.long p1), (.ref ob10), (.ref ob10)])) t₀
        refine XS.icmpYes X10.here hx rfl (pc0 := 178) (pc' := 186) rfl (hb hby at_178) rfl (feq (by decide : ¬ ((5 : Int32) = (7 : Int32)))).2 (by decide) (by decide) ?_
        show Steps p.tables e below (T10.setTop (mkF m 186 #[.val (.long p1), .second, .val (.long p2), .second, .val (.long p3), .second, .val (.int p4), .val (.int p5), .val (.long p6), .second, .val (.int (5 : Int32)), .val (.int md), .val (.long od), .second, .val (.long vv), .second, .val (.ref ob8), .unset, .unset] [(.long (p1 + p3)), (.long vv), (.long (p1 ^^^ p2)), (.long p3), (.long p2), (.int p4), (.long p1), (.ref ob10), (.ref ob10)])) t₀
        refine XS.lloadN X10.here hx rfl (hb hby at_186) rfl ?_
        show Steps p.tables e below (T10.setTop (mkF m 187 #[.val (.long p1), .second, .val (.long p2), .second, .val (.long p3), .second, .val (.int p4), .val (.int p5), .val (.long p6), .second, .val (.int (5 : Int32)), .val (.int md), .val (.long od), .second, .val (.long vv), .second, .val (.ref ob8), .unset, .unset] [(.long p2), (.long (p1 + p3)), (.long vv), (.long (p1 ^^^ p2)), (.long p3), (.long p2), (.int p4), (.long p1), (.ref ob10), (.ref ob10)])) t₀
        refine XS.lload X10.here hx rfl (hb hby at_187) rfl ?_
        show Steps p.tables e below (T10.setTop (mkF m 189 #[.val (.long p1), .second, .val (.long p2), .second, .val (.long p3), .second, .val (.int p4), .val (.int p5), .val (.long p6), .second, .val (.int (5 : Int32)), .val (.int md), .val (.long od), .second, .val (.long vv), .second, .val (.ref ob8), .unset, .unset] [(.long p3), (.long p2), (.long (p1 + p3)), (.long vv), (.long (p1 ^^^ p2)), (.long p3), (.long p2), (.int p4), (.long p1), (.ref ob10), (.ref ob10)])) t₀
        refine XS.lsub X10.here hx rfl (hb hby at_189) rfl ?_
        exact k₀
      obtain ⟨_, _, ⟨T16, L16, k16, n16⟩, -, X16, ⟨Lc16, hQ16, l16, y16, z16⟩, st16⟩ := X10.specialBack hx (y := (⟨"com/example/opledger/opledger/Checkpoint", "<init>", "(JIJJJJJJ)V"⟩ : MethodName)) rfl hown (mvT hZ (hw _ (List.mem_of_getElem? (i := 7) rfl))) (mvT hZ (hw _ (List.mem_of_getElem? (i := 8) rfl))) (mvT hZ (hw _ (List.mem_of_getElem? (i := 9) rfl))) (by decide) (backOf (W := 1) (rmC l Z a0 hw [] ob10 p1 p4 p2 p3 (p1 ^^^ p2) vv (p1 + p3) (p2 - p3) h10 n0 z_10 A10 g_ob10 F_offset_ob10 F_numOps_ob10 F_generation_ob10 F_minSeqNo_ob10 F_maxSeqNo_ob10 F_globalCheckpoint_ob10 F_minGeneration_ob10 F_trimmedAboveSeqNo_ob10) hZ (hw _ (List.mem_of_getElem? (i := 9) rfl)) (hw _ (List.mem_of_getElem? (i := 6) rfl)) (by decide) (by decide)) (g := (mkF m 190 #[.val (.long p1), .second, .val (.long p2), .second, .val (.long p3), .second, .val (.int p4), .val (.int p5), .val (.long p6), .second, .val (.int (5 : Int32)), .val (.int md), .val (.long od), .second, .val (.long vv), .second, .val (.ref ob8), .unset, .unset] [(.long (p2 - p3)), (.long (p1 + p3)), (.long vv), (.long (p1 ^^^ p2)), (.long p3), (.long p2), (.int p4), (.long p1), (.ref ob10), (.ref ob10)])) rfl (by rw [hml]; rfl) (Steps.refl _) (a := ob10) (argsL := [(.long p1), (.int p4), (.long p2), (.long p3), (.long (p1 ^^^ p2)), (.long vv), (.long (p1 + p3)), (.long (p2 - p3))]) (rest := [(.ref ob10)]) (lenOf pd_1 rfl) rfl (by show 2 * 0 + _ ≤ _; exact Nat.le_of_eq rfl) (hb hby at_190) (fun _ _ => ⟨rfl, e10, (by decide : 2 + 0 ≤ _), (by decide : 16 + 0 ≤ _)⟩)
      dsimp only [Pt.U, Pt.locs, Pt.cells, Pt.slots] at X16 l16 y16 z16 st16 hQ16
      subst l16 y16 z16
      obtain ⟨rfl, N16q, K16, Q16_0, Q16_1, Q16_2, Q16_3, Q16_4, Q16_5, Q16_6, Q16_7⟩ := hQ16
      have N16 := Fr.app N9 N16q
      refine hG _ _ (fun t₀ k₀ => st16.trans k₀) ?_
      have z_x16 := Nat.le_trans z_10 K16.1
      have o_x16 := o_x10.keep K16 (allS g_ob10 all0)
      have eob8_x16 := eob8_x10.keep K16
      have fob8_offset_x16 := fob8_offset_x10.keep K16 (ninS ne_ob8_ob10 nin0)
      have fob8_numOps_x16 := fob8_numOps_x10.keep K16 (ninS ne_ob8_ob10 nin0)
      have fob8_generation_x16 := fob8_generation_x10.keep K16 (ninS ne_ob8_ob10 nin0)
      have fob8_minSeqNo_x16 := fob8_minSeqNo_x10.keep K16 (ninS ne_ob8_ob10 nin0)
      have fob8_maxSeqNo_x16 := fob8_maxSeqNo_x10.keep K16 (ninS ne_ob8_ob10 nin0)
      have fob8_globalCheckpoint_x16 := fob8_globalCheckpoint_x10.keep K16 (ninS ne_ob8_ob10 nin0)
      have fob8_minGeneration_x16 := fob8_minGeneration_x10.keep K16 (ninS ne_ob8_ob10 nin0)
      have fob8_trimmedAboveSeqNo_x16 := fob8_trimmedAboveSeqNo_x10.keep K16 (ninS ne_ob8_ob10 nin0)
      have eob10_x16 := A10.keep K16
      show G (T16.setTop (mkF m 193 #[.val (.long p1), .second, .val (.long p2), .second, .val (.long p3), .second, .val (.int p4), .val (.int p5), .val (.long p6), .second, .val (.int (5 : Int32)), .val (.int md), .val (.long od), .second, .val (.long vv), .second, .val (.ref ob8), .unset, .unset] [(.ref ob10)]))
      refine hG _ (T16.setTop (mkF m 222 #[.val (.long p1), .second, .val (.long p2), .second, .val (.long p3), .second, .val (.int p4), .val (.int p5), .val (.long p6), .second, .val (.int (5 : Int32)), .val (.int md), .val (.long od), .second, .val (.long vv), .second, .val (.ref ob8), .val (.ref ob10), .unset] [(.int (lcmpW vv od))])) (fun t₀ k₀ => ?_) ?_
      · show Steps p.tables e below (T16.setTop (mkF m 193 #[.val (.long p1), .second, .val (.long p2), .second, .val (.long p3), .second, .val (.int p4), .val (.int p5), .val (.long p6), .second, .val (.int (5 : Int32)), .val (.int md), .val (.long od), .second, .val (.long vv), .second, .val (.ref ob8), .unset, .unset] [(.ref ob10)])) t₀
        refine XS.astore X16.here hx rfl (hb hby at_193) rfl rfl (l' := #[.val (.long p1), .second, .val (.long p2), .second, .val (.long p3), .second, .val (.int p4), .val (.int p5), .val (.long p6), .second, .val (.int (5 : Int32)), .val (.int md), .val (.long od), .second, .val (.long vv), .second, .val (.ref ob8), .val (.ref ob10), .unset]) rfl ?_
        show Steps p.tables e below (T16.setTop (mkF m 195 #[.val (.long p1), .second, .val (.long p2), .second, .val (.long p3), .second, .val (.int p4), .val (.int p5), .val (.long p6), .second, .val (.int (5 : Int32)), .val (.int md), .val (.long od), .second, .val (.long vv), .second, .val (.ref ob8), .val (.ref ob10), .unset] [])) t₀
        refine XS.iload X16.here hx rfl (hb hby at_195) rfl ?_
        show Steps p.tables e below (T16.setTop (mkF m 197 #[.val (.long p1), .second, .val (.long p2), .second, .val (.long p3), .second, .val (.int p4), .val (.int p5), .val (.long p6), .second, .val (.int (5 : Int32)), .val (.int md), .val (.long od), .second, .val (.long vv), .second, .val (.ref ob8), .val (.ref ob10), .unset] [(.int (5 : Int32))])) t₀
        refine XS.iconst X16.here hx rfl (hb hby at_197) ?_
        show Steps p.tables e below (T16.setTop (mkF m 198 #[.val (.long p1), .second, .val (.long p2), .second, .val (.long p3), .second, .val (.int p4), .val (.int p5), .val (.long p6), .second, .val (.int (5 : Int32)), .val (.int md), .val (.long od), .second, .val (.long vv), .second, .val (.ref ob8), .val (.ref ob10), .unset] [(.int (1 : Int32)), (.int (5 : Int32))])) t₀
        refine XS.icmpYes X16.here hx rfl (pc0 := 198) (pc' := 217) rfl (hb hby at_198) rfl (feq (by decide : ¬ ((5 : Int32) = (1 : Int32)))).2 (by decide) (by decide) ?_
        show Steps p.tables e below (T16.setTop (mkF m 217 #[.val (.long p1), .second, .val (.long p2), .second, .val (.long p3), .second, .val (.int p4), .val (.int p5), .val (.long p6), .second, .val (.int (5 : Int32)), .val (.int md), .val (.long od), .second, .val (.long vv), .second, .val (.ref ob8), .val (.ref ob10), .unset] [])) t₀
        refine XS.lload X16.here hx rfl (hb hby at_217) rfl ?_
        show Steps p.tables e below (T16.setTop (mkF m 219 #[.val (.long p1), .second, .val (.long p2), .second, .val (.long p3), .second, .val (.int p4), .val (.int p5), .val (.long p6), .second, .val (.int (5 : Int32)), .val (.int md), .val (.long od), .second, .val (.long vv), .second, .val (.ref ob8), .val (.ref ob10), .unset] [(.long vv)])) t₀
        refine XS.lload X16.here hx rfl (hb hby at_219) rfl ?_
        show Steps p.tables e below (T16.setTop (mkF m 221 #[.val (.long p1), .second, .val (.long p2), .second, .val (.long p3), .second, .val (.int p4), .val (.int p5), .val (.long p6), .second, .val (.int (5 : Int32)), .val (.int md), .val (.long od), .second, .val (.long vv), .second, .val (.ref ob8), .val (.ref ob10), .unset] [(.long od), (.long vv)])) t₀
        refine XS.lcmp X16.here hx rfl (hb hby at_221) rfl ?_
        exact k₀
      by_cases hx222 : vv = od
      ·
        refine hG _ (T16.setTop (mkF m 232 #[.val (.long p1), .second, .val (.long p2), .second, .val (.long p3), .second, .val (.int p4), .val (.int p5), .val (.long p6), .second, .val (.int (5 : Int32)), .val (.int md), .val (.long od), .second, .val (.long vv), .second, .val (.ref ob8), .val (.ref ob10), .val (.int (1 : Int32))] [])) (fun t₀ k₀ => ?_) ?_
        · show Steps p.tables e below (T16.setTop (mkF m 222 #[.val (.long p1), .second, .val (.long p2), .second, .val (.long p3), .second, .val (.int p4), .val (.int p5), .val (.long p6), .second, .val (.int (5 : Int32)), .val (.int md), .val (.long od), .second, .val (.long vv), .second, .val (.ref ob8), .val (.ref ob10), .unset] [(.int (lcmpW vv od))])) t₀
          refine XS.ifNo X16.here hx rfl (hb hby at_222) rfl ((if0 _ _).trans (teq ((lw_eq vv od).mpr hx222)).2) ?_
          show Steps p.tables e below (T16.setTop (mkF m 225 #[.val (.long p1), .second, .val (.long p2), .second, .val (.long p3), .second, .val (.int p4), .val (.int p5), .val (.long p6), .second, .val (.int (5 : Int32)), .val (.int md), .val (.long od), .second, .val (.long vv), .second, .val (.ref ob8), .val (.ref ob10), .unset] [])) t₀
          refine XS.iconst X16.here hx rfl (hb hby at_225) ?_
          show Steps p.tables e below (T16.setTop (mkF m 226 #[.val (.long p1), .second, .val (.long p2), .second, .val (.long p3), .second, .val (.int p4), .val (.int p5), .val (.long p6), .second, .val (.int (5 : Int32)), .val (.int md), .val (.long od), .second, .val (.long vv), .second, .val (.ref ob8), .val (.ref ob10), .unset] [(.int (1 : Int32))])) t₀
          refine XS.goto X16.here hx rfl (pc0 := 226) (pc' := 230) rfl (hb hby at_226) (by decide) (by decide) ?_
          show Steps p.tables e below (T16.setTop (mkF m 230 #[.val (.long p1), .second, .val (.long p2), .second, .val (.long p3), .second, .val (.int p4), .val (.int p5), .val (.long p6), .second, .val (.int (5 : Int32)), .val (.int md), .val (.long od), .second, .val (.long vv), .second, .val (.ref ob8), .val (.ref ob10), .unset] [(.int (1 : Int32))])) t₀
          refine XS.istore X16.here hx rfl (hb hby at_230) rfl (l' := #[.val (.long p1), .second, .val (.long p2), .second, .val (.long p3), .second, .val (.int p4), .val (.int p5), .val (.long p6), .second, .val (.int (5 : Int32)), .val (.int md), .val (.long od), .second, .val (.long vv), .second, .val (.ref ob8), .val (.ref ob10), .val (.int (1 : Int32))]) rfl ?_
          exact k₀
        have h' : (p2 ^^^ p3) = vv := (hx222.trans hodi).symm
        exact tlE T16 T16.heap _ X16 rfl N16 z_x16 o_x16 ob8 ob10 eob8_x16 eob10_x16 fob8_offset_x16 fob8_numOps_x16 fob8_generation_x16 fob8_minSeqNo_x16 fob8_maxSeqNo_x16 fob8_globalCheckpoint_x16 fob8_minGeneration_x16 fob8_trimmedAboveSeqNo_x16 p1 p4 p2 p3 (p1 ^^^ p2) vv (p1 + p3) (p2 - p3) Q16_0 Q16_1 Q16_2 Q16_3 Q16_4 Q16_5 Q16_6 Q16_7 _ _ (1 : Int32) _ _ (by simp [own_ceq, h'])
      ·
        refine hG _ (T16.setTop (mkF m 232 #[.val (.long p1), .second, .val (.long p2), .second, .val (.long p3), .second, .val (.int p4), .val (.int p5), .val (.long p6), .second, .val (.int (5 : Int32)), .val (.int md), .val (.long od), .second, .val (.long vv), .second, .val (.ref ob8), .val (.ref ob10), .val (.int (0 : Int32))] [])) (fun t₀ k₀ => ?_) ?_
        · show Steps p.tables e below (T16.setTop (mkF m 222 #[.val (.long p1), .second, .val (.long p2), .second, .val (.long p3), .second, .val (.int p4), .val (.int p5), .val (.long p6), .second, .val (.int (5 : Int32)), .val (.int md), .val (.long od), .second, .val (.long vv), .second, .val (.ref ob8), .val (.ref ob10), .unset] [(.int (lcmpW vv od))])) t₀
          refine XS.ifYes X16.here hx rfl (pc0 := 222) (pc' := 229) rfl (hb hby at_222) rfl ((if0 _ _).trans (feq (fun z => hx222 ((lw_eq vv od).mp z))).2) (by decide) (by decide) ?_
          show Steps p.tables e below (T16.setTop (mkF m 229 #[.val (.long p1), .second, .val (.long p2), .second, .val (.long p3), .second, .val (.int p4), .val (.int p5), .val (.long p6), .second, .val (.int (5 : Int32)), .val (.int md), .val (.long od), .second, .val (.long vv), .second, .val (.ref ob8), .val (.ref ob10), .unset] [])) t₀
          refine XS.iconst X16.here hx rfl (hb hby at_229) ?_
          show Steps p.tables e below (T16.setTop (mkF m 230 #[.val (.long p1), .second, .val (.long p2), .second, .val (.long p3), .second, .val (.int p4), .val (.int p5), .val (.long p6), .second, .val (.int (5 : Int32)), .val (.int md), .val (.long od), .second, .val (.long vv), .second, .val (.ref ob8), .val (.ref ob10), .unset] [(.int (0 : Int32))])) t₀
          refine XS.istore X16.here hx rfl (hb hby at_230) rfl (l' := #[.val (.long p1), .second, .val (.long p2), .second, .val (.long p3), .second, .val (.int p4), .val (.int p5), .val (.long p6), .second, .val (.int (5 : Int32)), .val (.int md), .val (.long od), .second, .val (.long vv), .second, .val (.ref ob8), .val (.ref ob10), .val (.int (0 : Int32))]) rfl ?_
          exact k₀
        have h' : ¬ ((p2 ^^^ p3) = vv) := fun q => hx222 (q.symm.trans hodi.symm)
        exact tlE T16 T16.heap _ X16 rfl N16 z_x16 o_x16 ob8 ob10 eob8_x16 eob10_x16 fob8_offset_x16 fob8_numOps_x16 fob8_generation_x16 fob8_minSeqNo_x16 fob8_maxSeqNo_x16 fob8_globalCheckpoint_x16 fob8_minGeneration_x16 fob8_trimmedAboveSeqNo_x16 p1 p4 p2 p3 (p1 ^^^ p2) vv (p1 + p3) (p2 - p3) Q16_0 Q16_1 Q16_2 Q16_3 Q16_4 Q16_5 Q16_6 Q16_7 _ _ (0 : Int32) _ _ (by simp [own_ceq, h'])
    ·
      subst h8
      show G (T10.setTop (mkF m 79 #[.val (.long p1), .second, .val (.long p2), .second, .val (.long p3), .second, .val (.int p4), .val (.int p5), .val (.long p6), .second, .val (.int (6 : Int32)), .val (.int md), .val (.long od), .second, .val (.long vv), .second, .val (.ref ob8), .unset, .unset] [(.ref ob10), (.ref ob10)]))
      have hodi : od = (p1 + p3) := hod.trans (by simp [own_old])
      refine hG _ (T10.setTop (mkF m 190 #[.val (.long p1), .second, .val (.long p2), .second, .val (.long p3), .second, .val (.int p4), .val (.int p5), .val (.long p6), .second, .val (.int (6 : Int32)), .val (.int md), .val (.long od), .second, .val (.long vv), .second, .val (.ref ob8), .unset, .unset] [(.long (p2 - p3)), (.long vv), (.long (p2 ^^^ p3)), (.long (p1 ^^^ p2)), (.long p3), (.long p2), (.int p4), (.long p1), (.ref ob10), (.ref ob10)])) (fun t₀ k₀ => ?_) ?_
      · show Steps p.tables e below (T10.setTop (mkF m 79 #[.val (.long p1), .second, .val (.long p2), .second, .val (.long p3), .second, .val (.int p4), .val (.int p5), .val (.long p6), .second, .val (.int (6 : Int32)), .val (.int md), .val (.long od), .second, .val (.long vv), .second, .val (.ref ob8), .unset, .unset] [(.ref ob10), (.ref ob10)])) t₀
        refine XS.iload X10.here hx rfl (hb hby at_79) rfl ?_
        show Steps p.tables e below (T10.setTop (mkF m 81 #[.val (.long p1), .second, .val (.long p2), .second, .val (.long p3), .second, .val (.int p4), .val (.int p5), .val (.long p6), .second, .val (.int (6 : Int32)), .val (.int md), .val (.long od), .second, .val (.long vv), .second, .val (.ref ob8), .unset, .unset] [(.int (6 : Int32)), (.ref ob10), (.ref ob10)])) t₀
        refine XS.ifYes X10.here hx rfl (pc0 := 81) (pc' := 89) rfl (hb hby at_81) rfl ((if0 _ _).trans (feq (by decide : ¬ ((6 : Int32) = (0 : Int32)))).2) (by decide) (by decide) ?_
        show Steps p.tables e below (T10.setTop (mkF m 89 #[.val (.long p1), .second, .val (.long p2), .second, .val (.long p3), .second, .val (.int p4), .val (.int p5), .val (.long p6), .second, .val (.int (6 : Int32)), .val (.int md), .val (.long od), .second, .val (.long vv), .second, .val (.ref ob8), .unset, .unset] [(.ref ob10), (.ref ob10)])) t₀
        refine XS.lloadN X10.here hx rfl (hb hby at_89) rfl ?_
        show Steps p.tables e below (T10.setTop (mkF m 90 #[.val (.long p1), .second, .val (.long p2), .second, .val (.long p3), .second, .val (.int p4), .val (.int p5), .val (.long p6), .second, .val (.int (6 : Int32)), .val (.int md), .val (.long od), .second, .val (.long vv), .second, .val (.ref ob8), .unset, .unset] [(.long p1), (.ref ob10), (.ref ob10)])) t₀
        refine XS.iload X10.here hx rfl (hb hby at_90) rfl ?_
        show Steps p.tables e below (T10.setTop (mkF m 92 #[.val (.long p1), .second, .val (.long p2), .second, .val (.long p3), .second, .val (.int p4), .val (.int p5), .val (.long p6), .second, .val (.int (6 : Int32)), .val (.int md), .val (.long od), .second, .val (.long vv), .second, .val (.ref ob8), .unset, .unset] [(.int (6 : Int32)), (.long p1), (.ref ob10), (.ref ob10)])) t₀
        refine XS.iconst X10.here hx rfl (hb hby at_92) ?_
        show Steps p.tables e below (T10.setTop (mkF m 93 #[.val (.long p1), .second, .val (.long p2), .second, .val (.long p3), .second, .val (.int p4), .val (.int p5), .val (.long p6), .second, .val (.int (6 : Int32)), .val (.int md), .val (.long od), .second, .val (.long vv), .second, .val (.ref ob8), .unset, .unset] [(.int (1 : Int32)), (.int (6 : Int32)), (.long p1), (.ref ob10), (.ref ob10)])) t₀
        refine XS.icmpYes X10.here hx rfl (pc0 := 93) (pc' := 102) rfl (hb hby at_93) rfl (feq (by decide : ¬ ((6 : Int32) = (1 : Int32)))).2 (by decide) (by decide) ?_
        show Steps p.tables e below (T10.setTop (mkF m 102 #[.val (.long p1), .second, .val (.long p2), .second, .val (.long p3), .second, .val (.int p4), .val (.int p5), .val (.long p6), .second, .val (.int (6 : Int32)), .val (.int md), .val (.long od), .second, .val (.long vv), .second, .val (.ref ob8), .unset, .unset] [(.long p1), (.ref ob10), (.ref ob10)])) t₀
        refine XS.iload X10.here hx rfl (hb hby at_102) rfl ?_
        show Steps p.tables e below (T10.setTop (mkF m 104 #[.val (.long p1), .second, .val (.long p2), .second, .val (.long p3), .second, .val (.int p4), .val (.int p5), .val (.long p6), .second, .val (.int (6 : Int32)), .val (.int md), .val (.long od), .second, .val (.long vv), .second, .val (.ref ob8), .unset, .unset] [(.int p4), (.long p1), (.ref ob10), (.ref ob10)])) t₀
        refine XS.iload X10.here hx rfl (hb hby at_104) rfl ?_
        show Steps p.tables e below (T10.setTop (mkF m 106 #[.val (.long p1), .second, .val (.long p2), .second, .val (.long p3), .second, .val (.int p4), .val (.int p5), .val (.long p6), .second, .val (.int (6 : Int32)), .val (.int md), .val (.long od), .second, .val (.long vv), .second, .val (.ref ob8), .unset, .unset] [(.int (6 : Int32)), (.int p4), (.long p1), (.ref ob10), (.ref ob10)])) t₀
        refine XS.iconst X10.here hx rfl (hb hby at_106) ?_
        show Steps p.tables e below (T10.setTop (mkF m 107 #[.val (.long p1), .second, .val (.long p2), .second, .val (.long p3), .second, .val (.int p4), .val (.int p5), .val (.long p6), .second, .val (.int (6 : Int32)), .val (.int md), .val (.long od), .second, .val (.long vv), .second, .val (.ref ob8), .unset, .unset] [(.int (2 : Int32)), (.int (6 : Int32)), (.int p4), (.long p1), (.ref ob10), (.ref ob10)])) t₀
        refine XS.icmpYes X10.here hx rfl (pc0 := 107) (pc' := 115) rfl (hb hby at_107) rfl (feq (by decide : ¬ ((6 : Int32) = (2 : Int32)))).2 (by decide) (by decide) ?_
        show Steps p.tables e below (T10.setTop (mkF m 115 #[.val (.long p1), .second, .val (.long p2), .second, .val (.long p3), .second, .val (.int p4), .val (.int p5), .val (.long p6), .second, .val (.int (6 : Int32)), .val (.int md), .val (.long od), .second, .val (.long vv), .second, .val (.ref ob8), .unset, .unset] [(.int p4), (.long p1), (.ref ob10), (.ref ob10)])) t₀
        refine XS.lloadN X10.here hx rfl (hb hby at_115) rfl ?_
        show Steps p.tables e below (T10.setTop (mkF m 116 #[.val (.long p1), .second, .val (.long p2), .second, .val (.long p3), .second, .val (.int p4), .val (.int p5), .val (.long p6), .second, .val (.int (6 : Int32)), .val (.int md), .val (.long od), .second, .val (.long vv), .second, .val (.ref ob8), .unset, .unset] [(.long p2), (.int p4), (.long p1), (.ref ob10), (.ref ob10)])) t₀
        refine XS.iload X10.here hx rfl (hb hby at_116) rfl ?_
        show Steps p.tables e below (T10.setTop (mkF m 118 #[.val (.long p1), .second, .val (.long p2), .second, .val (.long p3), .second, .val (.int p4), .val (.int p5), .val (.long p6), .second, .val (.int (6 : Int32)), .val (.int md), .val (.long od), .second, .val (.long vv), .second, .val (.ref ob8), .unset, .unset] [(.int (6 : Int32)), (.long p2), (.int p4), (.long p1), (.ref ob10), (.ref ob10)])) t₀
        refine XS.iconst X10.here hx rfl (hb hby at_118) ?_
        show Steps p.tables e below (T10.setTop (mkF m 119 #[.val (.long p1), .second, .val (.long p2), .second, .val (.long p3), .second, .val (.int p4), .val (.int p5), .val (.long p6), .second, .val (.int (6 : Int32)), .val (.int md), .val (.long od), .second, .val (.long vv), .second, .val (.ref ob8), .unset, .unset] [(.int (3 : Int32)), (.int (6 : Int32)), (.long p2), (.int p4), (.long p1), (.ref ob10), (.ref ob10)])) t₀
        refine XS.icmpYes X10.here hx rfl (pc0 := 119) (pc' := 127) rfl (hb hby at_119) rfl (feq (by decide : ¬ ((6 : Int32) = (3 : Int32)))).2 (by decide) (by decide) ?_
        show Steps p.tables e below (T10.setTop (mkF m 127 #[.val (.long p1), .second, .val (.long p2), .second, .val (.long p3), .second, .val (.int p4), .val (.int p5), .val (.long p6), .second, .val (.int (6 : Int32)), .val (.int md), .val (.long od), .second, .val (.long vv), .second, .val (.ref ob8), .unset, .unset] [(.long p2), (.int p4), (.long p1), (.ref ob10), (.ref ob10)])) t₀
        refine XS.lload X10.here hx rfl (hb hby at_127) rfl ?_
        show Steps p.tables e below (T10.setTop (mkF m 129 #[.val (.long p1), .second, .val (.long p2), .second, .val (.long p3), .second, .val (.int p4), .val (.int p5), .val (.long p6), .second, .val (.int (6 : Int32)), .val (.int md), .val (.long od), .second, .val (.long vv), .second, .val (.ref ob8), .unset, .unset] [(.long p3), (.long p2), (.int p4), (.long p1), (.ref ob10), (.ref ob10)])) t₀
        refine XS.iload X10.here hx rfl (hb hby at_129) rfl ?_
        show Steps p.tables e below (T10.setTop (mkF m 131 #[.val (.long p1), .second, .val (.long p2), .second, .val (.long p3), .second, .val (.int p4), .val (.int p5), .val (.long p6), .second, .val (.int (6 : Int32)), .val (.int md), .val (.long od), .second, .val (.long vv), .second, .val (.ref ob8), .unset, .unset] [(.int (6 : Int32)), (.long p3), (.long p2), (.int p4), (.long p1), (.ref ob10), (.ref ob10)])) t₀
        refine XS.iconst X10.here hx rfl (hb hby at_131) ?_
        show Steps p.tables e below (T10.setTop (mkF m 132 #[.val (.long p1), .second, .val (.long p2), .second, .val (.long p3), .second, .val (.int p4), .val (.int p5), .val (.long p6), .second, .val (.int (6 : Int32)), .val (.int md), .val (.long od), .second, .val (.long vv), .second, .val (.ref ob8), .unset, .unset] [(.int (4 : Int32)), (.int (6 : Int32)), (.long p3), (.long p2), (.int p4), (.long p1), (.ref ob10), (.ref ob10)])) t₀
        refine XS.icmpYes X10.here hx rfl (pc0 := 132) (pc' := 140) rfl (hb hby at_132) rfl (feq (by decide : ¬ ((6 : Int32) = (4 : Int32)))).2 (by decide) (by decide) ?_
        show Steps p.tables e below (T10.setTop (mkF m 140 #[.val (.long p1), .second, .val (.long p2), .second, .val (.long p3), .second, .val (.int p4), .val (.int p5), .val (.long p6), .second, .val (.int (6 : Int32)), .val (.int md), .val (.long od), .second, .val (.long vv), .second, .val (.ref ob8), .unset, .unset] [(.long p3), (.long p2), (.int p4), (.long p1), (.ref ob10), (.ref ob10)])) t₀
        refine XS.lloadN X10.here hx rfl (hb hby at_140) rfl ?_
        show Steps p.tables e below (T10.setTop (mkF m 141 #[.val (.long p1), .second, .val (.long p2), .second, .val (.long p3), .second, .val (.int p4), .val (.int p5), .val (.long p6), .second, .val (.int (6 : Int32)), .val (.int md), .val (.long od), .second, .val (.long vv), .second, .val (.ref ob8), .unset, .unset] [(.long p1), (.long p3), (.long p2), (.int p4), (.long p1), (.ref ob10), (.ref ob10)])) t₀
        refine XS.lloadN X10.here hx rfl (hb hby at_141) rfl ?_
        show Steps p.tables e below (T10.setTop (mkF m 142 #[.val (.long p1), .second, .val (.long p2), .second, .val (.long p3), .second, .val (.int p4), .val (.int p5), .val (.long p6), .second, .val (.int (6 : Int32)), .val (.int md), .val (.long od), .second, .val (.long vv), .second, .val (.ref ob8), .unset, .unset] [(.long p2), (.long p1), (.long p3), (.long p2), (.int p4), (.long p1), (.ref ob10), (.ref ob10)])) t₀
        refine XS.lxor X10.here hx rfl (hb hby at_142) rfl ?_
        show Steps p.tables e below (T10.setTop (mkF m 143 #[.val (.long p1), .second, .val (.long p2), .second, .val (.long p3), .second, .val (.int p4), .val (.int p5), .val (.long p6), .second, .val (.int (6 : Int32)), .val (.int md), .val (.long od), .second, .val (.long vv), .second, .val (.ref ob8), .unset, .unset] [(.long (p1 ^^^ p2)), (.long p3), (.long p2), (.int p4), (.long p1), (.ref ob10), (.ref ob10)])) t₀
        refine XS.iload X10.here hx rfl (hb hby at_143) rfl ?_
        show Steps p.tables e below (T10.setTop (mkF m 145 #[.val (.long p1), .second, .val (.long p2), .second, .val (.long p3), .second, .val (.int p4), .val (.int p5), .val (.long p6), .second, .val (.int (6 : Int32)), .val (.int md), .val (.long od), .second, .val (.long vv), .second, .val (.ref ob8), .unset, .unset] [(.int (6 : Int32)), (.long (p1 ^^^ p2)), (.long p3), (.long p2), (.int p4), (.long p1), (.ref ob10), (.ref ob10)])) t₀
        refine XS.iconst X10.here hx rfl (hb hby at_145) ?_
        show Steps p.tables e below (T10.setTop (mkF m 146 #[.val (.long p1), .second, .val (.long p2), .second, .val (.long p3), .second, .val (.int p4), .val (.int p5), .val (.long p6), .second, .val (.int (6 : Int32)), .val (.int md), .val (.long od), .second, .val (.long vv), .second, .val (.ref ob8), .unset, .unset] [(.int (5 : Int32)), (.int (6 : Int32)), (.long (p1 ^^^ p2)), (.long p3), (.long p2), (.int p4), (.long p1), (.ref ob10), (.ref ob10)])) t₀
        refine XS.icmpYes X10.here hx rfl (pc0 := 146) (pc' := 154) rfl (hb hby at_146) rfl (feq (by decide : ¬ ((6 : Int32) = (5 : Int32)))).2 (by decide) (by decide) ?_
        show Steps p.tables e below (T10.setTop (mkF m 154 #[.val (.long p1), .second, .val (.long p2), .second, .val (.long p3), .second, .val (.int p4), .val (.int p5), .val (.long p6), .second, .val (.int (6 : Int32)), .val (.int md), .val (.long od), .second, .val (.long vv), .second, .val (.ref ob8), .unset, .unset] [(.long (p1 ^^^ p2)), (.long p3), (.long p2), (.int p4), (.long p1), (.ref ob10), (.ref ob10)])) t₀
        refine XS.lloadN X10.here hx rfl (hb hby at_154) rfl ?_
        show Steps p.tables e below (T10.setTop (mkF m 155 #[.val (.long p1), .second, .val (.long p2), .second, .val (.long p3), .second, .val (.int p4), .val (.int p5), .val (.long p6), .second, .val (.int (6 : Int32)), .val (.int md), .val (.long od), .second, .val (.long vv), .second, .val (.ref ob8), .unset, .unset] [(.long p2), (.long (p1 ^^^ p2)), (.long p3), (.long p2), (.int p4), (.long p1), (.ref ob10), (.ref ob10)])) t₀
        refine XS.lload X10.here hx rfl (hb hby at_155) rfl ?_
        show Steps p.tables e below (T10.setTop (mkF m 157 #[.val (.long p1), .second, .val (.long p2), .second, .val (.long p3), .second, .val (.int p4), .val (.int p5), .val (.long p6), .second, .val (.int (6 : Int32)), .val (.int md), .val (.long od), .second, .val (.long vv), .second, .val (.ref ob8), .unset, .unset] [(.long p3), (.long p2), (.long (p1 ^^^ p2)), (.long p3), (.long p2), (.int p4), (.long p1), (.ref ob10), (.ref ob10)])) t₀
        refine XS.lxor X10.here hx rfl (hb hby at_157) rfl ?_
        show Steps p.tables e below (T10.setTop (mkF m 158 #[.val (.long p1), .second, .val (.long p2), .second, .val (.long p3), .second, .val (.int p4), .val (.int p5), .val (.long p6), .second, .val (.int (6 : Int32)), .val (.int md), .val (.long od), .second, .val (.long vv), .second, .val (.ref ob8), .unset, .unset] [(.long (p2 ^^^ p3)), (.long (p1 ^^^ p2)), (.long p3), (.long p2), (.int p4), (.long p1), (.ref ob10), (.ref ob10)])) t₀
        refine XS.iload X10.here hx rfl (hb hby at_158) rfl ?_
        show Steps p.tables e below (T10.setTop (mkF m 160 #[.val (.long p1), .second, .val (.long p2), .second, .val (.long p3), .second, .val (.int p4), .val (.int p5), .val (.long p6), .second, .val (.int (6 : Int32)), .val (.int md), .val (.long od), .second, .val (.long vv), .second, .val (.ref ob8), .unset, .unset] [(.int (6 : Int32)), (.long (p2 ^^^ p3)), (.long (p1 ^^^ p2)), (.long p3), (.long p2), (.int p4), (.long p1), (.ref ob10), (.ref ob10)])) t₀
        refine XS.bipush X10.here hx rfl (hb hby at_160) ?_
        show Steps p.tables e below (T10.setTop (mkF m 162 #[.val (.long p1), .second, .val (.long p2), .second, .val (.long p3), .second, .val (.int p4), .val (.int p5), .val (.long p6), .second, .val (.int (6 : Int32)), .val (.int md), .val (.long od), .second, .val (.long vv), .second, .val (.ref ob8), .unset, .unset] [(.int (6 : Int32)), (.int (6 : Int32)), (.long (p2 ^^^ p3)), (.long (p1 ^^^ p2)), (.long p3), (.long p2), (.int p4), (.long p1), (.ref ob10), (.ref ob10)])) t₀
        refine XS.icmpNo X10.here hx rfl (hb hby at_162) rfl (teq (by decide : ((6 : Int32) = (6 : Int32)))).2 ?_
        show Steps p.tables e below (T10.setTop (mkF m 165 #[.val (.long p1), .second, .val (.long p2), .second, .val (.long p3), .second, .val (.int p4), .val (.int p5), .val (.long p6), .second, .val (.int (6 : Int32)), .val (.int md), .val (.long od), .second, .val (.long vv), .second, .val (.ref ob8), .unset, .unset] [(.long (p2 ^^^ p3)), (.long (p1 ^^^ p2)), (.long p3), (.long p2), (.int p4), (.long p1), (.ref ob10), (.ref ob10)])) t₀
        refine XS.lload X10.here hx rfl (hb hby at_165) rfl ?_
        show Steps p.tables e below (T10.setTop (mkF m 167 #[.val (.long p1), .second, .val (.long p2), .second, .val (.long p3), .second, .val (.int p4), .val (.int p5), .val (.long p6), .second, .val (.int (6 : Int32)), .val (.int md), .val (.long od), .second, .val (.long vv), .second, .val (.ref ob8), .unset, .unset] [(.long vv), (.long (p2 ^^^ p3)), (.long (p1 ^^^ p2)), (.long p3), (.long p2), (.int p4), (.long p1), (.ref ob10), (.ref ob10)])) t₀
        refine XS.goto X10.here hx rfl (pc0 := 167) (pc' := 174) rfl (hb hby at_167) (by decide) (by decide) ?_
        show Steps p.tables e below (T10.setTop (mkF m 174 #[.val (.long p1), .second, .val (.long p2), .second, .val (.long p3), .second, .val (.int p4), .val (.int p5), .val (.long p6), .second, .val (.int (6 : Int32)), .val (.int md), .val (.long od), .second, .val (.long vv), .second, .val (.ref ob8), .unset, .unset] [(.long vv), (.long (p2 ^^^ p3)), (.long (p1 ^^^ p2)), (.long p3), (.long p2), (.int p4), (.long p1), (.ref ob10), (.ref ob10)])) t₀
        refine XS.iload X10.here hx rfl (hb hby at_174) rfl ?_
        show Steps p.tables e below (T10.setTop (mkF m 176 #[.val (.long p1), .second, .val (.long p2), .second, .val (.long p3), .second, .val (.int p4), .val (.int p5), .val (.long p6), .second, .val (.int (6 : Int32)), .val (.int md), .val (.long od), .second, .val (.long vv), .second, .val (.ref ob8), .unset, .unset] [(.int (6 : Int32)), (.long vv), (.long (p2 ^^^ p3)), (.long (p1 ^^^ p2)), (.long p3), (.long p2), (.int p4), (.long p1), (.ref ob10), (.ref ob10)])) t₀
        refine XS.bipush X10.here hx rfl (hb hby at_176) ?_
        show Steps p.tables e below (T10.setTop (mkF m 178 #[.val (.long p1), .second, .val (.long p2), .second, .val (.long p3), .second, .val (.int p4), .val (.int p5), .val (.long p6), .second, .val (.int (6 : Int32)), .val (.int md), .val (.long od), .second, .val (.long vv), .second, .val (.ref ob8), .unset, .unset] [(.int (7 : Int32)), (.int (6 : Int32)), (.long vv), (.long (p2 ^^^ p3)), (.long (p1 ^^^ p2)), (.long p3), (.long p2), (.int p4), (.long p1), (.ref ob10), (.ref ob10)])) t₀
        refine XS.icmpYes X10.here hx rfl (pc0 := 178) (pc' := 186) rfl (hb hby at_178) rfl (feq (by decide : ¬ ((6 : Int32) = (7 : Int32)))).2 (by decide) (by decide) ?_
        show Steps p.tables e below (T10.setTop (mkF m 186 #[.val (.long p1), .second, .val (.long p2), .second, .val (.long p3), .second, .val (.int p4), .val (.int p5), .val (.long p6), .second, .val (.int (6 : Int32)), .val (.int md), .val (.long od), .second, .val (.long vv), .second, .val (.ref ob8), .unset, .unset] [(.long vv), (.long (p2 ^^^ p3)), (.long (p1 ^^^ p2)), (.long p3), (.long p2), (.int p4), (.long p1), (.ref ob10), (.ref ob10)])) t₀
        refine XS.lloadN X10.here hx rfl (hb hby at_186) rfl ?_
        show Steps p.tables e below (T10.setTop (mkF m 187 #[.val (.long p1), .second, .val (.long p2), .second, .val (.long p3), .second, .val (.int p4), .val (.int p5), .val (.long p6), .second, .val (.int (6 : Int32)), .val (.int md), .val (.long od), .second, .val (.long vv), .second, .val (.ref ob8), .unset, .unset] [(.long p2), (.long vv), (.long (p2 ^^^ p3)), (.long (p1 ^^^ p2)), (.long p3), (.long p2), (.int p4), (.long p1), (.ref ob10), (.ref ob10)])) t₀
        refine XS.lload X10.here hx rfl (hb hby at_187) rfl ?_
        show Steps p.tables e below (T10.setTop (mkF m 189 #[.val (.long p1), .second, .val (.long p2), .second, .val (.long p3), .second, .val (.int p4), .val (.int p5), .val (.long p6), .second, .val (.int (6 : Int32)), .val (.int md), .val (.long od), .second, .val (.long vv), .second, .val (.ref ob8), .unset, .unset] [(.long p3), (.long p2), (.long vv), (.long (p2 ^^^ p3)), (.long (p1 ^^^ p2)), (.long p3), (.long p2), (.int p4), (.long p1), (.ref ob10), (.ref ob10)])) t₀
        refine XS.lsub X10.here hx rfl (hb hby at_189) rfl ?_
        exact k₀
      obtain ⟨_, _, ⟨T17, L17, k17, n17⟩, -, X17, ⟨Lc17, hQ17, l17, y17, z17⟩, st17⟩ := X10.specialBack hx (y := (⟨"com/example/opledger/opledger/Checkpoint", "<init>", "(JIJJJJJJ)V"⟩ : MethodName)) rfl hown (mvT hZ (hw _ (List.mem_of_getElem? (i := 7) rfl))) (mvT hZ (hw _ (List.mem_of_getElem? (i := 8) rfl))) (mvT hZ (hw _ (List.mem_of_getElem? (i := 9) rfl))) (by decide) (backOf (W := 1) (rmC l Z a0 hw [] ob10 p1 p4 p2 p3 (p1 ^^^ p2) (p2 ^^^ p3) vv (p2 - p3) h10 n0 z_10 A10 g_ob10 F_offset_ob10 F_numOps_ob10 F_generation_ob10 F_minSeqNo_ob10 F_maxSeqNo_ob10 F_globalCheckpoint_ob10 F_minGeneration_ob10 F_trimmedAboveSeqNo_ob10) hZ (hw _ (List.mem_of_getElem? (i := 9) rfl)) (hw _ (List.mem_of_getElem? (i := 6) rfl)) (by decide) (by decide)) (g := (mkF m 190 #[.val (.long p1), .second, .val (.long p2), .second, .val (.long p3), .second, .val (.int p4), .val (.int p5), .val (.long p6), .second, .val (.int (6 : Int32)), .val (.int md), .val (.long od), .second, .val (.long vv), .second, .val (.ref ob8), .unset, .unset] [(.long (p2 - p3)), (.long vv), (.long (p2 ^^^ p3)), (.long (p1 ^^^ p2)), (.long p3), (.long p2), (.int p4), (.long p1), (.ref ob10), (.ref ob10)])) rfl (by rw [hml]; rfl) (Steps.refl _) (a := ob10) (argsL := [(.long p1), (.int p4), (.long p2), (.long p3), (.long (p1 ^^^ p2)), (.long (p2 ^^^ p3)), (.long vv), (.long (p2 - p3))]) (rest := [(.ref ob10)]) (lenOf pd_1 rfl) rfl (by show 2 * 0 + _ ≤ _; exact Nat.le_of_eq rfl) (hb hby at_190) (fun _ _ => ⟨rfl, e10, (by decide : 2 + 0 ≤ _), (by decide : 16 + 0 ≤ _)⟩)
      dsimp only [Pt.U, Pt.locs, Pt.cells, Pt.slots] at X17 l17 y17 z17 st17 hQ17
      subst l17 y17 z17
      obtain ⟨rfl, N17q, K17, Q17_0, Q17_1, Q17_2, Q17_3, Q17_4, Q17_5, Q17_6, Q17_7⟩ := hQ17
      have N17 := Fr.app N9 N17q
      refine hG _ _ (fun t₀ k₀ => st17.trans k₀) ?_
      have z_x17 := Nat.le_trans z_10 K17.1
      have o_x17 := o_x10.keep K17 (allS g_ob10 all0)
      have eob8_x17 := eob8_x10.keep K17
      have fob8_offset_x17 := fob8_offset_x10.keep K17 (ninS ne_ob8_ob10 nin0)
      have fob8_numOps_x17 := fob8_numOps_x10.keep K17 (ninS ne_ob8_ob10 nin0)
      have fob8_generation_x17 := fob8_generation_x10.keep K17 (ninS ne_ob8_ob10 nin0)
      have fob8_minSeqNo_x17 := fob8_minSeqNo_x10.keep K17 (ninS ne_ob8_ob10 nin0)
      have fob8_maxSeqNo_x17 := fob8_maxSeqNo_x10.keep K17 (ninS ne_ob8_ob10 nin0)
      have fob8_globalCheckpoint_x17 := fob8_globalCheckpoint_x10.keep K17 (ninS ne_ob8_ob10 nin0)
      have fob8_minGeneration_x17 := fob8_minGeneration_x10.keep K17 (ninS ne_ob8_ob10 nin0)
      have fob8_trimmedAboveSeqNo_x17 := fob8_trimmedAboveSeqNo_x10.keep K17 (ninS ne_ob8_ob10 nin0)
      have eob10_x17 := A10.keep K17
      show G (T17.setTop (mkF m 193 #[.val (.long p1), .second, .val (.long p2), .second, .val (.long p3), .second, .val (.int p4), .val (.int p5), .val (.long p6), .second, .val (.int (6 : Int32)), .val (.int md), .val (.long od), .second, .val (.long vv), .second, .val (.ref ob8), .unset, .unset] [(.ref ob10)]))
      refine hG _ (T17.setTop (mkF m 222 #[.val (.long p1), .second, .val (.long p2), .second, .val (.long p3), .second, .val (.int p4), .val (.int p5), .val (.long p6), .second, .val (.int (6 : Int32)), .val (.int md), .val (.long od), .second, .val (.long vv), .second, .val (.ref ob8), .val (.ref ob10), .unset] [(.int (lcmpW vv od))])) (fun t₀ k₀ => ?_) ?_
      · show Steps p.tables e below (T17.setTop (mkF m 193 #[.val (.long p1), .second, .val (.long p2), .second, .val (.long p3), .second, .val (.int p4), .val (.int p5), .val (.long p6), .second, .val (.int (6 : Int32)), .val (.int md), .val (.long od), .second, .val (.long vv), .second, .val (.ref ob8), .unset, .unset] [(.ref ob10)])) t₀
        refine XS.astore X17.here hx rfl (hb hby at_193) rfl rfl (l' := #[.val (.long p1), .second, .val (.long p2), .second, .val (.long p3), .second, .val (.int p4), .val (.int p5), .val (.long p6), .second, .val (.int (6 : Int32)), .val (.int md), .val (.long od), .second, .val (.long vv), .second, .val (.ref ob8), .val (.ref ob10), .unset]) rfl ?_
        show Steps p.tables e below (T17.setTop (mkF m 195 #[.val (.long p1), .second, .val (.long p2), .second, .val (.long p3), .second, .val (.int p4), .val (.int p5), .val (.long p6), .second, .val (.int (6 : Int32)), .val (.int md), .val (.long od), .second, .val (.long vv), .second, .val (.ref ob8), .val (.ref ob10), .unset] [])) t₀
        refine XS.iload X17.here hx rfl (hb hby at_195) rfl ?_
        show Steps p.tables e below (T17.setTop (mkF m 197 #[.val (.long p1), .second, .val (.long p2), .second, .val (.long p3), .second, .val (.int p4), .val (.int p5), .val (.long p6), .second, .val (.int (6 : Int32)), .val (.int md), .val (.long od), .second, .val (.long vv), .second, .val (.ref ob8), .val (.ref ob10), .unset] [(.int (6 : Int32))])) t₀
        refine XS.iconst X17.here hx rfl (hb hby at_197) ?_
        show Steps p.tables e below (T17.setTop (mkF m 198 #[.val (.long p1), .second, .val (.long p2), .second, .val (.long p3), .second, .val (.int p4), .val (.int p5), .val (.long p6), .second, .val (.int (6 : Int32)), .val (.int md), .val (.long od), .second, .val (.long vv), .second, .val (.ref ob8), .val (.ref ob10), .unset] [(.int (1 : Int32)), (.int (6 : Int32))])) t₀
        refine XS.icmpYes X17.here hx rfl (pc0 := 198) (pc' := 217) rfl (hb hby at_198) rfl (feq (by decide : ¬ ((6 : Int32) = (1 : Int32)))).2 (by decide) (by decide) ?_
        show Steps p.tables e below (T17.setTop (mkF m 217 #[.val (.long p1), .second, .val (.long p2), .second, .val (.long p3), .second, .val (.int p4), .val (.int p5), .val (.long p6), .second, .val (.int (6 : Int32)), .val (.int md), .val (.long od), .second, .val (.long vv), .second, .val (.ref ob8), .val (.ref ob10), .unset] [])) t₀
        refine XS.lload X17.here hx rfl (hb hby at_217) rfl ?_
        show Steps p.tables e below (T17.setTop (mkF m 219 #[.val (.long p1), .second, .val (.long p2), .second, .val (.long p3), .second, .val (.int p4), .val (.int p5), .val (.long p6), .second, .val (.int (6 : Int32)), .val (.int md), .val (.long od), .second, .val (.long vv), .second, .val (.ref ob8), .val (.ref ob10), .unset] [(.long vv)])) t₀
        refine XS.lload X17.here hx rfl (hb hby at_219) rfl ?_
        show Steps p.tables e below (T17.setTop (mkF m 221 #[.val (.long p1), .second, .val (.long p2), .second, .val (.long p3), .second, .val (.int p4), .val (.int p5), .val (.long p6), .second, .val (.int (6 : Int32)), .val (.int md), .val (.long od), .second, .val (.long vv), .second, .val (.ref ob8), .val (.ref ob10), .unset] [(.long od), (.long vv)])) t₀
        refine XS.lcmp X17.here hx rfl (hb hby at_221) rfl ?_
        exact k₀
      by_cases hx222 : vv = od
      ·
        refine hG _ (T17.setTop (mkF m 232 #[.val (.long p1), .second, .val (.long p2), .second, .val (.long p3), .second, .val (.int p4), .val (.int p5), .val (.long p6), .second, .val (.int (6 : Int32)), .val (.int md), .val (.long od), .second, .val (.long vv), .second, .val (.ref ob8), .val (.ref ob10), .val (.int (1 : Int32))] [])) (fun t₀ k₀ => ?_) ?_
        · show Steps p.tables e below (T17.setTop (mkF m 222 #[.val (.long p1), .second, .val (.long p2), .second, .val (.long p3), .second, .val (.int p4), .val (.int p5), .val (.long p6), .second, .val (.int (6 : Int32)), .val (.int md), .val (.long od), .second, .val (.long vv), .second, .val (.ref ob8), .val (.ref ob10), .unset] [(.int (lcmpW vv od))])) t₀
          refine XS.ifNo X17.here hx rfl (hb hby at_222) rfl ((if0 _ _).trans (teq ((lw_eq vv od).mpr hx222)).2) ?_
          show Steps p.tables e below (T17.setTop (mkF m 225 #[.val (.long p1), .second, .val (.long p2), .second, .val (.long p3), .second, .val (.int p4), .val (.int p5), .val (.long p6), .second, .val (.int (6 : Int32)), .val (.int md), .val (.long od), .second, .val (.long vv), .second, .val (.ref ob8), .val (.ref ob10), .unset] [])) t₀
          refine XS.iconst X17.here hx rfl (hb hby at_225) ?_
          show Steps p.tables e below (T17.setTop (mkF m 226 #[.val (.long p1), .second, .val (.long p2), .second, .val (.long p3), .second, .val (.int p4), .val (.int p5), .val (.long p6), .second, .val (.int (6 : Int32)), .val (.int md), .val (.long od), .second, .val (.long vv), .second, .val (.ref ob8), .val (.ref ob10), .unset] [(.int (1 : Int32))])) t₀
          refine XS.goto X17.here hx rfl (pc0 := 226) (pc' := 230) rfl (hb hby at_226) (by decide) (by decide) ?_
          show Steps p.tables e below (T17.setTop (mkF m 230 #[.val (.long p1), .second, .val (.long p2), .second, .val (.long p3), .second, .val (.int p4), .val (.int p5), .val (.long p6), .second, .val (.int (6 : Int32)), .val (.int md), .val (.long od), .second, .val (.long vv), .second, .val (.ref ob8), .val (.ref ob10), .unset] [(.int (1 : Int32))])) t₀
          refine XS.istore X17.here hx rfl (hb hby at_230) rfl (l' := #[.val (.long p1), .second, .val (.long p2), .second, .val (.long p3), .second, .val (.int p4), .val (.int p5), .val (.long p6), .second, .val (.int (6 : Int32)), .val (.int md), .val (.long od), .second, .val (.long vv), .second, .val (.ref ob8), .val (.ref ob10), .val (.int (1 : Int32))]) rfl ?_
          exact k₀
        have h' : (p1 + p3) = vv := (hx222.trans hodi).symm
        exact tlE T17 T17.heap _ X17 rfl N17 z_x17 o_x17 ob8 ob10 eob8_x17 eob10_x17 fob8_offset_x17 fob8_numOps_x17 fob8_generation_x17 fob8_minSeqNo_x17 fob8_maxSeqNo_x17 fob8_globalCheckpoint_x17 fob8_minGeneration_x17 fob8_trimmedAboveSeqNo_x17 p1 p4 p2 p3 (p1 ^^^ p2) (p2 ^^^ p3) vv (p2 - p3) Q17_0 Q17_1 Q17_2 Q17_3 Q17_4 Q17_5 Q17_6 Q17_7 _ _ (1 : Int32) _ _ (by simp [own_ceq, h'])
      ·
        refine hG _ (T17.setTop (mkF m 232 #[.val (.long p1), .second, .val (.long p2), .second, .val (.long p3), .second, .val (.int p4), .val (.int p5), .val (.long p6), .second, .val (.int (6 : Int32)), .val (.int md), .val (.long od), .second, .val (.long vv), .second, .val (.ref ob8), .val (.ref ob10), .val (.int (0 : Int32))] [])) (fun t₀ k₀ => ?_) ?_
        · show Steps p.tables e below (T17.setTop (mkF m 222 #[.val (.long p1), .second, .val (.long p2), .second, .val (.long p3), .second, .val (.int p4), .val (.int p5), .val (.long p6), .second, .val (.int (6 : Int32)), .val (.int md), .val (.long od), .second, .val (.long vv), .second, .val (.ref ob8), .val (.ref ob10), .unset] [(.int (lcmpW vv od))])) t₀
          refine XS.ifYes X17.here hx rfl (pc0 := 222) (pc' := 229) rfl (hb hby at_222) rfl ((if0 _ _).trans (feq (fun z => hx222 ((lw_eq vv od).mp z))).2) (by decide) (by decide) ?_
          show Steps p.tables e below (T17.setTop (mkF m 229 #[.val (.long p1), .second, .val (.long p2), .second, .val (.long p3), .second, .val (.int p4), .val (.int p5), .val (.long p6), .second, .val (.int (6 : Int32)), .val (.int md), .val (.long od), .second, .val (.long vv), .second, .val (.ref ob8), .val (.ref ob10), .unset] [])) t₀
          refine XS.iconst X17.here hx rfl (hb hby at_229) ?_
          show Steps p.tables e below (T17.setTop (mkF m 230 #[.val (.long p1), .second, .val (.long p2), .second, .val (.long p3), .second, .val (.int p4), .val (.int p5), .val (.long p6), .second, .val (.int (6 : Int32)), .val (.int md), .val (.long od), .second, .val (.long vv), .second, .val (.ref ob8), .val (.ref ob10), .unset] [(.int (0 : Int32))])) t₀
          refine XS.istore X17.here hx rfl (hb hby at_230) rfl (l' := #[.val (.long p1), .second, .val (.long p2), .second, .val (.long p3), .second, .val (.int p4), .val (.int p5), .val (.long p6), .second, .val (.int (6 : Int32)), .val (.int md), .val (.long od), .second, .val (.long vv), .second, .val (.ref ob8), .val (.ref ob10), .val (.int (0 : Int32))]) rfl ?_
          exact k₀
        have h' : ¬ ((p1 + p3) = vv) := fun q => hx222 (q.symm.trans hodi.symm)
        exact tlE T17 T17.heap _ X17 rfl N17 z_x17 o_x17 ob8 ob10 eob8_x17 eob10_x17 fob8_offset_x17 fob8_numOps_x17 fob8_generation_x17 fob8_minSeqNo_x17 fob8_maxSeqNo_x17 fob8_globalCheckpoint_x17 fob8_minGeneration_x17 fob8_trimmedAboveSeqNo_x17 p1 p4 p2 p3 (p1 ^^^ p2) (p2 ^^^ p3) vv (p2 - p3) Q17_0 Q17_1 Q17_2 Q17_3 Q17_4 Q17_5 Q17_6 Q17_7 _ _ (0 : Int32) _ _ (by simp [own_ceq, h'])
    ·
      subst h8
      show G (T10.setTop (mkF m 79 #[.val (.long p1), .second, .val (.long p2), .second, .val (.long p3), .second, .val (.int p4), .val (.int p5), .val (.long p6), .second, .val (.int (7 : Int32)), .val (.int md), .val (.long od), .second, .val (.long vv), .second, .val (.ref ob8), .unset, .unset] [(.ref ob10), (.ref ob10)]))
      have hodi : od = (p2 - p3) := hod.trans (by simp [own_old])
      refine hG _ (T10.setTop (mkF m 190 #[.val (.long p1), .second, .val (.long p2), .second, .val (.long p3), .second, .val (.int p4), .val (.int p5), .val (.long p6), .second, .val (.int (7 : Int32)), .val (.int md), .val (.long od), .second, .val (.long vv), .second, .val (.ref ob8), .unset, .unset] [(.long vv), (.long (p1 + p3)), (.long (p2 ^^^ p3)), (.long (p1 ^^^ p2)), (.long p3), (.long p2), (.int p4), (.long p1), (.ref ob10), (.ref ob10)])) (fun t₀ k₀ => ?_) ?_
      · show Steps p.tables e below (T10.setTop (mkF m 79 #[.val (.long p1), .second, .val (.long p2), .second, .val (.long p3), .second, .val (.int p4), .val (.int p5), .val (.long p6), .second, .val (.int (7 : Int32)), .val (.int md), .val (.long od), .second, .val (.long vv), .second, .val (.ref ob8), .unset, .unset] [(.ref ob10), (.ref ob10)])) t₀
        refine XS.iload X10.here hx rfl (hb hby at_79) rfl ?_
        show Steps p.tables e below (T10.setTop (mkF m 81 #[.val (.long p1), .second, .val (.long p2), .second, .val (.long p3), .second, .val (.int p4), .val (.int p5), .val (.long p6), .second, .val (.int (7 : Int32)), .val (.int md), .val (.long od), .second, .val (.long vv), .second, .val (.ref ob8), .unset, .unset] [(.int (7 : Int32)), (.ref ob10), (.ref ob10)])) t₀
        refine XS.ifYes X10.here hx rfl (pc0 := 81) (pc' := 89) rfl (hb hby at_81) rfl ((if0 _ _).trans (feq (by decide : ¬ ((7 : Int32) = (0 : Int32)))).2) (by decide) (by decide) ?_
        show Steps p.tables e below (T10.setTop (mkF m 89 #[.val (.long p1), .second, .val (.long p2), .second, .val (.long p3), .second, .val (.int p4), .val (.int p5), .val (.long p6), .second, .val (.int (7 : Int32)), .val (.int md), .val (.long od), .second, .val (.long vv), .second, .val (.ref ob8), .unset, .unset] [(.ref ob10), (.ref ob10)])) t₀
        refine XS.lloadN X10.here hx rfl (hb hby at_89) rfl ?_
        show Steps p.tables e below (T10.setTop (mkF m 90 #[.val (.long p1), .second, .val (.long p2), .second, .val (.long p3), .second, .val (.int p4), .val (.int p5), .val (.long p6), .second, .val (.int (7 : Int32)), .val (.int md), .val (.long od), .second, .val (.long vv), .second, .val (.ref ob8), .unset, .unset] [(.long p1), (.ref ob10), (.ref ob10)])) t₀
        refine XS.iload X10.here hx rfl (hb hby at_90) rfl ?_
        show Steps p.tables e below (T10.setTop (mkF m 92 #[.val (.long p1), .second, .val (.long p2), .second, .val (.long p3), .second, .val (.int p4), .val (.int p5), .val (.long p6), .second, .val (.int (7 : Int32)), .val (.int md), .val (.long od), .second, .val (.long vv), .second, .val (.ref ob8), .unset, .unset] [(.int (7 : Int32)), (.long p1), (.ref ob10), (.ref ob10)])) t₀
        refine XS.iconst X10.here hx rfl (hb hby at_92) ?_
        show Steps p.tables e below (T10.setTop (mkF m 93 #[.val (.long p1), .second, .val (.long p2), .second, .val (.long p3), .second, .val (.int p4), .val (.int p5), .val (.long p6), .second, .val (.int (7 : Int32)), .val (.int md), .val (.long od), .second, .val (.long vv), .second, .val (.ref ob8), .unset, .unset] [(.int (1 : Int32)), (.int (7 : Int32)), (.long p1), (.ref ob10), (.ref ob10)])) t₀
        refine XS.icmpYes X10.here hx rfl (pc0 := 93) (pc' := 102) rfl (hb hby at_93) rfl (feq (by decide : ¬ ((7 : Int32) = (1 : Int32)))).2 (by decide) (by decide) ?_
        show Steps p.tables e below (T10.setTop (mkF m 102 #[.val (.long p1), .second, .val (.long p2), .second, .val (.long p3), .second, .val (.int p4), .val (.int p5), .val (.long p6), .second, .val (.int (7 : Int32)), .val (.int md), .val (.long od), .second, .val (.long vv), .second, .val (.ref ob8), .unset, .unset] [(.long p1), (.ref ob10), (.ref ob10)])) t₀
        refine XS.iload X10.here hx rfl (hb hby at_102) rfl ?_
        show Steps p.tables e below (T10.setTop (mkF m 104 #[.val (.long p1), .second, .val (.long p2), .second, .val (.long p3), .second, .val (.int p4), .val (.int p5), .val (.long p6), .second, .val (.int (7 : Int32)), .val (.int md), .val (.long od), .second, .val (.long vv), .second, .val (.ref ob8), .unset, .unset] [(.int p4), (.long p1), (.ref ob10), (.ref ob10)])) t₀
        refine XS.iload X10.here hx rfl (hb hby at_104) rfl ?_
        show Steps p.tables e below (T10.setTop (mkF m 106 #[.val (.long p1), .second, .val (.long p2), .second, .val (.long p3), .second, .val (.int p4), .val (.int p5), .val (.long p6), .second, .val (.int (7 : Int32)), .val (.int md), .val (.long od), .second, .val (.long vv), .second, .val (.ref ob8), .unset, .unset] [(.int (7 : Int32)), (.int p4), (.long p1), (.ref ob10), (.ref ob10)])) t₀
        refine XS.iconst X10.here hx rfl (hb hby at_106) ?_
        show Steps p.tables e below (T10.setTop (mkF m 107 #[.val (.long p1), .second, .val (.long p2), .second, .val (.long p3), .second, .val (.int p4), .val (.int p5), .val (.long p6), .second, .val (.int (7 : Int32)), .val (.int md), .val (.long od), .second, .val (.long vv), .second, .val (.ref ob8), .unset, .unset] [(.int (2 : Int32)), (.int (7 : Int32)), (.int p4), (.long p1), (.ref ob10), (.ref ob10)])) t₀
        refine XS.icmpYes X10.here hx rfl (pc0 := 107) (pc' := 115) rfl (hb hby at_107) rfl (feq (by decide : ¬ ((7 : Int32) = (2 : Int32)))).2 (by decide) (by decide) ?_
        show Steps p.tables e below (T10.setTop (mkF m 115 #[.val (.long p1), .second, .val (.long p2), .second, .val (.long p3), .second, .val (.int p4), .val (.int p5), .val (.long p6), .second, .val (.int (7 : Int32)), .val (.int md), .val (.long od), .second, .val (.long vv), .second, .val (.ref ob8), .unset, .unset] [(.int p4), (.long p1), (.ref ob10), (.ref ob10)])) t₀
        refine XS.lloadN X10.here hx rfl (hb hby at_115) rfl ?_
        show Steps p.tables e below (T10.setTop (mkF m 116 #[.val (.long p1), .second, .val (.long p2), .second, .val (.long p3), .second, .val (.int p4), .val (.int p5), .val (.long p6), .second, .val (.int (7 : Int32)), .val (.int md), .val (.long od), .second, .val (.long vv), .second, .val (.ref ob8), .unset, .unset] [(.long p2), (.int p4), (.long p1), (.ref ob10), (.ref ob10)])) t₀
        refine XS.iload X10.here hx rfl (hb hby at_116) rfl ?_
        show Steps p.tables e below (T10.setTop (mkF m 118 #[.val (.long p1), .second, .val (.long p2), .second, .val (.long p3), .second, .val (.int p4), .val (.int p5), .val (.long p6), .second, .val (.int (7 : Int32)), .val (.int md), .val (.long od), .second, .val (.long vv), .second, .val (.ref ob8), .unset, .unset] [(.int (7 : Int32)), (.long p2), (.int p4), (.long p1), (.ref ob10), (.ref ob10)])) t₀
        refine XS.iconst X10.here hx rfl (hb hby at_118) ?_
        show Steps p.tables e below (T10.setTop (mkF m 119 #[.val (.long p1), .second, .val (.long p2), .second, .val (.long p3), .second, .val (.int p4), .val (.int p5), .val (.long p6), .second, .val (.int (7 : Int32)), .val (.int md), .val (.long od), .second, .val (.long vv), .second, .val (.ref ob8), .unset, .unset] [(.int (3 : Int32)), (.int (7 : Int32)), (.long p2), (.int p4), (.long p1), (.ref ob10), (.ref ob10)])) t₀
        refine XS.icmpYes X10.here hx rfl (pc0 := 119) (pc' := 127) rfl (hb hby at_119) rfl (feq (by decide : ¬ ((7 : Int32) = (3 : Int32)))).2 (by decide) (by decide) ?_
        show Steps p.tables e below (T10.setTop (mkF m 127 #[.val (.long p1), .second, .val (.long p2), .second, .val (.long p3), .second, .val (.int p4), .val (.int p5), .val (.long p6), .second, .val (.int (7 : Int32)), .val (.int md), .val (.long od), .second, .val (.long vv), .second, .val (.ref ob8), .unset, .unset] [(.long p2), (.int p4), (.long p1), (.ref ob10), (.ref ob10)])) t₀
        refine XS.lload X10.here hx rfl (hb hby at_127) rfl ?_
        show Steps p.tables e below (T10.setTop (mkF m 129 #[.val (.long p1), .second, .val (.long p2), .second, .val (.long p3), .second, .val (.int p4), .val (.int p5), .val (.long p6), .second, .val (.int (7 : Int32)), .val (.int md), .val (.long od), .second, .val (.long vv), .second, .val (.ref ob8), .unset, .unset] [(.long p3), (.long p2), (.int p4), (.long p1), (.ref ob10), (.ref ob10)])) t₀
        refine XS.iload X10.here hx rfl (hb hby at_129) rfl ?_
        show Steps p.tables e below (T10.setTop (mkF m 131 #[.val (.long p1), .second, .val (.long p2), .second, .val (.long p3), .second, .val (.int p4), .val (.int p5), .val (.long p6), .second, .val (.int (7 : Int32)), .val (.int md), .val (.long od), .second, .val (.long vv), .second, .val (.ref ob8), .unset, .unset] [(.int (7 : Int32)), (.long p3), (.long p2), (.int p4), (.long p1), (.ref ob10), (.ref ob10)])) t₀
        refine XS.iconst X10.here hx rfl (hb hby at_131) ?_
        show Steps p.tables e below (T10.setTop (mkF m 132 #[.val (.long p1), .second, .val (.long p2), .second, .val (.long p3), .second, .val (.int p4), .val (.int p5), .val (.long p6), .second, .val (.int (7 : Int32)), .val (.int md), .val (.long od), .second, .val (.long vv), .second, .val (.ref ob8), .unset, .unset] [(.int (4 : Int32)), (.int (7 : Int32)), (.long p3), (.long p2), (.int p4), (.long p1), (.ref ob10), (.ref ob10)])) t₀
        refine XS.icmpYes X10.here hx rfl (pc0 := 132) (pc' := 140) rfl (hb hby at_132) rfl (feq (by decide : ¬ ((7 : Int32) = (4 : Int32)))).2 (by decide) (by decide) ?_
        show Steps p.tables e below (T10.setTop (mkF m 140 #[.val (.long p1), .second, .val (.long p2), .second, .val (.long p3), .second, .val (.int p4), .val (.int p5), .val (.long p6), .second, .val (.int (7 : Int32)), .val (.int md), .val (.long od), .second, .val (.long vv), .second, .val (.ref ob8), .unset, .unset] [(.long p3), (.long p2), (.int p4), (.long p1), (.ref ob10), (.ref ob10)])) t₀
        refine XS.lloadN X10.here hx rfl (hb hby at_140) rfl ?_
        show Steps p.tables e below (T10.setTop (mkF m 141 #[.val (.long p1), .second, .val (.long p2), .second, .val (.long p3), .second, .val (.int p4), .val (.int p5), .val (.long p6), .second, .val (.int (7 : Int32)), .val (.int md), .val (.long od), .second, .val (.long vv), .second, .val (.ref ob8), .unset, .unset] [(.long p1), (.long p3), (.long p2), (.int p4), (.long p1), (.ref ob10), (.ref ob10)])) t₀
        refine XS.lloadN X10.here hx rfl (hb hby at_141) rfl ?_
        show Steps p.tables e below (T10.setTop (mkF m 142 #[.val (.long p1), .second, .val (.long p2), .second, .val (.long p3), .second, .val (.int p4), .val (.int p5), .val (.long p6), .second, .val (.int (7 : Int32)), .val (.int md), .val (.long od), .second, .val (.long vv), .second, .val (.ref ob8), .unset, .unset] [(.long p2), (.long p1), (.long p3), (.long p2), (.int p4), (.long p1), (.ref ob10), (.ref ob10)])) t₀
        refine XS.lxor X10.here hx rfl (hb hby at_142) rfl ?_
        show Steps p.tables e below (T10.setTop (mkF m 143 #[.val (.long p1), .second, .val (.long p2), .second, .val (.long p3), .second, .val (.int p4), .val (.int p5), .val (.long p6), .second, .val (.int (7 : Int32)), .val (.int md), .val (.long od), .second, .val (.long vv), .second, .val (.ref ob8), .unset, .unset] [(.long (p1 ^^^ p2)), (.long p3), (.long p2), (.int p4), (.long p1), (.ref ob10), (.ref ob10)])) t₀
        refine XS.iload X10.here hx rfl (hb hby at_143) rfl ?_
        show Steps p.tables e below (T10.setTop (mkF m 145 #[.val (.long p1), .second, .val (.long p2), .second, .val (.long p3), .second, .val (.int p4), .val (.int p5), .val (.long p6), .second, .val (.int (7 : Int32)), .val (.int md), .val (.long od), .second, .val (.long vv), .second, .val (.ref ob8), .unset, .unset] [(.int (7 : Int32)), (.long (p1 ^^^ p2)), (.long p3), (.long p2), (.int p4), (.long p1), (.ref ob10), (.ref ob10)])) t₀
        refine XS.iconst X10.here hx rfl (hb hby at_145) ?_
        show Steps p.tables e below (T10.setTop (mkF m 146 #[.val (.long p1), .second, .val (.long p2), .second, .val (.long p3), .second, .val (.int p4), .val (.int p5), .val (.long p6), .second, .val (.int (7 : Int32)), .val (.int md), .val (.long od), .second, .val (.long vv), .second, .val (.ref ob8), .unset, .unset] [(.int (5 : Int32)), (.int (7 : Int32)), (.long (p1 ^^^ p2)), (.long p3), (.long p2), (.int p4), (.long p1), (.ref ob10), (.ref ob10)])) t₀
        refine XS.icmpYes X10.here hx rfl (pc0 := 146) (pc' := 154) rfl (hb hby at_146) rfl (feq (by decide : ¬ ((7 : Int32) = (5 : Int32)))).2 (by decide) (by decide) ?_
        show Steps p.tables e below (T10.setTop (mkF m 154 #[.val (.long p1), .second, .val (.long p2), .second, .val (.long p3), .second, .val (.int p4), .val (.int p5), .val (.long p6), .second, .val (.int (7 : Int32)), .val (.int md), .val (.long od), .second, .val (.long vv), .second, .val (.ref ob8), .unset, .unset] [(.long (p1 ^^^ p2)), (.long p3), (.long p2), (.int p4), (.long p1), (.ref ob10), (.ref ob10)])) t₀
        refine XS.lloadN X10.here hx rfl (hb hby at_154) rfl ?_
        show Steps p.tables e below (T10.setTop (mkF m 155 #[.val (.long p1), .second, .val (.long p2), .second, .val (.long p3), .second, .val (.int p4), .val (.int p5), .val (.long p6), .second, .val (.int (7 : Int32)), .val (.int md), .val (.long od), .second, .val (.long vv), .second, .val (.ref ob8), .unset, .unset] [(.long p2), (.long (p1 ^^^ p2)), (.long p3), (.long p2), (.int p4), (.long p1), (.ref ob10), (.ref ob10)])) t₀
        refine XS.lload X10.here hx rfl (hb hby at_155) rfl ?_
        show Steps p.tables e below (T10.setTop (mkF m 157 #[.val (.long p1), .second, .val (.long p2), .second, .val (.long p3), .second, .val (.int p4), .val (.int p5), .val (.long p6), .second, .val (.int (7 : Int32)), .val (.int md), .val (.long od), .second, .val (.long vv), .second, .val (.ref ob8), .unset, .unset] [(.long p3), (.long p2), (.long (p1 ^^^ p2)), (.long p3), (.long p2), (.int p4), (.long p1), (.ref ob10), (.ref ob10)])) t₀
        refine XS.lxor X10.here hx rfl (hb hby at_157) rfl ?_
        show Steps p.tables e below (T10.setTop (mkF m 158 #[.val (.long p1), .second, .val (.long p2), .second, .val (.long p3), .second, .val (.int p4), .val (.int p5), .val (.long p6), .second, .val (.int (7 : Int32)), .val (.int md), .val (.long od), .second, .val (.long vv), .second, .val (.ref ob8), .unset, .unset] [(.long (p2 ^^^ p3)), (.long (p1 ^^^ p2)), (.long p3), (.long p2), (.int p4), (.long p1), (.ref ob10), (.ref ob10)])) t₀
        refine XS.iload X10.here hx rfl (hb hby at_158) rfl ?_
        show Steps p.tables e below (T10.setTop (mkF m 160 #[.val (.long p1), .second, .val (.long p2), .second, .val (.long p3), .second, .val (.int p4), .val (.int p5), .val (.long p6), .second, .val (.int (7 : Int32)), .val (.int md), .val (.long od), .second, .val (.long vv), .second, .val (.ref ob8), .unset, .unset] [(.int (7 : Int32)), (.long (p2 ^^^ p3)), (.long (p1 ^^^ p2)), (.long p3), (.long p2), (.int p4), (.long p1), (.ref ob10), (.ref ob10)])) t₀
        refine XS.bipush X10.here hx rfl (hb hby at_160) ?_
        show Steps p.tables e below (T10.setTop (mkF m 162 #[.val (.long p1), .second, .val (.long p2), .second, .val (.long p3), .second, .val (.int p4), .val (.int p5), .val (.long p6), .second, .val (.int (7 : Int32)), .val (.int md), .val (.long od), .second, .val (.long vv), .second, .val (.ref ob8), .unset, .unset] [(.int (6 : Int32)), (.int (7 : Int32)), (.long (p2 ^^^ p3)), (.long (p1 ^^^ p2)), (.long p3), (.long p2), (.int p4), (.long p1), (.ref ob10), (.ref ob10)])) t₀
        refine XS.icmpYes X10.here hx rfl (pc0 := 162) (pc' := 170) rfl (hb hby at_162) rfl (feq (by decide : ¬ ((7 : Int32) = (6 : Int32)))).2 (by decide) (by decide) ?_
        show Steps p.tables e below (T10.setTop (mkF m 170 #[.val (.long p1), .second, .val (.long p2), .second, .val (.long p3), .second, .val (.int p4), .val (.int p5), .val (.long p6), .second, .val (.int (7 : Int32)), .val (.int md), .val (.long od), .second, .val (.long vv), .second, .val (.ref ob8), .unset, .unset] [(.long (p2 ^^^ p3)), (.long (p1 ^^^ p2)), (.long p3), (.long p2), (.int p4), (.long p1), (.ref ob10), (.ref ob10)])) t₀
        refine XS.lloadN X10.here hx rfl (hb hby at_170) rfl ?_
        show Steps p.tables e below (T10.setTop (mkF m 171 #[.val (.long p1), .second, .val (.long p2), .second, .val (.long p3), .second, .val (.int p4), .val (.int p5), .val (.long p6), .second, .val (.int (7 : Int32)), .val (.int md), .val (.long od), .second, .val (.long vv), .second, .val (.ref ob8), .unset, .unset] [(.long p1), (.long (p2 ^^^ p3)), (.long (p1 ^^^ p2)), (.long p3), (.long p2), (.int p4), (.long p1), (.ref ob10), (.ref ob10)])) t₀
        refine XS.lload X10.here hx rfl (hb hby at_171) rfl ?_
        show Steps p.tables e below (T10.setTop (mkF m 173 #[.val (.long p1), .second, .val (.long p2), .second, .val (.long p3), .second, .val (.int p4), .val (.int p5), .val (.long p6), .second, .val (.int (7 : Int32)), .val (.int md), .val (.long od), .second, .val (.long vv), .second, .val (.ref ob8), .unset, .unset] [(.long p3), (.long p1), (.long (p2 ^^^ p3)), (.long (p1 ^^^ p2)), (.long p3), (.long p2), (.int p4), (.long p1), (.ref ob10), (.ref ob10)])) t₀
        refine XS.ladd X10.here hx rfl (hb hby at_173) rfl ?_
        show Steps p.tables e below (T10.setTop (mkF m 174 #[.val (.long p1), .second, .val (.long p2), .second, .val (.long p3), .second, .val (.int p4), .val (.int p5), .val (.long p6), .second, .val (.int (7 : Int32)), .val (.int md), .val (.long od), .second, .val (.long vv), .second, .val (.ref ob8), .unset, .unset] [(.long (p1 + p3)), (.long (p2 ^^^ p3)), (.long (p1 ^^^ p2)), (.long p3), (.long p2), (.int p4), (.long p1), (.ref ob10), (.ref ob10)])) t₀
        refine XS.iload X10.here hx rfl (hb hby at_174) rfl ?_
        show Steps p.tables e below (T10.setTop (mkF m 176 #[.val (.long p1), .second, .val (.long p2), .second, .val (.long p3), .second, .val (.int p4), .val (.int p5), .val (.long p6), .second, .val (.int (7 : Int32)), .val (.int md), .val (.long od), .second, .val (.long vv), .second, .val (.ref ob8), .unset, .unset] [(.int (7 : Int32)), (.long (p1 + p3)), (.long (p2 ^^^ p3)), (.long (p1 ^^^ p2)), (.long p3), (.long p2), (.int p4), (.long p1), (.ref ob10), (.ref ob10)])) t₀
        refine XS.bipush X10.here hx rfl (hb hby at_176) ?_
        show Steps p.tables e below (T10.setTop (mkF m 178 #[.val (.long p1), .second, .val (.long p2), .second, .val (.long p3), .second, .val (.int p4), .val (.int p5), .val (.long p6), .second, .val (.int (7 : Int32)), .val (.int md), .val (.long od), .second, .val (.long vv), .second, .val (.ref ob8), .unset, .unset] [(.int (7 : Int32)), (.int (7 : Int32)), (.long (p1 + p3)), (.long (p2 ^^^ p3)), (.long (p1 ^^^ p2)), (.long p3), (.long p2), (.int p4), (.long p1), (.ref ob10), (.ref ob10)])) t₀
        refine XS.icmpNo X10.here hx rfl (hb hby at_178) rfl (teq (by decide : ((7 : Int32) = (7 : Int32)))).2 ?_
        show Steps p.tables e below (T10.setTop (mkF m 181 #[.val (.long p1), .second, .val (.long p2), .second, .val (.long p3), .second, .val (.int p4), .val (.int p5), .val (.long p6), .second, .val (.int (7 : Int32)), .val (.int md), .val (.long od), .second, .val (.long vv), .second, .val (.ref ob8), .unset, .unset] [(.long (p1 + p3)), (.long (p2 ^^^ p3)), (.long (p1 ^^^ p2)), (.long p3), (.long p2), (.int p4), (.long p1), (.ref ob10), (.ref ob10)])) t₀
        refine XS.lload X10.here hx rfl (hb hby at_181) rfl ?_
        show Steps p.tables e below (T10.setTop (mkF m 183 #[.val (.long p1), .second, .val (.long p2), .second, .val (.long p3), .second, .val (.int p4), .val (.int p5), .val (.long p6), .second, .val (.int (7 : Int32)), .val (.int md), .val (.long od), .second, .val (.long vv), .second, .val (.ref ob8), .unset, .unset] [(.long vv), (.long (p1 + p3)), (.long (p2 ^^^ p3)), (.long (p1 ^^^ p2)), (.long p3), (.long p2), (.int p4), (.long p1), (.ref ob10), (.ref ob10)])) t₀
        refine XS.goto X10.here hx rfl (pc0 := 183) (pc' := 190) rfl (hb hby at_183) (by decide) (by decide) ?_
        exact k₀
      obtain ⟨_, _, ⟨T18, L18, k18, n18⟩, -, X18, ⟨Lc18, hQ18, l18, y18, z18⟩, st18⟩ := X10.specialBack hx (y := (⟨"com/example/opledger/opledger/Checkpoint", "<init>", "(JIJJJJJJ)V"⟩ : MethodName)) rfl hown (mvT hZ (hw _ (List.mem_of_getElem? (i := 7) rfl))) (mvT hZ (hw _ (List.mem_of_getElem? (i := 8) rfl))) (mvT hZ (hw _ (List.mem_of_getElem? (i := 9) rfl))) (by decide) (backOf (W := 1) (rmC l Z a0 hw [] ob10 p1 p4 p2 p3 (p1 ^^^ p2) (p2 ^^^ p3) (p1 + p3) vv h10 n0 z_10 A10 g_ob10 F_offset_ob10 F_numOps_ob10 F_generation_ob10 F_minSeqNo_ob10 F_maxSeqNo_ob10 F_globalCheckpoint_ob10 F_minGeneration_ob10 F_trimmedAboveSeqNo_ob10) hZ (hw _ (List.mem_of_getElem? (i := 9) rfl)) (hw _ (List.mem_of_getElem? (i := 6) rfl)) (by decide) (by decide)) (g := (mkF m 190 #[.val (.long p1), .second, .val (.long p2), .second, .val (.long p3), .second, .val (.int p4), .val (.int p5), .val (.long p6), .second, .val (.int (7 : Int32)), .val (.int md), .val (.long od), .second, .val (.long vv), .second, .val (.ref ob8), .unset, .unset] [(.long vv), (.long (p1 + p3)), (.long (p2 ^^^ p3)), (.long (p1 ^^^ p2)), (.long p3), (.long p2), (.int p4), (.long p1), (.ref ob10), (.ref ob10)])) rfl (by rw [hml]; rfl) (Steps.refl _) (a := ob10) (argsL := [(.long p1), (.int p4), (.long p2), (.long p3), (.long (p1 ^^^ p2)), (.long (p2 ^^^ p3)), (.long (p1 + p3)), (.long vv)]) (rest := [(.ref ob10)]) (lenOf pd_1 rfl) rfl (by show 2 * 0 + _ ≤ _; exact Nat.le_of_eq rfl) (hb hby at_190) (fun _ _ => ⟨rfl, e10, (by decide : 2 + 0 ≤ _), (by decide : 16 + 0 ≤ _)⟩)
      dsimp only [Pt.U, Pt.locs, Pt.cells, Pt.slots] at X18 l18 y18 z18 st18 hQ18
      subst l18 y18 z18
      obtain ⟨rfl, N18q, K18, Q18_0, Q18_1, Q18_2, Q18_3, Q18_4, Q18_5, Q18_6, Q18_7⟩ := hQ18
      have N18 := Fr.app N9 N18q
      refine hG _ _ (fun t₀ k₀ => st18.trans k₀) ?_
      have z_x18 := Nat.le_trans z_10 K18.1
      have o_x18 := o_x10.keep K18 (allS g_ob10 all0)
      have eob8_x18 := eob8_x10.keep K18
      have fob8_offset_x18 := fob8_offset_x10.keep K18 (ninS ne_ob8_ob10 nin0)
      have fob8_numOps_x18 := fob8_numOps_x10.keep K18 (ninS ne_ob8_ob10 nin0)
      have fob8_generation_x18 := fob8_generation_x10.keep K18 (ninS ne_ob8_ob10 nin0)
      have fob8_minSeqNo_x18 := fob8_minSeqNo_x10.keep K18 (ninS ne_ob8_ob10 nin0)
      have fob8_maxSeqNo_x18 := fob8_maxSeqNo_x10.keep K18 (ninS ne_ob8_ob10 nin0)
      have fob8_globalCheckpoint_x18 := fob8_globalCheckpoint_x10.keep K18 (ninS ne_ob8_ob10 nin0)
      have fob8_minGeneration_x18 := fob8_minGeneration_x10.keep K18 (ninS ne_ob8_ob10 nin0)
      have fob8_trimmedAboveSeqNo_x18 := fob8_trimmedAboveSeqNo_x10.keep K18 (ninS ne_ob8_ob10 nin0)
      have eob10_x18 := A10.keep K18
      show G (T18.setTop (mkF m 193 #[.val (.long p1), .second, .val (.long p2), .second, .val (.long p3), .second, .val (.int p4), .val (.int p5), .val (.long p6), .second, .val (.int (7 : Int32)), .val (.int md), .val (.long od), .second, .val (.long vv), .second, .val (.ref ob8), .unset, .unset] [(.ref ob10)]))
      refine hG _ (T18.setTop (mkF m 222 #[.val (.long p1), .second, .val (.long p2), .second, .val (.long p3), .second, .val (.int p4), .val (.int p5), .val (.long p6), .second, .val (.int (7 : Int32)), .val (.int md), .val (.long od), .second, .val (.long vv), .second, .val (.ref ob8), .val (.ref ob10), .unset] [(.int (lcmpW vv od))])) (fun t₀ k₀ => ?_) ?_
      · show Steps p.tables e below (T18.setTop (mkF m 193 #[.val (.long p1), .second, .val (.long p2), .second, .val (.long p3), .second, .val (.int p4), .val (.int p5), .val (.long p6), .second, .val (.int (7 : Int32)), .val (.int md), .val (.long od), .second, .val (.long vv), .second, .val (.ref ob8), .unset, .unset] [(.ref ob10)])) t₀
        refine XS.astore X18.here hx rfl (hb hby at_193) rfl rfl (l' := #[.val (.long p1), .second, .val (.long p2), .second, .val (.long p3), .second, .val (.int p4), .val (.int p5), .val (.long p6), .second, .val (.int (7 : Int32)), .val (.int md), .val (.long od), .second, .val (.long vv), .second, .val (.ref ob8), .val (.ref ob10), .unset]) rfl ?_
        show Steps p.tables e below (T18.setTop (mkF m 195 #[.val (.long p1), .second, .val (.long p2), .second, .val (.long p3), .second, .val (.int p4), .val (.int p5), .val (.long p6), .second, .val (.int (7 : Int32)), .val (.int md), .val (.long od), .second, .val (.long vv), .second, .val (.ref ob8), .val (.ref ob10), .unset] [])) t₀
        refine XS.iload X18.here hx rfl (hb hby at_195) rfl ?_
        show Steps p.tables e below (T18.setTop (mkF m 197 #[.val (.long p1), .second, .val (.long p2), .second, .val (.long p3), .second, .val (.int p4), .val (.int p5), .val (.long p6), .second, .val (.int (7 : Int32)), .val (.int md), .val (.long od), .second, .val (.long vv), .second, .val (.ref ob8), .val (.ref ob10), .unset] [(.int (7 : Int32))])) t₀
        refine XS.iconst X18.here hx rfl (hb hby at_197) ?_
        show Steps p.tables e below (T18.setTop (mkF m 198 #[.val (.long p1), .second, .val (.long p2), .second, .val (.long p3), .second, .val (.int p4), .val (.int p5), .val (.long p6), .second, .val (.int (7 : Int32)), .val (.int md), .val (.long od), .second, .val (.long vv), .second, .val (.ref ob8), .val (.ref ob10), .unset] [(.int (1 : Int32)), (.int (7 : Int32))])) t₀
        refine XS.icmpYes X18.here hx rfl (pc0 := 198) (pc' := 217) rfl (hb hby at_198) rfl (feq (by decide : ¬ ((7 : Int32) = (1 : Int32)))).2 (by decide) (by decide) ?_
        show Steps p.tables e below (T18.setTop (mkF m 217 #[.val (.long p1), .second, .val (.long p2), .second, .val (.long p3), .second, .val (.int p4), .val (.int p5), .val (.long p6), .second, .val (.int (7 : Int32)), .val (.int md), .val (.long od), .second, .val (.long vv), .second, .val (.ref ob8), .val (.ref ob10), .unset] [])) t₀
        refine XS.lload X18.here hx rfl (hb hby at_217) rfl ?_
        show Steps p.tables e below (T18.setTop (mkF m 219 #[.val (.long p1), .second, .val (.long p2), .second, .val (.long p3), .second, .val (.int p4), .val (.int p5), .val (.long p6), .second, .val (.int (7 : Int32)), .val (.int md), .val (.long od), .second, .val (.long vv), .second, .val (.ref ob8), .val (.ref ob10), .unset] [(.long vv)])) t₀
        refine XS.lload X18.here hx rfl (hb hby at_219) rfl ?_
        show Steps p.tables e below (T18.setTop (mkF m 221 #[.val (.long p1), .second, .val (.long p2), .second, .val (.long p3), .second, .val (.int p4), .val (.int p5), .val (.long p6), .second, .val (.int (7 : Int32)), .val (.int md), .val (.long od), .second, .val (.long vv), .second, .val (.ref ob8), .val (.ref ob10), .unset] [(.long od), (.long vv)])) t₀
        refine XS.lcmp X18.here hx rfl (hb hby at_221) rfl ?_
        exact k₀
      by_cases hx222 : vv = od
      ·
        refine hG _ (T18.setTop (mkF m 232 #[.val (.long p1), .second, .val (.long p2), .second, .val (.long p3), .second, .val (.int p4), .val (.int p5), .val (.long p6), .second, .val (.int (7 : Int32)), .val (.int md), .val (.long od), .second, .val (.long vv), .second, .val (.ref ob8), .val (.ref ob10), .val (.int (1 : Int32))] [])) (fun t₀ k₀ => ?_) ?_
        · show Steps p.tables e below (T18.setTop (mkF m 222 #[.val (.long p1), .second, .val (.long p2), .second, .val (.long p3), .second, .val (.int p4), .val (.int p5), .val (.long p6), .second, .val (.int (7 : Int32)), .val (.int md), .val (.long od), .second, .val (.long vv), .second, .val (.ref ob8), .val (.ref ob10), .unset] [(.int (lcmpW vv od))])) t₀
          refine XS.ifNo X18.here hx rfl (hb hby at_222) rfl ((if0 _ _).trans (teq ((lw_eq vv od).mpr hx222)).2) ?_
          show Steps p.tables e below (T18.setTop (mkF m 225 #[.val (.long p1), .second, .val (.long p2), .second, .val (.long p3), .second, .val (.int p4), .val (.int p5), .val (.long p6), .second, .val (.int (7 : Int32)), .val (.int md), .val (.long od), .second, .val (.long vv), .second, .val (.ref ob8), .val (.ref ob10), .unset] [])) t₀
          refine XS.iconst X18.here hx rfl (hb hby at_225) ?_
          show Steps p.tables e below (T18.setTop (mkF m 226 #[.val (.long p1), .second, .val (.long p2), .second, .val (.long p3), .second, .val (.int p4), .val (.int p5), .val (.long p6), .second, .val (.int (7 : Int32)), .val (.int md), .val (.long od), .second, .val (.long vv), .second, .val (.ref ob8), .val (.ref ob10), .unset] [(.int (1 : Int32))])) t₀
          refine XS.goto X18.here hx rfl (pc0 := 226) (pc' := 230) rfl (hb hby at_226) (by decide) (by decide) ?_
          show Steps p.tables e below (T18.setTop (mkF m 230 #[.val (.long p1), .second, .val (.long p2), .second, .val (.long p3), .second, .val (.int p4), .val (.int p5), .val (.long p6), .second, .val (.int (7 : Int32)), .val (.int md), .val (.long od), .second, .val (.long vv), .second, .val (.ref ob8), .val (.ref ob10), .unset] [(.int (1 : Int32))])) t₀
          refine XS.istore X18.here hx rfl (hb hby at_230) rfl (l' := #[.val (.long p1), .second, .val (.long p2), .second, .val (.long p3), .second, .val (.int p4), .val (.int p5), .val (.long p6), .second, .val (.int (7 : Int32)), .val (.int md), .val (.long od), .second, .val (.long vv), .second, .val (.ref ob8), .val (.ref ob10), .val (.int (1 : Int32))]) rfl ?_
          exact k₀
        have h' : (p2 - p3) = vv := (hx222.trans hodi).symm
        exact tlE T18 T18.heap _ X18 rfl N18 z_x18 o_x18 ob8 ob10 eob8_x18 eob10_x18 fob8_offset_x18 fob8_numOps_x18 fob8_generation_x18 fob8_minSeqNo_x18 fob8_maxSeqNo_x18 fob8_globalCheckpoint_x18 fob8_minGeneration_x18 fob8_trimmedAboveSeqNo_x18 p1 p4 p2 p3 (p1 ^^^ p2) (p2 ^^^ p3) (p1 + p3) vv Q18_0 Q18_1 Q18_2 Q18_3 Q18_4 Q18_5 Q18_6 Q18_7 _ _ (1 : Int32) _ _ (by simp [own_ceq, h'])
      ·
        refine hG _ (T18.setTop (mkF m 232 #[.val (.long p1), .second, .val (.long p2), .second, .val (.long p3), .second, .val (.int p4), .val (.int p5), .val (.long p6), .second, .val (.int (7 : Int32)), .val (.int md), .val (.long od), .second, .val (.long vv), .second, .val (.ref ob8), .val (.ref ob10), .val (.int (0 : Int32))] [])) (fun t₀ k₀ => ?_) ?_
        · show Steps p.tables e below (T18.setTop (mkF m 222 #[.val (.long p1), .second, .val (.long p2), .second, .val (.long p3), .second, .val (.int p4), .val (.int p5), .val (.long p6), .second, .val (.int (7 : Int32)), .val (.int md), .val (.long od), .second, .val (.long vv), .second, .val (.ref ob8), .val (.ref ob10), .unset] [(.int (lcmpW vv od))])) t₀
          refine XS.ifYes X18.here hx rfl (pc0 := 222) (pc' := 229) rfl (hb hby at_222) rfl ((if0 _ _).trans (feq (fun z => hx222 ((lw_eq vv od).mp z))).2) (by decide) (by decide) ?_
          show Steps p.tables e below (T18.setTop (mkF m 229 #[.val (.long p1), .second, .val (.long p2), .second, .val (.long p3), .second, .val (.int p4), .val (.int p5), .val (.long p6), .second, .val (.int (7 : Int32)), .val (.int md), .val (.long od), .second, .val (.long vv), .second, .val (.ref ob8), .val (.ref ob10), .unset] [])) t₀
          refine XS.iconst X18.here hx rfl (hb hby at_229) ?_
          show Steps p.tables e below (T18.setTop (mkF m 230 #[.val (.long p1), .second, .val (.long p2), .second, .val (.long p3), .second, .val (.int p4), .val (.int p5), .val (.long p6), .second, .val (.int (7 : Int32)), .val (.int md), .val (.long od), .second, .val (.long vv), .second, .val (.ref ob8), .val (.ref ob10), .unset] [(.int (0 : Int32))])) t₀
          refine XS.istore X18.here hx rfl (hb hby at_230) rfl (l' := #[.val (.long p1), .second, .val (.long p2), .second, .val (.long p3), .second, .val (.int p4), .val (.int p5), .val (.long p6), .second, .val (.int (7 : Int32)), .val (.int md), .val (.long od), .second, .val (.long vv), .second, .val (.ref ob8), .val (.ref ob10), .val (.int (0 : Int32))]) rfl ?_
          exact k₀
        have h' : ¬ ((p2 - p3) = vv) := fun q => hx222 (q.symm.trans hodi.symm)
        exact tlE T18 T18.heap _ X18 rfl N18 z_x18 o_x18 ob8 ob10 eob8_x18 eob10_x18 fob8_offset_x18 fob8_numOps_x18 fob8_generation_x18 fob8_minSeqNo_x18 fob8_maxSeqNo_x18 fob8_globalCheckpoint_x18 fob8_minGeneration_x18 fob8_trimmedAboveSeqNo_x18 p1 p4 p2 p3 (p1 ^^^ p2) (p2 ^^^ p3) (p1 + p3) vv Q18_0 Q18_1 Q18_2 Q18_3 Q18_4 Q18_5 Q18_6 Q18_7 _ _ (0 : Int32) _ _ (by simp [own_ceq, h'])
  refine hG _ (T7.setTop (mkF m 33 #[.val (.long p1), .second, .val (.long p2), .second, .val (.long p3), .second, .val (.int p4), .val (.int p5), .val (.long p6), .second, .val (.int sl), .val (.int md), .val (.long od), .second, .unset, .unset, .unset, .unset, .unset] [(.int (p5 &&& (32 : Int32)))])) (fun t₀ k₀ => ?_) ?_
  · show Steps p.tables e below (T7.setTop (mkF m 28 #[.val (.long p1), .second, .val (.long p2), .second, .val (.long p3), .second, .val (.int p4), .val (.int p5), .val (.long p6), .second, .val (.int sl), .val (.int md), .val (.long od), .second, .unset, .unset, .unset, .unset, .unset] [])) t₀
    refine XS.iload X7.here hx rfl (hb hby at_28) rfl ?_
    show Steps p.tables e below (T7.setTop (mkF m 30 #[.val (.long p1), .second, .val (.long p2), .second, .val (.long p3), .second, .val (.int p4), .val (.int p5), .val (.long p6), .second, .val (.int sl), .val (.int md), .val (.long od), .second, .unset, .unset, .unset, .unset, .unset] [(.int p5)])) t₀
    refine XS.bipush X7.here hx rfl (hb hby at_30) ?_
    show Steps p.tables e below (T7.setTop (mkF m 32 #[.val (.long p1), .second, .val (.long p2), .second, .val (.long p3), .second, .val (.int p4), .val (.int p5), .val (.long p6), .second, .val (.int sl), .val (.int md), .val (.long od), .second, .unset, .unset, .unset, .unset, .unset] [(.int (32 : Int32)), (.int p5)])) t₀
    refine XS.iand X7.here hx rfl (hb hby at_32) rfl ?_
    exact k₀
  by_cases hc33 : (p5 &&& (32 : Int32)) = (0 : Int32)
  ·
    refine hG _ (T7.setTop (mkF m 45 #[.val (.long p1), .second, .val (.long p2), .second, .val (.long p3), .second, .val (.int p4), .val (.int p5), .val (.long p6), .second, .val (.int sl), .val (.int md), .val (.long od), .second, .val (.long p6), .second, .unset, .unset, .unset] [])) (fun t₀ k₀ => ?_) ?_
    · show Steps p.tables e below (T7.setTop (mkF m 33 #[.val (.long p1), .second, .val (.long p2), .second, .val (.long p3), .second, .val (.int p4), .val (.int p5), .val (.long p6), .second, .val (.int sl), .val (.int md), .val (.long od), .second, .unset, .unset, .unset, .unset, .unset] [(.int (p5 &&& (32 : Int32)))])) t₀
      refine XS.ifYes X7.here hx rfl (pc0 := 33) (pc' := 41) rfl (hb hby at_33) rfl ((if0 _ _).trans (teq hc33).1) (by decide) (by decide) ?_
      show Steps p.tables e below (T7.setTop (mkF m 41 #[.val (.long p1), .second, .val (.long p2), .second, .val (.long p3), .second, .val (.int p4), .val (.int p5), .val (.long p6), .second, .val (.int sl), .val (.int md), .val (.long od), .second, .unset, .unset, .unset, .unset, .unset] [])) t₀
      refine XS.lload X7.here hx rfl (hb hby at_41) rfl ?_
      show Steps p.tables e below (T7.setTop (mkF m 43 #[.val (.long p1), .second, .val (.long p2), .second, .val (.long p3), .second, .val (.int p4), .val (.int p5), .val (.long p6), .second, .val (.int sl), .val (.int md), .val (.long od), .second, .unset, .unset, .unset, .unset, .unset] [(.long p6)])) t₀
      refine XS.lstore X7.here hx rfl (hb hby at_43) rfl (l' := #[.val (.long p1), .second, .val (.long p2), .second, .val (.long p3), .second, .val (.int p4), .val (.int p5), .val (.long p6), .second, .val (.int sl), .val (.int md), .val (.long od), .second, .val (.long p6), .second, .unset, .unset, .unset]) rfl ?_
      exact k₀
    exact tlV p6
  ·
    refine hG _ (T7.setTop (mkF m 45 #[.val (.long p1), .second, .val (.long p2), .second, .val (.long p3), .second, .val (.int p4), .val (.int p5), .val (.long p6), .second, .val (.int sl), .val (.int md), .val (.long od), .second, .val (.long od), .second, .unset, .unset, .unset] [])) (fun t₀ k₀ => ?_) ?_
    · show Steps p.tables e below (T7.setTop (mkF m 33 #[.val (.long p1), .second, .val (.long p2), .second, .val (.long p3), .second, .val (.int p4), .val (.int p5), .val (.long p6), .second, .val (.int sl), .val (.int md), .val (.long od), .second, .unset, .unset, .unset, .unset, .unset] [(.int (p5 &&& (32 : Int32)))])) t₀
      refine XS.ifNo X7.here hx rfl (hb hby at_33) rfl ((if0 _ _).trans (feq hc33).1) ?_
      show Steps p.tables e below (T7.setTop (mkF m 36 #[.val (.long p1), .second, .val (.long p2), .second, .val (.long p3), .second, .val (.int p4), .val (.int p5), .val (.long p6), .second, .val (.int sl), .val (.int md), .val (.long od), .second, .unset, .unset, .unset, .unset, .unset] [])) t₀
      refine XS.lload X7.here hx rfl (hb hby at_36) rfl ?_
      show Steps p.tables e below (T7.setTop (mkF m 38 #[.val (.long p1), .second, .val (.long p2), .second, .val (.long p3), .second, .val (.int p4), .val (.int p5), .val (.long p6), .second, .val (.int sl), .val (.int md), .val (.long od), .second, .unset, .unset, .unset, .unset, .unset] [(.long od)])) t₀
      refine XS.goto X7.here hx rfl (pc0 := 38) (pc' := 43) rfl (hb hby at_38) (by decide) (by decide) ?_
      show Steps p.tables e below (T7.setTop (mkF m 43 #[.val (.long p1), .second, .val (.long p2), .second, .val (.long p3), .second, .val (.int p4), .val (.int p5), .val (.long p6), .second, .val (.int sl), .val (.int md), .val (.long od), .second, .unset, .unset, .unset, .unset, .unset] [(.long od)])) t₀
      refine XS.lstore X7.here hx rfl (hb hby at_43) rfl (l' := #[.val (.long p1), .second, .val (.long p2), .second, .val (.long p3), .second, .val (.int p4), .val (.int p5), .val (.long p6), .second, .val (.int sl), .val (.int md), .val (.long od), .second, .val (.long od), .second, .unset, .unset, .unset]) rfl ?_
      exact k₀
    exact tlV od
theorem own_cache {s : State} {args : Array Value} {C CC DV : String} {P : Jvm.Cond} {wc : Addr} (ev : (Term.static CC "cache" DV).eval args s none [] s = some (.ref wc)) (h1 : (Jvm.Cond.arrayOf (.static CC "cache" DV) (.object C)).before args s = true) (h2 : (Jvm.Cond.eq (.length (.static CC "cache" DV)) (.int (256 : Int32))).before args s = true)
    (h3 : (Jvm.Cond.all (.static CC "cache" DV) (.and (.exactly (.elem (.static CC "cache" DV) (.index 0)) C) P)).before args s = true) :
    ∃ cl : Cell, Arr s s.heap wc cl (.object C) ∧ cl.slots.size = 256 ∧ ∀ i, i < 256 → ∃ b, cl.slots[i]? = some (.ref b) ∧ Exa s s.heap b C := by
  have hev : ∀ idx, (Term.static CC "cache" DV).eval args s none idx s = some (.ref wc) := fun idx => ev
  obtain ⟨arr, cl, hv, hA, harr, hvm⟩ := Jvm.Free.IntBox.arrayOf_fwd h1 ev
  cases hv
  have hat := Jvm.Free.IntBox.arrayAt_of hA harr hvm
  obtain ⟨hsz, hsize⟩ := Jvm.Free.IntBox.length_fwd h2 ev hA harr hvm
  have h256 : cl.slots.size = 256 := by
    have e := len_toInt hsz
    rw [hsize] at e
    have : (256 : Int32).toInt = 256 := rfl
    omega
  have hall := Cond.all_elim (c := .and (.exactly (.elem (.static CC "cache" DV) (.index 0)) C) P) ev hat (Cond.before_iff.mp h3)
  refine ⟨cl, ⟨hA, harr, hvm⟩, h256, fun i hi => ?_⟩
  have hj := hall i (by rw [h256]; exact hi)
  obtain ⟨hex, -⟩ := and_e hj
  obtain ⟨b, hb⟩ := exa_v hex
  obtain ⟨hnn, hback⟩ := Jvm.Free.IntBox.place_nonneg i hi
  have he : (Term.elem (.static CC "cache" DV) (.index 0)).eval args s none [i] s = cl.slots[i]? := by
    rw [elem_f (j := i.toInt32) (hev [i]) (by simp [Term.eval]) hat hnn, hback]
  refine ⟨b, he ▸ hb, ?_⟩
  obtain ⟨a', c', cellB, kB, e1, e2, e3, e4, e5, rfl, e7⟩ := Cond.exactly_spec (show (Jvm.Cond.exactly (.elem (.static CC "cache" DV) (.index 0)) C).holds args s none s [i] = true by simp [Cond.holds, hex])
  cases hb.symm.trans e1
  exact ⟨cellB, kB, e3, e2, e4, e5, e7⟩

set_option maxRecDepth 65536 in
set_option maxHeartbeats 40000000 in
theorem comes_1 {Post : Tables → Env → Array Value → State → Outcome → State → Prop} (hpost : ∀ tb e args s v u, (limb_1_1.after args s (.returned v) u = true ∧ limb_1_2.after args s (.returned v) u = true ∧ True) → FrameEnd s (.returned v) u (Jvm.fieldLocs frame_1_writes args s ++ Jvm.arrayLocs frame_1_arrays args s ++ Jvm.staticLocs frame_1_statics s) 16 128 → Post tb e args s (.returned v) u) :
    ArmFor flags0 classFile x code maxLocals ret World_1 tables_1 room_1 Calls_1 rest_1 Pre_1 Post := by
  intro l hfl _ _ p e ha hc hk s m args below hf hA hF happ hP
  obtain ⟨hcalls, hrest, hpre⟩ := hP
  obtain ⟨-, -, -, hnamed, -, -, -, hat⟩ := (Spec.applies_iff hf).mp happ
  obtain ⟨hg, hn⟩ := and_e (Cond.before_iff.mp (show (Jvm.Cond.and given_1 narrow_1).before args s = true from hpre))
  obtain ⟨hcount, gg⟩ := and_e hg
  obtain ⟨ga0, gg⟩ := and_e gg
  obtain ⟨ga1, gg⟩ := and_e gg
  obtain ⟨ga2, gg⟩ := and_e gg
  obtain ⟨ga3, gg⟩ := and_e gg
  obtain ⟨ga4, gg⟩ := and_e gg
  have ga5 := gg
  obtain ⟨w0, w1, w2, w3, w4, w5, rfl⟩ : ∃ w0 w1 w2 w3 w4 w5 : Value, args = #[w0, w1, w2, w3, w4, w5] := by
    have hs : args.size = 6 := by simpa [Cond.value, given_1] using hcount
    obtain ⟨L⟩ := args
    match L, hs with
    | [w0, w1, w2, w3, w4, w5], _ => exact ⟨w0, w1, w2, w3, w4, w5, rfl⟩
  have hw := fun d (hd : d ∈ tables_1) => atoms_spec (ws := Jvm.Cond.code x code maxLocals ret :: tables_1) hat d (List.mem_cons_of_mem _ hd)
  have hfit : Fit s := fun {y c} hc i hi => by
    obtain ⟨ha, rfl⟩ := Array.getElem?_eq_some_iff.mp hc
    have q := List.all_eq_true.mp ((Array.all_eq_true_iff_forall_mem.mp hF) _ (Array.getElem_mem ha)) i (List.mem_range.mpr hi)
    simpa [Array.getElem?_eq_getElem hi] using q
  obtain ⟨hsets, hown0⟩ := atoms_of _ (rest_1_c_eq ▸ (show rest_1_c.before _ s = true from hrest))
  obtain ⟨i0, ei0⟩ := isL_v ga0
  obtain rfl : w0 = (.long i0) := Option.some.inj ei0
  obtain ⟨i1, ei1⟩ := isL_v ga1
  obtain rfl : w1 = (.long i1) := Option.some.inj ei1
  obtain ⟨i2, ei2⟩ := isL_v ga2
  obtain rfl : w2 = (.long i2) := Option.some.inj ei2
  obtain ⟨i3, ei3⟩ := is_v ga3
  obtain rfl : w3 = (.int i3) := Option.some.inj ei3
  obtain ⟨i4, ei4⟩ := is_v ga4
  obtain rfl : w4 = (.int i4) := Option.some.inj ei4
  obtain ⟨i5, ei5⟩ := isL_v ga5
  obtain rfl : w5 = (.long i5) := Option.some.inj ei5
  obtain ⟨wc, evc⟩ := arr_v (Cond.before_iff.mp (hsets _ (List.mem_of_getElem? (i := 2) rfl)))
  obtain ⟨cl, Ac, hsz, hel⟩ := own_cache evc (hsets _ (List.mem_of_getElem? (i := 2) rfl)) (hsets _ (List.mem_of_getElem? (i := 4) rfl)) (hsets _ (List.mem_of_getElem? (i := 5) rfl))
  have S_cache := Sta.start evc (Or.inl (hsets _ (List.mem_of_getElem? (i := 1) rfl)))
  obtain ⟨n, o, h1, h2, h3, _, L, rfl, ⟨rfl, N⟩, hq⟩ := rm0 l s _ hw tables_1 i0 i1 i2 i3 i4 i5 wc cl s.heap s.heap.size (Nat.le_refl _) (Old.start s) S_cache Ac hsz hel p e ha hc hk s m _ below hf ((Spec.applies_iff_loose hf).mp happ).1 ⟨rfl, State.Warmed39.refl s, rfl⟩ trivial
  refine ⟨n, _, h1, h2, h3, hpost _ _ _ _ _ _ ⟨Cond.after_iff.mpr rfl, Cond.after_iff.mpr (eq_i res_at (Term.int_eval (1)) rfl), trivial⟩ ⟨hq.1, hq.2.1, (hq.2.2.sift fun y hy => Or.inr (N y hy)).mono (by decide) (by decide)⟩⟩
theorem main_1_1 : Claimed_1_1 := comes_1 fun _ _ _ _ _ _ h hF => ⟨h.1, hF⟩
theorem main_1_2 : Claimed_1_2 := comes_1 fun _ _ _ _ _ _ h hF => ⟨h.2.1, hF⟩
end Jvm.Pilot.@@N@@
namespace Jvm.Pilot.@@N@@
open Jvm Jvm.ClassFile Sem Op Lib Jvm.Free Jvm.Stand Jvm.Pilot.@@N@@.Jvm.D
/-! MADE BY PROGRAM (witnessworld.py) out of the Statement's table words and the real class files: 17 classes; the members and pool entries that the words name. The judged class is class 1, her method 2. -/
namespace start1
open Jvm.ClassFile
def u (s : String) : CpInfo := .utf8 (stringToUtf16 s)
/-- a pool by its gaps: so many unusable entries, then the entry; so many at the end -/
def gap : Nat → List CpInfo → List CpInfo
  | 0, r => r
  | n + 1, r => .unusable :: gap n r
def poolList (es : List (Nat × CpInfo)) (last : Nat) : List CpInfo := es.foldr (fun e r => gap e.1 (e.2 :: r)) (gap last [])
def pool (es : List (Nat × CpInfo)) (last : Nat) : Array CpInfo := ⟨poolList es last⟩
def fileOf (pool : Array CpInfo) (this : Nat) (attrs : Array Attribute := #[]) (ms : Array MethodInfo := #[]) (fl : Nat := 33) (sup : Nat := 0) (ifs : Array Nat := #[]) (fds : Array FieldInfo := #[]) : ClassFile where
  minorVersion := 0
  majorVersion := 65
  constantPool := pool
  accessFlags := fl
  thisClass := this
  superClass := sup
  interfaces := ifs
  fields := fds
  methods := ms
  attributes := attrs
def plain (name : String) (sup : Option ClassId) : Class where
  name := name
  kind := .ordinary
  loader := none
  accessFlags := 33
  super := sup
  interfaces := #[]
  cf := none
  fields := #[]
  methods := #[]
  instanceTypes := #[]
  staticTypes := #[]
  resolved := #[]
  callSites := []
  init := .initialized
  statics := none
  mirror := none

def pool0 : Array CpInfo := pool [(5, u "<init>"), (0, u "()V"), (1, .class_ 10), (1, u "java/lang/Object")] 113

def k0c0 : Code := { maxStack := 0, maxLocals := 1, code := object_method_1_code, exceptionTable := #[], attributes := #[] }
def k0m0 : Method := { name := "<init>", desc := "()V", sig := { parameters := [], returnType := none }, accessFlags := 1, code := some k0c0 }
/-- java/lang/Object -/
def k0 : Class := { plain "java/lang/Object" none with
  accessFlags := 33
  interfaces := #[]
  cf := some (fileOf pool0 8 #[] #[{ accessFlags := 1, nameIndex := 5, descriptorIndex := 6, attributes := #[] }] 33 0 #[] #[])
  fields := #[]
  methods := #[k0m0]
  instanceTypes := #[]
  staticTypes := #[]
  resolved := Array.replicate 124 none
  statics := none }

def pool1 : Array CpInfo := pool [(2, .class_ 4), (1, u "java/lang/Object"), (0, u "<init>"), (0, u "()V"), (0, .methodref 8 9), (0, .class_ 10), (0, .nameAndType 11 12), (0, u "com/example/opledger/opledger/CheckpointEqualsPinLaw"), (0, u "oldValue"), (0, u "(IJJJI)J"), (0, .class_ 14), (0, u "com/example/opledger/opledger/Checkpoint"), (0, .methodref 13 16), (0, .nameAndType 5 17), (0, u "(JIJJJJJJ)V"), (0, .methodref 13 19), (0, .nameAndType 20 21), (0, u "equals"), (0, u "(Ljava/lang/Object;)Z"), (0, .methodref 23 24), (0, .class_ 25), (0, .nameAndType 26 27), (0, u "java/lang/Long"), (0, u "valueOf"), (0, u "(J)Ljava/lang/Long;"), (3, u "law"), (0, u "(JJJIIJ)Z")] 2

def k1m0 : Method := { name := "<init>", desc := "()V", sig := { parameters := [], returnType := none }, accessFlags := 2, code := none }
def k1c1 : Code := { maxStack := 4, maxLocals := 8, code := method_2_code, exceptionTable := #[], attributes := #[] }
def k1m1 : Method := { name := "oldValue", desc := "(IJJJI)J", sig := { parameters := [.int, .long, .long, .long, .int], returnType := some .long }, accessFlags := 10, code := some k1c1 }
def k1c2 : Code := { maxStack := 19, maxLocals := 19, code := code, exceptionTable := #[], attributes := #[] }
def k1m2 : Method := { name := "law", desc := "(JJJIIJ)Z", sig := { parameters := [.long, .long, .long, .int, .int, .long], returnType := some .boolean }, accessFlags := 9, code := some k1c2 }
/-- com/example/opledger/opledger/CheckpointEqualsPinLaw -/
def k1 : Class := { plain "com/example/opledger/opledger/CheckpointEqualsPinLaw" (some 0) with
  accessFlags := 49
  interfaces := #[]
  cf := some (fileOf pool1 8 #[] #[{ accessFlags := 2, nameIndex := 5, descriptorIndex := 6, attributes := #[] }, { accessFlags := 10, nameIndex := 11, descriptorIndex := 12, attributes := #[] }, { accessFlags := 9, nameIndex := 31, descriptorIndex := 32, attributes := #[] }] 49 2 #[] #[])
  fields := #[]
  methods := #[k1m0, k1m1, k1m2]
  instanceTypes := #[]
  staticTypes := #[]
  resolved := Array.replicate 35 none
  statics := none }

def pool2 : Array CpInfo := pool [(1, .methodref 2 3), (0, .class_ 4), (0, .nameAndType 5 6), (0, u "java/lang/Object"), (0, u "<init>"), (0, u "()V"), (0, .class_ 8), (0, u "java/lang/Record")] 13

def k2c0 : Code := { maxStack := 1, maxLocals := 1, code := jdk_30_method_1_code, exceptionTable := #[], attributes := #[] }
def k2m0 : Method := { name := "<init>", desc := "()V", sig := { parameters := [], returnType := none }, accessFlags := 4, code := some k2c0 }
/-- java/lang/Record -/
def k2 : Class := { plain "java/lang/Record" (some 0) with
  accessFlags := 1057
  interfaces := #[]
  cf := some (fileOf pool2 7 #[] #[{ accessFlags := 4, nameIndex := 5, descriptorIndex := 6, attributes := #[] }] 1057 2 #[] #[])
  fields := #[]
  methods := #[k2m0]
  instanceTypes := #[]
  staticTypes := #[]
  resolved := Array.replicate 22 none
  statics := none }

def pool3 : Array CpInfo := pool [(1, .class_ 2), (0, u "com/example/opledger/opledger/Checkpoint"), (0, .methodref 4 5), (0, .class_ 6), (0, .nameAndType 7 8), (0, u "java/lang/Record"), (0, u "<init>"), (0, u "()V"), (0, .fieldref 1 10), (0, .nameAndType 11 12), (0, u "offset"), (0, u "J"), (0, .fieldref 1 14), (0, .nameAndType 15 16), (0, u "numOps"), (0, u "I"), (0, .fieldref 1 18), (0, .nameAndType 19 12), (0, u "generation"), (0, .fieldref 1 21), (0, .nameAndType 22 12), (0, u "minSeqNo"), (0, .fieldref 1 24), (0, .nameAndType 25 12), (0, u "maxSeqNo"), (0, .fieldref 1 27), (0, .nameAndType 28 12), (0, u "globalCheckpoint"), (0, .fieldref 1 30), (0, .nameAndType 31 12), (0, u "minGeneration"), (0, .fieldref 1 33), (0, .nameAndType 34 12), (0, u "trimmedAboveSeqNo"), (14, u "(JIJJJJJJ)V"), (124, u "NONE"), (1, u "UNASSIGNED"), (0, u "BYTES"), (1, u "CODEC"), (0, u "Ljava/lang/String;"), (0, u "FIELD_BYTES"), (1, u "CHECKSUMMED_BYTES"), (13, u "equals"), (0, u "(Ljava/lang/Object;)Z")] 44

def k3c0 : Code := { maxStack := 3, maxLocals := 16, code := prog_2_method_1_code, exceptionTable := #[], attributes := #[] }
def k3m0 : Method := { name := "<init>", desc := "(JIJJJJJJ)V", sig := { parameters := [.long, .int, .long, .long, .long, .long, .long, .long], returnType := none }, accessFlags := 1, code := some k3c0 }
def k3c1 : Code := { maxStack := 4, maxLocals := 3, code := prog_2_method_9_code, exceptionTable := #[], attributes := #[] }
def k3m1 : Method := { name := "equals", desc := "(Ljava/lang/Object;)Z", sig := { parameters := [(.object "java/lang/Object")], returnType := some .boolean }, accessFlags := 1, code := some k3c1 }
/-- com/example/opledger/opledger/Checkpoint -/
def k3 : Class := { plain "com/example/opledger/opledger/Checkpoint" (some 2) with
  accessFlags := 49
  interfaces := #[]
  cf := some (fileOf pool3 1 #[] #[{ accessFlags := 1, nameIndex := 7, descriptorIndex := 49, attributes := #[] }, { accessFlags := 1, nameIndex := 197, descriptorIndex := 198, attributes := #[] }] 49 4 #[] #[{ accessFlags := 18, nameIndex := 11, descriptorIndex := 12, attributes := #[] }, { accessFlags := 18, nameIndex := 15, descriptorIndex := 16, attributes := #[] }, { accessFlags := 18, nameIndex := 19, descriptorIndex := 12, attributes := #[] }, { accessFlags := 18, nameIndex := 22, descriptorIndex := 12, attributes := #[] }, { accessFlags := 18, nameIndex := 25, descriptorIndex := 12, attributes := #[] }, { accessFlags := 18, nameIndex := 28, descriptorIndex := 12, attributes := #[] }, { accessFlags := 18, nameIndex := 31, descriptorIndex := 12, attributes := #[] }, { accessFlags := 18, nameIndex := 34, descriptorIndex := 12, attributes := #[] }, { accessFlags := 25, nameIndex := 174, descriptorIndex := 12, attributes := #[] }, { accessFlags := 25, nameIndex := 176, descriptorIndex := 12, attributes := #[] }, { accessFlags := 24, nameIndex := 177, descriptorIndex := 16, attributes := #[] }, { accessFlags := 24, nameIndex := 179, descriptorIndex := 180, attributes := #[] }, { accessFlags := 24, nameIndex := 181, descriptorIndex := 16, attributes := #[] }, { accessFlags := 26, nameIndex := 183, descriptorIndex := 16, attributes := #[] }])
  fields := #[{ name := "offset", type := .long, accessFlags := 18, slot := 0, constantValue := 0 }, { name := "numOps", type := .int, accessFlags := 18, slot := 1, constantValue := 0 }, { name := "generation", type := .long, accessFlags := 18, slot := 2, constantValue := 0 }, { name := "minSeqNo", type := .long, accessFlags := 18, slot := 3, constantValue := 0 }, { name := "maxSeqNo", type := .long, accessFlags := 18, slot := 4, constantValue := 0 }, { name := "globalCheckpoint", type := .long, accessFlags := 18, slot := 5, constantValue := 0 }, { name := "minGeneration", type := .long, accessFlags := 18, slot := 6, constantValue := 0 }, { name := "trimmedAboveSeqNo", type := .long, accessFlags := 18, slot := 7, constantValue := 0 }, { name := "NONE", type := .long, accessFlags := 25, slot := 0, constantValue := 0 }, { name := "UNASSIGNED", type := .long, accessFlags := 25, slot := 1, constantValue := 0 }, { name := "BYTES", type := .int, accessFlags := 24, slot := 2, constantValue := 0 }, { name := "CODEC", type := (.object "java/lang/String"), accessFlags := 24, slot := 3, constantValue := 0 }, { name := "FIELD_BYTES", type := .int, accessFlags := 24, slot := 4, constantValue := 0 }, { name := "CHECKSUMMED_BYTES", type := .int, accessFlags := 26, slot := 5, constantValue := 0 }]
  methods := #[k3m0, k3m1]
  instanceTypes := #[.long, .int, .long, .long, .long, .long, .long, .long]
  staticTypes := #[.long, .long, .int, (.object "java/lang/String"), .int, .int]
  resolved := Array.replicate 243 none
  statics := none }

def pool4 : Array CpInfo := pool [(1, .class_ 2), (0, u "java/io/Serializable"), (0, .class_ 4), (0, u "java/lang/Object")] 2

/-- java/io/Serializable -/
def k4 : Class := { plain "java/io/Serializable" (some 0) with
  accessFlags := 1537
  interfaces := #[]
  cf := some (fileOf pool4 1 #[] #[] 1537 3 #[] #[])
  fields := #[]
  methods := #[]
  instanceTypes := #[]
  staticTypes := #[]
  resolved := Array.replicate 7 none
  statics := none }

def pool5 : Array CpInfo := pool [(1, .methodref 2 3), (0, .class_ 4), (0, .nameAndType 5 6), (0, u "java/lang/Object"), (0, u "<init>"), (0, u "()V"), (1, .class_ 10), (1, u "java/lang/Number"), (2, .class_ 14), (0, u "java/io/Serializable"), (0, u "serialVersionUID"), (0, u "J")] 20

def k5c0 : Code := { maxStack := 1, maxLocals := 1, code := jdk_18_method_1_code, exceptionTable := #[], attributes := #[] }
def k5m0 : Method := { name := "<init>", desc := "()V", sig := { parameters := [], returnType := none }, accessFlags := 1, code := some k5c0 }
/-- java/lang/Number -/
def k5 : Class := { plain "java/lang/Number" (some 0) with
  accessFlags := 1057
  interfaces := #[4]
  cf := some (fileOf pool5 8 #[] #[{ accessFlags := 1, nameIndex := 5, descriptorIndex := 6, attributes := #[] }] 1057 2 #[13] #[{ accessFlags := 26, nameIndex := 15, descriptorIndex := 16, attributes := #[] }])
  fields := #[{ name := "serialVersionUID", type := .long, accessFlags := 26, slot := 0, constantValue := 0 }]
  methods := #[k5m0]
  instanceTypes := #[]
  staticTypes := #[.long]
  resolved := Array.replicate 37 none
  statics := none }

def pool6 : Array CpInfo := pool [(1, .class_ 2), (0, u "java/lang/Comparable"), (0, .class_ 4), (0, u "java/lang/Object")] 7

/-- java/lang/Comparable -/
def k6 : Class := { plain "java/lang/Comparable" (some 0) with
  accessFlags := 1537
  interfaces := #[]
  cf := some (fileOf pool6 1 #[] #[] 1537 3 #[] #[])
  fields := #[]
  methods := #[]
  instanceTypes := #[]
  staticTypes := #[]
  resolved := Array.replicate 12 none
  statics := none }

def pool7 : Array CpInfo := pool [(1, .class_ 2), (0, u "java/lang/constant/Constable"), (0, .class_ 4), (0, u "java/lang/Object")] 6

/-- java/lang/constant/Constable -/
def k7 : Class := { plain "java/lang/constant/Constable" (some 0) with
  accessFlags := 1537
  interfaces := #[]
  cf := some (fileOf pool7 1 #[] #[] 1537 3 #[] #[])
  fields := #[]
  methods := #[]
  instanceTypes := #[]
  staticTypes := #[]
  resolved := Array.replicate 11 none
  statics := none }

def pool8 : Array CpInfo := pool [(1, .class_ 2), (0, u "java/lang/constant/ConstantDesc"), (0, .class_ 4), (0, u "java/lang/Object")] 32

/-- java/lang/constant/ConstantDesc -/
def k8 : Class := { plain "java/lang/constant/ConstantDesc" (some 0) with
  accessFlags := 1537
  interfaces := #[]
  cf := some (fileOf pool8 1 #[] #[] 1537 3 #[] #[])
  fields := #[]
  methods := #[]
  instanceTypes := #[]
  staticTypes := #[]
  resolved := Array.replicate 37 none
  statics := none }

def pool9 : Array CpInfo := pool [(1, .class_ 2), (0, u "java/lang/Long"), (55, .nameAndType 59 60), (0, u "<init>"), (0, u "()V"), (24, u "valueOf"), (143, u "(J)Ljava/lang/Long;"), (0, .long 18446744073709551488), (1, .long 127), (1, .fieldref 235 236), (0, .class_ 237), (0, .nameAndType 238 239), (0, u "java/lang/Long$LongCache"), (0, u "cache"), (0, u "[Ljava/lang/Long;"), (0, .methodref 1 241), (0, .nameAndType 59 242), (0, u "(J)V"), (27, .methodref 271 58), (0, .class_ 272), (0, u "java/lang/Number"), (0, .fieldref 1 274), (0, .nameAndType 275 276), (0, u "value"), (0, u "J"), (84, u "TYPE"), (0, u "Ljava/lang/Class;"), (0, .class_ 364), (0, u "java/lang/Comparable"), (0, .class_ 366), (0, u "java/lang/constant/Constable"), (0, .class_ 368), (0, u "java/lang/constant/ConstantDesc"), (0, u "MIN_VALUE"), (1, u "MAX_VALUE"), (4, u "SIZE"), (0, u "I"), (1, u "BYTES"), (1, u "serialVersionUID")] 142

def k9c0 : Code := { maxStack := 4, maxLocals := 3, code := jdk_35_method_24_code, exceptionTable := #[], attributes := #[] }
def k9m0 : Method := { name := "valueOf", desc := "(J)Ljava/lang/Long;", sig := { parameters := [.long], returnType := some (.object "java/lang/Long") }, accessFlags := 9, code := some k9c0 }
def k9c1 : Code := { maxStack := 3, maxLocals := 3, code := jdk_35_method_26_code, exceptionTable := #[], attributes := #[] }
def k9m1 : Method := { name := "<init>", desc := "(J)V", sig := { parameters := [.long], returnType := none }, accessFlags := 1, code := some k9c1 }
/-- java/lang/Long -/
def k9 : Class := { plain "java/lang/Long" (some 5) with
  accessFlags := 49
  interfaces := #[6, 7, 8]
  cf := some (fileOf pool9 1 #[.nestMembers #[235]] #[{ accessFlags := 9, nameIndex := 85, descriptorIndex := 229, attributes := #[] }, { accessFlags := 1, nameIndex := 59, descriptorIndex := 242, attributes := #[] }] 49 271 #[363, 365, 367] #[{ accessFlags := 25, nameIndex := 369, descriptorIndex := 276, attributes := #[] }, { accessFlags := 25, nameIndex := 371, descriptorIndex := 276, attributes := #[] }, { accessFlags := 25, nameIndex := 361, descriptorIndex := 362, attributes := #[] }, { accessFlags := 18, nameIndex := 275, descriptorIndex := 276, attributes := #[] }, { accessFlags := 25, nameIndex := 376, descriptorIndex := 377, attributes := #[] }, { accessFlags := 25, nameIndex := 379, descriptorIndex := 377, attributes := #[] }, { accessFlags := 26, nameIndex := 381, descriptorIndex := 276, attributes := #[] }])
  fields := #[{ name := "MIN_VALUE", type := .long, accessFlags := 25, slot := 0, constantValue := 0 }, { name := "MAX_VALUE", type := .long, accessFlags := 25, slot := 1, constantValue := 0 }, { name := "TYPE", type := (.object "java/lang/Class"), accessFlags := 25, slot := 2, constantValue := 0 }, { name := "value", type := .long, accessFlags := 18, slot := 0, constantValue := 0 }, { name := "SIZE", type := .int, accessFlags := 25, slot := 3, constantValue := 0 }, { name := "BYTES", type := .int, accessFlags := 25, slot := 4, constantValue := 0 }, { name := "serialVersionUID", type := .long, accessFlags := 26, slot := 5, constantValue := 0 }]
  methods := #[k9m0, k9m1]
  instanceTypes := #[.long]
  staticTypes := #[.long, .long, (.object "java/lang/Class"), .int, .int, .long]
  resolved := Array.replicate 524 none
  statics := none }

def pool10 : Array CpInfo := pool [(2, .class_ 4), (1, u "java/lang/Object"), (0, u "<init>"), (0, u "()V"), (0, .class_ 8), (0, u "java/lang/Long"), (7, .class_ 18), (1, u "java/lang/Long$LongCache"), (0, u "$assertionsDisabled"), (0, u "Z"), (8, u "archivedCache"), (0, u "[Ljava/lang/Long;"), (7, u "cache")] 24

def k10m0 : Method := { name := "<init>", desc := "()V", sig := { parameters := [], returnType := none }, accessFlags := 2, code := none }
/-- java/lang/Long$LongCache -/
def k10 : Class := { plain "java/lang/Long$LongCache" (some 0) with
  accessFlags := 48
  interfaces := #[]
  cf := some (fileOf pool10 16 #[.nestHost 7] #[{ accessFlags := 2, nameIndex := 5, descriptorIndex := 6, attributes := #[] }] 48 2 #[] #[{ accessFlags := 24, nameIndex := 38, descriptorIndex := 30, attributes := #[] }, { accessFlags := 8, nameIndex := 29, descriptorIndex := 30, attributes := #[] }, { accessFlags := 4120, nameIndex := 19, descriptorIndex := 20, attributes := #[] }])
  fields := #[{ name := "cache", type := (.array (.object "java/lang/Long")), accessFlags := 24, slot := 0, constantValue := 0 }, { name := "archivedCache", type := (.array (.object "java/lang/Long")), accessFlags := 8, slot := 1, constantValue := 0 }, { name := "$assertionsDisabled", type := .boolean, accessFlags := 4120, slot := 2, constantValue := 0 }]
  methods := #[k10m0]
  instanceTypes := #[]
  staticTypes := #[(.array (.object "java/lang/Long")), (.array (.object "java/lang/Long")), .boolean]
  resolved := Array.replicate 63 none
  statics := some 0 }

def pool11 : Array CpInfo := pool [(1, u "java/lang/Cloneable"), (0, .class_ 1), (0, u "java/lang/Object"), (0, .class_ 3)] 3

/-- java/lang/Cloneable -/
def k11 : Class := { plain "java/lang/Cloneable" (some 0) with
  accessFlags := 1537
  interfaces := #[]
  cf := some (fileOf pool11 2 #[] #[] 1537 4 #[] #[])
  fields := #[]
  methods := #[]
  instanceTypes := #[]
  staticTypes := #[]
  resolved := Array.replicate 8 none
  statics := none }

/-- the primitive byte -/
def k12 : Class := { plain "byte" none with kind := .primitive 'B', accessFlags := 0x411 }
/-- [B -/
def k13 : Class := { plain "[B" (some 0) with kind := .array 12 .byte, interfaces := #[11, 4], accessFlags := 1041 }

/-- the primitive int -/
def k14 : Class := { plain "int" none with kind := .primitive 'I', accessFlags := 0x411 }
/-- [I -/
def k15 : Class := { plain "[I" (some 0) with kind := .array 14 .int, interfaces := #[11, 4], accessFlags := 1041 }

/-- [Ljava/lang/Long; -/
def k16 : Class := { plain "[Ljava/lang/Long;" (some 0) with kind := .array 9 (.object "java/lang/Long"), interfaces := #[11, 4], accessFlags := 1041 }

def heap : Heap := #[{ cls := 10, slots := #[.ref 1, .null, .int 0], vm := .statics 10 },
  { cls := 16, slots := #[.ref 2, .ref 3, .ref 4, .ref 5, .ref 6, .ref 7, .ref 8, .ref 9, .ref 10, .ref 11, .ref 12, .ref 13, .ref 14, .ref 15, .ref 16, .ref 17, .ref 18, .ref 19, .ref 20, .ref 21, .ref 22, .ref 23, .ref 24, .ref 25, .ref 26, .ref 27, .ref 28, .ref 29, .ref 30, .ref 31, .ref 32, .ref 33, .ref 34, .ref 35, .ref 36, .ref 37, .ref 38, .ref 39, .ref 40, .ref 41, .ref 42, .ref 43, .ref 44, .ref 45, .ref 46, .ref 47, .ref 48, .ref 49, .ref 50, .ref 51, .ref 52, .ref 53, .ref 54, .ref 55, .ref 56, .ref 57, .ref 58, .ref 59, .ref 60, .ref 61, .ref 62, .ref 63, .ref 64, .ref 65, .ref 66, .ref 67, .ref 68, .ref 69, .ref 70, .ref 71, .ref 72, .ref 73, .ref 74, .ref 75, .ref 76, .ref 77, .ref 78, .ref 79, .ref 80, .ref 81, .ref 82, .ref 83, .ref 84, .ref 85, .ref 86, .ref 87, .ref 88, .ref 89, .ref 90, .ref 91, .ref 92, .ref 93, .ref 94, .ref 95, .ref 96, .ref 97, .ref 98, .ref 99, .ref 100, .ref 101, .ref 102, .ref 103, .ref 104, .ref 105, .ref 106, .ref 107, .ref 108, .ref 109, .ref 110, .ref 111, .ref 112, .ref 113, .ref 114, .ref 115, .ref 116, .ref 117, .ref 118, .ref 119, .ref 120, .ref 121, .ref 122, .ref 123, .ref 124, .ref 125, .ref 126, .ref 127, .ref 128, .ref 129, .ref 130, .ref 131, .ref 132, .ref 133, .ref 134, .ref 135, .ref 136, .ref 137, .ref 138, .ref 139, .ref 140, .ref 141, .ref 142, .ref 143, .ref 144, .ref 145, .ref 146, .ref 147, .ref 148, .ref 149, .ref 150, .ref 151, .ref 152, .ref 153, .ref 154, .ref 155, .ref 156, .ref 157, .ref 158, .ref 159, .ref 160, .ref 161, .ref 162, .ref 163, .ref 164, .ref 165, .ref 166, .ref 167, .ref 168, .ref 169, .ref 170, .ref 171, .ref 172, .ref 173, .ref 174, .ref 175, .ref 176, .ref 177, .ref 178, .ref 179, .ref 180, .ref 181, .ref 182, .ref 183, .ref 184, .ref 185, .ref 186, .ref 187, .ref 188, .ref 189, .ref 190, .ref 191, .ref 192, .ref 193, .ref 194, .ref 195, .ref 196, .ref 197, .ref 198, .ref 199, .ref 200, .ref 201, .ref 202, .ref 203, .ref 204, .ref 205, .ref 206, .ref 207, .ref 208, .ref 209, .ref 210, .ref 211, .ref 212, .ref 213, .ref 214, .ref 215, .ref 216, .ref 217, .ref 218, .ref 219, .ref 220, .ref 221, .ref 222, .ref 223, .ref 224, .ref 225, .ref 226, .ref 227, .ref 228, .ref 229, .ref 230, .ref 231, .ref 232, .ref 233, .ref 234, .ref 235, .ref 236, .ref 237, .ref 238, .ref 239, .ref 240, .ref 241, .ref 242, .ref 243, .ref 244, .ref 245, .ref 246, .ref 247, .ref 248, .ref 249, .ref 250, .ref 251, .ref 252, .ref 253, .ref 254, .ref 255, .ref 256, .ref 257], vm := .none },
  { cls := 9, slots := #[.long (-128)], vm := .none },
  { cls := 9, slots := #[.long (-127)], vm := .none },
  { cls := 9, slots := #[.long (-126)], vm := .none },
  { cls := 9, slots := #[.long (-125)], vm := .none },
  { cls := 9, slots := #[.long (-124)], vm := .none },
  { cls := 9, slots := #[.long (-123)], vm := .none },
  { cls := 9, slots := #[.long (-122)], vm := .none },
  { cls := 9, slots := #[.long (-121)], vm := .none },
  { cls := 9, slots := #[.long (-120)], vm := .none },
  { cls := 9, slots := #[.long (-119)], vm := .none },
  { cls := 9, slots := #[.long (-118)], vm := .none },
  { cls := 9, slots := #[.long (-117)], vm := .none },
  { cls := 9, slots := #[.long (-116)], vm := .none },
  { cls := 9, slots := #[.long (-115)], vm := .none },
  { cls := 9, slots := #[.long (-114)], vm := .none },
  { cls := 9, slots := #[.long (-113)], vm := .none },
  { cls := 9, slots := #[.long (-112)], vm := .none },
  { cls := 9, slots := #[.long (-111)], vm := .none },
  { cls := 9, slots := #[.long (-110)], vm := .none },
  { cls := 9, slots := #[.long (-109)], vm := .none },
  { cls := 9, slots := #[.long (-108)], vm := .none },
  { cls := 9, slots := #[.long (-107)], vm := .none },
  { cls := 9, slots := #[.long (-106)], vm := .none },
  { cls := 9, slots := #[.long (-105)], vm := .none },
  { cls := 9, slots := #[.long (-104)], vm := .none },
  { cls := 9, slots := #[.long (-103)], vm := .none },
  { cls := 9, slots := #[.long (-102)], vm := .none },
  { cls := 9, slots := #[.long (-101)], vm := .none },
  { cls := 9, slots := #[.long (-100)], vm := .none },
  { cls := 9, slots := #[.long (-99)], vm := .none },
  { cls := 9, slots := #[.long (-98)], vm := .none },
  { cls := 9, slots := #[.long (-97)], vm := .none },
  { cls := 9, slots := #[.long (-96)], vm := .none },
  { cls := 9, slots := #[.long (-95)], vm := .none },
  { cls := 9, slots := #[.long (-94)], vm := .none },
  { cls := 9, slots := #[.long (-93)], vm := .none },
  { cls := 9, slots := #[.long (-92)], vm := .none },
  { cls := 9, slots := #[.long (-91)], vm := .none },
  { cls := 9, slots := #[.long (-90)], vm := .none },
  { cls := 9, slots := #[.long (-89)], vm := .none },
  { cls := 9, slots := #[.long (-88)], vm := .none },
  { cls := 9, slots := #[.long (-87)], vm := .none },
  { cls := 9, slots := #[.long (-86)], vm := .none },
  { cls := 9, slots := #[.long (-85)], vm := .none },
  { cls := 9, slots := #[.long (-84)], vm := .none },
  { cls := 9, slots := #[.long (-83)], vm := .none },
  { cls := 9, slots := #[.long (-82)], vm := .none },
  { cls := 9, slots := #[.long (-81)], vm := .none },
  { cls := 9, slots := #[.long (-80)], vm := .none },
  { cls := 9, slots := #[.long (-79)], vm := .none },
  { cls := 9, slots := #[.long (-78)], vm := .none },
  { cls := 9, slots := #[.long (-77)], vm := .none },
  { cls := 9, slots := #[.long (-76)], vm := .none },
  { cls := 9, slots := #[.long (-75)], vm := .none },
  { cls := 9, slots := #[.long (-74)], vm := .none },
  { cls := 9, slots := #[.long (-73)], vm := .none },
  { cls := 9, slots := #[.long (-72)], vm := .none },
  { cls := 9, slots := #[.long (-71)], vm := .none },
  { cls := 9, slots := #[.long (-70)], vm := .none },
  { cls := 9, slots := #[.long (-69)], vm := .none },
  { cls := 9, slots := #[.long (-68)], vm := .none },
  { cls := 9, slots := #[.long (-67)], vm := .none },
  { cls := 9, slots := #[.long (-66)], vm := .none },
  { cls := 9, slots := #[.long (-65)], vm := .none },
  { cls := 9, slots := #[.long (-64)], vm := .none },
  { cls := 9, slots := #[.long (-63)], vm := .none },
  { cls := 9, slots := #[.long (-62)], vm := .none },
  { cls := 9, slots := #[.long (-61)], vm := .none },
  { cls := 9, slots := #[.long (-60)], vm := .none },
  { cls := 9, slots := #[.long (-59)], vm := .none },
  { cls := 9, slots := #[.long (-58)], vm := .none },
  { cls := 9, slots := #[.long (-57)], vm := .none },
  { cls := 9, slots := #[.long (-56)], vm := .none },
  { cls := 9, slots := #[.long (-55)], vm := .none },
  { cls := 9, slots := #[.long (-54)], vm := .none },
  { cls := 9, slots := #[.long (-53)], vm := .none },
  { cls := 9, slots := #[.long (-52)], vm := .none },
  { cls := 9, slots := #[.long (-51)], vm := .none },
  { cls := 9, slots := #[.long (-50)], vm := .none },
  { cls := 9, slots := #[.long (-49)], vm := .none },
  { cls := 9, slots := #[.long (-48)], vm := .none },
  { cls := 9, slots := #[.long (-47)], vm := .none },
  { cls := 9, slots := #[.long (-46)], vm := .none },
  { cls := 9, slots := #[.long (-45)], vm := .none },
  { cls := 9, slots := #[.long (-44)], vm := .none },
  { cls := 9, slots := #[.long (-43)], vm := .none },
  { cls := 9, slots := #[.long (-42)], vm := .none },
  { cls := 9, slots := #[.long (-41)], vm := .none },
  { cls := 9, slots := #[.long (-40)], vm := .none },
  { cls := 9, slots := #[.long (-39)], vm := .none },
  { cls := 9, slots := #[.long (-38)], vm := .none },
  { cls := 9, slots := #[.long (-37)], vm := .none },
  { cls := 9, slots := #[.long (-36)], vm := .none },
  { cls := 9, slots := #[.long (-35)], vm := .none },
  { cls := 9, slots := #[.long (-34)], vm := .none },
  { cls := 9, slots := #[.long (-33)], vm := .none },
  { cls := 9, slots := #[.long (-32)], vm := .none },
  { cls := 9, slots := #[.long (-31)], vm := .none },
  { cls := 9, slots := #[.long (-30)], vm := .none },
  { cls := 9, slots := #[.long (-29)], vm := .none },
  { cls := 9, slots := #[.long (-28)], vm := .none },
  { cls := 9, slots := #[.long (-27)], vm := .none },
  { cls := 9, slots := #[.long (-26)], vm := .none },
  { cls := 9, slots := #[.long (-25)], vm := .none },
  { cls := 9, slots := #[.long (-24)], vm := .none },
  { cls := 9, slots := #[.long (-23)], vm := .none },
  { cls := 9, slots := #[.long (-22)], vm := .none },
  { cls := 9, slots := #[.long (-21)], vm := .none },
  { cls := 9, slots := #[.long (-20)], vm := .none },
  { cls := 9, slots := #[.long (-19)], vm := .none },
  { cls := 9, slots := #[.long (-18)], vm := .none },
  { cls := 9, slots := #[.long (-17)], vm := .none },
  { cls := 9, slots := #[.long (-16)], vm := .none },
  { cls := 9, slots := #[.long (-15)], vm := .none },
  { cls := 9, slots := #[.long (-14)], vm := .none },
  { cls := 9, slots := #[.long (-13)], vm := .none },
  { cls := 9, slots := #[.long (-12)], vm := .none },
  { cls := 9, slots := #[.long (-11)], vm := .none },
  { cls := 9, slots := #[.long (-10)], vm := .none },
  { cls := 9, slots := #[.long (-9)], vm := .none },
  { cls := 9, slots := #[.long (-8)], vm := .none },
  { cls := 9, slots := #[.long (-7)], vm := .none },
  { cls := 9, slots := #[.long (-6)], vm := .none },
  { cls := 9, slots := #[.long (-5)], vm := .none },
  { cls := 9, slots := #[.long (-4)], vm := .none },
  { cls := 9, slots := #[.long (-3)], vm := .none },
  { cls := 9, slots := #[.long (-2)], vm := .none },
  { cls := 9, slots := #[.long (-1)], vm := .none },
  { cls := 9, slots := #[.long (0)], vm := .none },
  { cls := 9, slots := #[.long (1)], vm := .none },
  { cls := 9, slots := #[.long (2)], vm := .none },
  { cls := 9, slots := #[.long (3)], vm := .none },
  { cls := 9, slots := #[.long (4)], vm := .none },
  { cls := 9, slots := #[.long (5)], vm := .none },
  { cls := 9, slots := #[.long (6)], vm := .none },
  { cls := 9, slots := #[.long (7)], vm := .none },
  { cls := 9, slots := #[.long (8)], vm := .none },
  { cls := 9, slots := #[.long (9)], vm := .none },
  { cls := 9, slots := #[.long (10)], vm := .none },
  { cls := 9, slots := #[.long (11)], vm := .none },
  { cls := 9, slots := #[.long (12)], vm := .none },
  { cls := 9, slots := #[.long (13)], vm := .none },
  { cls := 9, slots := #[.long (14)], vm := .none },
  { cls := 9, slots := #[.long (15)], vm := .none },
  { cls := 9, slots := #[.long (16)], vm := .none },
  { cls := 9, slots := #[.long (17)], vm := .none },
  { cls := 9, slots := #[.long (18)], vm := .none },
  { cls := 9, slots := #[.long (19)], vm := .none },
  { cls := 9, slots := #[.long (20)], vm := .none },
  { cls := 9, slots := #[.long (21)], vm := .none },
  { cls := 9, slots := #[.long (22)], vm := .none },
  { cls := 9, slots := #[.long (23)], vm := .none },
  { cls := 9, slots := #[.long (24)], vm := .none },
  { cls := 9, slots := #[.long (25)], vm := .none },
  { cls := 9, slots := #[.long (26)], vm := .none },
  { cls := 9, slots := #[.long (27)], vm := .none },
  { cls := 9, slots := #[.long (28)], vm := .none },
  { cls := 9, slots := #[.long (29)], vm := .none },
  { cls := 9, slots := #[.long (30)], vm := .none },
  { cls := 9, slots := #[.long (31)], vm := .none },
  { cls := 9, slots := #[.long (32)], vm := .none },
  { cls := 9, slots := #[.long (33)], vm := .none },
  { cls := 9, slots := #[.long (34)], vm := .none },
  { cls := 9, slots := #[.long (35)], vm := .none },
  { cls := 9, slots := #[.long (36)], vm := .none },
  { cls := 9, slots := #[.long (37)], vm := .none },
  { cls := 9, slots := #[.long (38)], vm := .none },
  { cls := 9, slots := #[.long (39)], vm := .none },
  { cls := 9, slots := #[.long (40)], vm := .none },
  { cls := 9, slots := #[.long (41)], vm := .none },
  { cls := 9, slots := #[.long (42)], vm := .none },
  { cls := 9, slots := #[.long (43)], vm := .none },
  { cls := 9, slots := #[.long (44)], vm := .none },
  { cls := 9, slots := #[.long (45)], vm := .none },
  { cls := 9, slots := #[.long (46)], vm := .none },
  { cls := 9, slots := #[.long (47)], vm := .none },
  { cls := 9, slots := #[.long (48)], vm := .none },
  { cls := 9, slots := #[.long (49)], vm := .none },
  { cls := 9, slots := #[.long (50)], vm := .none },
  { cls := 9, slots := #[.long (51)], vm := .none },
  { cls := 9, slots := #[.long (52)], vm := .none },
  { cls := 9, slots := #[.long (53)], vm := .none },
  { cls := 9, slots := #[.long (54)], vm := .none },
  { cls := 9, slots := #[.long (55)], vm := .none },
  { cls := 9, slots := #[.long (56)], vm := .none },
  { cls := 9, slots := #[.long (57)], vm := .none },
  { cls := 9, slots := #[.long (58)], vm := .none },
  { cls := 9, slots := #[.long (59)], vm := .none },
  { cls := 9, slots := #[.long (60)], vm := .none },
  { cls := 9, slots := #[.long (61)], vm := .none },
  { cls := 9, slots := #[.long (62)], vm := .none },
  { cls := 9, slots := #[.long (63)], vm := .none },
  { cls := 9, slots := #[.long (64)], vm := .none },
  { cls := 9, slots := #[.long (65)], vm := .none },
  { cls := 9, slots := #[.long (66)], vm := .none },
  { cls := 9, slots := #[.long (67)], vm := .none },
  { cls := 9, slots := #[.long (68)], vm := .none },
  { cls := 9, slots := #[.long (69)], vm := .none },
  { cls := 9, slots := #[.long (70)], vm := .none },
  { cls := 9, slots := #[.long (71)], vm := .none },
  { cls := 9, slots := #[.long (72)], vm := .none },
  { cls := 9, slots := #[.long (73)], vm := .none },
  { cls := 9, slots := #[.long (74)], vm := .none },
  { cls := 9, slots := #[.long (75)], vm := .none },
  { cls := 9, slots := #[.long (76)], vm := .none },
  { cls := 9, slots := #[.long (77)], vm := .none },
  { cls := 9, slots := #[.long (78)], vm := .none },
  { cls := 9, slots := #[.long (79)], vm := .none },
  { cls := 9, slots := #[.long (80)], vm := .none },
  { cls := 9, slots := #[.long (81)], vm := .none },
  { cls := 9, slots := #[.long (82)], vm := .none },
  { cls := 9, slots := #[.long (83)], vm := .none },
  { cls := 9, slots := #[.long (84)], vm := .none },
  { cls := 9, slots := #[.long (85)], vm := .none },
  { cls := 9, slots := #[.long (86)], vm := .none },
  { cls := 9, slots := #[.long (87)], vm := .none },
  { cls := 9, slots := #[.long (88)], vm := .none },
  { cls := 9, slots := #[.long (89)], vm := .none },
  { cls := 9, slots := #[.long (90)], vm := .none },
  { cls := 9, slots := #[.long (91)], vm := .none },
  { cls := 9, slots := #[.long (92)], vm := .none },
  { cls := 9, slots := #[.long (93)], vm := .none },
  { cls := 9, slots := #[.long (94)], vm := .none },
  { cls := 9, slots := #[.long (95)], vm := .none },
  { cls := 9, slots := #[.long (96)], vm := .none },
  { cls := 9, slots := #[.long (97)], vm := .none },
  { cls := 9, slots := #[.long (98)], vm := .none },
  { cls := 9, slots := #[.long (99)], vm := .none },
  { cls := 9, slots := #[.long (100)], vm := .none },
  { cls := 9, slots := #[.long (101)], vm := .none },
  { cls := 9, slots := #[.long (102)], vm := .none },
  { cls := 9, slots := #[.long (103)], vm := .none },
  { cls := 9, slots := #[.long (104)], vm := .none },
  { cls := 9, slots := #[.long (105)], vm := .none },
  { cls := 9, slots := #[.long (106)], vm := .none },
  { cls := 9, slots := #[.long (107)], vm := .none },
  { cls := 9, slots := #[.long (108)], vm := .none },
  { cls := 9, slots := #[.long (109)], vm := .none },
  { cls := 9, slots := #[.long (110)], vm := .none },
  { cls := 9, slots := #[.long (111)], vm := .none },
  { cls := 9, slots := #[.long (112)], vm := .none },
  { cls := 9, slots := #[.long (113)], vm := .none },
  { cls := 9, slots := #[.long (114)], vm := .none },
  { cls := 9, slots := #[.long (115)], vm := .none },
  { cls := 9, slots := #[.long (116)], vm := .none },
  { cls := 9, slots := #[.long (117)], vm := .none },
  { cls := 9, slots := #[.long (118)], vm := .none },
  { cls := 9, slots := #[.long (119)], vm := .none },
  { cls := 9, slots := #[.long (120)], vm := .none },
  { cls := 9, slots := #[.long (121)], vm := .none },
  { cls := 9, slots := #[.long (122)], vm := .none },
  { cls := 9, slots := #[.long (123)], vm := .none },
  { cls := 9, slots := #[.long (124)], vm := .none },
  { cls := 9, slots := #[.long (125)], vm := .none },
  { cls := 9, slots := #[.long (126)], vm := .none },
  { cls := 9, slots := #[.long (127)], vm := .none }]
def classes : Array Class := #[k0, k1, k2, k3, k4, k5, k6, k7, k8, k9, k10, k11, k12, k13, k14, k15, k16]
def interned : List (Array UInt16 × Addr) := []
def slotsUsed : Nat := 515
def theMethod : MethodId := ⟨1, 2⟩
def args0 : Array Value := #[.long 5, .long 4, .long 5, .int 4, .int 0, .long 7]
def aboutOver (below : List Frame) : State where
  vm := { classes := classes, interned := interned.toArray }
  heap := heap
  slotsUsed := slotsUsed
  threads := #[{ frames := .invoking theMethod args0 :: below }]
def below0 : List Frame := [.native { method := ⟨0, 0⟩, args := #[] }]
def about1 : State := aboutOver below0
def p0 : Program := .bare "" "" ""
def e0 : Env := launch0.env 0 0 0
theorem w_frames : about1.frames = Frame.invoking theMethod args0 :: below0 := rfl
set_option maxRecDepth 65536 in
theorem w_args : argsFit about1.vm theMethod args0 = true := by decide +kernel
set_option maxRecDepth 65536 in
theorem w_heap : heapFits about1 = true := by decide +kernel
set_option maxRecDepth 65536 in
theorem w_runnable : about1.curStatus? = some .runnable := by decide +kernel
set_option maxRecDepth 65536 in
theorem w_alone : about1.alone = true := by decide +kernel
set_option maxRecDepth 65536 in
theorem w_named : about1.methodNamed? x = some theMethod := by decide +kernel
set_option maxRecDepth 65536 in
theorem w_hears : about1.hears theMethod below0 = true := by decide +kernel
set_option maxRecDepth 65536 in
theorem w_ripe : about1.ripe theMethod args0 below0 = true := by decide +kernel
theorem w_running : about1.status = .running := rfl
set_option maxRecDepth 65536 in
theorem w_room : about1.hasRoom e0.platform room_1 = true :=
  launch0.hasRoom_least _ room_1 (by decide +kernel) (by decide +kernel) (by decide +kernel) (by decide +kernel) (by decide +kernel) (by decide +kernel)
theorem allAtoms_all (ts : List Jvm.Cond) (a : Array Jvm.Value) (st : Jvm.State) : (allAtoms ts).before a st = ts.all (fun c => c.before a st) := by
  induction ts with
  | nil => rfl
  | cons c t ih =>
    show (Jvm.Cond.and c (allAtoms t)).before a st = _
    rw [Jvm.Cond.before_and, ih, List.all_cons]
def words1 : List Jvm.Cond := Jvm.Cond.code x code maxLocals ret :: tables_1
/-- a 'code' word, met by the world's own term for the bytes: nothing is compared byte by byte -/
theorem code_word {y : MethodName} {bytes : ByteArray} {mx : Nat} {rt : Option FieldType} {a : Array Value} {s : State} {m : MethodId} {meth : Method} {c : Code} (h1 : s.methodNamed? y = some m) (h2 : s.vm.method? m = some meth) (h3 : meth.code = some c) (h4 : c.code = bytes)
    (h5 : (c.maxLocals == mx && c.exceptionTable.isEmpty && decide (c.maxStack ≤ mostOperands) && decide (meth.sig.returnType = rt) && !meth.locks && decide (parseMethodDescriptor y.desc = some meth.sig)) = true) : (Jvm.Cond.code y bytes mx rt).before a s = true := by
  simp only [Bool.and_eq_true, beq_iff_eq, Bool.not_eq_true', decide_eq_true_eq] at h5
  obtain ⟨⟨⟨⟨⟨g1, g2⟩, g3⟩, g4⟩, g5⟩, g6⟩ := h5
  simp [Cond.before, Cond.holds, Cond.value, h1, h2, h3, h4, g1, g2, g3, g4, g5, g6]
def isCode : Jvm.Cond → Bool
  | .code _ _ _ _ => true
  | _ => false
theorem all_split {L : List Jvm.Cond} {P : Jvm.Cond → Bool} (h1 : L.all (fun c => isCode c || P c) = true) (h2 : ∀ c ∈ L.filter isCode, P c = true) : L.all P = true := by
  refine List.all_eq_true.mpr fun c hc => ?_
  have h := List.all_eq_true.mp h1 c hc
  rcases Bool.eq_false_or_eq_true (isCode c) with hi | hi
  · exact h2 c (List.mem_filter.mpr ⟨hc, hi⟩)
  · simpa [hi] using h
set_option maxRecDepth 65536 in
theorem w_c0 : (Jvm.Cond.code x code maxLocals ret).before args0 about1 = true := code_word (m := ⟨1, 2⟩) (meth := k1m2) (c := k1c2) (by decide +kernel) rfl rfl rfl (by decide +kernel)
set_option maxRecDepth 65536 in
theorem w_c1 : (Jvm.Cond.code ({ cls := "com/example/opledger/opledger/CheckpointEqualsPinLaw", name := "oldValue", desc := "(IJJJI)J" } : Jvm.MethodName) method_2_code (8 : Nat) (Option.some Jvm.ClassFile.FieldType.long)).before args0 about1 = true := code_word (m := ⟨1, 1⟩) (meth := k1m1) (c := k1c1) (by decide +kernel) rfl rfl rfl (by decide +kernel)
set_option maxRecDepth 65536 in
theorem w_c2 : (Jvm.Cond.code ({ cls := "com/example/opledger/opledger/Checkpoint", name := "<init>", desc := "(JIJJJJJJ)V" } : Jvm.MethodName) prog_2_method_1_code (16 : Nat) (Option.none : Option Jvm.ClassFile.FieldType)).before args0 about1 = true := code_word (m := ⟨3, 0⟩) (meth := k3m0) (c := k3c0) (by decide +kernel) rfl rfl rfl (by decide +kernel)
set_option maxRecDepth 65536 in
theorem w_c3 : (Jvm.Cond.code ({ cls := "java/lang/Record", name := "<init>", desc := "()V" } : Jvm.MethodName) jdk_30_method_1_code (1 : Nat) (Option.none : Option Jvm.ClassFile.FieldType)).before args0 about1 = true := code_word (m := ⟨2, 0⟩) (meth := k2m0) (c := k2c0) (by decide +kernel) rfl rfl rfl (by decide +kernel)
set_option maxRecDepth 65536 in
theorem w_c4 : (Jvm.Cond.code ({ cls := "java/lang/Object", name := "<init>", desc := "()V" } : Jvm.MethodName) object_method_1_code (1 : Nat) (Option.none : Option Jvm.ClassFile.FieldType)).before args0 about1 = true := code_word (m := ⟨0, 0⟩) (meth := k0m0) (c := k0c0) (by decide +kernel) rfl rfl rfl (by decide +kernel)
set_option maxRecDepth 65536 in
theorem w_c5 : (Jvm.Cond.code ({ cls := "com/example/opledger/opledger/Checkpoint", name := "equals", desc := "(Ljava/lang/Object;)Z" } : Jvm.MethodName) prog_2_method_9_code (3 : Nat) (Option.some Jvm.ClassFile.FieldType.boolean)).before args0 about1 = true := code_word (m := ⟨3, 1⟩) (meth := k3m1) (c := k3c1) (by decide +kernel) rfl rfl rfl (by decide +kernel)
set_option maxRecDepth 65536 in
theorem w_c6 : (Jvm.Cond.code ({ cls := "java/lang/Long", name := "valueOf", desc := "(J)Ljava/lang/Long;" } : Jvm.MethodName) jdk_35_method_24_code (3 : Nat) (Option.some (Jvm.ClassFile.FieldType.object "java/lang/Long"))).before args0 about1 = true := code_word (m := ⟨9, 0⟩) (meth := k9m0) (c := k9c0) (by decide +kernel) rfl rfl rfl (by decide +kernel)
set_option maxRecDepth 65536 in
theorem w_c7 : (Jvm.Cond.code ({ cls := "java/lang/Long", name := "<init>", desc := "(J)V" } : Jvm.MethodName) jdk_35_method_26_code (3 : Nat) (Option.none : Option Jvm.ClassFile.FieldType)).before args0 about1 = true := code_word (m := ⟨9, 1⟩) (meth := k9m1) (c := k9c1) (by decide +kernel) rfl rfl rfl (by decide +kernel)
set_option maxRecDepth 65536 in
theorem w_c8 : (Jvm.Cond.code ({ cls := "java/lang/Number", name := "<init>", desc := "()V" } : Jvm.MethodName) jdk_18_method_1_code (1 : Nat) (Option.none : Option Jvm.ClassFile.FieldType)).before args0 about1 = true := code_word (m := ⟨5, 0⟩) (meth := k5m0) (c := k5c0) (by decide +kernel) rfl rfl rfl (by decide +kernel)
def codes1 : List Jvm.Cond := [Jvm.Cond.code x code maxLocals ret, Jvm.Cond.code ({ cls := "com/example/opledger/opledger/CheckpointEqualsPinLaw", name := "oldValue", desc := "(IJJJI)J" } : Jvm.MethodName) method_2_code (8 : Nat) (Option.some Jvm.ClassFile.FieldType.long), Jvm.Cond.code ({ cls := "com/example/opledger/opledger/Checkpoint", name := "<init>", desc := "(JIJJJJJJ)V" } : Jvm.MethodName) prog_2_method_1_code (16 : Nat) (Option.none : Option Jvm.ClassFile.FieldType), Jvm.Cond.code ({ cls := "java/lang/Record", name := "<init>", desc := "()V" } : Jvm.MethodName) jdk_30_method_1_code (1 : Nat) (Option.none : Option Jvm.ClassFile.FieldType), Jvm.Cond.code ({ cls := "java/lang/Object", name := "<init>", desc := "()V" } : Jvm.MethodName) object_method_1_code (1 : Nat) (Option.none : Option Jvm.ClassFile.FieldType), Jvm.Cond.code ({ cls := "com/example/opledger/opledger/Checkpoint", name := "equals", desc := "(Ljava/lang/Object;)Z" } : Jvm.MethodName) prog_2_method_9_code (3 : Nat) (Option.some Jvm.ClassFile.FieldType.boolean), Jvm.Cond.code ({ cls := "java/lang/Long", name := "valueOf", desc := "(J)Ljava/lang/Long;" } : Jvm.MethodName) jdk_35_method_24_code (3 : Nat) (Option.some (Jvm.ClassFile.FieldType.object "java/lang/Long")), Jvm.Cond.code ({ cls := "java/lang/Long", name := "<init>", desc := "(J)V" } : Jvm.MethodName) jdk_35_method_26_code (3 : Nat) (Option.none : Option Jvm.ClassFile.FieldType), Jvm.Cond.code ({ cls := "java/lang/Number", name := "<init>", desc := "()V" } : Jvm.MethodName) jdk_18_method_1_code (1 : Nat) (Option.none : Option Jvm.ClassFile.FieldType)]
set_option maxRecDepth 65536 in
theorem codes_eq : words1.filter isCode = codes1 := rfl
theorem w_codes : ∀ c ∈ words1.filter isCode, c.before args0 about1 = true := by
  rw [codes_eq]
  intro c hc
  simp only [codes1, List.mem_cons, List.not_mem_nil, or_false] at hc
  rcases hc with rfl | rfl | rfl | rfl | rfl | rfl | rfl | rfl | rfl
  · exact w_c0
  · exact w_c1
  · exact w_c2
  · exact w_c3
  · exact w_c4
  · exact w_c5
  · exact w_c6
  · exact w_c7
  · exact w_c8
set_option maxRecDepth 65536 in
theorem w_t1 : (words1.take 24).all (fun c => isCode c || c.before args0 about1) = true := by decide +kernel
set_option maxRecDepth 65536 in
theorem w_t2 : ((words1.drop 24).take 24).all (fun c => isCode c || c.before args0 about1) = true := by decide +kernel
set_option maxRecDepth 65536 in
theorem w_t3 : ((words1.drop 24).drop 24).all (fun c => isCode c || c.before args0 about1) = true := by decide +kernel
theorem w_tables : (allAtoms (Jvm.Cond.code x code maxLocals ret :: tables_1)).before args0 about1 = true := by
  rw [allAtoms_all]
  show words1.all (fun c => c.before args0 about1) = true
  refine all_split ?_ w_codes
  rw [← List.take_append_drop 24 words1, List.all_append, w_t1, ← List.take_append_drop 24 (words1.drop 24), List.all_append, w_t2, w_t3]
  rfl
set_option maxRecDepth 65536 in
theorem w_rest : rest_1_c.before args0 about1 = true := by decide +kernel
set_option maxRecDepth 65536 in
theorem w_case : (Jvm.Cond.and given_1 narrow_1).before args0 about1 = true := by decide +kernel
theorem w_applies : (headSpec (Jvm.Cond.code x code maxLocals ret :: tables_1) room_1).applies x e0.platform about1 = true :=
  (Spec.applies_iff w_frames).mpr ⟨w_running, w_runnable, w_alone, w_named, w_hears, w_ripe, w_room, w_tables⟩
theorem atStart : AtStart classFile x code maxLocals ret World_1 tables_1 room_1 Calls_1 rest_1 Pre_1 launch0 p0 e0 about1 theMethod args0 below0 :=
  ⟨lists_1, trivial, launch0.admits_env _ _ _, launch0.least_env, fairChoices_fair.cas, fairChoices_fair.clock, w_frames, w_args, w_heap, w_applies, trivial, w_rest, w_case⟩
end start1
theorem witness_1 : WitnessClaimed_1 := ⟨start1.p0, start1.e0, start1.about1, start1.theMethod, start1.args0, start1.below0, start1.atStart⟩
end Jvm.Pilot.@@N@@
