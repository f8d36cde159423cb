import JvmDerived
import JvmDerived.Pilot.@@N@@Statement
import JvmDerived.Pilot.@@N@@Code
set_option linter.unusedVariables false
set_option linter.unusedSimpArgs false
namespace Jvm.Pilot.@@N@@
open Jvm Jvm.ClassFile Sem Op Lib Jvm.Free Jvm.Stand Jvm.LawKit Jvm.RoadKit Bundle Jvm.Pilot.@@N@@.Jvm.D
/-- a predicate that goes backwards over the machine's steps -/
def OwnAdv (p : Program) (e : Env) (below : List Frame) (G : State → Prop) : Prop := ∀ A B : State, (∀ t, Steps p.tables e below B t → Steps p.tables e below A t) → G B → G A
/-- what a return must show -/
def OwnFin (p : Program) (l : Launch) (e : Env) (R : Room) (s : State) (m : MethodId) (args : Array Value) (below : List Frame) (meth : Method) (c : Code) (G : State → Prop) (Q : Option Value → Heap → List Loc → Prop) (kc ks : Nat) : Prop :=
  ∀ (A T : State) (locs : List Loc) (cells slots : Nat) (v : Option Value) (h : Heap), Stand p l e R s m args below meth c T locs cells slots → T.heap = h → (meth.sig.returnType = none → v = none) → cells ≤ kc → slots ≤ ks → Q v h locs →
    (∀ fs : List Frame, (∀ (f : JFrame) (acts : List Action), f.method = m → f.locked = none → f.entered = [] → (doReturn e (T.setTop f) acts v).1 = T.setFrames fs) → Steps p.tables e below A (T.setFrames fs)) → G A
theorem own_body {l : Launch} {y : MethodName} {bytes : ByteArray} {maxL : Nat} {rt : Option FieldType} {ws : List Jvm.Cond} {rm : Room} {as' : Array Value} {Z : State} {h0 : Heap} {Q : Option Value → Heap → List Loc → Prop} (hpl : plainFor y = true)
    (body : ∀ (p : Program) (e : Env) (s : State) (m : MethodId) (below : List Frame) (meth : Method) (c : Code) (s₁ : State) (G : State → Prop), Stand p l e rm s m as' below meth c s₁ [] 0 0 → p.tables.exec = Jvm.exec → Z.Warmed39 s.vm → c.code = bytes → c.maxLocals = maxL → s.vm.findClass y.cls = some m.cls → meth.name = y.name → meth.sig.returnType = rt → s₁.heap = h0 →
      OwnAdv p e below G → OwnFin p l e rm s m as' below meth c G Q rm.cells rm.slots → G (s₁.setTop (entryFrame m as' maxL))) :
    MetFree l y (head1 (Jvm.Cond.code y bytes maxL rt :: ws) rm) (fun a U => a = as' ∧ Z.Warmed39 U.vm ∧ U.heap = h0) (fun _ _ _ _ _ => True) (fun _ U o U' => ∃ v L, o = .returned v ∧ Q v U'.heap L ∧ FrameEnd U o U' L rm.cells rm.slots) := by
  refine MetFree.of_bodySF hpl hisR ?_
  intro p e s m args below meth c s₁ Bd hml0 hP hK
  obtain ⟨rfl, hZ, hh⟩ := hP
  have e0 : s₁.heap = h0 := by rw [← hh, Bd.state]; rfl
  refine body p e s m below meth c s₁ (fun A => ∃ s₂ o, Steps p.tables e below A s₂ ∧ s₂.status = .running ∧ Ended s₂ below o ∧ ∃ v L, o = .returned v ∧ Q v s₂.heap L ∧ FrameEnd s o s₂ L rm.cells rm.slots) (Stand.of_body Bd) Bd.exec hZ Bd.bytes hml0 (findClass_of_methodNamed Bd.named) (name_of_methodNamed Bd.named Bd.method).1 Bd.returns e0 ?_ ?_
  · intro A B h g
    obtain ⟨t, o, st, r⟩ := g
    exact ⟨t, o, h t st, r⟩
  · intro A T locs cells slots v h X eT hv hc hl hQ hs
    obtain ⟨fs, hr, hrun, hended, hW, hsame⟩ := X.leave (v := v) hv Bd.notSynchronized
    exact ⟨_, _, hs fs hr, hrun, hended, v, locs, rfl, (show Q v T.heap locs by rw [eT]; exact hQ), ⟨_, rfl⟩, hW, hsame.mono hc hl⟩
section OwnRet
variable {p : Program} {l : Launch} {e : Env} {R : Room} {s : State} {m : MethodId} {args : Array Value} {below : List Frame} {meth : Method} {c : Code} {T : State} {locs : List Loc} {cells slots : Nat}
theorem own_retI (X : Stand p l e R s m args below meth c T locs cells slots) (hx : p.tables.exec = Jvm.exec) {pc : Nat} {Ls : Array Slot} {z : Int32} {rest : List Value} (hret : meth.sig.returnType = some .int) (hd : decode c.code pc = .ok (.ireturn, 1)) {fs : List Frame}
    (hl : ∀ (f : JFrame) (acts : List Action), f.method = m → f.locked = none → f.entered = [] → (doReturn e (T.setTop f) acts (some (.int z))).1 = T.setFrames fs) : Steps p.tables e below (T.setTop (mkF m pc Ls (.int z :: rest))) (T.setFrames fs) :=
  retOut X hx hret rfl (Or.inl ⟨rfl, Or.inl rfl, z, rfl⟩) hd hl
theorem own_retJ (X : Stand p l e R s m args below meth c T locs cells slots) (hx : p.tables.exec = Jvm.exec) {pc : Nat} {Ls : Array Slot} {z : Int64} {rest : List Value} (hret : meth.sig.returnType = some .long) (hd : decode c.code pc = .ok (.lreturn, 1)) {fs : List Frame}
    (hl : ∀ (f : JFrame) (acts : List Action), f.method = m → f.locked = none → f.entered = [] → (doReturn e (T.setTop f) acts (some (.long z))).1 = T.setFrames fs) : Steps p.tables e below (T.setTop (mkF m pc Ls (.long z :: rest))) (T.setFrames fs) :=
  retOut X hx hret rfl (Or.inr (Or.inl ⟨rfl, rfl, z, rfl⟩)) hd hl
theorem own_retA (X : Stand p l e R s m args below meth c T locs cells slots) (hx : p.tables.exec = Jvm.exec) {pc : Nat} {Ls : Array Slot} {w : Value} {t : FieldType} {rest : List Value} (hret : meth.sig.returnType = some t) (ht : t.isReference = true) (hn : narrow t w = w) (hw : w.isRef = true) (hd : decode c.code pc = .ok (.areturn, 1)) {fs : List Frame}
    (hl : ∀ (f : JFrame) (acts : List Action), f.method = m → f.locked = none → f.entered = [] → (doReturn e (T.setTop f) acts (some w)).1 = T.setFrames fs) : Steps p.tables e below (T.setTop (mkF m pc Ls (w :: rest))) (T.setFrames fs) :=
  retOut X hx hret hn (Or.inr (Or.inr (Or.inr (Or.inr ⟨rfl, ht, hw⟩)))) hd hl
end OwnRet

theorem pd_0 : parseMethodDescriptor "(I)Lcom/example/concordat/concordat/core/TransactionType;" = some ⟨[.int], some (.object "com/example/concordat/concordat/core/TransactionType")⟩ := by decide +kernel
theorem pd_1 : parseMethodDescriptor "(Lcom/example/concordat/concordat/core/TransactionType;Lcom/example/concordat/concordat/core/TransactionType;Lcom/example/concordat/concordat/core/DocumentObject;Z)Lcom/example/concordat/concordat/core/ConflictRule;" = some ⟨[(.object "com/example/concordat/concordat/core/TransactionType"), (.object "com/example/concordat/concordat/core/TransactionType"), (.object "com/example/concordat/concordat/core/DocumentObject"), .boolean], some (.object "com/example/concordat/concordat/core/ConflictRule")⟩ := by decide +kernel
theorem pd_2 : parseMethodDescriptor "()Z" = some ⟨[], some .boolean⟩ := by decide +kernel
def own_type (wPA wPF wOP wKO wAU : Addr) (x : Int32) : Addr := if ((x &&& (2147483647 : Int32)) % (5 : Int32)) = (0 : Int32) then wPA else if ((x &&& (2147483647 : Int32)) % (5 : Int32)) = (1 : Int32) then wPF else if ((x &&& (2147483647 : Int32)) % (5 : Int32)) = (2 : Int32) then wOP else if ((x &&& (2147483647 : Int32)) % (5 : Int32)) = (3 : Int32) then wKO else wAU
theorem own_type5 (wPA wPF wOP wKO wAU : Addr) (x : Int32) {b : Addr} (h : b = own_type wPA wPF wOP wKO wAU x) : b = wPA ∨ b = wPF ∨ b = wOP ∨ b = wKO ∨ b = wAU := by
  unfold own_type at h
  split at h
  · exact Or.inl h
  · split at h
    · exact Or.inr (Or.inl h)
    · split at h
      · exact Or.inr (Or.inr (Or.inl h))
      · split at h
        · exact Or.inr (Or.inr (Or.inr (Or.inl h)))
        · exact Or.inr (Or.inr (Or.inr (Or.inr h)))
def own_dec (wOP wKO wAU wS r3 r4 r5 r6 r7 r8 r9 r10 : Addr) (a b o : Addr) (c : Int32) : Addr := if a = wOP ∨ b = wOP then r9 else if a = wAU ∨ b = wAU then r10 else if a = wKO ∧ b = wKO then r5 else if a = wKO ∧ o = wS then r8 else if a = wKO then (if c = (0 : Int32) then r6 else r7) else if b = wKO then r3 else r4
theorem own_L1 {wOP wKO wAU wS r3 r4 r5 r6 r7 r8 r9 r10 a b o : Addr} {c : Int32} (hK : ¬ a = wKO) (h3 : r3 ≠ r7) (g3 : r3 ≠ r8) (h4 : r4 ≠ r7) (g4 : r4 ≠ r8) (h9 : r9 ≠ r7) (g9 : r9 ≠ r8) (h10 : r10 ≠ r7) (g10 : r10 ≠ r8) : ¬ (own_dec wOP wKO wAU wS r3 r4 r5 r6 r7 r8 r9 r10 a b o c = r7 ∨ own_dec wOP wKO wAU wS r3 r4 r5 r6 r7 r8 r9 r10 a b o c = r8) := by
  unfold own_dec
  simp only [eq_false hK, false_and, if_false]
  by_cases q1 : a = wOP ∨ b = wOP
  · simp only [eq_true q1, if_true]; exact fun q => q.elim h9 g9
  · simp only [eq_false q1, if_false]
    by_cases q2 : a = wAU ∨ b = wAU
    · simp only [eq_true q2, if_true]; exact fun q => q.elim h10 g10
    · simp only [eq_false q2, if_false]
      by_cases q3 : b = wKO
      · simp only [eq_true q3, if_true]; exact fun q => q.elim h3 g3
      · simp only [eq_false q3, if_false]; exact fun q => q.elim h4 g4
theorem own_L2 {wOP wKO wAU wS r3 r4 r5 r6 r7 r8 r9 r10 b o : Addr} {c : Int32} (nO : wKO ≠ wOP) (nA : wKO ≠ wAU) (hb : b = wOP ∨ b = wKO ∨ b = wAU) (h5 : r5 ≠ r7) (g5 : r5 ≠ r8) (h9 : r9 ≠ r7) (g9 : r9 ≠ r8) (h10 : r10 ≠ r7) (g10 : r10 ≠ r8) : ¬ (own_dec wOP wKO wAU wS r3 r4 r5 r6 r7 r8 r9 r10 wKO b o c = r7 ∨ own_dec wOP wKO wAU wS r3 r4 r5 r6 r7 r8 r9 r10 wKO b o c = r8) := by
  unfold own_dec
  simp only [eq_false nO, eq_false nA, false_or, true_and]
  by_cases q1 : b = wOP
  · simp only [eq_true q1, if_true]; exact fun q => q.elim h9 g9
  · simp only [eq_false q1, if_false]
    by_cases q2 : b = wAU
    · simp only [eq_true q2, if_true]; exact fun q => q.elim h10 g10
    · simp only [eq_false q2, if_false]
      have q3 : b = wKO := hb.elim (fun z => absurd z q1) fun z => z.elim id fun z => absurd z q2
      simp only [eq_true q3, if_true]; exact fun q => q.elim h5 g5
theorem own_L3 {wOP wKO wAU wS r3 r4 r5 r6 r7 r8 r9 r10 b o : Addr} {c : Int32} (nO : wKO ≠ wOP) (nA : wKO ≠ wAU) (n1 : ¬ b = wOP) (n2 : ¬ b = wAU) (n3 : ¬ b = wKO) : own_dec wOP wKO wAU wS r3 r4 r5 r6 r7 r8 r9 r10 wKO b o c = if o = wS then r8 else if c = (0 : Int32) then r6 else r7 := by
  unfold own_dec
  simp only [eq_false nO, eq_false nA, eq_false n1, eq_false n2, eq_false n3, or_self, and_false, if_false, true_and, if_true]
theorem d1_0 : decode method_2_code 0 = .ok (.iload_n 0, 1) := by decide +kernel
theorem d1_1 : decode method_2_code 1 = .ok (.ldc 7, 2) := by decide +kernel
theorem d1_3 : decode method_2_code 3 = .ok (.iand, 1) := by decide +kernel
theorem d1_4 : decode method_2_code 4 = .ok (.iconst 5, 1) := by decide +kernel
theorem d1_5 : decode method_2_code 5 = .ok (.irem, 1) := by decide +kernel
theorem d1_6 : decode method_2_code 6 = .ok (.istore_n 1, 1) := by decide +kernel
theorem d1_7 : decode method_2_code 7 = .ok (.iload_n 1, 1) := by decide +kernel
theorem d1_8 : decode method_2_code 8 = .ok (.ifCond .ne 7, 3) := by decide +kernel
theorem d1_11 : decode method_2_code 11 = .ok (.getstatic 8, 3) := by decide +kernel
theorem d1_14 : decode method_2_code 14 = .ok (.areturn, 1) := by decide +kernel
theorem d1_15 : decode method_2_code 15 = .ok (.iload_n 1, 1) := by decide +kernel
theorem d1_16 : decode method_2_code 16 = .ok (.iconst 1, 1) := by decide +kernel
theorem d1_17 : decode method_2_code 17 = .ok (.if_icmp .ne 7, 3) := by decide +kernel
theorem d1_20 : decode method_2_code 20 = .ok (.getstatic 14, 3) := by decide +kernel
theorem d1_23 : decode method_2_code 23 = .ok (.areturn, 1) := by decide +kernel
theorem d1_24 : decode method_2_code 24 = .ok (.iload_n 1, 1) := by decide +kernel
theorem d1_25 : decode method_2_code 25 = .ok (.iconst 2, 1) := by decide +kernel
theorem d1_26 : decode method_2_code 26 = .ok (.if_icmp .ne 7, 3) := by decide +kernel
theorem d1_29 : decode method_2_code 29 = .ok (.getstatic 17, 3) := by decide +kernel
theorem d1_32 : decode method_2_code 32 = .ok (.areturn, 1) := by decide +kernel
theorem d1_33 : decode method_2_code 33 = .ok (.iload_n 1, 1) := by decide +kernel
theorem d1_34 : decode method_2_code 34 = .ok (.iconst 3, 1) := by decide +kernel
theorem d1_35 : decode method_2_code 35 = .ok (.if_icmp .ne 7, 3) := by decide +kernel
theorem d1_38 : decode method_2_code 38 = .ok (.getstatic 20, 3) := by decide +kernel
theorem d1_41 : decode method_2_code 41 = .ok (.areturn, 1) := by decide +kernel
theorem d1_42 : decode method_2_code 42 = .ok (.getstatic 23, 3) := by decide +kernel
theorem d1_45 : decode method_2_code 45 = .ok (.areturn, 1) := by decide +kernel
theorem pn_1 : plainFor (⟨"com/example/concordat/concordat/core/ConflictRuleHolderReleasesPinLaw", "type", "(I)Lcom/example/concordat/concordat/core/TransactionType;"⟩ : MethodName) = true := plainFor_of_name (by first | (simp [plainName, overriddenIn]; done) | decide +kernel)
theorem ef_rm1 (m : MethodId) (x0 : Int32) : entryFrame m #[(.int x0)] 2 = mkF m 0 #[.val (.int x0), .unset] [] := by first | (simp [entryFrame, mkF, argsToLocals, Value.category]; done) | rfl
def Q_rm1 (Z : State) (x1 : Int32) (wPA wPF wOP wKO wAU : Addr) (h0 : Heap) (n0 : Nat) (v : Option Value) (h : Heap) (L : List Loc) : Prop := v = some (.ref (own_type wPA wPF wOP wKO wAU x1)) ∧ Fr n0 L ∧ h = h0
set_option maxRecDepth 65536 in
set_option maxHeartbeats 40000000 in
theorem rm1 (l : Launch) (Z : State) (a0 : Array Value) (hw : ∀ d ∈ tables_1, d.before a0 Z = true) (ws : List Jvm.Cond) (x1 : Int32) (wPA wPF wOP wKO wAU : Addr) (h0 : Heap) (n0 : Nat) (Z0 : n0 ≤ h0.size) (S_PESS_AKT : Sta Z h0 "com/example/concordat/concordat/core/TransactionType" "PESS_AKT" "Lcom/example/concordat/concordat/core/TransactionType;" (.ref wPA)) (S_PESS_AF : Sta Z h0 "com/example/concordat/concordat/core/TransactionType" "PESS_AF" "Lcom/example/concordat/concordat/core/TransactionType;" (.ref wPF)) (S_OPT_AKT : Sta Z h0 "com/example/concordat/concordat/core/TransactionType" "OPT_AKT" "Lcom/example/concordat/concordat/core/TransactionType;" (.ref wOP)) (S_KONS : Sta Z h0 "com/example/concordat/concordat/core/TransactionType" "KONS" "Lcom/example/concordat/concordat/core/TransactionType;" (.ref wKO)) (S_AUTO : Sta Z h0 "com/example/concordat/concordat/core/TransactionType" "AUTO" "Lcom/example/concordat/concordat/core/TransactionType;" (.ref wAU)) :
    MetFree l (⟨"com/example/concordat/concordat/core/ConflictRuleHolderReleasesPinLaw", "type", "(I)Lcom/example/concordat/concordat/core/TransactionType;"⟩ : MethodName) (head1 (Jvm.Cond.code (⟨"com/example/concordat/concordat/core/ConflictRuleHolderReleasesPinLaw", "type", "(I)Lcom/example/concordat/concordat/core/TransactionType;"⟩ : MethodName) method_2_code 2 (some (.object "com/example/concordat/concordat/core/TransactionType")) :: ws) ({ frames := 0, cells := 0, slots := 0, locals := 0 } : Room)) (fun a U => a = #[(.int x1)] ∧ Z.Warmed39 U.vm ∧ U.heap = h0) (fun _ _ _ _ _ => True) (fun _ U o U' => ∃ v L, o = .returned v ∧ Q_rm1 Z x1 wPA wPF wOP wKO wAU h0 n0 v U'.heap L ∧ FrameEnd U o U' L ({ frames := 0, cells := 0, slots := 0, locals := 0 } : Room).cells ({ frames := 0, cells := 0, slots := 0, locals := 0 } : Room).slots) := by
  refine own_body (Q := fun v h L => Q_rm1 Z x1 wPA wPF wOP wKO wAU h0 n0 v h L) pn_1 ?_
  intro p e s m below meth c s₁ G X0 hx hZ hby hml hown hnm hrt e0 hG hF
  have hown : s.vm.findClass "com/example/concordat/concordat/core/ConflictRuleHolderReleasesPinLaw" = some m.cls := hown
  have N0 := Fr.nil n0
  rw [ef_rm1 m x1]
  show G (s₁.setTop (mkF m 0 #[.val (.int x1), .unset] []))
  refine hG _ (s₁.setTop (mkF m 8 #[.val (.int x1), .val (.int ((x1 &&& (2147483647 : Int32)) % (5 : Int32)))] [(.int ((x1 &&& (2147483647 : Int32)) % (5 : Int32)))])) (fun t₀ k₀ => ?_) ?_
  · show Steps p.tables e below (s₁.setTop (mkF m 0 #[.val (.int x1), .unset] [])) t₀
    refine XS.iloadN X0.here hx rfl (hb hby d1_0) rfl ?_
    show Steps p.tables e below (s₁.setTop (mkF m 1 #[.val (.int x1), .unset] [(.int x1)])) t₀
    refine X0.ldcInt hx hown (mvT hZ (hw _ (List.mem_of_getElem? (i := 4) rfl))) (g := (mkF m 1 #[.val (.int x1), .unset] [(.int x1)])) rfl (hb hby d1_1) _ ?_
    show Steps p.tables e below (s₁.setTop (mkF m 3 #[.val (.int x1), .unset] [(.int (2147483647 : Int32)), (.int x1)])) t₀
    refine XS.iand X0.here hx rfl (hb hby d1_3) rfl ?_
    show Steps p.tables e below (s₁.setTop (mkF m 4 #[.val (.int x1), .unset] [(.int (x1 &&& (2147483647 : Int32)))])) t₀
    refine XS.iconst X0.here hx rfl (hb hby d1_4) ?_
    show Steps p.tables e below (s₁.setTop (mkF m 5 #[.val (.int x1), .unset] [(.int (5 : Int32)), (.int (x1 &&& (2147483647 : Int32)))])) t₀
    refine iremM X0 hx rfl (hb hby d1_5) rfl (by decide) ?_
    show Steps p.tables e below (s₁.setTop (mkF m 6 #[.val (.int x1), .unset] [(.int ((x1 &&& (2147483647 : Int32)) % (5 : Int32)))])) t₀
    refine XS.istoreN X0.here hx rfl (hb hby d1_6) rfl (l' := #[.val (.int x1), .val (.int ((x1 &&& (2147483647 : Int32)) % (5 : Int32)))]) rfl ?_
    show Steps p.tables e below (s₁.setTop (mkF m 7 #[.val (.int x1), .val (.int ((x1 &&& (2147483647 : Int32)) % (5 : Int32)))] [])) t₀
    refine XS.iloadN X0.here hx rfl (hb hby d1_7) rfl ?_
    exact k₀
  by_cases hc8 : ((x1 &&& (2147483647 : Int32)) % (5 : Int32)) = (0 : Int32)
  ·
    refine hG _ (s₁.setTop (mkF m 11 #[.val (.int x1), .val (.int ((x1 &&& (2147483647 : Int32)) % (5 : Int32)))] [])) (fun t₀ k₀ => ?_) ?_
    · show Steps p.tables e below (s₁.setTop (mkF m 8 #[.val (.int x1), .val (.int ((x1 &&& (2147483647 : Int32)) % (5 : Int32)))] [(.int ((x1 &&& (2147483647 : Int32)) % (5 : Int32)))])) t₀
      refine XS.ifNo X0.here hx rfl (hb hby d1_8) rfl ((if0 _ _).trans (teq hc8).2) ?_
      exact k₀
    obtain ⟨T1, X1, e1, st1⟩ := getS2 X0 hx hZ hown (host := "") (Or.inl (hw _ (List.mem_of_getElem? (i := 5) rfl))) Via.refl e0 S_PESS_AKT (g := (mkF m 11 #[.val (.int x1), .val (.int ((x1 &&& (2147483647 : Int32)) % (5 : Int32)))] [])) rfl (hb hby d1_11)
    refine hG _ _ (fun t₀ k₀ => st1 _ k₀) ?_
    show G (T1.setTop (mkF m 14 #[.val (.int x1), .val (.int ((x1 &&& (2147483647 : Int32)) % (5 : Int32)))] [(.ref wPA)]))
    refine hF _ T1 _ _ _ (some (.ref wPA)) _ X1 e1 (fun h => by rw [hrt] at h; cases h) (by decide) (by decide) ?_ (fun fs hr => own_retA X1 hx hrt rfl rfl rfl (hb hby d1_14) hr)
    exact ⟨by simp [own_type, eq_true hc8], N0, rfl⟩
  ·
    refine hG _ (s₁.setTop (mkF m 17 #[.val (.int x1), .val (.int ((x1 &&& (2147483647 : Int32)) % (5 : Int32)))] [(.int (1 : Int32)), (.int ((x1 &&& (2147483647 : Int32)) % (5 : Int32)))])) (fun t₀ k₀ => ?_) ?_
    · show Steps p.tables e below (s₁.setTop (mkF m 8 #[.val (.int x1), .val (.int ((x1 &&& (2147483647 : Int32)) % (5 : Int32)))] [(.int ((x1 &&& (2147483647 : Int32)) % (5 : Int32)))])) t₀
      refine XS.ifYes X0.here hx rfl (pc0 := 8) (pc' := 15) rfl (hb hby d1_8) rfl ((if0 _ _).trans (feq hc8).2) (by decide) (by decide) ?_
      show Steps p.tables e below (s₁.setTop (mkF m 15 #[.val (.int x1), .val (.int ((x1 &&& (2147483647 : Int32)) % (5 : Int32)))] [])) t₀
      refine XS.iloadN X0.here hx rfl (hb hby d1_15) rfl ?_
      show Steps p.tables e below (s₁.setTop (mkF m 16 #[.val (.int x1), .val (.int ((x1 &&& (2147483647 : Int32)) % (5 : Int32)))] [(.int ((x1 &&& (2147483647 : Int32)) % (5 : Int32)))])) t₀
      refine XS.iconst X0.here hx rfl (hb hby d1_16) ?_
      exact k₀
    by_cases hc17 : ((x1 &&& (2147483647 : Int32)) % (5 : Int32)) = (1 : Int32)
    ·
      refine hG _ (s₁.setTop (mkF m 20 #[.val (.int x1), .val (.int ((x1 &&& (2147483647 : Int32)) % (5 : Int32)))] [])) (fun t₀ k₀ => ?_) ?_
      · show Steps p.tables e below (s₁.setTop (mkF m 17 #[.val (.int x1), .val (.int ((x1 &&& (2147483647 : Int32)) % (5 : Int32)))] [(.int (1 : Int32)), (.int ((x1 &&& (2147483647 : Int32)) % (5 : Int32)))])) t₀
        refine XS.icmpNo X0.here hx rfl (hb hby d1_17) rfl (teq hc17).2 ?_
        exact k₀
      obtain ⟨T2, X2, e2, st2⟩ := getS2 X0 hx hZ hown (host := "") (Or.inl (hw _ (List.mem_of_getElem? (i := 24) rfl))) Via.refl e0 S_PESS_AF (g := (mkF m 20 #[.val (.int x1), .val (.int ((x1 &&& (2147483647 : Int32)) % (5 : Int32)))] [])) rfl (hb hby d1_20)
      refine hG _ _ (fun t₀ k₀ => st2 _ k₀) ?_
      show G (T2.setTop (mkF m 23 #[.val (.int x1), .val (.int ((x1 &&& (2147483647 : Int32)) % (5 : Int32)))] [(.ref wPF)]))
      refine hF _ T2 _ _ _ (some (.ref wPF)) _ X2 e2 (fun h => by rw [hrt] at h; cases h) (by decide) (by decide) ?_ (fun fs hr => own_retA X2 hx hrt rfl rfl rfl (hb hby d1_23) hr)
      exact ⟨by simp [own_type, eq_false hc8, eq_true hc17], N0, rfl⟩
    ·
      refine hG _ (s₁.setTop (mkF m 26 #[.val (.int x1), .val (.int ((x1 &&& (2147483647 : Int32)) % (5 : Int32)))] [(.int (2 : Int32)), (.int ((x1 &&& (2147483647 : Int32)) % (5 : Int32)))])) (fun t₀ k₀ => ?_) ?_
      · show Steps p.tables e below (s₁.setTop (mkF m 17 #[.val (.int x1), .val (.int ((x1 &&& (2147483647 : Int32)) % (5 : Int32)))] [(.int (1 : Int32)), (.int ((x1 &&& (2147483647 : Int32)) % (5 : Int32)))])) t₀
        refine XS.icmpYes X0.here hx rfl (pc0 := 17) (pc' := 24) rfl (hb hby d1_17) rfl (feq hc17).2 (by decide) (by decide) ?_
        show Steps p.tables e below (s₁.setTop (mkF m 24 #[.val (.int x1), .val (.int ((x1 &&& (2147483647 : Int32)) % (5 : Int32)))] [])) t₀
        refine XS.iloadN X0.here hx rfl (hb hby d1_24) rfl ?_
        show Steps p.tables e below (s₁.setTop (mkF m 25 #[.val (.int x1), .val (.int ((x1 &&& (2147483647 : Int32)) % (5 : Int32)))] [(.int ((x1 &&& (2147483647 : Int32)) % (5 : Int32)))])) t₀
        refine XS.iconst X0.here hx rfl (hb hby d1_25) ?_
        exact k₀
      by_cases hc26 : ((x1 &&& (2147483647 : Int32)) % (5 : Int32)) = (2 : Int32)
      ·
        refine hG _ (s₁.setTop (mkF m 29 #[.val (.int x1), .val (.int ((x1 &&& (2147483647 : Int32)) % (5 : Int32)))] [])) (fun t₀ k₀ => ?_) ?_
        · show Steps p.tables e below (s₁.setTop (mkF m 26 #[.val (.int x1), .val (.int ((x1 &&& (2147483647 : Int32)) % (5 : Int32)))] [(.int (2 : Int32)), (.int ((x1 &&& (2147483647 : Int32)) % (5 : Int32)))])) t₀
          refine XS.icmpNo X0.here hx rfl (hb hby d1_26) rfl (teq hc26).2 ?_
          exact k₀
        obtain ⟨T3, X3, e3, st3⟩ := getS2 X0 hx hZ hown (host := "") (Or.inl (hw _ (List.mem_of_getElem? (i := 35) rfl))) Via.refl e0 S_OPT_AKT (g := (mkF m 29 #[.val (.int x1), .val (.int ((x1 &&& (2147483647 : Int32)) % (5 : Int32)))] [])) rfl (hb hby d1_29)
        refine hG _ _ (fun t₀ k₀ => st3 _ k₀) ?_
        show G (T3.setTop (mkF m 32 #[.val (.int x1), .val (.int ((x1 &&& (2147483647 : Int32)) % (5 : Int32)))] [(.ref wOP)]))
        refine hF _ T3 _ _ _ (some (.ref wOP)) _ X3 e3 (fun h => by rw [hrt] at h; cases h) (by decide) (by decide) ?_ (fun fs hr => own_retA X3 hx hrt rfl rfl rfl (hb hby d1_32) hr)
        exact ⟨by simp [own_type, eq_false hc8, eq_false hc17, eq_true hc26], N0, rfl⟩
      ·
        refine hG _ (s₁.setTop (mkF m 35 #[.val (.int x1), .val (.int ((x1 &&& (2147483647 : Int32)) % (5 : Int32)))] [(.int (3 : Int32)), (.int ((x1 &&& (2147483647 : Int32)) % (5 : Int32)))])) (fun t₀ k₀ => ?_) ?_
        · show Steps p.tables e below (s₁.setTop (mkF m 26 #[.val (.int x1), .val (.int ((x1 &&& (2147483647 : Int32)) % (5 : Int32)))] [(.int (2 : Int32)), (.int ((x1 &&& (2147483647 : Int32)) % (5 : Int32)))])) t₀
          refine XS.icmpYes X0.here hx rfl (pc0 := 26) (pc' := 33) rfl (hb hby d1_26) rfl (feq hc26).2 (by decide) (by decide) ?_
          show Steps p.tables e below (s₁.setTop (mkF m 33 #[.val (.int x1), .val (.int ((x1 &&& (2147483647 : Int32)) % (5 : Int32)))] [])) t₀
          refine XS.iloadN X0.here hx rfl (hb hby d1_33) rfl ?_
          show Steps p.tables e below (s₁.setTop (mkF m 34 #[.val (.int x1), .val (.int ((x1 &&& (2147483647 : Int32)) % (5 : Int32)))] [(.int ((x1 &&& (2147483647 : Int32)) % (5 : Int32)))])) t₀
          refine XS.iconst X0.here hx rfl (hb hby d1_34) ?_
          exact k₀
        by_cases hc35 : ((x1 &&& (2147483647 : Int32)) % (5 : Int32)) = (3 : Int32)
        ·
          refine hG _ (s₁.setTop (mkF m 38 #[.val (.int x1), .val (.int ((x1 &&& (2147483647 : Int32)) % (5 : Int32)))] [])) (fun t₀ k₀ => ?_) ?_
          · show Steps p.tables e below (s₁.setTop (mkF m 35 #[.val (.int x1), .val (.int ((x1 &&& (2147483647 : Int32)) % (5 : Int32)))] [(.int (3 : Int32)), (.int ((x1 &&& (2147483647 : Int32)) % (5 : Int32)))])) t₀
            refine XS.icmpNo X0.here hx rfl (hb hby d1_35) rfl (teq hc35).2 ?_
            exact k₀
          obtain ⟨T4, X4, e4, st4⟩ := getS2 X0 hx hZ hown (host := "") (Or.inl (hw _ (List.mem_of_getElem? (i := 8) rfl))) Via.refl e0 S_KONS (g := (mkF m 38 #[.val (.int x1), .val (.int ((x1 &&& (2147483647 : Int32)) % (5 : Int32)))] [])) rfl (hb hby d1_38)
          refine hG _ _ (fun t₀ k₀ => st4 _ k₀) ?_
          show G (T4.setTop (mkF m 41 #[.val (.int x1), .val (.int ((x1 &&& (2147483647 : Int32)) % (5 : Int32)))] [(.ref wKO)]))
          refine hF _ T4 _ _ _ (some (.ref wKO)) _ X4 e4 (fun h => by rw [hrt] at h; cases h) (by decide) (by decide) ?_ (fun fs hr => own_retA X4 hx hrt rfl rfl rfl (hb hby d1_41) hr)
          exact ⟨by simp [own_type, eq_false hc8, eq_false hc17, eq_false hc26, eq_true hc35], N0, rfl⟩
        ·
          refine hG _ (s₁.setTop (mkF m 42 #[.val (.int x1), .val (.int ((x1 &&& (2147483647 : Int32)) % (5 : Int32)))] [])) (fun t₀ k₀ => ?_) ?_
          · show Steps p.tables e below (s₁.setTop (mkF m 35 #[.val (.int x1), .val (.int ((x1 &&& (2147483647 : Int32)) % (5 : Int32)))] [(.int (3 : Int32)), (.int ((x1 &&& (2147483647 : Int32)) % (5 : Int32)))])) t₀
            refine XS.icmpYes X0.here hx rfl (pc0 := 35) (pc' := 42) rfl (hb hby d1_35) rfl (feq hc35).2 (by decide) (by decide) ?_
            exact k₀
          obtain ⟨T5, X5, e5, st5⟩ := getS2 X0 hx hZ hown (host := "") (Or.inl (hw _ (List.mem_of_getElem? (i := 38) rfl))) Via.refl e0 S_AUTO (g := (mkF m 42 #[.val (.int x1), .val (.int ((x1 &&& (2147483647 : Int32)) % (5 : Int32)))] [])) rfl (hb hby d1_42)
          refine hG _ _ (fun t₀ k₀ => st5 _ k₀) ?_
          show G (T5.setTop (mkF m 45 #[.val (.int x1), .val (.int ((x1 &&& (2147483647 : Int32)) % (5 : Int32)))] [(.ref wAU)]))
          refine hF _ T5 _ _ _ (some (.ref wAU)) _ X5 e5 (fun h => by rw [hrt] at h; cases h) (by decide) (by decide) ?_ (fun fs hr => own_retA X5 hx hrt rfl rfl rfl (hb hby d1_45) hr)
          exact ⟨by simp [own_type, eq_false hc8, eq_false hc17, eq_false hc26, eq_false hc35], N0, rfl⟩
theorem d2_0 : decode prog_5_method_5_code 0 = .ok (.aload_n 0, 1) := by decide +kernel
theorem d2_1 : decode prog_5_method_5_code 1 = .ok (.getstatic 51, 3) := by decide +kernel
theorem d2_4 : decode prog_5_method_5_code 4 = .ok (.if_acmp .eq 10, 3) := by decide +kernel
theorem d2_7 : decode prog_5_method_5_code 7 = .ok (.aload_n 1, 1) := by decide +kernel
theorem d2_8 : decode prog_5_method_5_code 8 = .ok (.getstatic 51, 3) := by decide +kernel
theorem d2_11 : decode prog_5_method_5_code 11 = .ok (.if_acmp .ne 11, 3) := by decide +kernel
theorem d2_14 : decode prog_5_method_5_code 14 = .ok (.getstatic 22, 3) := by decide +kernel
theorem d2_17 : decode prog_5_method_5_code 17 = .ok (.astore 4, 2) := by decide +kernel
theorem d2_19 : decode prog_5_method_5_code 19 = .ok (.goto 114, 3) := by decide +kernel
theorem d2_22 : decode prog_5_method_5_code 22 = .ok (.aload_n 0, 1) := by decide +kernel
theorem d2_23 : decode prog_5_method_5_code 23 = .ok (.getstatic 57, 3) := by decide +kernel
theorem d2_26 : decode prog_5_method_5_code 26 = .ok (.if_acmp .eq 10, 3) := by decide +kernel
theorem d2_29 : decode prog_5_method_5_code 29 = .ok (.aload_n 1, 1) := by decide +kernel
theorem d2_30 : decode prog_5_method_5_code 30 = .ok (.getstatic 57, 3) := by decide +kernel
theorem d2_33 : decode prog_5_method_5_code 33 = .ok (.if_acmp .ne 11, 3) := by decide +kernel
theorem d2_36 : decode prog_5_method_5_code 36 = .ok (.getstatic 25, 3) := by decide +kernel
theorem d2_39 : decode prog_5_method_5_code 39 = .ok (.astore 4, 2) := by decide +kernel
theorem d2_41 : decode prog_5_method_5_code 41 = .ok (.goto 92, 3) := by decide +kernel
theorem d2_44 : decode prog_5_method_5_code 44 = .ok (.aload_n 0, 1) := by decide +kernel
theorem d2_45 : decode prog_5_method_5_code 45 = .ok (.getstatic 60, 3) := by decide +kernel
theorem d2_48 : decode prog_5_method_5_code 48 = .ok (.if_acmp .ne 18, 3) := by decide +kernel
theorem d2_51 : decode prog_5_method_5_code 51 = .ok (.aload_n 1, 1) := by decide +kernel
theorem d2_52 : decode prog_5_method_5_code 52 = .ok (.getstatic 60, 3) := by decide +kernel
theorem d2_55 : decode prog_5_method_5_code 55 = .ok (.if_acmp .ne 11, 3) := by decide +kernel
theorem d2_58 : decode prog_5_method_5_code 58 = .ok (.getstatic 10, 3) := by decide +kernel
theorem d2_61 : decode prog_5_method_5_code 61 = .ok (.astore 4, 2) := by decide +kernel
theorem d2_63 : decode prog_5_method_5_code 63 = .ok (.goto 70, 3) := by decide +kernel
theorem d2_66 : decode prog_5_method_5_code 66 = .ok (.aload_n 0, 1) := by decide +kernel
theorem d2_67 : decode prog_5_method_5_code 67 = .ok (.getstatic 60, 3) := by decide +kernel
theorem d2_70 : decode prog_5_method_5_code 70 = .ok (.if_acmp .ne 18, 3) := by decide +kernel
theorem d2_73 : decode prog_5_method_5_code 73 = .ok (.aload_n 2, 1) := by decide +kernel
theorem d2_74 : decode prog_5_method_5_code 74 = .ok (.getstatic 63, 3) := by decide +kernel
theorem d2_77 : decode prog_5_method_5_code 77 = .ok (.if_acmp .ne 11, 3) := by decide +kernel
theorem d2_80 : decode prog_5_method_5_code 80 = .ok (.getstatic 19, 3) := by decide +kernel
theorem d2_83 : decode prog_5_method_5_code 83 = .ok (.astore 4, 2) := by decide +kernel
theorem d2_85 : decode prog_5_method_5_code 85 = .ok (.goto 48, 3) := by decide +kernel
theorem d2_88 : decode prog_5_method_5_code 88 = .ok (.aload_n 0, 1) := by decide +kernel
theorem d2_89 : decode prog_5_method_5_code 89 = .ok (.getstatic 60, 3) := by decide +kernel
theorem d2_92 : decode prog_5_method_5_code 92 = .ok (.if_acmp .ne 21, 3) := by decide +kernel
theorem d2_95 : decode prog_5_method_5_code 95 = .ok (.iload_n 3, 1) := by decide +kernel
theorem d2_96 : decode prog_5_method_5_code 96 = .ok (.ifCond .eq 9, 3) := by decide +kernel
theorem d2_99 : decode prog_5_method_5_code 99 = .ok (.getstatic 16, 3) := by decide +kernel
theorem d2_102 : decode prog_5_method_5_code 102 = .ok (.goto 6, 3) := by decide +kernel
theorem d2_105 : decode prog_5_method_5_code 105 = .ok (.getstatic 13, 3) := by decide +kernel
theorem d2_108 : decode prog_5_method_5_code 108 = .ok (.astore 4, 2) := by decide +kernel
theorem d2_110 : decode prog_5_method_5_code 110 = .ok (.goto 23, 3) := by decide +kernel
theorem d2_113 : decode prog_5_method_5_code 113 = .ok (.aload_n 1, 1) := by decide +kernel
theorem d2_114 : decode prog_5_method_5_code 114 = .ok (.getstatic 60, 3) := by decide +kernel
theorem d2_117 : decode prog_5_method_5_code 117 = .ok (.if_acmp .ne 11, 3) := by decide +kernel
theorem d2_120 : decode prog_5_method_5_code 120 = .ok (.getstatic 3, 3) := by decide +kernel
theorem d2_123 : decode prog_5_method_5_code 123 = .ok (.astore 4, 2) := by decide +kernel
theorem d2_125 : decode prog_5_method_5_code 125 = .ok (.goto 8, 3) := by decide +kernel
theorem d2_128 : decode prog_5_method_5_code 128 = .ok (.getstatic 7, 3) := by decide +kernel
theorem d2_131 : decode prog_5_method_5_code 131 = .ok (.astore 4, 2) := by decide +kernel
theorem d2_133 : decode prog_5_method_5_code 133 = .ok (.aload 4, 2) := by decide +kernel
theorem d2_135 : decode prog_5_method_5_code 135 = .ok (.areturn, 1) := by decide +kernel
theorem pn_2 : plainFor (⟨"com/example/concordat/concordat/core/ConflictRule", "deciding", "(Lcom/example/concordat/concordat/core/TransactionType;Lcom/example/concordat/concordat/core/TransactionType;Lcom/example/concordat/concordat/core/DocumentObject;Z)Lcom/example/concordat/concordat/core/ConflictRule;"⟩ : MethodName) = true := plainFor_of_name (by first | (simp [plainName, overriddenIn]; done) | decide +kernel)
theorem ef_rm2 (m : MethodId) (x0 : Addr) (x1 : Addr) (x2 : Addr) (x3 : Int32) : entryFrame m #[(.ref x0), (.ref x1), (.ref x2), (.int x3)] 5 = mkF m 0 #[.val (.ref x0), .val (.ref x1), .val (.ref x2), .val (.int x3), .unset] [] := by first | (simp [entryFrame, mkF, argsToLocals, Value.category]; done) | rfl
def Q_rm2 (Z : State) (ra rb ro : Addr) (cc : Int32) (wOP wKO wAU wS r3 r4 r5 r6 r7 r8 r9 r10 : Addr) (h0 : Heap) (n0 : Nat) (v : Option Value) (h : Heap) (L : List Loc) : Prop := v = some (.ref (own_dec wOP wKO wAU wS r3 r4 r5 r6 r7 r8 r9 r10 ra rb ro cc)) ∧ Fr n0 L ∧ h = h0
set_option maxRecDepth 65536 in
set_option maxHeartbeats 40000000 in
theorem rm2 (l : Launch) (Z : State) (a0 : Array Value) (hw : ∀ d ∈ tables_1, d.before a0 Z = true) (ws : List Jvm.Cond) (ra rb ro : Addr) (cc : Int32) (wOP wKO wAU wS r3 r4 r5 r6 r7 r8 r9 r10 : Addr) (h0 : Heap) (n0 : Nat) (Z0 : n0 ≤ h0.size) (S_OPT_AKT : Sta Z h0 "com/example/concordat/concordat/core/TransactionType" "OPT_AKT" "Lcom/example/concordat/concordat/core/TransactionType;" (.ref wOP)) (S_KONS : Sta Z h0 "com/example/concordat/concordat/core/TransactionType" "KONS" "Lcom/example/concordat/concordat/core/TransactionType;" (.ref wKO)) (S_AUTO : Sta Z h0 "com/example/concordat/concordat/core/TransactionType" "AUTO" "Lcom/example/concordat/concordat/core/TransactionType;" (.ref wAU)) (S_STATUS : Sta Z h0 "com/example/concordat/concordat/core/DocumentObject" "STATUS" "Lcom/example/concordat/concordat/core/DocumentObject;" (.ref wS)) (S_R3 : Sta Z h0 "com/example/concordat/concordat/core/ConflictRule" "R3" "Lcom/example/concordat/concordat/core/ConflictRule;" (.ref r3)) (S_R4 : Sta Z h0 "com/example/concordat/concordat/core/ConflictRule" "R4" "Lcom/example/concordat/concordat/core/ConflictRule;" (.ref r4)) (S_R5 : Sta Z h0 "com/example/concordat/concordat/core/ConflictRule" "R5" "Lcom/example/concordat/concordat/core/ConflictRule;" (.ref r5)) (S_R6 : Sta Z h0 "com/example/concordat/concordat/core/ConflictRule" "R6" "Lcom/example/concordat/concordat/core/ConflictRule;" (.ref r6)) (S_R7 : Sta Z h0 "com/example/concordat/concordat/core/ConflictRule" "R7" "Lcom/example/concordat/concordat/core/ConflictRule;" (.ref r7)) (S_R8 : Sta Z h0 "com/example/concordat/concordat/core/ConflictRule" "R8" "Lcom/example/concordat/concordat/core/ConflictRule;" (.ref r8)) (S_R9 : Sta Z h0 "com/example/concordat/concordat/core/ConflictRule" "R9" "Lcom/example/concordat/concordat/core/ConflictRule;" (.ref r9)) (S_R10 : Sta Z h0 "com/example/concordat/concordat/core/ConflictRule" "R10" "Lcom/example/concordat/concordat/core/ConflictRule;" (.ref r10)) :
    MetFree l (⟨"com/example/concordat/concordat/core/ConflictRule", "deciding", "(Lcom/example/concordat/concordat/core/TransactionType;Lcom/example/concordat/concordat/core/TransactionType;Lcom/example/concordat/concordat/core/DocumentObject;Z)Lcom/example/concordat/concordat/core/ConflictRule;"⟩ : MethodName) (head1 (Jvm.Cond.code (⟨"com/example/concordat/concordat/core/ConflictRule", "deciding", "(Lcom/example/concordat/concordat/core/TransactionType;Lcom/example/concordat/concordat/core/TransactionType;Lcom/example/concordat/concordat/core/DocumentObject;Z)Lcom/example/concordat/concordat/core/ConflictRule;"⟩ : MethodName) prog_5_method_5_code 5 (some (.object "com/example/concordat/concordat/core/ConflictRule")) :: ws) ({ frames := 0, cells := 0, slots := 0, locals := 0 } : Room)) (fun a U => a = #[(.ref ra), (.ref rb), (.ref ro), (.int cc)] ∧ Z.Warmed39 U.vm ∧ U.heap = h0) (fun _ _ _ _ _ => True) (fun _ U o U' => ∃ v L, o = .returned v ∧ Q_rm2 Z ra rb ro cc wOP wKO wAU wS r3 r4 r5 r6 r7 r8 r9 r10 h0 n0 v U'.heap L ∧ FrameEnd U o U' L ({ frames := 0, cells := 0, slots := 0, locals := 0 } : Room).cells ({ frames := 0, cells := 0, slots := 0, locals := 0 } : Room).slots) := by
  refine own_body (Q := fun v h L => Q_rm2 Z ra rb ro cc wOP wKO wAU wS r3 r4 r5 r6 r7 r8 r9 r10 h0 n0 v h L) pn_2 ?_
  intro p e s m below meth c s₁ G X0 hx hZ hby hml hown hnm hrt e0 hG hF
  have hown : s.vm.findClass "com/example/concordat/concordat/core/ConflictRule" = some m.cls := hown
  have N0 := Fr.nil n0
  rw [ef_rm2 m ra rb ro cc]
  show G (s₁.setTop (mkF m 0 #[.val (.ref ra), .val (.ref rb), .val (.ref ro), .val (.int cc), .unset] []))
  refine hG _ (s₁.setTop (mkF m 1 #[.val (.ref ra), .val (.ref rb), .val (.ref ro), .val (.int cc), .unset] [(.ref ra)])) (fun t₀ k₀ => ?_) ?_
  · show Steps p.tables e below (s₁.setTop (mkF m 0 #[.val (.ref ra), .val (.ref rb), .val (.ref ro), .val (.int cc), .unset] [])) t₀
    refine XS.aloadN X0.here hx rfl (hb hby d2_0) rfl rfl ?_
    exact k₀
  obtain ⟨T1, X1, e1, st1⟩ := getS2 X0 hx hZ hown (host := "") (Or.inl (hw _ (List.mem_of_getElem? (i := 17) rfl))) Via.refl e0 S_OPT_AKT (g := (mkF m 1 #[.val (.ref ra), .val (.ref rb), .val (.ref ro), .val (.int cc), .unset] [(.ref ra)])) rfl (hb hby d2_1)
  refine hG _ _ (fun t₀ k₀ => st1 _ k₀) ?_
  show G (T1.setTop (mkF m 4 #[.val (.ref ra), .val (.ref rb), .val (.ref ro), .val (.int cc), .unset] [(.ref wOP), (.ref ra)]))
  by_cases hc4 : ra = wOP
  ·
    refine hG _ (T1.setTop (mkF m 14 #[.val (.ref ra), .val (.ref rb), .val (.ref ro), .val (.int cc), .unset] [])) (fun t₀ k₀ => ?_) ?_
    · show Steps p.tables e below (T1.setTop (mkF m 4 #[.val (.ref ra), .val (.ref rb), .val (.ref ro), .val (.int cc), .unset] [(.ref wOP), (.ref ra)])) t₀
      refine Jvm.RoadKit.acmp (g := (mkF m 4 #[.val (.ref ra), .val (.ref rb), .val (.ref ro), .val (.int cc), .unset] [(.ref wOP), (.ref ra)])) X1 hx rfl rfl rfl (pc0 := 4) (pc' := 14) (same := true) rfl (hb hby d2_4) rfl (decide_eq_true (congrArg Value.ref hc4)) (by decide) (by decide) ?_
      exact k₀
    obtain ⟨T2, X2, e2, st2⟩ := getS2 X1 hx hZ hown (host := "") (Or.inl (hw _ (List.mem_of_getElem? (i := 36) rfl))) Via.refl e1 S_R9 (g := (mkF m 14 #[.val (.ref ra), .val (.ref rb), .val (.ref ro), .val (.int cc), .unset] [])) rfl (hb hby d2_14)
    refine hG _ _ (fun t₀ k₀ => st2 _ k₀) ?_
    show G (T2.setTop (mkF m 17 #[.val (.ref ra), .val (.ref rb), .val (.ref ro), .val (.int cc), .unset] [(.ref r9)]))
    refine hG _ (T2.setTop (mkF m 135 #[.val (.ref ra), .val (.ref rb), .val (.ref ro), .val (.int cc), .val (.ref r9)] [(.ref r9)])) (fun t₀ k₀ => ?_) ?_
    · show Steps p.tables e below (T2.setTop (mkF m 17 #[.val (.ref ra), .val (.ref rb), .val (.ref ro), .val (.int cc), .unset] [(.ref r9)])) t₀
      refine XS.astore X2.here hx rfl (hb hby d2_17) rfl rfl (l' := #[.val (.ref ra), .val (.ref rb), .val (.ref ro), .val (.int cc), .val (.ref r9)]) rfl ?_
      show Steps p.tables e below (T2.setTop (mkF m 19 #[.val (.ref ra), .val (.ref rb), .val (.ref ro), .val (.int cc), .val (.ref r9)] [])) t₀
      refine XS.goto X2.here hx rfl (pc0 := 19) (pc' := 133) rfl (hb hby d2_19) (by decide) (by decide) ?_
      show Steps p.tables e below (T2.setTop (mkF m 133 #[.val (.ref ra), .val (.ref rb), .val (.ref ro), .val (.int cc), .val (.ref r9)] [])) t₀
      refine XS.aload X2.here hx rfl (hb hby d2_133) rfl rfl ?_
      exact k₀
    refine hF _ T2 _ _ _ (some (.ref r9)) _ X2 e2 (fun h => by rw [hrt] at h; cases h) (by decide) (by decide) ?_ (fun fs hr => own_retA X2 hx hrt rfl rfl rfl (hb hby d2_135) hr)
    exact ⟨by simp [own_dec, eq_true hc4], N0, rfl⟩
  ·
    refine hG _ (T1.setTop (mkF m 8 #[.val (.ref ra), .val (.ref rb), .val (.ref ro), .val (.int cc), .unset] [(.ref rb)])) (fun t₀ k₀ => ?_) ?_
    · show Steps p.tables e below (T1.setTop (mkF m 4 #[.val (.ref ra), .val (.ref rb), .val (.ref ro), .val (.int cc), .unset] [(.ref wOP), (.ref ra)])) t₀
      refine Jvm.RoadKit.acmp (g := (mkF m 4 #[.val (.ref ra), .val (.ref rb), .val (.ref ro), .val (.int cc), .unset] [(.ref wOP), (.ref ra)])) X1 hx rfl rfl rfl (pc0 := 4) (pc' := 7) (same := false) rfl (hb hby d2_4) rfl (decide_eq_false fun q => hc4 (Value.ref.inj q)) (by decide) (by decide) ?_
      show Steps p.tables e below (T1.setTop (mkF m 7 #[.val (.ref ra), .val (.ref rb), .val (.ref ro), .val (.int cc), .unset] [])) t₀
      refine XS.aloadN X1.here hx rfl (hb hby d2_7) rfl rfl ?_
      exact k₀
    obtain ⟨T3, X3, e3, st3⟩ := getS2 X1 hx hZ hown (host := "") (Or.inl (hw _ (List.mem_of_getElem? (i := 17) rfl))) Via.refl e1 S_OPT_AKT (g := (mkF m 8 #[.val (.ref ra), .val (.ref rb), .val (.ref ro), .val (.int cc), .unset] [(.ref rb)])) rfl (hb hby d2_8)
    refine hG _ _ (fun t₀ k₀ => st3 _ k₀) ?_
    show G (T3.setTop (mkF m 11 #[.val (.ref ra), .val (.ref rb), .val (.ref ro), .val (.int cc), .unset] [(.ref wOP), (.ref rb)]))
    by_cases hc11 : rb = wOP
    ·
      refine hG _ (T3.setTop (mkF m 14 #[.val (.ref ra), .val (.ref rb), .val (.ref ro), .val (.int cc), .unset] [])) (fun t₀ k₀ => ?_) ?_
      · show Steps p.tables e below (T3.setTop (mkF m 11 #[.val (.ref ra), .val (.ref rb), .val (.ref ro), .val (.int cc), .unset] [(.ref wOP), (.ref rb)])) t₀
        refine Jvm.RoadKit.acmp (g := (mkF m 11 #[.val (.ref ra), .val (.ref rb), .val (.ref ro), .val (.int cc), .unset] [(.ref wOP), (.ref rb)])) X3 hx rfl rfl rfl (pc0 := 11) (pc' := 14) (same := true) rfl (hb hby d2_11) rfl (decide_eq_true (congrArg Value.ref hc11)) (by decide) (by decide) ?_
        exact k₀
      obtain ⟨T4, X4, e4, st4⟩ := getS2 X3 hx hZ hown (host := "") (Or.inl (hw _ (List.mem_of_getElem? (i := 36) rfl))) Via.refl e3 S_R9 (g := (mkF m 14 #[.val (.ref ra), .val (.ref rb), .val (.ref ro), .val (.int cc), .unset] [])) rfl (hb hby d2_14)
      refine hG _ _ (fun t₀ k₀ => st4 _ k₀) ?_
      show G (T4.setTop (mkF m 17 #[.val (.ref ra), .val (.ref rb), .val (.ref ro), .val (.int cc), .unset] [(.ref r9)]))
      refine hG _ (T4.setTop (mkF m 135 #[.val (.ref ra), .val (.ref rb), .val (.ref ro), .val (.int cc), .val (.ref r9)] [(.ref r9)])) (fun t₀ k₀ => ?_) ?_
      · show Steps p.tables e below (T4.setTop (mkF m 17 #[.val (.ref ra), .val (.ref rb), .val (.ref ro), .val (.int cc), .unset] [(.ref r9)])) t₀
        refine XS.astore X4.here hx rfl (hb hby d2_17) rfl rfl (l' := #[.val (.ref ra), .val (.ref rb), .val (.ref ro), .val (.int cc), .val (.ref r9)]) rfl ?_
        show Steps p.tables e below (T4.setTop (mkF m 19 #[.val (.ref ra), .val (.ref rb), .val (.ref ro), .val (.int cc), .val (.ref r9)] [])) t₀
        refine XS.goto X4.here hx rfl (pc0 := 19) (pc' := 133) rfl (hb hby d2_19) (by decide) (by decide) ?_
        show Steps p.tables e below (T4.setTop (mkF m 133 #[.val (.ref ra), .val (.ref rb), .val (.ref ro), .val (.int cc), .val (.ref r9)] [])) t₀
        refine XS.aload X4.here hx rfl (hb hby d2_133) rfl rfl ?_
        exact k₀
      refine hF _ T4 _ _ _ (some (.ref r9)) _ X4 e4 (fun h => by rw [hrt] at h; cases h) (by decide) (by decide) ?_ (fun fs hr => own_retA X4 hx hrt rfl rfl rfl (hb hby d2_135) hr)
      exact ⟨by simp [own_dec, eq_false hc4, eq_true hc11], N0, rfl⟩
    ·
      refine hG _ (T3.setTop (mkF m 23 #[.val (.ref ra), .val (.ref rb), .val (.ref ro), .val (.int cc), .unset] [(.ref ra)])) (fun t₀ k₀ => ?_) ?_
      · show Steps p.tables e below (T3.setTop (mkF m 11 #[.val (.ref ra), .val (.ref rb), .val (.ref ro), .val (.int cc), .unset] [(.ref wOP), (.ref rb)])) t₀
        refine Jvm.RoadKit.acmp (g := (mkF m 11 #[.val (.ref ra), .val (.ref rb), .val (.ref ro), .val (.int cc), .unset] [(.ref wOP), (.ref rb)])) X3 hx rfl rfl rfl (pc0 := 11) (pc' := 22) (same := false) rfl (hb hby d2_11) rfl (decide_eq_false fun q => hc11 (Value.ref.inj q)) (by decide) (by decide) ?_
        show Steps p.tables e below (T3.setTop (mkF m 22 #[.val (.ref ra), .val (.ref rb), .val (.ref ro), .val (.int cc), .unset] [])) t₀
        refine XS.aloadN X3.here hx rfl (hb hby d2_22) rfl rfl ?_
        exact k₀
      obtain ⟨T5, X5, e5, st5⟩ := getS2 X3 hx hZ hown (host := "") (Or.inl (hw _ (List.mem_of_getElem? (i := 19) rfl))) Via.refl e3 S_AUTO (g := (mkF m 23 #[.val (.ref ra), .val (.ref rb), .val (.ref ro), .val (.int cc), .unset] [(.ref ra)])) rfl (hb hby d2_23)
      refine hG _ _ (fun t₀ k₀ => st5 _ k₀) ?_
      show G (T5.setTop (mkF m 26 #[.val (.ref ra), .val (.ref rb), .val (.ref ro), .val (.int cc), .unset] [(.ref wAU), (.ref ra)]))
      by_cases hc26 : ra = wAU
      ·
        refine hG _ (T5.setTop (mkF m 36 #[.val (.ref ra), .val (.ref rb), .val (.ref ro), .val (.int cc), .unset] [])) (fun t₀ k₀ => ?_) ?_
        · show Steps p.tables e below (T5.setTop (mkF m 26 #[.val (.ref ra), .val (.ref rb), .val (.ref ro), .val (.int cc), .unset] [(.ref wAU), (.ref ra)])) t₀
          refine Jvm.RoadKit.acmp (g := (mkF m 26 #[.val (.ref ra), .val (.ref rb), .val (.ref ro), .val (.int cc), .unset] [(.ref wAU), (.ref ra)])) X5 hx rfl rfl rfl (pc0 := 26) (pc' := 36) (same := true) rfl (hb hby d2_26) rfl (decide_eq_true (congrArg Value.ref hc26)) (by decide) (by decide) ?_
          exact k₀
        obtain ⟨T6, X6, e6, st6⟩ := getS2 X5 hx hZ hown (host := "") (Or.inl (hw _ (List.mem_of_getElem? (i := 39) rfl))) Via.refl e5 S_R10 (g := (mkF m 36 #[.val (.ref ra), .val (.ref rb), .val (.ref ro), .val (.int cc), .unset] [])) rfl (hb hby d2_36)
        refine hG _ _ (fun t₀ k₀ => st6 _ k₀) ?_
        show G (T6.setTop (mkF m 39 #[.val (.ref ra), .val (.ref rb), .val (.ref ro), .val (.int cc), .unset] [(.ref r10)]))
        refine hG _ (T6.setTop (mkF m 135 #[.val (.ref ra), .val (.ref rb), .val (.ref ro), .val (.int cc), .val (.ref r10)] [(.ref r10)])) (fun t₀ k₀ => ?_) ?_
        · show Steps p.tables e below (T6.setTop (mkF m 39 #[.val (.ref ra), .val (.ref rb), .val (.ref ro), .val (.int cc), .unset] [(.ref r10)])) t₀
          refine XS.astore X6.here hx rfl (hb hby d2_39) rfl rfl (l' := #[.val (.ref ra), .val (.ref rb), .val (.ref ro), .val (.int cc), .val (.ref r10)]) rfl ?_
          show Steps p.tables e below (T6.setTop (mkF m 41 #[.val (.ref ra), .val (.ref rb), .val (.ref ro), .val (.int cc), .val (.ref r10)] [])) t₀
          refine XS.goto X6.here hx rfl (pc0 := 41) (pc' := 133) rfl (hb hby d2_41) (by decide) (by decide) ?_
          show Steps p.tables e below (T6.setTop (mkF m 133 #[.val (.ref ra), .val (.ref rb), .val (.ref ro), .val (.int cc), .val (.ref r10)] [])) t₀
          refine XS.aload X6.here hx rfl (hb hby d2_133) rfl rfl ?_
          exact k₀
        refine hF _ T6 _ _ _ (some (.ref r10)) _ X6 e6 (fun h => by rw [hrt] at h; cases h) (by decide) (by decide) ?_ (fun fs hr => own_retA X6 hx hrt rfl rfl rfl (hb hby d2_135) hr)
        exact ⟨by simp [own_dec, eq_false hc4, eq_false hc11, eq_true hc26], N0, rfl⟩
      ·
        refine hG _ (T5.setTop (mkF m 30 #[.val (.ref ra), .val (.ref rb), .val (.ref ro), .val (.int cc), .unset] [(.ref rb)])) (fun t₀ k₀ => ?_) ?_
        · show Steps p.tables e below (T5.setTop (mkF m 26 #[.val (.ref ra), .val (.ref rb), .val (.ref ro), .val (.int cc), .unset] [(.ref wAU), (.ref ra)])) t₀
          refine Jvm.RoadKit.acmp (g := (mkF m 26 #[.val (.ref ra), .val (.ref rb), .val (.ref ro), .val (.int cc), .unset] [(.ref wAU), (.ref ra)])) X5 hx rfl rfl rfl (pc0 := 26) (pc' := 29) (same := false) rfl (hb hby d2_26) rfl (decide_eq_false fun q => hc26 (Value.ref.inj q)) (by decide) (by decide) ?_
          show Steps p.tables e below (T5.setTop (mkF m 29 #[.val (.ref ra), .val (.ref rb), .val (.ref ro), .val (.int cc), .unset] [])) t₀
          refine XS.aloadN X5.here hx rfl (hb hby d2_29) rfl rfl ?_
          exact k₀
        obtain ⟨T7, X7, e7, st7⟩ := getS2 X5 hx hZ hown (host := "") (Or.inl (hw _ (List.mem_of_getElem? (i := 19) rfl))) Via.refl e5 S_AUTO (g := (mkF m 30 #[.val (.ref ra), .val (.ref rb), .val (.ref ro), .val (.int cc), .unset] [(.ref rb)])) rfl (hb hby d2_30)
        refine hG _ _ (fun t₀ k₀ => st7 _ k₀) ?_
        show G (T7.setTop (mkF m 33 #[.val (.ref ra), .val (.ref rb), .val (.ref ro), .val (.int cc), .unset] [(.ref wAU), (.ref rb)]))
        by_cases hc33 : rb = wAU
        ·
          refine hG _ (T7.setTop (mkF m 36 #[.val (.ref ra), .val (.ref rb), .val (.ref ro), .val (.int cc), .unset] [])) (fun t₀ k₀ => ?_) ?_
          · show Steps p.tables e below (T7.setTop (mkF m 33 #[.val (.ref ra), .val (.ref rb), .val (.ref ro), .val (.int cc), .unset] [(.ref wAU), (.ref rb)])) t₀
            refine Jvm.RoadKit.acmp (g := (mkF m 33 #[.val (.ref ra), .val (.ref rb), .val (.ref ro), .val (.int cc), .unset] [(.ref wAU), (.ref rb)])) X7 hx rfl rfl rfl (pc0 := 33) (pc' := 36) (same := true) rfl (hb hby d2_33) rfl (decide_eq_true (congrArg Value.ref hc33)) (by decide) (by decide) ?_
            exact k₀
          obtain ⟨T8, X8, e8, st8⟩ := getS2 X7 hx hZ hown (host := "") (Or.inl (hw _ (List.mem_of_getElem? (i := 39) rfl))) Via.refl e7 S_R10 (g := (mkF m 36 #[.val (.ref ra), .val (.ref rb), .val (.ref ro), .val (.int cc), .unset] [])) rfl (hb hby d2_36)
          refine hG _ _ (fun t₀ k₀ => st8 _ k₀) ?_
          show G (T8.setTop (mkF m 39 #[.val (.ref ra), .val (.ref rb), .val (.ref ro), .val (.int cc), .unset] [(.ref r10)]))
          refine hG _ (T8.setTop (mkF m 135 #[.val (.ref ra), .val (.ref rb), .val (.ref ro), .val (.int cc), .val (.ref r10)] [(.ref r10)])) (fun t₀ k₀ => ?_) ?_
          · show Steps p.tables e below (T8.setTop (mkF m 39 #[.val (.ref ra), .val (.ref rb), .val (.ref ro), .val (.int cc), .unset] [(.ref r10)])) t₀
            refine XS.astore X8.here hx rfl (hb hby d2_39) rfl rfl (l' := #[.val (.ref ra), .val (.ref rb), .val (.ref ro), .val (.int cc), .val (.ref r10)]) rfl ?_
            show Steps p.tables e below (T8.setTop (mkF m 41 #[.val (.ref ra), .val (.ref rb), .val (.ref ro), .val (.int cc), .val (.ref r10)] [])) t₀
            refine XS.goto X8.here hx rfl (pc0 := 41) (pc' := 133) rfl (hb hby d2_41) (by decide) (by decide) ?_
            show Steps p.tables e below (T8.setTop (mkF m 133 #[.val (.ref ra), .val (.ref rb), .val (.ref ro), .val (.int cc), .val (.ref r10)] [])) t₀
            refine XS.aload X8.here hx rfl (hb hby d2_133) rfl rfl ?_
            exact k₀
          refine hF _ T8 _ _ _ (some (.ref r10)) _ X8 e8 (fun h => by rw [hrt] at h; cases h) (by decide) (by decide) ?_ (fun fs hr => own_retA X8 hx hrt rfl rfl rfl (hb hby d2_135) hr)
          exact ⟨by simp [own_dec, eq_false hc4, eq_false hc11, eq_false hc26, eq_true hc33], N0, rfl⟩
        ·
          refine hG _ (T7.setTop (mkF m 45 #[.val (.ref ra), .val (.ref rb), .val (.ref ro), .val (.int cc), .unset] [(.ref ra)])) (fun t₀ k₀ => ?_) ?_
          · show Steps p.tables e below (T7.setTop (mkF m 33 #[.val (.ref ra), .val (.ref rb), .val (.ref ro), .val (.int cc), .unset] [(.ref wAU), (.ref rb)])) t₀
            refine Jvm.RoadKit.acmp (g := (mkF m 33 #[.val (.ref ra), .val (.ref rb), .val (.ref ro), .val (.int cc), .unset] [(.ref wAU), (.ref rb)])) X7 hx rfl rfl rfl (pc0 := 33) (pc' := 44) (same := false) rfl (hb hby d2_33) rfl (decide_eq_false fun q => hc33 (Value.ref.inj q)) (by decide) (by decide) ?_
            show Steps p.tables e below (T7.setTop (mkF m 44 #[.val (.ref ra), .val (.ref rb), .val (.ref ro), .val (.int cc), .unset] [])) t₀
            refine XS.aloadN X7.here hx rfl (hb hby d2_44) rfl rfl ?_
            exact k₀
          obtain ⟨T9, X9, e9, st9⟩ := getS2 X7 hx hZ hown (host := "") (Or.inl (hw _ (List.mem_of_getElem? (i := 21) rfl))) Via.refl e7 S_KONS (g := (mkF m 45 #[.val (.ref ra), .val (.ref rb), .val (.ref ro), .val (.int cc), .unset] [(.ref ra)])) rfl (hb hby d2_45)
          refine hG _ _ (fun t₀ k₀ => st9 _ k₀) ?_
          show G (T9.setTop (mkF m 48 #[.val (.ref ra), .val (.ref rb), .val (.ref ro), .val (.int cc), .unset] [(.ref wKO), (.ref ra)]))
          by_cases hc48 : ra = wKO
          ·
            refine hG _ (T9.setTop (mkF m 52 #[.val (.ref ra), .val (.ref rb), .val (.ref ro), .val (.int cc), .unset] [(.ref rb)])) (fun t₀ k₀ => ?_) ?_
            · show Steps p.tables e below (T9.setTop (mkF m 48 #[.val (.ref ra), .val (.ref rb), .val (.ref ro), .val (.int cc), .unset] [(.ref wKO), (.ref ra)])) t₀
              refine Jvm.RoadKit.acmp (g := (mkF m 48 #[.val (.ref ra), .val (.ref rb), .val (.ref ro), .val (.int cc), .unset] [(.ref wKO), (.ref ra)])) X9 hx rfl rfl rfl (pc0 := 48) (pc' := 51) (same := true) rfl (hb hby d2_48) rfl (decide_eq_true (congrArg Value.ref hc48)) (by decide) (by decide) ?_
              show Steps p.tables e below (T9.setTop (mkF m 51 #[.val (.ref ra), .val (.ref rb), .val (.ref ro), .val (.int cc), .unset] [])) t₀
              refine XS.aloadN X9.here hx rfl (hb hby d2_51) rfl rfl ?_
              exact k₀
            obtain ⟨T10, X10, e10, st10⟩ := getS2 X9 hx hZ hown (host := "") (Or.inl (hw _ (List.mem_of_getElem? (i := 21) rfl))) Via.refl e9 S_KONS (g := (mkF m 52 #[.val (.ref ra), .val (.ref rb), .val (.ref ro), .val (.int cc), .unset] [(.ref rb)])) rfl (hb hby d2_52)
            refine hG _ _ (fun t₀ k₀ => st10 _ k₀) ?_
            show G (T10.setTop (mkF m 55 #[.val (.ref ra), .val (.ref rb), .val (.ref ro), .val (.int cc), .unset] [(.ref wKO), (.ref rb)]))
            by_cases hc55 : rb = wKO
            ·
              refine hG _ (T10.setTop (mkF m 58 #[.val (.ref ra), .val (.ref rb), .val (.ref ro), .val (.int cc), .unset] [])) (fun t₀ k₀ => ?_) ?_
              · show Steps p.tables e below (T10.setTop (mkF m 55 #[.val (.ref ra), .val (.ref rb), .val (.ref ro), .val (.int cc), .unset] [(.ref wKO), (.ref rb)])) t₀
                refine Jvm.RoadKit.acmp (g := (mkF m 55 #[.val (.ref ra), .val (.ref rb), .val (.ref ro), .val (.int cc), .unset] [(.ref wKO), (.ref rb)])) X10 hx rfl rfl rfl (pc0 := 55) (pc' := 58) (same := true) rfl (hb hby d2_55) rfl (decide_eq_true (congrArg Value.ref hc55)) (by decide) (by decide) ?_
                exact k₀
              obtain ⟨T11, X11, e11, st11⟩ := getS2 X10 hx hZ hown (host := "") (Or.inl (hw _ (List.mem_of_getElem? (i := 46) rfl))) Via.refl e10 S_R5 (g := (mkF m 58 #[.val (.ref ra), .val (.ref rb), .val (.ref ro), .val (.int cc), .unset] [])) rfl (hb hby d2_58)
              refine hG _ _ (fun t₀ k₀ => st11 _ k₀) ?_
              show G (T11.setTop (mkF m 61 #[.val (.ref ra), .val (.ref rb), .val (.ref ro), .val (.int cc), .unset] [(.ref r5)]))
              refine hG _ (T11.setTop (mkF m 135 #[.val (.ref ra), .val (.ref rb), .val (.ref ro), .val (.int cc), .val (.ref r5)] [(.ref r5)])) (fun t₀ k₀ => ?_) ?_
              · show Steps p.tables e below (T11.setTop (mkF m 61 #[.val (.ref ra), .val (.ref rb), .val (.ref ro), .val (.int cc), .unset] [(.ref r5)])) t₀
                refine XS.astore X11.here hx rfl (hb hby d2_61) rfl rfl (l' := #[.val (.ref ra), .val (.ref rb), .val (.ref ro), .val (.int cc), .val (.ref r5)]) rfl ?_
                show Steps p.tables e below (T11.setTop (mkF m 63 #[.val (.ref ra), .val (.ref rb), .val (.ref ro), .val (.int cc), .val (.ref r5)] [])) t₀
                refine XS.goto X11.here hx rfl (pc0 := 63) (pc' := 133) rfl (hb hby d2_63) (by decide) (by decide) ?_
                show Steps p.tables e below (T11.setTop (mkF m 133 #[.val (.ref ra), .val (.ref rb), .val (.ref ro), .val (.int cc), .val (.ref r5)] [])) t₀
                refine XS.aload X11.here hx rfl (hb hby d2_133) rfl rfl ?_
                exact k₀
              refine hF _ T11 _ _ _ (some (.ref r5)) _ X11 e11 (fun h => by rw [hrt] at h; cases h) (by decide) (by decide) ?_ (fun fs hr => own_retA X11 hx hrt rfl rfl rfl (hb hby d2_135) hr)
              exact ⟨by simp [own_dec, eq_false hc4, eq_false hc11, eq_false hc26, eq_false hc33, eq_true hc48, eq_true hc55], N0, rfl⟩
            ·
              refine hG _ (T10.setTop (mkF m 67 #[.val (.ref ra), .val (.ref rb), .val (.ref ro), .val (.int cc), .unset] [(.ref ra)])) (fun t₀ k₀ => ?_) ?_
              · show Steps p.tables e below (T10.setTop (mkF m 55 #[.val (.ref ra), .val (.ref rb), .val (.ref ro), .val (.int cc), .unset] [(.ref wKO), (.ref rb)])) t₀
                refine Jvm.RoadKit.acmp (g := (mkF m 55 #[.val (.ref ra), .val (.ref rb), .val (.ref ro), .val (.int cc), .unset] [(.ref wKO), (.ref rb)])) X10 hx rfl rfl rfl (pc0 := 55) (pc' := 66) (same := false) rfl (hb hby d2_55) rfl (decide_eq_false fun q => hc55 (Value.ref.inj q)) (by decide) (by decide) ?_
                show Steps p.tables e below (T10.setTop (mkF m 66 #[.val (.ref ra), .val (.ref rb), .val (.ref ro), .val (.int cc), .unset] [])) t₀
                refine XS.aloadN X10.here hx rfl (hb hby d2_66) rfl rfl ?_
                exact k₀
              obtain ⟨T12, X12, e12, st12⟩ := getS2 X10 hx hZ hown (host := "") (Or.inl (hw _ (List.mem_of_getElem? (i := 21) rfl))) Via.refl e10 S_KONS (g := (mkF m 67 #[.val (.ref ra), .val (.ref rb), .val (.ref ro), .val (.int cc), .unset] [(.ref ra)])) rfl (hb hby d2_67)
              refine hG _ _ (fun t₀ k₀ => st12 _ k₀) ?_
              show G (T12.setTop (mkF m 70 #[.val (.ref ra), .val (.ref rb), .val (.ref ro), .val (.int cc), .unset] [(.ref wKO), (.ref ra)]))
              refine hG _ (T12.setTop (mkF m 74 #[.val (.ref ra), .val (.ref rb), .val (.ref ro), .val (.int cc), .unset] [(.ref ro)])) (fun t₀ k₀ => ?_) ?_
              · show Steps p.tables e below (T12.setTop (mkF m 70 #[.val (.ref ra), .val (.ref rb), .val (.ref ro), .val (.int cc), .unset] [(.ref wKO), (.ref ra)])) t₀
                refine Jvm.RoadKit.acmp (g := (mkF m 70 #[.val (.ref ra), .val (.ref rb), .val (.ref ro), .val (.int cc), .unset] [(.ref wKO), (.ref ra)])) X12 hx rfl rfl rfl (pc0 := 70) (pc' := 73) (same := true) rfl (hb hby d2_70) rfl (decide_eq_true (congrArg Value.ref hc48)) (by decide) (by decide) ?_
                show Steps p.tables e below (T12.setTop (mkF m 73 #[.val (.ref ra), .val (.ref rb), .val (.ref ro), .val (.int cc), .unset] [])) t₀
                refine XS.aloadN X12.here hx rfl (hb hby d2_73) rfl rfl ?_
                exact k₀
              obtain ⟨T13, X13, e13, st13⟩ := getS2 X12 hx hZ hown (host := "") (Or.inl (hw _ (List.mem_of_getElem? (i := 43) rfl))) Via.refl e12 S_STATUS (g := (mkF m 74 #[.val (.ref ra), .val (.ref rb), .val (.ref ro), .val (.int cc), .unset] [(.ref ro)])) rfl (hb hby d2_74)
              refine hG _ _ (fun t₀ k₀ => st13 _ k₀) ?_
              show G (T13.setTop (mkF m 77 #[.val (.ref ra), .val (.ref rb), .val (.ref ro), .val (.int cc), .unset] [(.ref wS), (.ref ro)]))
              by_cases hc77 : ro = wS
              ·
                refine hG _ (T13.setTop (mkF m 80 #[.val (.ref ra), .val (.ref rb), .val (.ref ro), .val (.int cc), .unset] [])) (fun t₀ k₀ => ?_) ?_
                · show Steps p.tables e below (T13.setTop (mkF m 77 #[.val (.ref ra), .val (.ref rb), .val (.ref ro), .val (.int cc), .unset] [(.ref wS), (.ref ro)])) t₀
                  refine Jvm.RoadKit.acmp (g := (mkF m 77 #[.val (.ref ra), .val (.ref rb), .val (.ref ro), .val (.int cc), .unset] [(.ref wS), (.ref ro)])) X13 hx rfl rfl rfl (pc0 := 77) (pc' := 80) (same := true) rfl (hb hby d2_77) rfl (decide_eq_true (congrArg Value.ref hc77)) (by decide) (by decide) ?_
                  exact k₀
                obtain ⟨T14, X14, e14, st14⟩ := getS2 X13 hx hZ hown (host := "") (Or.inl (hw _ (List.mem_of_getElem? (i := 33) rfl))) Via.refl e13 S_R8 (g := (mkF m 80 #[.val (.ref ra), .val (.ref rb), .val (.ref ro), .val (.int cc), .unset] [])) rfl (hb hby d2_80)
                refine hG _ _ (fun t₀ k₀ => st14 _ k₀) ?_
                show G (T14.setTop (mkF m 83 #[.val (.ref ra), .val (.ref rb), .val (.ref ro), .val (.int cc), .unset] [(.ref r8)]))
                refine hG _ (T14.setTop (mkF m 135 #[.val (.ref ra), .val (.ref rb), .val (.ref ro), .val (.int cc), .val (.ref r8)] [(.ref r8)])) (fun t₀ k₀ => ?_) ?_
                · show Steps p.tables e below (T14.setTop (mkF m 83 #[.val (.ref ra), .val (.ref rb), .val (.ref ro), .val (.int cc), .unset] [(.ref r8)])) t₀
                  refine XS.astore X14.here hx rfl (hb hby d2_83) rfl rfl (l' := #[.val (.ref ra), .val (.ref rb), .val (.ref ro), .val (.int cc), .val (.ref r8)]) rfl ?_
                  show Steps p.tables e below (T14.setTop (mkF m 85 #[.val (.ref ra), .val (.ref rb), .val (.ref ro), .val (.int cc), .val (.ref r8)] [])) t₀
                  refine XS.goto X14.here hx rfl (pc0 := 85) (pc' := 133) rfl (hb hby d2_85) (by decide) (by decide) ?_
                  show Steps p.tables e below (T14.setTop (mkF m 133 #[.val (.ref ra), .val (.ref rb), .val (.ref ro), .val (.int cc), .val (.ref r8)] [])) t₀
                  refine XS.aload X14.here hx rfl (hb hby d2_133) rfl rfl ?_
                  exact k₀
                refine hF _ T14 _ _ _ (some (.ref r8)) _ X14 e14 (fun h => by rw [hrt] at h; cases h) (by decide) (by decide) ?_ (fun fs hr => own_retA X14 hx hrt rfl rfl rfl (hb hby d2_135) hr)
                exact ⟨by simp [own_dec, eq_false hc4, eq_false hc11, eq_false hc26, eq_false hc33, eq_true hc48, eq_false hc55, eq_true hc77], N0, rfl⟩
              ·
                refine hG _ (T13.setTop (mkF m 89 #[.val (.ref ra), .val (.ref rb), .val (.ref ro), .val (.int cc), .unset] [(.ref ra)])) (fun t₀ k₀ => ?_) ?_
                · show Steps p.tables e below (T13.setTop (mkF m 77 #[.val (.ref ra), .val (.ref rb), .val (.ref ro), .val (.int cc), .unset] [(.ref wS), (.ref ro)])) t₀
                  refine Jvm.RoadKit.acmp (g := (mkF m 77 #[.val (.ref ra), .val (.ref rb), .val (.ref ro), .val (.int cc), .unset] [(.ref wS), (.ref ro)])) X13 hx rfl rfl rfl (pc0 := 77) (pc' := 88) (same := false) rfl (hb hby d2_77) rfl (decide_eq_false fun q => hc77 (Value.ref.inj q)) (by decide) (by decide) ?_
                  show Steps p.tables e below (T13.setTop (mkF m 88 #[.val (.ref ra), .val (.ref rb), .val (.ref ro), .val (.int cc), .unset] [])) t₀
                  refine XS.aloadN X13.here hx rfl (hb hby d2_88) rfl rfl ?_
                  exact k₀
                obtain ⟨T15, X15, e15, st15⟩ := getS2 X13 hx hZ hown (host := "") (Or.inl (hw _ (List.mem_of_getElem? (i := 21) rfl))) Via.refl e13 S_KONS (g := (mkF m 89 #[.val (.ref ra), .val (.ref rb), .val (.ref ro), .val (.int cc), .unset] [(.ref ra)])) rfl (hb hby d2_89)
                refine hG _ _ (fun t₀ k₀ => st15 _ k₀) ?_
                show G (T15.setTop (mkF m 92 #[.val (.ref ra), .val (.ref rb), .val (.ref ro), .val (.int cc), .unset] [(.ref wKO), (.ref ra)]))
                refine hG _ (T15.setTop (mkF m 96 #[.val (.ref ra), .val (.ref rb), .val (.ref ro), .val (.int cc), .unset] [(.int cc)])) (fun t₀ k₀ => ?_) ?_
                · show Steps p.tables e below (T15.setTop (mkF m 92 #[.val (.ref ra), .val (.ref rb), .val (.ref ro), .val (.int cc), .unset] [(.ref wKO), (.ref ra)])) t₀
                  refine Jvm.RoadKit.acmp (g := (mkF m 92 #[.val (.ref ra), .val (.ref rb), .val (.ref ro), .val (.int cc), .unset] [(.ref wKO), (.ref ra)])) X15 hx rfl rfl rfl (pc0 := 92) (pc' := 95) (same := true) rfl (hb hby d2_92) rfl (decide_eq_true (congrArg Value.ref hc48)) (by decide) (by decide) ?_
                  show Steps p.tables e below (T15.setTop (mkF m 95 #[.val (.ref ra), .val (.ref rb), .val (.ref ro), .val (.int cc), .unset] [])) t₀
                  refine XS.iloadN X15.here hx rfl (hb hby d2_95) rfl ?_
                  exact k₀
                by_cases hc96 : cc = (0 : Int32)
                ·
                  refine hG _ (T15.setTop (mkF m 105 #[.val (.ref ra), .val (.ref rb), .val (.ref ro), .val (.int cc), .unset] [])) (fun t₀ k₀ => ?_) ?_
                  · show Steps p.tables e below (T15.setTop (mkF m 96 #[.val (.ref ra), .val (.ref rb), .val (.ref ro), .val (.int cc), .unset] [(.int cc)])) t₀
                    refine XS.ifYes X15.here hx rfl (pc0 := 96) (pc' := 105) rfl (hb hby d2_96) rfl ((if0 _ _).trans (teq hc96).1) (by decide) (by decide) ?_
                    exact k₀
                  obtain ⟨T16, X16, e16, st16⟩ := getS2 X15 hx hZ hown (host := "") (Or.inl (hw _ (List.mem_of_getElem? (i := 44) rfl))) Via.refl e15 S_R6 (g := (mkF m 105 #[.val (.ref ra), .val (.ref rb), .val (.ref ro), .val (.int cc), .unset] [])) rfl (hb hby d2_105)
                  refine hG _ _ (fun t₀ k₀ => st16 _ k₀) ?_
                  show G (T16.setTop (mkF m 108 #[.val (.ref ra), .val (.ref rb), .val (.ref ro), .val (.int cc), .unset] [(.ref r6)]))
                  refine hG _ (T16.setTop (mkF m 135 #[.val (.ref ra), .val (.ref rb), .val (.ref ro), .val (.int cc), .val (.ref r6)] [(.ref r6)])) (fun t₀ k₀ => ?_) ?_
                  · show Steps p.tables e below (T16.setTop (mkF m 108 #[.val (.ref ra), .val (.ref rb), .val (.ref ro), .val (.int cc), .unset] [(.ref r6)])) t₀
                    refine XS.astore X16.here hx rfl (hb hby d2_108) rfl rfl (l' := #[.val (.ref ra), .val (.ref rb), .val (.ref ro), .val (.int cc), .val (.ref r6)]) rfl ?_
                    show Steps p.tables e below (T16.setTop (mkF m 110 #[.val (.ref ra), .val (.ref rb), .val (.ref ro), .val (.int cc), .val (.ref r6)] [])) t₀
                    refine XS.goto X16.here hx rfl (pc0 := 110) (pc' := 133) rfl (hb hby d2_110) (by decide) (by decide) ?_
                    show Steps p.tables e below (T16.setTop (mkF m 133 #[.val (.ref ra), .val (.ref rb), .val (.ref ro), .val (.int cc), .val (.ref r6)] [])) t₀
                    refine XS.aload X16.here hx rfl (hb hby d2_133) rfl rfl ?_
                    exact k₀
                  refine hF _ T16 _ _ _ (some (.ref r6)) _ X16 e16 (fun h => by rw [hrt] at h; cases h) (by decide) (by decide) ?_ (fun fs hr => own_retA X16 hx hrt rfl rfl rfl (hb hby d2_135) hr)
                  exact ⟨by simp [own_dec, eq_false hc4, eq_false hc11, eq_false hc26, eq_false hc33, eq_true hc48, eq_false hc55, eq_false hc77, eq_true hc96], N0, rfl⟩
                ·
                  refine hG _ (T15.setTop (mkF m 99 #[.val (.ref ra), .val (.ref rb), .val (.ref ro), .val (.int cc), .unset] [])) (fun t₀ k₀ => ?_) ?_
                  · show Steps p.tables e below (T15.setTop (mkF m 96 #[.val (.ref ra), .val (.ref rb), .val (.ref ro), .val (.int cc), .unset] [(.int cc)])) t₀
                    refine XS.ifNo X15.here hx rfl (hb hby d2_96) rfl ((if0 _ _).trans (feq hc96).1) ?_
                    exact k₀
                  obtain ⟨T17, X17, e17, st17⟩ := getS2 X15 hx hZ hown (host := "") (Or.inl (hw _ (List.mem_of_getElem? (i := 31) rfl))) Via.refl e15 S_R7 (g := (mkF m 99 #[.val (.ref ra), .val (.ref rb), .val (.ref ro), .val (.int cc), .unset] [])) rfl (hb hby d2_99)
                  refine hG _ _ (fun t₀ k₀ => st17 _ k₀) ?_
                  show G (T17.setTop (mkF m 102 #[.val (.ref ra), .val (.ref rb), .val (.ref ro), .val (.int cc), .unset] [(.ref r7)]))
                  refine hG _ (T17.setTop (mkF m 135 #[.val (.ref ra), .val (.ref rb), .val (.ref ro), .val (.int cc), .val (.ref r7)] [(.ref r7)])) (fun t₀ k₀ => ?_) ?_
                  · show Steps p.tables e below (T17.setTop (mkF m 102 #[.val (.ref ra), .val (.ref rb), .val (.ref ro), .val (.int cc), .unset] [(.ref r7)])) t₀
                    refine XS.goto X17.here hx rfl (pc0 := 102) (pc' := 108) rfl (hb hby d2_102) (by decide) (by decide) ?_
                    show Steps p.tables e below (T17.setTop (mkF m 108 #[.val (.ref ra), .val (.ref rb), .val (.ref ro), .val (.int cc), .unset] [(.ref r7)])) t₀
                    refine XS.astore X17.here hx rfl (hb hby d2_108) rfl rfl (l' := #[.val (.ref ra), .val (.ref rb), .val (.ref ro), .val (.int cc), .val (.ref r7)]) rfl ?_
                    show Steps p.tables e below (T17.setTop (mkF m 110 #[.val (.ref ra), .val (.ref rb), .val (.ref ro), .val (.int cc), .val (.ref r7)] [])) t₀
                    refine XS.goto X17.here hx rfl (pc0 := 110) (pc' := 133) rfl (hb hby d2_110) (by decide) (by decide) ?_
                    show Steps p.tables e below (T17.setTop (mkF m 133 #[.val (.ref ra), .val (.ref rb), .val (.ref ro), .val (.int cc), .val (.ref r7)] [])) t₀
                    refine XS.aload X17.here hx rfl (hb hby d2_133) rfl rfl ?_
                    exact k₀
                  refine hF _ T17 _ _ _ (some (.ref r7)) _ X17 e17 (fun h => by rw [hrt] at h; cases h) (by decide) (by decide) ?_ (fun fs hr => own_retA X17 hx hrt rfl rfl rfl (hb hby d2_135) hr)
                  exact ⟨by simp [own_dec, eq_false hc4, eq_false hc11, eq_false hc26, eq_false hc33, eq_true hc48, eq_false hc55, eq_false hc77, eq_false hc96], N0, rfl⟩
          ·
            refine hG _ (T9.setTop (mkF m 67 #[.val (.ref ra), .val (.ref rb), .val (.ref ro), .val (.int cc), .unset] [(.ref ra)])) (fun t₀ k₀ => ?_) ?_
            · show Steps p.tables e below (T9.setTop (mkF m 48 #[.val (.ref ra), .val (.ref rb), .val (.ref ro), .val (.int cc), .unset] [(.ref wKO), (.ref ra)])) t₀
              refine Jvm.RoadKit.acmp (g := (mkF m 48 #[.val (.ref ra), .val (.ref rb), .val (.ref ro), .val (.int cc), .unset] [(.ref wKO), (.ref ra)])) X9 hx rfl rfl rfl (pc0 := 48) (pc' := 66) (same := false) rfl (hb hby d2_48) rfl (decide_eq_false fun q => hc48 (Value.ref.inj q)) (by decide) (by decide) ?_
              show Steps p.tables e below (T9.setTop (mkF m 66 #[.val (.ref ra), .val (.ref rb), .val (.ref ro), .val (.int cc), .unset] [])) t₀
              refine XS.aloadN X9.here hx rfl (hb hby d2_66) rfl rfl ?_
              exact k₀
            obtain ⟨T18, X18, e18, st18⟩ := getS2 X9 hx hZ hown (host := "") (Or.inl (hw _ (List.mem_of_getElem? (i := 21) rfl))) Via.refl e9 S_KONS (g := (mkF m 67 #[.val (.ref ra), .val (.ref rb), .val (.ref ro), .val (.int cc), .unset] [(.ref ra)])) rfl (hb hby d2_67)
            refine hG _ _ (fun t₀ k₀ => st18 _ k₀) ?_
            show G (T18.setTop (mkF m 70 #[.val (.ref ra), .val (.ref rb), .val (.ref ro), .val (.int cc), .unset] [(.ref wKO), (.ref ra)]))
            refine hG _ (T18.setTop (mkF m 89 #[.val (.ref ra), .val (.ref rb), .val (.ref ro), .val (.int cc), .unset] [(.ref ra)])) (fun t₀ k₀ => ?_) ?_
            · show Steps p.tables e below (T18.setTop (mkF m 70 #[.val (.ref ra), .val (.ref rb), .val (.ref ro), .val (.int cc), .unset] [(.ref wKO), (.ref ra)])) t₀
              refine Jvm.RoadKit.acmp (g := (mkF m 70 #[.val (.ref ra), .val (.ref rb), .val (.ref ro), .val (.int cc), .unset] [(.ref wKO), (.ref ra)])) X18 hx rfl rfl rfl (pc0 := 70) (pc' := 88) (same := false) rfl (hb hby d2_70) rfl (decide_eq_false fun q => hc48 (Value.ref.inj q)) (by decide) (by decide) ?_
              show Steps p.tables e below (T18.setTop (mkF m 88 #[.val (.ref ra), .val (.ref rb), .val (.ref ro), .val (.int cc), .unset] [])) t₀
              refine XS.aloadN X18.here hx rfl (hb hby d2_88) rfl rfl ?_
              exact k₀
            obtain ⟨T19, X19, e19, st19⟩ := getS2 X18 hx hZ hown (host := "") (Or.inl (hw _ (List.mem_of_getElem? (i := 21) rfl))) Via.refl e18 S_KONS (g := (mkF m 89 #[.val (.ref ra), .val (.ref rb), .val (.ref ro), .val (.int cc), .unset] [(.ref ra)])) rfl (hb hby d2_89)
            refine hG _ _ (fun t₀ k₀ => st19 _ k₀) ?_
            show G (T19.setTop (mkF m 92 #[.val (.ref ra), .val (.ref rb), .val (.ref ro), .val (.int cc), .unset] [(.ref wKO), (.ref ra)]))
            refine hG _ (T19.setTop (mkF m 114 #[.val (.ref ra), .val (.ref rb), .val (.ref ro), .val (.int cc), .unset] [(.ref rb)])) (fun t₀ k₀ => ?_) ?_
            · show Steps p.tables e below (T19.setTop (mkF m 92 #[.val (.ref ra), .val (.ref rb), .val (.ref ro), .val (.int cc), .unset] [(.ref wKO), (.ref ra)])) t₀
              refine Jvm.RoadKit.acmp (g := (mkF m 92 #[.val (.ref ra), .val (.ref rb), .val (.ref ro), .val (.int cc), .unset] [(.ref wKO), (.ref ra)])) X19 hx rfl rfl rfl (pc0 := 92) (pc' := 113) (same := false) rfl (hb hby d2_92) rfl (decide_eq_false fun q => hc48 (Value.ref.inj q)) (by decide) (by decide) ?_
              show Steps p.tables e below (T19.setTop (mkF m 113 #[.val (.ref ra), .val (.ref rb), .val (.ref ro), .val (.int cc), .unset] [])) t₀
              refine XS.aloadN X19.here hx rfl (hb hby d2_113) rfl rfl ?_
              exact k₀
            obtain ⟨T20, X20, e20, st20⟩ := getS2 X19 hx hZ hown (host := "") (Or.inl (hw _ (List.mem_of_getElem? (i := 21) rfl))) Via.refl e19 S_KONS (g := (mkF m 114 #[.val (.ref ra), .val (.ref rb), .val (.ref ro), .val (.int cc), .unset] [(.ref rb)])) rfl (hb hby d2_114)
            refine hG _ _ (fun t₀ k₀ => st20 _ k₀) ?_
            show G (T20.setTop (mkF m 117 #[.val (.ref ra), .val (.ref rb), .val (.ref ro), .val (.int cc), .unset] [(.ref wKO), (.ref rb)]))
            by_cases hc117 : rb = wKO
            ·
              refine hG _ (T20.setTop (mkF m 120 #[.val (.ref ra), .val (.ref rb), .val (.ref ro), .val (.int cc), .unset] [])) (fun t₀ k₀ => ?_) ?_
              · show Steps p.tables e below (T20.setTop (mkF m 117 #[.val (.ref ra), .val (.ref rb), .val (.ref ro), .val (.int cc), .unset] [(.ref wKO), (.ref rb)])) t₀
                refine Jvm.RoadKit.acmp (g := (mkF m 117 #[.val (.ref ra), .val (.ref rb), .val (.ref ro), .val (.int cc), .unset] [(.ref wKO), (.ref rb)])) X20 hx rfl rfl rfl (pc0 := 117) (pc' := 120) (same := true) rfl (hb hby d2_117) rfl (decide_eq_true (congrArg Value.ref hc117)) (by decide) (by decide) ?_
                exact k₀
              obtain ⟨T21, X21, e21, st21⟩ := getS2 X20 hx hZ hown (host := "") (Or.inl (hw _ (List.mem_of_getElem? (i := 22) rfl))) Via.refl e20 S_R3 (g := (mkF m 120 #[.val (.ref ra), .val (.ref rb), .val (.ref ro), .val (.int cc), .unset] [])) rfl (hb hby d2_120)
              refine hG _ _ (fun t₀ k₀ => st21 _ k₀) ?_
              show G (T21.setTop (mkF m 123 #[.val (.ref ra), .val (.ref rb), .val (.ref ro), .val (.int cc), .unset] [(.ref r3)]))
              refine hG _ (T21.setTop (mkF m 135 #[.val (.ref ra), .val (.ref rb), .val (.ref ro), .val (.int cc), .val (.ref r3)] [(.ref r3)])) (fun t₀ k₀ => ?_) ?_
              · show Steps p.tables e below (T21.setTop (mkF m 123 #[.val (.ref ra), .val (.ref rb), .val (.ref ro), .val (.int cc), .unset] [(.ref r3)])) t₀
                refine XS.astore X21.here hx rfl (hb hby d2_123) rfl rfl (l' := #[.val (.ref ra), .val (.ref rb), .val (.ref ro), .val (.int cc), .val (.ref r3)]) rfl ?_
                show Steps p.tables e below (T21.setTop (mkF m 125 #[.val (.ref ra), .val (.ref rb), .val (.ref ro), .val (.int cc), .val (.ref r3)] [])) t₀
                refine XS.goto X21.here hx rfl (pc0 := 125) (pc' := 133) rfl (hb hby d2_125) (by decide) (by decide) ?_
                show Steps p.tables e below (T21.setTop (mkF m 133 #[.val (.ref ra), .val (.ref rb), .val (.ref ro), .val (.int cc), .val (.ref r3)] [])) t₀
                refine XS.aload X21.here hx rfl (hb hby d2_133) rfl rfl ?_
                exact k₀
              refine hF _ T21 _ _ _ (some (.ref r3)) _ X21 e21 (fun h => by rw [hrt] at h; cases h) (by decide) (by decide) ?_ (fun fs hr => own_retA X21 hx hrt rfl rfl rfl (hb hby d2_135) hr)
              exact ⟨by simp [own_dec, eq_false hc4, eq_false hc11, eq_false hc26, eq_false hc33, eq_false hc48, eq_true hc117], N0, rfl⟩
            ·
              refine hG _ (T20.setTop (mkF m 128 #[.val (.ref ra), .val (.ref rb), .val (.ref ro), .val (.int cc), .unset] [])) (fun t₀ k₀ => ?_) ?_
              · show Steps p.tables e below (T20.setTop (mkF m 117 #[.val (.ref ra), .val (.ref rb), .val (.ref ro), .val (.int cc), .unset] [(.ref wKO), (.ref rb)])) t₀
                refine Jvm.RoadKit.acmp (g := (mkF m 117 #[.val (.ref ra), .val (.ref rb), .val (.ref ro), .val (.int cc), .unset] [(.ref wKO), (.ref rb)])) X20 hx rfl rfl rfl (pc0 := 117) (pc' := 128) (same := false) rfl (hb hby d2_117) rfl (decide_eq_false fun q => hc117 (Value.ref.inj q)) (by decide) (by decide) ?_
                exact k₀
              obtain ⟨T22, X22, e22, st22⟩ := getS2 X20 hx hZ hown (host := "") (Or.inl (hw _ (List.mem_of_getElem? (i := 48) rfl))) Via.refl e20 S_R4 (g := (mkF m 128 #[.val (.ref ra), .val (.ref rb), .val (.ref ro), .val (.int cc), .unset] [])) rfl (hb hby d2_128)
              refine hG _ _ (fun t₀ k₀ => st22 _ k₀) ?_
              show G (T22.setTop (mkF m 131 #[.val (.ref ra), .val (.ref rb), .val (.ref ro), .val (.int cc), .unset] [(.ref r4)]))
              refine hG _ (T22.setTop (mkF m 135 #[.val (.ref ra), .val (.ref rb), .val (.ref ro), .val (.int cc), .val (.ref r4)] [(.ref r4)])) (fun t₀ k₀ => ?_) ?_
              · show Steps p.tables e below (T22.setTop (mkF m 131 #[.val (.ref ra), .val (.ref rb), .val (.ref ro), .val (.int cc), .unset] [(.ref r4)])) t₀
                refine XS.astore X22.here hx rfl (hb hby d2_131) rfl rfl (l' := #[.val (.ref ra), .val (.ref rb), .val (.ref ro), .val (.int cc), .val (.ref r4)]) rfl ?_
                show Steps p.tables e below (T22.setTop (mkF m 133 #[.val (.ref ra), .val (.ref rb), .val (.ref ro), .val (.int cc), .val (.ref r4)] [])) t₀
                refine XS.aload X22.here hx rfl (hb hby d2_133) rfl rfl ?_
                exact k₀
              refine hF _ T22 _ _ _ (some (.ref r4)) _ X22 e22 (fun h => by rw [hrt] at h; cases h) (by decide) (by decide) ?_ (fun fs hr => own_retA X22 hx hrt rfl rfl rfl (hb hby d2_135) hr)
              exact ⟨by simp [own_dec, eq_false hc4, eq_false hc11, eq_false hc26, eq_false hc33, eq_false hc48, eq_false hc117], N0, rfl⟩
theorem d3_0 : decode prog_5_method_6_code 0 = .ok (.aload_n 0, 1) := by decide +kernel
theorem d3_1 : decode prog_5_method_6_code 1 = .ok (.getstatic 16, 3) := by decide +kernel
theorem d3_4 : decode prog_5_method_6_code 4 = .ok (.if_acmp .eq 10, 3) := by decide +kernel
theorem d3_7 : decode prog_5_method_6_code 7 = .ok (.aload_n 0, 1) := by decide +kernel
theorem d3_8 : decode prog_5_method_6_code 8 = .ok (.getstatic 19, 3) := by decide +kernel
theorem d3_11 : decode prog_5_method_6_code 11 = .ok (.if_acmp .ne 7, 3) := by decide +kernel
theorem d3_14 : decode prog_5_method_6_code 14 = .ok (.iconst 1, 1) := by decide +kernel
theorem d3_15 : decode prog_5_method_6_code 15 = .ok (.goto 4, 3) := by decide +kernel
theorem d3_18 : decode prog_5_method_6_code 18 = .ok (.iconst 0, 1) := by decide +kernel
theorem d3_19 : decode prog_5_method_6_code 19 = .ok (.ireturn, 1) := by decide +kernel
theorem pn_3 : plainFor (⟨"com/example/concordat/concordat/core/ConflictRule", "holderReleases", "()Z"⟩ : MethodName) = true := plainFor_of_name (by first | (simp [plainName, overriddenIn]; done) | decide +kernel)
theorem ef_rm3 (m : MethodId) (x0 : Addr) : entryFrame m #[(.ref x0)] 1 = mkF m 0 #[.val (.ref x0)] [] := by first | (simp [entryFrame, mkF, argsToLocals, Value.category]; done) | rfl
def Q_rm3 (Z : State) (a1 r7 r8 : Addr) (r : Int32) (h0 : Heap) (n0 : Nat) (v : Option Value) (h : Heap) (L : List Loc) : Prop := v = some (.int r) ∧ Fr n0 L ∧ h = h0
set_option maxRecDepth 65536 in
set_option maxHeartbeats 40000000 in
theorem rm3 (l : Launch) (Z : State) (a0 : Array Value) (hw : ∀ d ∈ tables_1, d.before a0 Z = true) (ws : List Jvm.Cond) (a1 r7 r8 : Addr) (r : Int32) (h0 : Heap) (n0 : Nat) (Z0 : n0 ≤ h0.size) (S_R7 : Sta Z h0 "com/example/concordat/concordat/core/ConflictRule" "R7" "Lcom/example/concordat/concordat/core/ConflictRule;" (.ref r7)) (S_R8 : Sta Z h0 "com/example/concordat/concordat/core/ConflictRule" "R8" "Lcom/example/concordat/concordat/core/ConflictRule;" (.ref r8)) (hr : (if a1 = r7 ∨ a1 = r8 then (1 : Int32) else 0) = r) :
    MetFree l (⟨"com/example/concordat/concordat/core/ConflictRule", "holderReleases", "()Z"⟩ : MethodName) (head1 (Jvm.Cond.code (⟨"com/example/concordat/concordat/core/ConflictRule", "holderReleases", "()Z"⟩ : MethodName) prog_5_method_6_code 1 (some .boolean) :: ws) ({ frames := 0, cells := 0, slots := 0, locals := 0 } : Room)) (fun a U => a = #[(.ref a1)] ∧ Z.Warmed39 U.vm ∧ U.heap = h0) (fun _ _ _ _ _ => True) (fun _ U o U' => ∃ v L, o = .returned v ∧ Q_rm3 Z a1 r7 r8 r h0 n0 v U'.heap L ∧ FrameEnd U o U' L ({ frames := 0, cells := 0, slots := 0, locals := 0 } : Room).cells ({ frames := 0, cells := 0, slots := 0, locals := 0 } : Room).slots) := by
  refine own_body (Q := fun v h L => Q_rm3 Z a1 r7 r8 r h0 n0 v h L) pn_3 ?_
  intro p e s m below meth c s₁ G X0 hx hZ hby hml hown hnm hrt e0 hG hF
  have hown : s.vm.findClass "com/example/concordat/concordat/core/ConflictRule" = some m.cls := hown
  have N0 := Fr.nil n0
  rw [ef_rm3 m a1]
  show G (s₁.setTop (mkF m 0 #[.val (.ref a1)] []))
  refine hG _ (s₁.setTop (mkF m 1 #[.val (.ref a1)] [(.ref a1)])) (fun t₀ k₀ => ?_) ?_
  · show Steps p.tables e below (s₁.setTop (mkF m 0 #[.val (.ref a1)] [])) t₀
    refine XS.aloadN X0.here hx rfl (hb hby d3_0) rfl rfl ?_
    exact k₀
  obtain ⟨T1, X1, e1, st1⟩ := getS2 X0 hx hZ hown (host := "") (Or.inl (hw _ (List.mem_of_getElem? (i := 31) rfl))) Via.refl e0 S_R7 (g := (mkF m 1 #[.val (.ref a1)] [(.ref a1)])) rfl (hb hby d3_1)
  refine hG _ _ (fun t₀ k₀ => st1 _ k₀) ?_
  show G (T1.setTop (mkF m 4 #[.val (.ref a1)] [(.ref r7), (.ref a1)]))
  by_cases hc4 : a1 = r7
  ·
    refine hG _ (T1.setTop (mkF m 19 #[.val (.ref a1)] [(.int (1 : Int32))])) (fun t₀ k₀ => ?_) ?_
    · show Steps p.tables e below (T1.setTop (mkF m 4 #[.val (.ref a1)] [(.ref r7), (.ref a1)])) t₀
      refine Jvm.RoadKit.acmp (g := (mkF m 4 #[.val (.ref a1)] [(.ref r7), (.ref a1)])) X1 hx rfl rfl rfl (pc0 := 4) (pc' := 14) (same := true) rfl (hb hby d3_4) rfl (decide_eq_true (congrArg Value.ref hc4)) (by decide) (by decide) ?_
      show Steps p.tables e below (T1.setTop (mkF m 14 #[.val (.ref a1)] [])) t₀
      refine XS.iconst X1.here hx rfl (hb hby d3_14) ?_
      show Steps p.tables e below (T1.setTop (mkF m 15 #[.val (.ref a1)] [(.int (1 : Int32))])) t₀
      refine XS.goto X1.here hx rfl (pc0 := 15) (pc' := 19) rfl (hb hby d3_15) (by decide) (by decide) ?_
      exact k₀
    refine hF _ T1 _ _ _ (some (.int (1 : Int32))) _ X1 e1 (fun h => by rw [hrt] at h; cases h) (by decide) (by decide) ?_ (fun fs hr => retN X1 hx (t := .boolean) hrt (by simp) (hb hby d3_19) hr)
    exact ⟨by rw [← hr]; simp [eq_true hc4], N0, rfl⟩
  ·
    refine hG _ (T1.setTop (mkF m 8 #[.val (.ref a1)] [(.ref a1)])) (fun t₀ k₀ => ?_) ?_
    · show Steps p.tables e below (T1.setTop (mkF m 4 #[.val (.ref a1)] [(.ref r7), (.ref a1)])) t₀
      refine Jvm.RoadKit.acmp (g := (mkF m 4 #[.val (.ref a1)] [(.ref r7), (.ref a1)])) X1 hx rfl rfl rfl (pc0 := 4) (pc' := 7) (same := false) rfl (hb hby d3_4) rfl (decide_eq_false fun q => hc4 (Value.ref.inj q)) (by decide) (by decide) ?_
      show Steps p.tables e below (T1.setTop (mkF m 7 #[.val (.ref a1)] [])) t₀
      refine XS.aloadN X1.here hx rfl (hb hby d3_7) rfl rfl ?_
      exact k₀
    obtain ⟨T2, X2, e2, st2⟩ := getS2 X1 hx hZ hown (host := "") (Or.inl (hw _ (List.mem_of_getElem? (i := 33) rfl))) Via.refl e1 S_R8 (g := (mkF m 8 #[.val (.ref a1)] [(.ref a1)])) rfl (hb hby d3_8)
    refine hG _ _ (fun t₀ k₀ => st2 _ k₀) ?_
    show G (T2.setTop (mkF m 11 #[.val (.ref a1)] [(.ref r8), (.ref a1)]))
    by_cases hc11 : a1 = r8
    ·
      refine hG _ (T2.setTop (mkF m 19 #[.val (.ref a1)] [(.int (1 : Int32))])) (fun t₀ k₀ => ?_) ?_
      · show Steps p.tables e below (T2.setTop (mkF m 11 #[.val (.ref a1)] [(.ref r8), (.ref a1)])) t₀
        refine Jvm.RoadKit.acmp (g := (mkF m 11 #[.val (.ref a1)] [(.ref r8), (.ref a1)])) X2 hx rfl rfl rfl (pc0 := 11) (pc' := 14) (same := true) rfl (hb hby d3_11) rfl (decide_eq_true (congrArg Value.ref hc11)) (by decide) (by decide) ?_
        show Steps p.tables e below (T2.setTop (mkF m 14 #[.val (.ref a1)] [])) t₀
        refine XS.iconst X2.here hx rfl (hb hby d3_14) ?_
        show Steps p.tables e below (T2.setTop (mkF m 15 #[.val (.ref a1)] [(.int (1 : Int32))])) t₀
        refine XS.goto X2.here hx rfl (pc0 := 15) (pc' := 19) rfl (hb hby d3_15) (by decide) (by decide) ?_
        exact k₀
      refine hF _ T2 _ _ _ (some (.int (1 : Int32))) _ X2 e2 (fun h => by rw [hrt] at h; cases h) (by decide) (by decide) ?_ (fun fs hr => retN X2 hx (t := .boolean) hrt (by simp) (hb hby d3_19) hr)
      exact ⟨by rw [← hr]; simp [eq_false hc4, eq_true hc11], N0, rfl⟩
    ·
      refine hG _ (T2.setTop (mkF m 19 #[.val (.ref a1)] [(.int (0 : Int32))])) (fun t₀ k₀ => ?_) ?_
      · show Steps p.tables e below (T2.setTop (mkF m 11 #[.val (.ref a1)] [(.ref r8), (.ref a1)])) t₀
        refine Jvm.RoadKit.acmp (g := (mkF m 11 #[.val (.ref a1)] [(.ref r8), (.ref a1)])) X2 hx rfl rfl rfl (pc0 := 11) (pc' := 18) (same := false) rfl (hb hby d3_11) rfl (decide_eq_false fun q => hc11 (Value.ref.inj q)) (by decide) (by decide) ?_
        show Steps p.tables e below (T2.setTop (mkF m 18 #[.val (.ref a1)] [])) t₀
        refine XS.iconst X2.here hx rfl (hb hby d3_18) ?_
        exact k₀
      refine hF _ T2 _ _ _ (some (.int (0 : Int32))) _ X2 e2 (fun h => by rw [hrt] at h; cases h) (by decide) (by decide) ?_ (fun fs hr => retN X2 hx (t := .boolean) hrt (by simp) (hb hby d3_19) hr)
      exact ⟨by rw [← hr]; simp [eq_false hc4, eq_false hc11], N0, rfl⟩
theorem pn_0 : plainFor (⟨"com/example/concordat/concordat/core/ConflictRuleHolderReleasesPinLaw", "law", "(IIII)Z"⟩ : MethodName) = true := plainFor_of_name (by first | (simp [plainName, overriddenIn]; done) | decide +kernel)
theorem ef_rm0 (m : MethodId) (x0 : Int32) (x1 : Int32) (x2 : Int32) (x3 : Int32) : entryFrame m #[(.int x0), (.int x1), (.int x2), (.int x3)] maxLocals = mkF m 0 #[.val (.int x0), .val (.int x1), .val (.int x2), .val (.int x3), .unset, .unset, .unset, .unset, .unset, .unset, .unset] [] := by first | (simp [entryFrame, mkF, argsToLocals, Value.category, maxLocals]; done) | rfl
def Q_rm0 (Z : State) (p1 p2 p3 p4 : Int32) (wPA wPF wOP wKO wAU wC wS r3 r4 r5 r6 r7 r8 r9 r10 : Addr) (h0 : Heap) (n0 : Nat) (v : Option Value) (h : Heap) (L : List Loc) : Prop := v = some (.int (1 : Int32)) ∧ Fr n0 L
set_option maxRecDepth 65536 in
set_option maxHeartbeats 40000000 in
theorem rm0 (l : Launch) (Z : State) (a0 : Array Value) (hw : ∀ d ∈ tables_1, d.before a0 Z = true) (ws : List Jvm.Cond) (p1 p2 p3 p4 : Int32) (wPA wPF wOP wKO wAU wC wS r3 r4 r5 r6 r7 r8 r9 r10 : Addr) (h0 : Heap) (n0 : Nat) (Z0 : n0 ≤ h0.size) (S_PESS_AKT : Sta Z h0 "com/example/concordat/concordat/core/TransactionType" "PESS_AKT" "Lcom/example/concordat/concordat/core/TransactionType;" (.ref wPA)) (S_PESS_AF : Sta Z h0 "com/example/concordat/concordat/core/TransactionType" "PESS_AF" "Lcom/example/concordat/concordat/core/TransactionType;" (.ref wPF)) (S_OPT_AKT : Sta Z h0 "com/example/concordat/concordat/core/TransactionType" "OPT_AKT" "Lcom/example/concordat/concordat/core/TransactionType;" (.ref wOP)) (S_KONS : Sta Z h0 "com/example/concordat/concordat/core/TransactionType" "KONS" "Lcom/example/concordat/concordat/core/TransactionType;" (.ref wKO)) (S_AUTO : Sta Z h0 "com/example/concordat/concordat/core/TransactionType" "AUTO" "Lcom/example/concordat/concordat/core/TransactionType;" (.ref wAU)) (S_CONTENTS : Sta Z h0 "com/example/concordat/concordat/core/DocumentObject" "CONTENTS" "Lcom/example/concordat/concordat/core/DocumentObject;" (.ref wC)) (S_STATUS : Sta Z h0 "com/example/concordat/concordat/core/DocumentObject" "STATUS" "Lcom/example/concordat/concordat/core/DocumentObject;" (.ref wS)) (S_R3 : Sta Z h0 "com/example/concordat/concordat/core/ConflictRule" "R3" "Lcom/example/concordat/concordat/core/ConflictRule;" (.ref r3)) (S_R4 : Sta Z h0 "com/example/concordat/concordat/core/ConflictRule" "R4" "Lcom/example/concordat/concordat/core/ConflictRule;" (.ref r4)) (S_R5 : Sta Z h0 "com/example/concordat/concordat/core/ConflictRule" "R5" "Lcom/example/concordat/concordat/core/ConflictRule;" (.ref r5)) (S_R6 : Sta Z h0 "com/example/concordat/concordat/core/ConflictRule" "R6" "Lcom/example/concordat/concordat/core/ConflictRule;" (.ref r6)) (S_R7 : Sta Z h0 "com/example/concordat/concordat/core/ConflictRule" "R7" "Lcom/example/concordat/concordat/core/ConflictRule;" (.ref r7)) (S_R8 : Sta Z h0 "com/example/concordat/concordat/core/ConflictRule" "R8" "Lcom/example/concordat/concordat/core/ConflictRule;" (.ref r8)) (S_R9 : Sta Z h0 "com/example/concordat/concordat/core/ConflictRule" "R9" "Lcom/example/concordat/concordat/core/ConflictRule;" (.ref r9)) (S_R10 : Sta Z h0 "com/example/concordat/concordat/core/ConflictRule" "R10" "Lcom/example/concordat/concordat/core/ConflictRule;" (.ref r10)) (E_r3 : Exa Z h0 r3 "com/example/concordat/concordat/core/ConflictRule") (E_r4 : Exa Z h0 r4 "com/example/concordat/concordat/core/ConflictRule") (E_r5 : Exa Z h0 r5 "com/example/concordat/concordat/core/ConflictRule") (E_r6 : Exa Z h0 r6 "com/example/concordat/concordat/core/ConflictRule") (E_r7 : Exa Z h0 r7 "com/example/concordat/concordat/core/ConflictRule") (E_r8 : Exa Z h0 r8 "com/example/concordat/concordat/core/ConflictRule") (E_r9 : Exa Z h0 r9 "com/example/concordat/concordat/core/ConflictRule") (E_r10 : Exa Z h0 r10 "com/example/concordat/concordat/core/ConflictRule") (ne_wKO_wOP : wKO ≠ wOP) (ne_wKO_wAU : wKO ≠ wAU) (ne_wPA_wOP : wPA ≠ wOP) (ne_wPA_wAU : wPA ≠ wAU) (ne_wPA_wKO : wPA ≠ wKO) (ne_wPF_wOP : wPF ≠ wOP) (ne_wPF_wAU : wPF ≠ wAU) (ne_wPF_wKO : wPF ≠ wKO) (ne_r3_r7 : r3 ≠ r7) (ne_r3_r8 : r3 ≠ r8) (ne_r4_r7 : r4 ≠ r7) (ne_r4_r8 : r4 ≠ r8) (ne_r5_r7 : r5 ≠ r7) (ne_r5_r8 : r5 ≠ r8) (ne_r6_r7 : r6 ≠ r7) (ne_r6_r8 : r6 ≠ r8) (ne_r9_r7 : r9 ≠ r7) (ne_r9_r8 : r9 ≠ r8) (ne_r10_r7 : r10 ≠ r7) (ne_r10_r8 : r10 ≠ r8) (neCS : wC ≠ wS) :
    MetFree l x (head1 (Jvm.Cond.code x code maxLocals ret :: ws) room_1) (fun a U => a = #[(.int p1), (.int p2), (.int p3), (.int p4)] ∧ Z.Warmed39 U.vm ∧ U.heap = h0) (fun _ _ _ _ _ => True) (fun _ U o U' => ∃ v L, o = .returned v ∧ Q_rm0 Z p1 p2 p3 p4 wPA wPF wOP wKO wAU wC wS r3 r4 r5 r6 r7 r8 r9 r10 h0 n0 v U'.heap L ∧ FrameEnd U o U' L room_1.cells room_1.slots) := by
  refine own_body (Q := fun v h L => Q_rm0 Z p1 p2 p3 p4 wPA wPF wOP wKO wAU wC wS r3 r4 r5 r6 r7 r8 r9 r10 h0 n0 v h L) pn_0 ?_
  intro p e s m below meth c s₁ G X0 hx hZ hby hml hown hnm hrt e0 hG hF
  have hml : c.maxLocals = 11 := hml
  have hrt : meth.sig.returnType = some .boolean := hrt
  have hown : s.vm.findClass "com/example/concordat/concordat/core/ConflictRuleHolderReleasesPinLaw" = some m.cls := hown
  have N0 := Fr.nil n0
  rw [ef_rm0 m p1 p2 p3 p4]
  show G (s₁.setTop (mkF m 0 #[.val (.int p1), .val (.int p2), .val (.int p3), .val (.int p4), .unset, .unset, .unset, .unset, .unset, .unset, .unset] []))
  refine hG _ (s₁.setTop (mkF m 1 #[.val (.int p1), .val (.int p2), .val (.int p3), .val (.int p4), .unset, .unset, .unset, .unset, .unset, .unset, .unset] [(.int p1)])) (fun t₀ k₀ => ?_) ?_
  · show Steps p.tables e below (s₁.setTop (mkF m 0 #[.val (.int p1), .val (.int p2), .val (.int p3), .val (.int p4), .unset, .unset, .unset, .unset, .unset, .unset, .unset] [])) t₀
    refine XS.iloadN X0.here hx rfl (hb hby at_0) rfl ?_
    exact k₀
  obtain ⟨_, _, ⟨T1, L1, k1, n1⟩, -, X1, ⟨Lc1, hQ1, l1, y1, z1⟩, st1⟩ := Jvm.LawKit.callS X0 hx (y := (⟨"com/example/concordat/concordat/core/ConflictRuleHolderReleasesPinLaw", "type", "(I)Lcom/example/concordat/concordat/core/TransactionType;"⟩ : MethodName)) hown (mvT hZ (hw _ (List.mem_of_getElem? (i := 0) rfl))) (mvT hZ (hw _ (List.mem_of_getElem? (i := 1) rfl))) (mvT hZ (hw _ (List.mem_of_getElem? (i := 2) rfl))) (mvT hZ (hw _ (List.mem_of_getElem? (i := 3) rfl))) (by decide) (backOf (W := 0) (rm1 l Z a0 hw [] p1 wPA wPF wOP wKO wAU h0 n0 Z0 S_PESS_AKT S_PESS_AF S_OPT_AKT S_KONS S_AUTO) hZ (hw _ (List.mem_of_getElem? (i := 3) rfl)) (hw _ (List.mem_of_getElem? (i := 2) rfl)) (by decide) (by decide)) (g := (mkF m 1 #[.val (.int p1), .val (.int p2), .val (.int p3), .val (.int p4), .unset, .unset, .unset, .unset, .unset, .unset, .unset] [(.int p1)])) rfl (by rw [hml]; rfl) (argsL := [(.int p1)]) (rest := []) (lenOf pd_0 rfl) rfl (by show 2 * 0 + _ ≤ _; exact Nat.le_of_eq rfl) (hb hby at_1) (fun _ _ => ⟨rfl, e0, (by decide : 0 + 0 ≤ _), (by decide : 0 + 0 ≤ _)⟩)
  dsimp only [Pt.U, Pt.locs, Pt.cells, Pt.slots] at X1 l1 y1 z1 st1 hQ1
  subst l1 y1 z1
  obtain ⟨rfl, N1q, e1⟩ := hQ1
  have N1 := Fr.app N0 N1q
  refine hG _ _ (fun t₀ k₀ => st1 _ k₀) ?_
  show G (T1.setTop (mkF m 4 #[.val (.int p1), .val (.int p2), .val (.int p3), .val (.int p4), .unset, .unset, .unset, .unset, .unset, .unset, .unset] [(.ref (own_type wPA wPF wOP wKO wAU p1))]))
  obtain ⟨ta, hta⟩ : ∃ z, z = (own_type wPA wPF wOP wKO wAU p1) := ⟨_, rfl⟩
  rw [← hta]
  show G (T1.setTop (mkF m 4 #[.val (.int p1), .val (.int p2), .val (.int p3), .val (.int p4), .unset, .unset, .unset, .unset, .unset, .unset, .unset] [(.ref ta)]))
  have hta5 := own_type5 _ _ _ _ _ _ hta
  show G (T1.setTop (mkF m 4 #[.val (.int p1), .val (.int p2), .val (.int p3), .val (.int p4), .unset, .unset, .unset, .unset, .unset, .unset, .unset] [(.ref ta)]))
  refine hG _ (T1.setTop (mkF m 7 #[.val (.int p1), .val (.int p2), .val (.int p3), .val (.int p4), .val (.ref ta), .unset, .unset, .unset, .unset, .unset, .unset] [(.int p2)])) (fun t₀ k₀ => ?_) ?_
  · show Steps p.tables e below (T1.setTop (mkF m 4 #[.val (.int p1), .val (.int p2), .val (.int p3), .val (.int p4), .unset, .unset, .unset, .unset, .unset, .unset, .unset] [(.ref ta)])) t₀
    refine XS.astore X1.here hx rfl (hb hby at_4) rfl rfl (l' := #[.val (.int p1), .val (.int p2), .val (.int p3), .val (.int p4), .val (.ref ta), .unset, .unset, .unset, .unset, .unset, .unset]) rfl ?_
    show Steps p.tables e below (T1.setTop (mkF m 6 #[.val (.int p1), .val (.int p2), .val (.int p3), .val (.int p4), .val (.ref ta), .unset, .unset, .unset, .unset, .unset, .unset] [])) t₀
    refine XS.iloadN X1.here hx rfl (hb hby at_6) rfl ?_
    exact k₀
  obtain ⟨_, _, ⟨T2, L2, k2, n2⟩, -, X2, ⟨Lc2, hQ2, l2, y2, z2⟩, st2⟩ := Jvm.LawKit.callS X1 hx (y := (⟨"com/example/concordat/concordat/core/ConflictRuleHolderReleasesPinLaw", "type", "(I)Lcom/example/concordat/concordat/core/TransactionType;"⟩ : MethodName)) hown (mvT hZ (hw _ (List.mem_of_getElem? (i := 0) rfl))) (mvT hZ (hw _ (List.mem_of_getElem? (i := 1) rfl))) (mvT hZ (hw _ (List.mem_of_getElem? (i := 2) rfl))) (mvT hZ (hw _ (List.mem_of_getElem? (i := 3) rfl))) (by decide) (backOf (W := 0) (rm1 l Z a0 hw [] p2 wPA wPF wOP wKO wAU h0 n0 Z0 S_PESS_AKT S_PESS_AF S_OPT_AKT S_KONS S_AUTO) hZ (hw _ (List.mem_of_getElem? (i := 3) rfl)) (hw _ (List.mem_of_getElem? (i := 2) rfl)) (by decide) (by decide)) (g := (mkF m 7 #[.val (.int p1), .val (.int p2), .val (.int p3), .val (.int p4), .val (.ref ta), .unset, .unset, .unset, .unset, .unset, .unset] [(.int p2)])) rfl (by rw [hml]; rfl) (argsL := [(.int p2)]) (rest := []) (lenOf pd_0 rfl) rfl (by show 2 * 0 + _ ≤ _; exact Nat.le_of_eq rfl) (hb hby at_7) (fun _ _ => ⟨rfl, e1, (by decide : 0 + 0 ≤ _), (by decide : 0 + 0 ≤ _)⟩)
  dsimp only [Pt.U, Pt.locs, Pt.cells, Pt.slots] at X2 l2 y2 z2 st2 hQ2
  subst l2 y2 z2
  obtain ⟨rfl, N2q, e2⟩ := hQ2
  have N2 := Fr.app N1 N2q
  refine hG _ _ (fun t₀ k₀ => st2 _ k₀) ?_
  show G (T2.setTop (mkF m 10 #[.val (.int p1), .val (.int p2), .val (.int p3), .val (.int p4), .val (.ref ta), .unset, .unset, .unset, .unset, .unset, .unset] [(.ref (own_type wPA wPF wOP wKO wAU p2))]))
  obtain ⟨tb, htb⟩ : ∃ z, z = (own_type wPA wPF wOP wKO wAU p2) := ⟨_, rfl⟩
  rw [← htb]
  show G (T2.setTop (mkF m 10 #[.val (.int p1), .val (.int p2), .val (.int p3), .val (.int p4), .val (.ref ta), .unset, .unset, .unset, .unset, .unset, .unset] [(.ref tb)]))
  have htb5 := own_type5 _ _ _ _ _ _ htb
  show G (T2.setTop (mkF m 10 #[.val (.int p1), .val (.int p2), .val (.int p3), .val (.int p4), .val (.ref ta), .unset, .unset, .unset, .unset, .unset, .unset] [(.ref tb)]))
  refine hG _ (T2.setTop (mkF m 15 #[.val (.int p1), .val (.int p2), .val (.int p3), .val (.int p4), .val (.ref ta), .val (.ref tb), .unset, .unset, .unset, .unset, .unset] [(.int (p3 &&& (1 : Int32)))])) (fun t₀ k₀ => ?_) ?_
  · show Steps p.tables e below (T2.setTop (mkF m 10 #[.val (.int p1), .val (.int p2), .val (.int p3), .val (.int p4), .val (.ref ta), .unset, .unset, .unset, .unset, .unset, .unset] [(.ref tb)])) t₀
    refine XS.astore X2.here hx rfl (hb hby at_10) rfl rfl (l' := #[.val (.int p1), .val (.int p2), .val (.int p3), .val (.int p4), .val (.ref ta), .val (.ref tb), .unset, .unset, .unset, .unset, .unset]) rfl ?_
    show Steps p.tables e below (T2.setTop (mkF m 12 #[.val (.int p1), .val (.int p2), .val (.int p3), .val (.int p4), .val (.ref ta), .val (.ref tb), .unset, .unset, .unset, .unset, .unset] [])) t₀
    refine XS.iloadN X2.here hx rfl (hb hby at_12) rfl ?_
    show Steps p.tables e below (T2.setTop (mkF m 13 #[.val (.int p1), .val (.int p2), .val (.int p3), .val (.int p4), .val (.ref ta), .val (.ref tb), .unset, .unset, .unset, .unset, .unset] [(.int p3)])) t₀
    refine XS.iconst X2.here hx rfl (hb hby at_13) ?_
    show Steps p.tables e below (T2.setTop (mkF m 14 #[.val (.int p1), .val (.int p2), .val (.int p3), .val (.int p4), .val (.ref ta), .val (.ref tb), .unset, .unset, .unset, .unset, .unset] [(.int (1 : Int32)), (.int p3)])) t₀
    refine XS.iand X2.here hx rfl (hb hby at_14) rfl ?_
    exact k₀
  by_cases hc15 : (p3 &&& (1 : Int32)) = (0 : Int32)
  ·
    refine hG _ (T2.setTop (mkF m 18 #[.val (.int p1), .val (.int p2), .val (.int p3), .val (.int p4), .val (.ref ta), .val (.ref tb), .unset, .unset, .unset, .unset, .unset] [])) (fun t₀ k₀ => ?_) ?_
    · show Steps p.tables e below (T2.setTop (mkF m 15 #[.val (.int p1), .val (.int p2), .val (.int p3), .val (.int p4), .val (.ref ta), .val (.ref tb), .unset, .unset, .unset, .unset, .unset] [(.int (p3 &&& (1 : Int32)))])) t₀
      refine XS.ifNo X2.here hx rfl (hb hby at_15) rfl ((if0 _ _).trans (teq hc15).2) ?_
      exact k₀
    obtain ⟨T3, X3, e3, st3⟩ := getS2 X2 hx hZ hown (host := "") (Or.inl (hw _ (List.mem_of_getElem? (i := 10) rfl))) Via.refl e2 S_CONTENTS (g := (mkF m 18 #[.val (.int p1), .val (.int p2), .val (.int p3), .val (.int p4), .val (.ref ta), .val (.ref tb), .unset, .unset, .unset, .unset, .unset] [])) rfl (hb hby at_18)
    refine hG _ _ (fun t₀ k₀ => st3 _ k₀) ?_
    show G (T3.setTop (mkF m 21 #[.val (.int p1), .val (.int p2), .val (.int p3), .val (.int p4), .val (.ref ta), .val (.ref tb), .unset, .unset, .unset, .unset, .unset] [(.ref wC)]))
    refine hG _ (T3.setTop (mkF m 32 #[.val (.int p1), .val (.int p2), .val (.int p3), .val (.int p4), .val (.ref ta), .val (.ref tb), .val (.ref wC), .unset, .unset, .unset, .unset] [(.int (p4 &&& (1 : Int32)))])) (fun t₀ k₀ => ?_) ?_
    · show Steps p.tables e below (T3.setTop (mkF m 21 #[.val (.int p1), .val (.int p2), .val (.int p3), .val (.int p4), .val (.ref ta), .val (.ref tb), .unset, .unset, .unset, .unset, .unset] [(.ref wC)])) t₀
      refine XS.goto X3.here hx rfl (pc0 := 21) (pc' := 27) rfl (hb hby at_21) (by decide) (by decide) ?_
      show Steps p.tables e below (T3.setTop (mkF m 27 #[.val (.int p1), .val (.int p2), .val (.int p3), .val (.int p4), .val (.ref ta), .val (.ref tb), .unset, .unset, .unset, .unset, .unset] [(.ref wC)])) t₀
      refine XS.astore X3.here hx rfl (hb hby at_27) rfl rfl (l' := #[.val (.int p1), .val (.int p2), .val (.int p3), .val (.int p4), .val (.ref ta), .val (.ref tb), .val (.ref wC), .unset, .unset, .unset, .unset]) rfl ?_
      show Steps p.tables e below (T3.setTop (mkF m 29 #[.val (.int p1), .val (.int p2), .val (.int p3), .val (.int p4), .val (.ref ta), .val (.ref tb), .val (.ref wC), .unset, .unset, .unset, .unset] [])) t₀
      refine XS.iloadN X3.here hx rfl (hb hby at_29) rfl ?_
      show Steps p.tables e below (T3.setTop (mkF m 30 #[.val (.int p1), .val (.int p2), .val (.int p3), .val (.int p4), .val (.ref ta), .val (.ref tb), .val (.ref wC), .unset, .unset, .unset, .unset] [(.int p4)])) t₀
      refine XS.iconst X3.here hx rfl (hb hby at_30) ?_
      show Steps p.tables e below (T3.setTop (mkF m 31 #[.val (.int p1), .val (.int p2), .val (.int p3), .val (.int p4), .val (.ref ta), .val (.ref tb), .val (.ref wC), .unset, .unset, .unset, .unset] [(.int (1 : Int32)), (.int p4)])) t₀
      refine XS.iand X3.here hx rfl (hb hby at_31) rfl ?_
      exact k₀
    by_cases hc32 : (p4 &&& (1 : Int32)) = (0 : Int32)
    ·
      refine hG _ (T3.setTop (mkF m 50 #[.val (.int p1), .val (.int p2), .val (.int p3), .val (.int p4), .val (.ref ta), .val (.ref tb), .val (.ref wC), .val (.int (0 : Int32)), .unset, .unset, .unset] [(.int (0 : Int32)), (.ref wC), (.ref tb), (.ref ta)])) (fun t₀ k₀ => ?_) ?_
      · show Steps p.tables e below (T3.setTop (mkF m 32 #[.val (.int p1), .val (.int p2), .val (.int p3), .val (.int p4), .val (.ref ta), .val (.ref tb), .val (.ref wC), .unset, .unset, .unset, .unset] [(.int (p4 &&& (1 : Int32)))])) t₀
        refine XS.ifYes X3.here hx rfl (pc0 := 32) (pc' := 39) rfl (hb hby at_32) rfl ((if0 _ _).trans (teq hc32).1) (by decide) (by decide) ?_
        show Steps p.tables e below (T3.setTop (mkF m 39 #[.val (.int p1), .val (.int p2), .val (.int p3), .val (.int p4), .val (.ref ta), .val (.ref tb), .val (.ref wC), .unset, .unset, .unset, .unset] [])) t₀
        refine XS.iconst X3.here hx rfl (hb hby at_39) ?_
        show Steps p.tables e below (T3.setTop (mkF m 40 #[.val (.int p1), .val (.int p2), .val (.int p3), .val (.int p4), .val (.ref ta), .val (.ref tb), .val (.ref wC), .unset, .unset, .unset, .unset] [(.int (0 : Int32))])) t₀
        refine XS.istore X3.here hx rfl (hb hby at_40) rfl (l' := #[.val (.int p1), .val (.int p2), .val (.int p3), .val (.int p4), .val (.ref ta), .val (.ref tb), .val (.ref wC), .val (.int (0 : Int32)), .unset, .unset, .unset]) rfl ?_
        show Steps p.tables e below (T3.setTop (mkF m 42 #[.val (.int p1), .val (.int p2), .val (.int p3), .val (.int p4), .val (.ref ta), .val (.ref tb), .val (.ref wC), .val (.int (0 : Int32)), .unset, .unset, .unset] [])) t₀
        refine XS.aload X3.here hx rfl (hb hby at_42) rfl rfl ?_
        show Steps p.tables e below (T3.setTop (mkF m 44 #[.val (.int p1), .val (.int p2), .val (.int p3), .val (.int p4), .val (.ref ta), .val (.ref tb), .val (.ref wC), .val (.int (0 : Int32)), .unset, .unset, .unset] [(.ref ta)])) t₀
        refine XS.aload X3.here hx rfl (hb hby at_44) rfl rfl ?_
        show Steps p.tables e below (T3.setTop (mkF m 46 #[.val (.int p1), .val (.int p2), .val (.int p3), .val (.int p4), .val (.ref ta), .val (.ref tb), .val (.ref wC), .val (.int (0 : Int32)), .unset, .unset, .unset] [(.ref tb), (.ref ta)])) t₀
        refine XS.aload X3.here hx rfl (hb hby at_46) rfl rfl ?_
        show Steps p.tables e below (T3.setTop (mkF m 48 #[.val (.int p1), .val (.int p2), .val (.int p3), .val (.int p4), .val (.ref ta), .val (.ref tb), .val (.ref wC), .val (.int (0 : Int32)), .unset, .unset, .unset] [(.ref wC), (.ref tb), (.ref ta)])) t₀
        refine XS.iload X3.here hx rfl (hb hby at_48) rfl ?_
        exact k₀
      obtain ⟨_, _, ⟨T4, L4, k4, n4⟩, -, X4, ⟨Lc4, hQ4, l4, y4, z4⟩, st4⟩ := Jvm.LawKit.callS X3 hx (y := (⟨"com/example/concordat/concordat/core/ConflictRule", "deciding", "(Lcom/example/concordat/concordat/core/TransactionType;Lcom/example/concordat/concordat/core/TransactionType;Lcom/example/concordat/concordat/core/DocumentObject;Z)Lcom/example/concordat/concordat/core/ConflictRule;"⟩ : MethodName)) hown (mvT hZ (hw _ (List.mem_of_getElem? (i := 13) rfl))) (mvT hZ (hw _ (List.mem_of_getElem? (i := 14) rfl))) (mvT hZ (hw _ (List.mem_of_getElem? (i := 15) rfl))) (mvT hZ (hw _ (List.mem_of_getElem? (i := 16) rfl))) (by decide) (backOf (W := 0) (rm2 l Z a0 hw [] ta tb wC (0 : Int32) wOP wKO wAU wS r3 r4 r5 r6 r7 r8 r9 r10 h0 n0 Z0 S_OPT_AKT S_KONS S_AUTO S_STATUS S_R3 S_R4 S_R5 S_R6 S_R7 S_R8 S_R9 S_R10) hZ (hw _ (List.mem_of_getElem? (i := 16) rfl)) (hw _ (List.mem_of_getElem? (i := 15) rfl)) (by decide) (by decide)) (g := (mkF m 50 #[.val (.int p1), .val (.int p2), .val (.int p3), .val (.int p4), .val (.ref ta), .val (.ref tb), .val (.ref wC), .val (.int (0 : Int32)), .unset, .unset, .unset] [(.int (0 : Int32)), (.ref wC), (.ref tb), (.ref ta)])) rfl (by rw [hml]; rfl) (argsL := [(.ref ta), (.ref tb), (.ref wC), (.int (0 : Int32))]) (rest := []) (lenOf pd_1 rfl) rfl (by show 2 * 0 + _ ≤ _; exact Nat.le_of_eq rfl) (hb hby at_50) (fun _ _ => ⟨rfl, e3, (by decide : 0 + 0 ≤ _), (by decide : 0 + 0 ≤ _)⟩)
      dsimp only [Pt.U, Pt.locs, Pt.cells, Pt.slots] at X4 l4 y4 z4 st4 hQ4
      subst l4 y4 z4
      obtain ⟨rfl, N4q, e4⟩ := hQ4
      have N4 := Fr.app N2 N4q
      refine hG _ _ (fun t₀ k₀ => st4 _ k₀) ?_
      show G (T4.setTop (mkF m 53 #[.val (.int p1), .val (.int p2), .val (.int p3), .val (.int p4), .val (.ref ta), .val (.ref tb), .val (.ref wC), .val (.int (0 : Int32)), .unset, .unset, .unset] [(.ref (own_dec wOP wKO wAU wS r3 r4 r5 r6 r7 r8 r9 r10 ta tb wC (0 : Int32)))]))
      obtain ⟨d, hd⟩ : ∃ z, z = (own_dec wOP wKO wAU wS r3 r4 r5 r6 r7 r8 r9 r10 ta tb wC (0 : Int32)) := ⟨_, rfl⟩
      rw [← hd]
      show G (T4.setTop (mkF m 53 #[.val (.int p1), .val (.int p2), .val (.int p3), .val (.int p4), .val (.ref ta), .val (.ref tb), .val (.ref wC), .val (.int (0 : Int32)), .unset, .unset, .unset] [(.ref d)]))
      refine hG _ (T4.setTop (mkF m 57 #[.val (.int p1), .val (.int p2), .val (.int p3), .val (.int p4), .val (.ref ta), .val (.ref tb), .val (.ref wC), .val (.int (0 : Int32)), .val (.ref d), .unset, .unset] [(.ref tb)])) (fun t₀ k₀ => ?_) ?_
      · show Steps p.tables e below (T4.setTop (mkF m 53 #[.val (.int p1), .val (.int p2), .val (.int p3), .val (.int p4), .val (.ref ta), .val (.ref tb), .val (.ref wC), .val (.int (0 : Int32)), .unset, .unset, .unset] [(.ref d)])) t₀
        refine XS.astore X4.here hx rfl (hb hby at_53) rfl rfl (l' := #[.val (.int p1), .val (.int p2), .val (.int p3), .val (.int p4), .val (.ref ta), .val (.ref tb), .val (.ref wC), .val (.int (0 : Int32)), .val (.ref d), .unset, .unset]) rfl ?_
        show Steps p.tables e below (T4.setTop (mkF m 55 #[.val (.int p1), .val (.int p2), .val (.int p3), .val (.int p4), .val (.ref ta), .val (.ref tb), .val (.ref wC), .val (.int (0 : Int32)), .val (.ref d), .unset, .unset] [])) t₀
        refine XS.aload X4.here hx rfl (hb hby at_55) rfl rfl ?_
        exact k₀
      obtain ⟨T5, X5, e5, st5⟩ := getS2 X4 hx hZ hown (host := "") (Or.inl (hw _ (List.mem_of_getElem? (i := 5) rfl))) Via.refl e4 S_PESS_AKT (g := (mkF m 57 #[.val (.int p1), .val (.int p2), .val (.int p3), .val (.int p4), .val (.ref ta), .val (.ref tb), .val (.ref wC), .val (.int (0 : Int32)), .val (.ref d), .unset, .unset] [(.ref tb)])) rfl (hb hby at_57)
      refine hG _ _ (fun t₀ k₀ => st5 _ k₀) ?_
      show G (T5.setTop (mkF m 60 #[.val (.int p1), .val (.int p2), .val (.int p3), .val (.int p4), .val (.ref ta), .val (.ref tb), .val (.ref wC), .val (.int (0 : Int32)), .val (.ref d), .unset, .unset] [(.ref wPA), (.ref tb)]))
      by_cases hc60 : tb = wPA
      ·
        refine hG _ (T5.setTop (mkF m 80 #[.val (.int p1), .val (.int p2), .val (.int p3), .val (.int p4), .val (.ref ta), .val (.ref tb), .val (.ref wC), .val (.int (0 : Int32)), .val (.ref d), .val (.int (1 : Int32)), .unset] [(.ref ta)])) (fun t₀ k₀ => ?_) ?_
        · show Steps p.tables e below (T5.setTop (mkF m 60 #[.val (.int p1), .val (.int p2), .val (.int p3), .val (.int p4), .val (.ref ta), .val (.ref tb), .val (.ref wC), .val (.int (0 : Int32)), .val (.ref d), .unset, .unset] [(.ref wPA), (.ref tb)])) t₀
          refine Jvm.RoadKit.acmp (g := (mkF m 60 #[.val (.int p1), .val (.int p2), .val (.int p3), .val (.int p4), .val (.ref ta), .val (.ref tb), .val (.ref wC), .val (.int (0 : Int32)), .val (.ref d), .unset, .unset] [(.ref wPA), (.ref tb)])) X5 hx rfl rfl rfl (pc0 := 60) (pc' := 71) (same := true) rfl (hb hby at_60) rfl (decide_eq_true (congrArg Value.ref hc60)) (by decide) (by decide) ?_
          show Steps p.tables e below (T5.setTop (mkF m 71 #[.val (.int p1), .val (.int p2), .val (.int p3), .val (.int p4), .val (.ref ta), .val (.ref tb), .val (.ref wC), .val (.int (0 : Int32)), .val (.ref d), .unset, .unset] [])) t₀
          refine XS.iconst X5.here hx rfl (hb hby at_71) ?_
          show Steps p.tables e below (T5.setTop (mkF m 72 #[.val (.int p1), .val (.int p2), .val (.int p3), .val (.int p4), .val (.ref ta), .val (.ref tb), .val (.ref wC), .val (.int (0 : Int32)), .val (.ref d), .unset, .unset] [(.int (1 : Int32))])) t₀
          refine XS.goto X5.here hx rfl (pc0 := 72) (pc' := 76) rfl (hb hby at_72) (by decide) (by decide) ?_
          show Steps p.tables e below (T5.setTop (mkF m 76 #[.val (.int p1), .val (.int p2), .val (.int p3), .val (.int p4), .val (.ref ta), .val (.ref tb), .val (.ref wC), .val (.int (0 : Int32)), .val (.ref d), .unset, .unset] [(.int (1 : Int32))])) t₀
          refine XS.istore X5.here hx rfl (hb hby at_76) rfl (l' := #[.val (.int p1), .val (.int p2), .val (.int p3), .val (.int p4), .val (.ref ta), .val (.ref tb), .val (.ref wC), .val (.int (0 : Int32)), .val (.ref d), .val (.int (1 : Int32)), .unset]) rfl ?_
          show Steps p.tables e below (T5.setTop (mkF m 78 #[.val (.int p1), .val (.int p2), .val (.int p3), .val (.int p4), .val (.ref ta), .val (.ref tb), .val (.ref wC), .val (.int (0 : Int32)), .val (.ref d), .val (.int (1 : Int32)), .unset] [])) t₀
          refine XS.aload X5.here hx rfl (hb hby at_78) rfl rfl ?_
          exact k₀
        obtain ⟨T6, X6, e6, st6⟩ := getS2 X5 hx hZ hown (host := "") (Or.inl (hw _ (List.mem_of_getElem? (i := 8) rfl))) Via.refl e5 S_KONS (g := (mkF m 80 #[.val (.int p1), .val (.int p2), .val (.int p3), .val (.int p4), .val (.ref ta), .val (.ref tb), .val (.ref wC), .val (.int (0 : Int32)), .val (.ref d), .val (.int (1 : Int32)), .unset] [(.ref ta)])) rfl (hb hby at_80)
        refine hG _ _ (fun t₀ k₀ => st6 _ k₀) ?_
        show G (T6.setTop (mkF m 83 #[.val (.int p1), .val (.int p2), .val (.int p3), .val (.int p4), .val (.ref ta), .val (.ref tb), .val (.ref wC), .val (.int (0 : Int32)), .val (.ref d), .val (.int (1 : Int32)), .unset] [(.ref wKO), (.ref ta)]))
        by_cases hc83 : ta = wKO
        ·
          refine hG _ (T6.setTop (mkF m 93 #[.val (.int p1), .val (.int p2), .val (.int p3), .val (.int p4), .val (.ref ta), .val (.ref tb), .val (.ref wC), .val (.int (0 : Int32)), .val (.ref d), .val (.int (1 : Int32)), .unset] [(.ref wC)])) (fun t₀ k₀ => ?_) ?_
          · show Steps p.tables e below (T6.setTop (mkF m 83 #[.val (.int p1), .val (.int p2), .val (.int p3), .val (.int p4), .val (.ref ta), .val (.ref tb), .val (.ref wC), .val (.int (0 : Int32)), .val (.ref d), .val (.int (1 : Int32)), .unset] [(.ref wKO), (.ref ta)])) t₀
            refine Jvm.RoadKit.acmp (g := (mkF m 83 #[.val (.int p1), .val (.int p2), .val (.int p3), .val (.int p4), .val (.ref ta), .val (.ref tb), .val (.ref wC), .val (.int (0 : Int32)), .val (.ref d), .val (.int (1 : Int32)), .unset] [(.ref wKO), (.ref ta)])) X6 hx rfl rfl rfl (pc0 := 83) (pc' := 86) (same := true) rfl (hb hby at_83) rfl (decide_eq_true (congrArg Value.ref hc83)) (by decide) (by decide) ?_
            show Steps p.tables e below (T6.setTop (mkF m 86 #[.val (.int p1), .val (.int p2), .val (.int p3), .val (.int p4), .val (.ref ta), .val (.ref tb), .val (.ref wC), .val (.int (0 : Int32)), .val (.ref d), .val (.int (1 : Int32)), .unset] [])) t₀
            refine XS.iload X6.here hx rfl (hb hby at_86) rfl ?_
            show Steps p.tables e below (T6.setTop (mkF m 88 #[.val (.int p1), .val (.int p2), .val (.int p3), .val (.int p4), .val (.ref ta), .val (.ref tb), .val (.ref wC), .val (.int (0 : Int32)), .val (.ref d), .val (.int (1 : Int32)), .unset] [(.int (1 : Int32))])) t₀
            refine XS.ifNo X6.here hx rfl (hb hby at_88) rfl ((if0 _ _).trans (feq (by decide : ¬ ((1 : Int32) = (0 : Int32)))).1) ?_
            show Steps p.tables e below (T6.setTop (mkF m 91 #[.val (.int p1), .val (.int p2), .val (.int p3), .val (.int p4), .val (.ref ta), .val (.ref tb), .val (.ref wC), .val (.int (0 : Int32)), .val (.ref d), .val (.int (1 : Int32)), .unset] [])) t₀
            refine XS.aload X6.here hx rfl (hb hby at_91) rfl rfl ?_
            exact k₀
          obtain ⟨T7, X7, e7, st7⟩ := getS2 X6 hx hZ hown (host := "") (Or.inl (hw _ (List.mem_of_getElem? (i := 41) rfl))) Via.refl e6 S_STATUS (g := (mkF m 93 #[.val (.int p1), .val (.int p2), .val (.int p3), .val (.int p4), .val (.ref ta), .val (.ref tb), .val (.ref wC), .val (.int (0 : Int32)), .val (.ref d), .val (.int (1 : Int32)), .unset] [(.ref wC)])) rfl (hb hby at_93)
          refine hG _ _ (fun t₀ k₀ => st7 _ k₀) ?_
          show G (T7.setTop (mkF m 96 #[.val (.int p1), .val (.int p2), .val (.int p3), .val (.int p4), .val (.ref ta), .val (.ref tb), .val (.ref wC), .val (.int (0 : Int32)), .val (.ref d), .val (.int (1 : Int32)), .unset] [(.ref wS), (.ref wC)]))
          refine hG _ (T7.setTop (mkF m 113 #[.val (.int p1), .val (.int p2), .val (.int p3), .val (.int p4), .val (.ref ta), .val (.ref tb), .val (.ref wC), .val (.int (0 : Int32)), .val (.ref d), .val (.int (1 : Int32)), .val (.int (0 : Int32))] [(.ref d)])) (fun t₀ k₀ => ?_) ?_
          · show Steps p.tables e below (T7.setTop (mkF m 96 #[.val (.int p1), .val (.int p2), .val (.int p3), .val (.int p4), .val (.ref ta), .val (.ref tb), .val (.ref wC), .val (.int (0 : Int32)), .val (.ref d), .val (.int (1 : Int32)), .unset] [(.ref wS), (.ref wC)])) t₀
            refine Jvm.RoadKit.acmp (g := (mkF m 96 #[.val (.int p1), .val (.int p2), .val (.int p3), .val (.int p4), .val (.ref ta), .val (.ref tb), .val (.ref wC), .val (.int (0 : Int32)), .val (.ref d), .val (.int (1 : Int32)), .unset] [(.ref wS), (.ref wC)])) X7 hx rfl rfl rfl (pc0 := 96) (pc' := 99) (same := false) rfl (hb hby at_96) rfl (decide_eq_false fun q => neCS (Value.ref.inj q)) (by decide) (by decide) ?_
            show Steps p.tables e below (T7.setTop (mkF m 99 #[.val (.int p1), .val (.int p2), .val (.int p3), .val (.int p4), .val (.ref ta), .val (.ref tb), .val (.ref wC), .val (.int (0 : Int32)), .val (.ref d), .val (.int (1 : Int32)), .unset] [])) t₀
            refine XS.iload X7.here hx rfl (hb hby at_99) rfl ?_
            show Steps p.tables e below (T7.setTop (mkF m 101 #[.val (.int p1), .val (.int p2), .val (.int p3), .val (.int p4), .val (.ref ta), .val (.ref tb), .val (.ref wC), .val (.int (0 : Int32)), .val (.ref d), .val (.int (1 : Int32)), .unset] [(.int (0 : Int32))])) t₀
            refine XS.ifYes X7.here hx rfl (pc0 := 101) (pc' := 108) rfl (hb hby at_101) rfl ((if0 _ _).trans (teq (by decide : ((0 : Int32) = (0 : Int32)))).1) (by decide) (by decide) ?_
            show Steps p.tables e below (T7.setTop (mkF m 108 #[.val (.int p1), .val (.int p2), .val (.int p3), .val (.int p4), .val (.ref ta), .val (.ref tb), .val (.ref wC), .val (.int (0 : Int32)), .val (.ref d), .val (.int (1 : Int32)), .unset] [])) t₀
            refine XS.iconst X7.here hx rfl (hb hby at_108) ?_
            show Steps p.tables e below (T7.setTop (mkF m 109 #[.val (.int p1), .val (.int p2), .val (.int p3), .val (.int p4), .val (.ref ta), .val (.ref tb), .val (.ref wC), .val (.int (0 : Int32)), .val (.ref d), .val (.int (1 : Int32)), .unset] [(.int (0 : Int32))])) t₀
            refine XS.istore X7.here hx rfl (hb hby at_109) rfl (l' := #[.val (.int p1), .val (.int p2), .val (.int p3), .val (.int p4), .val (.ref ta), .val (.ref tb), .val (.ref wC), .val (.int (0 : Int32)), .val (.ref d), .val (.int (1 : Int32)), .val (.int (0 : Int32))]) rfl ?_
            show Steps p.tables e below (T7.setTop (mkF m 111 #[.val (.int p1), .val (.int p2), .val (.int p3), .val (.int p4), .val (.ref ta), .val (.ref tb), .val (.ref wC), .val (.int (0 : Int32)), .val (.ref d), .val (.int (1 : Int32)), .val (.int (0 : Int32))] [])) t₀
            refine XS.aload X7.here hx rfl (hb hby at_111) rfl rfl ?_
            exact k₀
          have hr : (if d = r7 ∨ d = r8 then (1 : Int32) else 0) = (0 : Int32) := by
            rw [hd]
            rw [hc83, hc60, own_L3 ne_wKO_wOP ne_wKO_wAU ne_wPA_wOP ne_wPA_wAU ne_wPA_wKO]
            rw [if_neg neCS]
            rw [if_pos rfl]
            exact if_neg (fun q => q.elim ne_r6_r7 ne_r6_r8)
          have hE : Exa Z h0 d "com/example/concordat/concordat/core/ConflictRule" := by
            rw [hd]; unfold own_dec; (repeat' split) <;> assumption
          obtain ⟨cq8, kq8, q8a, q8b, q8c⟩ := isOf hZ e7 hE
          obtain ⟨_, _, ⟨T8, L8, k8, n8⟩, -, X8, ⟨Lc8, hQ8, l8, y8, z8⟩, st8⟩ := X7.virtualBack hx (y := (⟨"com/example/concordat/concordat/core/ConflictRule", "holderReleases", "()Z"⟩ : MethodName)) (z := (⟨"com/example/concordat/concordat/core/ConflictRule", "holderReleases", "()Z"⟩ : MethodName)) hown (mvT hZ (hw _ (List.mem_of_getElem? (i := 26) rfl))) (mvT hZ (hw _ (List.mem_of_getElem? (i := 27) rfl))) (notFace_of_selects (args := #[]) (mvT hZ (hw _ (List.mem_of_getElem? (i := 29) rfl)))) (mvT hZ (hw _ (List.mem_of_getElem? (i := 29) rfl))) (mvT hZ (hw _ (List.mem_of_getElem? (i := 28) rfl))) (by decide) (backOf (W := 0) (rm3 l Z a0 hw [] d r7 r8 (0 : Int32) h0 n0 Z0 S_R7 S_R8 hr) hZ (hw _ (List.mem_of_getElem? (i := 30) rfl)) (hw _ (List.mem_of_getElem? (i := 15) rfl)) (by decide) (by decide)) q8a q8c (g := (mkF m 113 #[.val (.int p1), .val (.int p2), .val (.int p3), .val (.int p4), .val (.ref ta), .val (.ref tb), .val (.ref wC), .val (.int (0 : Int32)), .val (.ref d), .val (.int (1 : Int32)), .val (.int (0 : Int32))] [(.ref d)])) rfl (by rw [hml]; rfl) (Steps.refl _) (argsL := []) (rest := []) (lenOf pd_2 rfl) rfl (by show 2 * 0 + _ ≤ _; exact Nat.le_of_eq rfl) (hb hby at_113) (fun _ _ => ⟨rfl, e7, (by decide : 0 + 0 ≤ _), (by decide : 0 + 0 ≤ _)⟩)
          dsimp only [Pt.U, Pt.locs, Pt.cells, Pt.slots] at X8 l8 y8 z8 st8 hQ8
          subst l8 y8 z8
          obtain ⟨rfl, N8q, e8⟩ := hQ8
          have N8 := Fr.app N4 N8q
          refine hG _ _ (fun t₀ k₀ => st8.trans k₀) ?_
          show G (T8.setTop (mkF m 116 #[.val (.int p1), .val (.int p2), .val (.int p3), .val (.int p4), .val (.ref ta), .val (.ref tb), .val (.ref wC), .val (.int (0 : Int32)), .val (.ref d), .val (.int (1 : Int32)), .val (.int (0 : Int32))] [(.int (0 : Int32))]))
          refine hG _ (T8.setTop (mkF m 126 #[.val (.int p1), .val (.int p2), .val (.int p3), .val (.int p4), .val (.ref ta), .val (.ref tb), .val (.ref wC), .val (.int (0 : Int32)), .val (.ref d), .val (.int (1 : Int32)), .val (.int (0 : Int32))] [(.int (1 : Int32))])) (fun t₀ k₀ => ?_) ?_
          · show Steps p.tables e below (T8.setTop (mkF m 116 #[.val (.int p1), .val (.int p2), .val (.int p3), .val (.int p4), .val (.ref ta), .val (.ref tb), .val (.ref wC), .val (.int (0 : Int32)), .val (.ref d), .val (.int (1 : Int32)), .val (.int (0 : Int32))] [(.int (0 : Int32))])) t₀
            refine XS.iload X8.here hx rfl (hb hby at_116) rfl ?_
            show Steps p.tables e below (T8.setTop (mkF m 118 #[.val (.int p1), .val (.int p2), .val (.int p3), .val (.int p4), .val (.ref ta), .val (.ref tb), .val (.ref wC), .val (.int (0 : Int32)), .val (.ref d), .val (.int (1 : Int32)), .val (.int (0 : Int32))] [(.int (0 : Int32)), (.int (0 : Int32))])) t₀
            refine XS.icmpNo X8.here hx rfl (hb hby at_118) rfl (teq (by decide : ((0 : Int32) = (0 : Int32)))).2 ?_
            show Steps p.tables e below (T8.setTop (mkF m 121 #[.val (.int p1), .val (.int p2), .val (.int p3), .val (.int p4), .val (.ref ta), .val (.ref tb), .val (.ref wC), .val (.int (0 : Int32)), .val (.ref d), .val (.int (1 : Int32)), .val (.int (0 : Int32))] [])) t₀
            refine XS.iconst X8.here hx rfl (hb hby at_121) ?_
            show Steps p.tables e below (T8.setTop (mkF m 122 #[.val (.int p1), .val (.int p2), .val (.int p3), .val (.int p4), .val (.ref ta), .val (.ref tb), .val (.ref wC), .val (.int (0 : Int32)), .val (.ref d), .val (.int (1 : Int32)), .val (.int (0 : Int32))] [(.int (1 : Int32))])) t₀
            refine XS.goto X8.here hx rfl (pc0 := 122) (pc' := 126) rfl (hb hby at_122) (by decide) (by decide) ?_
            exact k₀
          refine hF _ T8 _ _ _ (some (.int (1 : Int32))) _ X8 e8 (fun h => by rw [hrt] at h; cases h) (by decide) (by decide) ?_ (fun fs hr => retN X8 hx (t := .boolean) hrt (by simp) (hb hby at_126) hr)
          exact ⟨rfl, N8⟩
        ·
          refine hG _ (T6.setTop (mkF m 113 #[.val (.int p1), .val (.int p2), .val (.int p3), .val (.int p4), .val (.ref ta), .val (.ref tb), .val (.ref wC), .val (.int (0 : Int32)), .val (.ref d), .val (.int (1 : Int32)), .val (.int (0 : Int32))] [(.ref d)])) (fun t₀ k₀ => ?_) ?_
          · show Steps p.tables e below (T6.setTop (mkF m 83 #[.val (.int p1), .val (.int p2), .val (.int p3), .val (.int p4), .val (.ref ta), .val (.ref tb), .val (.ref wC), .val (.int (0 : Int32)), .val (.ref d), .val (.int (1 : Int32)), .unset] [(.ref wKO), (.ref ta)])) t₀
            refine Jvm.RoadKit.acmp (g := (mkF m 83 #[.val (.int p1), .val (.int p2), .val (.int p3), .val (.int p4), .val (.ref ta), .val (.ref tb), .val (.ref wC), .val (.int (0 : Int32)), .val (.ref d), .val (.int (1 : Int32)), .unset] [(.ref wKO), (.ref ta)])) X6 hx rfl rfl rfl (pc0 := 83) (pc' := 108) (same := false) rfl (hb hby at_83) rfl (decide_eq_false fun q => hc83 (Value.ref.inj q)) (by decide) (by decide) ?_
            show Steps p.tables e below (T6.setTop (mkF m 108 #[.val (.int p1), .val (.int p2), .val (.int p3), .val (.int p4), .val (.ref ta), .val (.ref tb), .val (.ref wC), .val (.int (0 : Int32)), .val (.ref d), .val (.int (1 : Int32)), .unset] [])) t₀
            refine XS.iconst X6.here hx rfl (hb hby at_108) ?_
            show Steps p.tables e below (T6.setTop (mkF m 109 #[.val (.int p1), .val (.int p2), .val (.int p3), .val (.int p4), .val (.ref ta), .val (.ref tb), .val (.ref wC), .val (.int (0 : Int32)), .val (.ref d), .val (.int (1 : Int32)), .unset] [(.int (0 : Int32))])) t₀
            refine XS.istore X6.here hx rfl (hb hby at_109) rfl (l' := #[.val (.int p1), .val (.int p2), .val (.int p3), .val (.int p4), .val (.ref ta), .val (.ref tb), .val (.ref wC), .val (.int (0 : Int32)), .val (.ref d), .val (.int (1 : Int32)), .val (.int (0 : Int32))]) rfl ?_
            show Steps p.tables e below (T6.setTop (mkF m 111 #[.val (.int p1), .val (.int p2), .val (.int p3), .val (.int p4), .val (.ref ta), .val (.ref tb), .val (.ref wC), .val (.int (0 : Int32)), .val (.ref d), .val (.int (1 : Int32)), .val (.int (0 : Int32))] [])) t₀
            refine XS.aload X6.here hx rfl (hb hby at_111) rfl rfl ?_
            exact k₀
          have hr : (if d = r7 ∨ d = r8 then (1 : Int32) else 0) = (0 : Int32) := by
            rw [hd]
            exact if_neg (own_L1 hc83 ne_r3_r7 ne_r3_r8 ne_r4_r7 ne_r4_r8 ne_r9_r7 ne_r9_r8 ne_r10_r7 ne_r10_r8)
          have hE : Exa Z h0 d "com/example/concordat/concordat/core/ConflictRule" := by
            rw [hd]; unfold own_dec; (repeat' split) <;> assumption
          obtain ⟨cq9, kq9, q9a, q9b, q9c⟩ := isOf hZ e6 hE
          obtain ⟨_, _, ⟨T9, L9, k9, n9⟩, -, X9, ⟨Lc9, hQ9, l9, y9, z9⟩, st9⟩ := X6.virtualBack hx (y := (⟨"com/example/concordat/concordat/core/ConflictRule", "holderReleases", "()Z"⟩ : MethodName)) (z := (⟨"com/example/concordat/concordat/core/ConflictRule", "holderReleases", "()Z"⟩ : MethodName)) hown (mvT hZ (hw _ (List.mem_of_getElem? (i := 26) rfl))) (mvT hZ (hw _ (List.mem_of_getElem? (i := 27) rfl))) (notFace_of_selects (args := #[]) (mvT hZ (hw _ (List.mem_of_getElem? (i := 29) rfl)))) (mvT hZ (hw _ (List.mem_of_getElem? (i := 29) rfl))) (mvT hZ (hw _ (List.mem_of_getElem? (i := 28) rfl))) (by decide) (backOf (W := 0) (rm3 l Z a0 hw [] d r7 r8 (0 : Int32) h0 n0 Z0 S_R7 S_R8 hr) hZ (hw _ (List.mem_of_getElem? (i := 30) rfl)) (hw _ (List.mem_of_getElem? (i := 15) rfl)) (by decide) (by decide)) q9a q9c (g := (mkF m 113 #[.val (.int p1), .val (.int p2), .val (.int p3), .val (.int p4), .val (.ref ta), .val (.ref tb), .val (.ref wC), .val (.int (0 : Int32)), .val (.ref d), .val (.int (1 : Int32)), .val (.int (0 : Int32))] [(.ref d)])) rfl (by rw [hml]; rfl) (Steps.refl _) (argsL := []) (rest := []) (lenOf pd_2 rfl) rfl (by show 2 * 0 + _ ≤ _; exact Nat.le_of_eq rfl) (hb hby at_113) (fun _ _ => ⟨rfl, e6, (by decide : 0 + 0 ≤ _), (by decide : 0 + 0 ≤ _)⟩)
          dsimp only [Pt.U, Pt.locs, Pt.cells, Pt.slots] at X9 l9 y9 z9 st9 hQ9
          subst l9 y9 z9
          obtain ⟨rfl, N9q, e9⟩ := hQ9
          have N9 := Fr.app N4 N9q
          refine hG _ _ (fun t₀ k₀ => st9.trans k₀) ?_
          show G (T9.setTop (mkF m 116 #[.val (.int p1), .val (.int p2), .val (.int p3), .val (.int p4), .val (.ref ta), .val (.ref tb), .val (.ref wC), .val (.int (0 : Int32)), .val (.ref d), .val (.int (1 : Int32)), .val (.int (0 : Int32))] [(.int (0 : Int32))]))
          refine hG _ (T9.setTop (mkF m 126 #[.val (.int p1), .val (.int p2), .val (.int p3), .val (.int p4), .val (.ref ta), .val (.ref tb), .val (.ref wC), .val (.int (0 : Int32)), .val (.ref d), .val (.int (1 : Int32)), .val (.int (0 : Int32))] [(.int (1 : Int32))])) (fun t₀ k₀ => ?_) ?_
          · show Steps p.tables e below (T9.setTop (mkF m 116 #[.val (.int p1), .val (.int p2), .val (.int p3), .val (.int p4), .val (.ref ta), .val (.ref tb), .val (.ref wC), .val (.int (0 : Int32)), .val (.ref d), .val (.int (1 : Int32)), .val (.int (0 : Int32))] [(.int (0 : Int32))])) t₀
            refine XS.iload X9.here hx rfl (hb hby at_116) rfl ?_
            show Steps p.tables e below (T9.setTop (mkF m 118 #[.val (.int p1), .val (.int p2), .val (.int p3), .val (.int p4), .val (.ref ta), .val (.ref tb), .val (.ref wC), .val (.int (0 : Int32)), .val (.ref d), .val (.int (1 : Int32)), .val (.int (0 : Int32))] [(.int (0 : Int32)), (.int (0 : Int32))])) t₀
            refine XS.icmpNo X9.here hx rfl (hb hby at_118) rfl (teq (by decide : ((0 : Int32) = (0 : Int32)))).2 ?_
            show Steps p.tables e below (T9.setTop (mkF m 121 #[.val (.int p1), .val (.int p2), .val (.int p3), .val (.int p4), .val (.ref ta), .val (.ref tb), .val (.ref wC), .val (.int (0 : Int32)), .val (.ref d), .val (.int (1 : Int32)), .val (.int (0 : Int32))] [])) t₀
            refine XS.iconst X9.here hx rfl (hb hby at_121) ?_
            show Steps p.tables e below (T9.setTop (mkF m 122 #[.val (.int p1), .val (.int p2), .val (.int p3), .val (.int p4), .val (.ref ta), .val (.ref tb), .val (.ref wC), .val (.int (0 : Int32)), .val (.ref d), .val (.int (1 : Int32)), .val (.int (0 : Int32))] [(.int (1 : Int32))])) t₀
            refine XS.goto X9.here hx rfl (pc0 := 122) (pc' := 126) rfl (hb hby at_122) (by decide) (by decide) ?_
            exact k₀
          refine hF _ T9 _ _ _ (some (.int (1 : Int32))) _ X9 e9 (fun h => by rw [hrt] at h; cases h) (by decide) (by decide) ?_ (fun fs hr => retN X9 hx (t := .boolean) hrt (by simp) (hb hby at_126) hr)
          exact ⟨rfl, N9⟩
      ·
        refine hG _ (T5.setTop (mkF m 65 #[.val (.int p1), .val (.int p2), .val (.int p3), .val (.int p4), .val (.ref ta), .val (.ref tb), .val (.ref wC), .val (.int (0 : Int32)), .val (.ref d), .unset, .unset] [(.ref tb)])) (fun t₀ k₀ => ?_) ?_
        · show Steps p.tables e below (T5.setTop (mkF m 60 #[.val (.int p1), .val (.int p2), .val (.int p3), .val (.int p4), .val (.ref ta), .val (.ref tb), .val (.ref wC), .val (.int (0 : Int32)), .val (.ref d), .unset, .unset] [(.ref wPA), (.ref tb)])) t₀
          refine Jvm.RoadKit.acmp (g := (mkF m 60 #[.val (.int p1), .val (.int p2), .val (.int p3), .val (.int p4), .val (.ref ta), .val (.ref tb), .val (.ref wC), .val (.int (0 : Int32)), .val (.ref d), .unset, .unset] [(.ref wPA), (.ref tb)])) X5 hx rfl rfl rfl (pc0 := 60) (pc' := 63) (same := false) rfl (hb hby at_60) rfl (decide_eq_false fun q => hc60 (Value.ref.inj q)) (by decide) (by decide) ?_
          show Steps p.tables e below (T5.setTop (mkF m 63 #[.val (.int p1), .val (.int p2), .val (.int p3), .val (.int p4), .val (.ref ta), .val (.ref tb), .val (.ref wC), .val (.int (0 : Int32)), .val (.ref d), .unset, .unset] [])) t₀
          refine XS.aload X5.here hx rfl (hb hby at_63) rfl rfl ?_
          exact k₀
        obtain ⟨T10, X10, e10, st10⟩ := getS2 X5 hx hZ hown (host := "") (Or.inl (hw _ (List.mem_of_getElem? (i := 24) rfl))) Via.refl e5 S_PESS_AF (g := (mkF m 65 #[.val (.int p1), .val (.int p2), .val (.int p3), .val (.int p4), .val (.ref ta), .val (.ref tb), .val (.ref wC), .val (.int (0 : Int32)), .val (.ref d), .unset, .unset] [(.ref tb)])) rfl (hb hby at_65)
        refine hG _ _ (fun t₀ k₀ => st10 _ k₀) ?_
        show G (T10.setTop (mkF m 68 #[.val (.int p1), .val (.int p2), .val (.int p3), .val (.int p4), .val (.ref ta), .val (.ref tb), .val (.ref wC), .val (.int (0 : Int32)), .val (.ref d), .unset, .unset] [(.ref wPF), (.ref tb)]))
        by_cases hc68 : tb = wPF
        ·
          refine hG _ (T10.setTop (mkF m 80 #[.val (.int p1), .val (.int p2), .val (.int p3), .val (.int p4), .val (.ref ta), .val (.ref tb), .val (.ref wC), .val (.int (0 : Int32)), .val (.ref d), .val (.int (1 : Int32)), .unset] [(.ref ta)])) (fun t₀ k₀ => ?_) ?_
          · show Steps p.tables e below (T10.setTop (mkF m 68 #[.val (.int p1), .val (.int p2), .val (.int p3), .val (.int p4), .val (.ref ta), .val (.ref tb), .val (.ref wC), .val (.int (0 : Int32)), .val (.ref d), .unset, .unset] [(.ref wPF), (.ref tb)])) t₀
            refine Jvm.RoadKit.acmp (g := (mkF m 68 #[.val (.int p1), .val (.int p2), .val (.int p3), .val (.int p4), .val (.ref ta), .val (.ref tb), .val (.ref wC), .val (.int (0 : Int32)), .val (.ref d), .unset, .unset] [(.ref wPF), (.ref tb)])) X10 hx rfl rfl rfl (pc0 := 68) (pc' := 71) (same := true) rfl (hb hby at_68) rfl (decide_eq_true (congrArg Value.ref hc68)) (by decide) (by decide) ?_
            show Steps p.tables e below (T10.setTop (mkF m 71 #[.val (.int p1), .val (.int p2), .val (.int p3), .val (.int p4), .val (.ref ta), .val (.ref tb), .val (.ref wC), .val (.int (0 : Int32)), .val (.ref d), .unset, .unset] [])) t₀
            refine XS.iconst X10.here hx rfl (hb hby at_71) ?_
            show Steps p.tables e below (T10.setTop (mkF m 72 #[.val (.int p1), .val (.int p2), .val (.int p3), .val (.int p4), .val (.ref ta), .val (.ref tb), .val (.ref wC), .val (.int (0 : Int32)), .val (.ref d), .unset, .unset] [(.int (1 : Int32))])) t₀
            refine XS.goto X10.here hx rfl (pc0 := 72) (pc' := 76) rfl (hb hby at_72) (by decide) (by decide) ?_
            show Steps p.tables e below (T10.setTop (mkF m 76 #[.val (.int p1), .val (.int p2), .val (.int p3), .val (.int p4), .val (.ref ta), .val (.ref tb), .val (.ref wC), .val (.int (0 : Int32)), .val (.ref d), .unset, .unset] [(.int (1 : Int32))])) t₀
            refine XS.istore X10.here hx rfl (hb hby at_76) rfl (l' := #[.val (.int p1), .val (.int p2), .val (.int p3), .val (.int p4), .val (.ref ta), .val (.ref tb), .val (.ref wC), .val (.int (0 : Int32)), .val (.ref d), .val (.int (1 : Int32)), .unset]) rfl ?_
            show Steps p.tables e below (T10.setTop (mkF m 78 #[.val (.int p1), .val (.int p2), .val (.int p3), .val (.int p4), .val (.ref ta), .val (.ref tb), .val (.ref wC), .val (.int (0 : Int32)), .val (.ref d), .val (.int (1 : Int32)), .unset] [])) t₀
            refine XS.aload X10.here hx rfl (hb hby at_78) rfl rfl ?_
            exact k₀
          obtain ⟨T11, X11, e11, st11⟩ := getS2 X10 hx hZ hown (host := "") (Or.inl (hw _ (List.mem_of_getElem? (i := 8) rfl))) Via.refl e10 S_KONS (g := (mkF m 80 #[.val (.int p1), .val (.int p2), .val (.int p3), .val (.int p4), .val (.ref ta), .val (.ref tb), .val (.ref wC), .val (.int (0 : Int32)), .val (.ref d), .val (.int (1 : Int32)), .unset] [(.ref ta)])) rfl (hb hby at_80)
          refine hG _ _ (fun t₀ k₀ => st11 _ k₀) ?_
          show G (T11.setTop (mkF m 83 #[.val (.int p1), .val (.int p2), .val (.int p3), .val (.int p4), .val (.ref ta), .val (.ref tb), .val (.ref wC), .val (.int (0 : Int32)), .val (.ref d), .val (.int (1 : Int32)), .unset] [(.ref wKO), (.ref ta)]))
          by_cases hc83 : ta = wKO
          ·
            refine hG _ (T11.setTop (mkF m 93 #[.val (.int p1), .val (.int p2), .val (.int p3), .val (.int p4), .val (.ref ta), .val (.ref tb), .val (.ref wC), .val (.int (0 : Int32)), .val (.ref d), .val (.int (1 : Int32)), .unset] [(.ref wC)])) (fun t₀ k₀ => ?_) ?_
            · show Steps p.tables e below (T11.setTop (mkF m 83 #[.val (.int p1), .val (.int p2), .val (.int p3), .val (.int p4), .val (.ref ta), .val (.ref tb), .val (.ref wC), .val (.int (0 : Int32)), .val (.ref d), .val (.int (1 : Int32)), .unset] [(.ref wKO), (.ref ta)])) t₀
              refine Jvm.RoadKit.acmp (g := (mkF m 83 #[.val (.int p1), .val (.int p2), .val (.int p3), .val (.int p4), .val (.ref ta), .val (.ref tb), .val (.ref wC), .val (.int (0 : Int32)), .val (.ref d), .val (.int (1 : Int32)), .unset] [(.ref wKO), (.ref ta)])) X11 hx rfl rfl rfl (pc0 := 83) (pc' := 86) (same := true) rfl (hb hby at_83) rfl (decide_eq_true (congrArg Value.ref hc83)) (by decide) (by decide) ?_
              show Steps p.tables e below (T11.setTop (mkF m 86 #[.val (.int p1), .val (.int p2), .val (.int p3), .val (.int p4), .val (.ref ta), .val (.ref tb), .val (.ref wC), .val (.int (0 : Int32)), .val (.ref d), .val (.int (1 : Int32)), .unset] [])) t₀
              refine XS.iload X11.here hx rfl (hb hby at_86) rfl ?_
              show Steps p.tables e below (T11.setTop (mkF m 88 #[.val (.int p1), .val (.int p2), .val (.int p3), .val (.int p4), .val (.ref ta), .val (.ref tb), .val (.ref wC), .val (.int (0 : Int32)), .val (.ref d), .val (.int (1 : Int32)), .unset] [(.int (1 : Int32))])) t₀
              refine XS.ifNo X11.here hx rfl (hb hby at_88) rfl ((if0 _ _).trans (feq (by decide : ¬ ((1 : Int32) = (0 : Int32)))).1) ?_
              show Steps p.tables e below (T11.setTop (mkF m 91 #[.val (.int p1), .val (.int p2), .val (.int p3), .val (.int p4), .val (.ref ta), .val (.ref tb), .val (.ref wC), .val (.int (0 : Int32)), .val (.ref d), .val (.int (1 : Int32)), .unset] [])) t₀
              refine XS.aload X11.here hx rfl (hb hby at_91) rfl rfl ?_
              exact k₀
            obtain ⟨T12, X12, e12, st12⟩ := getS2 X11 hx hZ hown (host := "") (Or.inl (hw _ (List.mem_of_getElem? (i := 41) rfl))) Via.refl e11 S_STATUS (g := (mkF m 93 #[.val (.int p1), .val (.int p2), .val (.int p3), .val (.int p4), .val (.ref ta), .val (.ref tb), .val (.ref wC), .val (.int (0 : Int32)), .val (.ref d), .val (.int (1 : Int32)), .unset] [(.ref wC)])) rfl (hb hby at_93)
            refine hG _ _ (fun t₀ k₀ => st12 _ k₀) ?_
            show G (T12.setTop (mkF m 96 #[.val (.int p1), .val (.int p2), .val (.int p3), .val (.int p4), .val (.ref ta), .val (.ref tb), .val (.ref wC), .val (.int (0 : Int32)), .val (.ref d), .val (.int (1 : Int32)), .unset] [(.ref wS), (.ref wC)]))
            refine hG _ (T12.setTop (mkF m 113 #[.val (.int p1), .val (.int p2), .val (.int p3), .val (.int p4), .val (.ref ta), .val (.ref tb), .val (.ref wC), .val (.int (0 : Int32)), .val (.ref d), .val (.int (1 : Int32)), .val (.int (0 : Int32))] [(.ref d)])) (fun t₀ k₀ => ?_) ?_
            · show Steps p.tables e below (T12.setTop (mkF m 96 #[.val (.int p1), .val (.int p2), .val (.int p3), .val (.int p4), .val (.ref ta), .val (.ref tb), .val (.ref wC), .val (.int (0 : Int32)), .val (.ref d), .val (.int (1 : Int32)), .unset] [(.ref wS), (.ref wC)])) t₀
              refine Jvm.RoadKit.acmp (g := (mkF m 96 #[.val (.int p1), .val (.int p2), .val (.int p3), .val (.int p4), .val (.ref ta), .val (.ref tb), .val (.ref wC), .val (.int (0 : Int32)), .val (.ref d), .val (.int (1 : Int32)), .unset] [(.ref wS), (.ref wC)])) X12 hx rfl rfl rfl (pc0 := 96) (pc' := 99) (same := false) rfl (hb hby at_96) rfl (decide_eq_false fun q => neCS (Value.ref.inj q)) (by decide) (by decide) ?_
              show Steps p.tables e below (T12.setTop (mkF m 99 #[.val (.int p1), .val (.int p2), .val (.int p3), .val (.int p4), .val (.ref ta), .val (.ref tb), .val (.ref wC), .val (.int (0 : Int32)), .val (.ref d), .val (.int (1 : Int32)), .unset] [])) t₀
              refine XS.iload X12.here hx rfl (hb hby at_99) rfl ?_
              show Steps p.tables e below (T12.setTop (mkF m 101 #[.val (.int p1), .val (.int p2), .val (.int p3), .val (.int p4), .val (.ref ta), .val (.ref tb), .val (.ref wC), .val (.int (0 : Int32)), .val (.ref d), .val (.int (1 : Int32)), .unset] [(.int (0 : Int32))])) t₀
              refine XS.ifYes X12.here hx rfl (pc0 := 101) (pc' := 108) rfl (hb hby at_101) rfl ((if0 _ _).trans (teq (by decide : ((0 : Int32) = (0 : Int32)))).1) (by decide) (by decide) ?_
              show Steps p.tables e below (T12.setTop (mkF m 108 #[.val (.int p1), .val (.int p2), .val (.int p3), .val (.int p4), .val (.ref ta), .val (.ref tb), .val (.ref wC), .val (.int (0 : Int32)), .val (.ref d), .val (.int (1 : Int32)), .unset] [])) t₀
              refine XS.iconst X12.here hx rfl (hb hby at_108) ?_
              show Steps p.tables e below (T12.setTop (mkF m 109 #[.val (.int p1), .val (.int p2), .val (.int p3), .val (.int p4), .val (.ref ta), .val (.ref tb), .val (.ref wC), .val (.int (0 : Int32)), .val (.ref d), .val (.int (1 : Int32)), .unset] [(.int (0 : Int32))])) t₀
              refine XS.istore X12.here hx rfl (hb hby at_109) rfl (l' := #[.val (.int p1), .val (.int p2), .val (.int p3), .val (.int p4), .val (.ref ta), .val (.ref tb), .val (.ref wC), .val (.int (0 : Int32)), .val (.ref d), .val (.int (1 : Int32)), .val (.int (0 : Int32))]) rfl ?_
              show Steps p.tables e below (T12.setTop (mkF m 111 #[.val (.int p1), .val (.int p2), .val (.int p3), .val (.int p4), .val (.ref ta), .val (.ref tb), .val (.ref wC), .val (.int (0 : Int32)), .val (.ref d), .val (.int (1 : Int32)), .val (.int (0 : Int32))] [])) t₀
              refine XS.aload X12.here hx rfl (hb hby at_111) rfl rfl ?_
              exact k₀
            have hr : (if d = r7 ∨ d = r8 then (1 : Int32) else 0) = (0 : Int32) := by
              rw [hd]
              rw [hc83, hc68, own_L3 ne_wKO_wOP ne_wKO_wAU ne_wPF_wOP ne_wPF_wAU ne_wPF_wKO]
              rw [if_neg neCS]
              rw [if_pos rfl]
              exact if_neg (fun q => q.elim ne_r6_r7 ne_r6_r8)
            have hE : Exa Z h0 d "com/example/concordat/concordat/core/ConflictRule" := by
              rw [hd]; unfold own_dec; (repeat' split) <;> assumption
            obtain ⟨cq13, kq13, q13a, q13b, q13c⟩ := isOf hZ e12 hE
            obtain ⟨_, _, ⟨T13, L13, k13, n13⟩, -, X13, ⟨Lc13, hQ13, l13, y13, z13⟩, st13⟩ := X12.virtualBack hx (y := (⟨"com/example/concordat/concordat/core/ConflictRule", "holderReleases", "()Z"⟩ : MethodName)) (z := (⟨"com/example/concordat/concordat/core/ConflictRule", "holderReleases", "()Z"⟩ : MethodName)) hown (mvT hZ (hw _ (List.mem_of_getElem? (i := 26) rfl))) (mvT hZ (hw _ (List.mem_of_getElem? (i := 27) rfl))) (notFace_of_selects (args := #[]) (mvT hZ (hw _ (List.mem_of_getElem? (i := 29) rfl)))) (mvT hZ (hw _ (List.mem_of_getElem? (i := 29) rfl))) (mvT hZ (hw _ (List.mem_of_getElem? (i := 28) rfl))) (by decide) (backOf (W := 0) (rm3 l Z a0 hw [] d r7 r8 (0 : Int32) h0 n0 Z0 S_R7 S_R8 hr) hZ (hw _ (List.mem_of_getElem? (i := 30) rfl)) (hw _ (List.mem_of_getElem? (i := 15) rfl)) (by decide) (by decide)) q13a q13c (g := (mkF m 113 #[.val (.int p1), .val (.int p2), .val (.int p3), .val (.int p4), .val (.ref ta), .val (.ref tb), .val (.ref wC), .val (.int (0 : Int32)), .val (.ref d), .val (.int (1 : Int32)), .val (.int (0 : Int32))] [(.ref d)])) rfl (by rw [hml]; rfl) (Steps.refl _) (argsL := []) (rest := []) (lenOf pd_2 rfl) rfl (by show 2 * 0 + _ ≤ _; exact Nat.le_of_eq rfl) (hb hby at_113) (fun _ _ => ⟨rfl, e12, (by decide : 0 + 0 ≤ _), (by decide : 0 + 0 ≤ _)⟩)
            dsimp only [Pt.U, Pt.locs, Pt.cells, Pt.slots] at X13 l13 y13 z13 st13 hQ13
            subst l13 y13 z13
            obtain ⟨rfl, N13q, e13⟩ := hQ13
            have N13 := Fr.app N4 N13q
            refine hG _ _ (fun t₀ k₀ => st13.trans k₀) ?_
            show G (T13.setTop (mkF m 116 #[.val (.int p1), .val (.int p2), .val (.int p3), .val (.int p4), .val (.ref ta), .val (.ref tb), .val (.ref wC), .val (.int (0 : Int32)), .val (.ref d), .val (.int (1 : Int32)), .val (.int (0 : Int32))] [(.int (0 : Int32))]))
            refine hG _ (T13.setTop (mkF m 126 #[.val (.int p1), .val (.int p2), .val (.int p3), .val (.int p4), .val (.ref ta), .val (.ref tb), .val (.ref wC), .val (.int (0 : Int32)), .val (.ref d), .val (.int (1 : Int32)), .val (.int (0 : Int32))] [(.int (1 : Int32))])) (fun t₀ k₀ => ?_) ?_
            · show Steps p.tables e below (T13.setTop (mkF m 116 #[.val (.int p1), .val (.int p2), .val (.int p3), .val (.int p4), .val (.ref ta), .val (.ref tb), .val (.ref wC), .val (.int (0 : Int32)), .val (.ref d), .val (.int (1 : Int32)), .val (.int (0 : Int32))] [(.int (0 : Int32))])) t₀
              refine XS.iload X13.here hx rfl (hb hby at_116) rfl ?_
              show Steps p.tables e below (T13.setTop (mkF m 118 #[.val (.int p1), .val (.int p2), .val (.int p3), .val (.int p4), .val (.ref ta), .val (.ref tb), .val (.ref wC), .val (.int (0 : Int32)), .val (.ref d), .val (.int (1 : Int32)), .val (.int (0 : Int32))] [(.int (0 : Int32)), (.int (0 : Int32))])) t₀
              refine XS.icmpNo X13.here hx rfl (hb hby at_118) rfl (teq (by decide : ((0 : Int32) = (0 : Int32)))).2 ?_
              show Steps p.tables e below (T13.setTop (mkF m 121 #[.val (.int p1), .val (.int p2), .val (.int p3), .val (.int p4), .val (.ref ta), .val (.ref tb), .val (.ref wC), .val (.int (0 : Int32)), .val (.ref d), .val (.int (1 : Int32)), .val (.int (0 : Int32))] [])) t₀
              refine XS.iconst X13.here hx rfl (hb hby at_121) ?_
              show Steps p.tables e below (T13.setTop (mkF m 122 #[.val (.int p1), .val (.int p2), .val (.int p3), .val (.int p4), .val (.ref ta), .val (.ref tb), .val (.ref wC), .val (.int (0 : Int32)), .val (.ref d), .val (.int (1 : Int32)), .val (.int (0 : Int32))] [(.int (1 : Int32))])) t₀
              refine XS.goto X13.here hx rfl (pc0 := 122) (pc' := 126) rfl (hb hby at_122) (by decide) (by decide) ?_
              exact k₀
            refine hF _ T13 _ _ _ (some (.int (1 : Int32))) _ X13 e13 (fun h => by rw [hrt] at h; cases h) (by decide) (by decide) ?_ (fun fs hr => retN X13 hx (t := .boolean) hrt (by simp) (hb hby at_126) hr)
            exact ⟨rfl, N13⟩
          ·
            refine hG _ (T11.setTop (mkF m 113 #[.val (.int p1), .val (.int p2), .val (.int p3), .val (.int p4), .val (.ref ta), .val (.ref tb), .val (.ref wC), .val (.int (0 : Int32)), .val (.ref d), .val (.int (1 : Int32)), .val (.int (0 : Int32))] [(.ref d)])) (fun t₀ k₀ => ?_) ?_
            · show Steps p.tables e below (T11.setTop (mkF m 83 #[.val (.int p1), .val (.int p2), .val (.int p3), .val (.int p4), .val (.ref ta), .val (.ref tb), .val (.ref wC), .val (.int (0 : Int32)), .val (.ref d), .val (.int (1 : Int32)), .unset] [(.ref wKO), (.ref ta)])) t₀
              refine Jvm.RoadKit.acmp (g := (mkF m 83 #[.val (.int p1), .val (.int p2), .val (.int p3), .val (.int p4), .val (.ref ta), .val (.ref tb), .val (.ref wC), .val (.int (0 : Int32)), .val (.ref d), .val (.int (1 : Int32)), .unset] [(.ref wKO), (.ref ta)])) X11 hx rfl rfl rfl (pc0 := 83) (pc' := 108) (same := false) rfl (hb hby at_83) rfl (decide_eq_false fun q => hc83 (Value.ref.inj q)) (by decide) (by decide) ?_
              show Steps p.tables e below (T11.setTop (mkF m 108 #[.val (.int p1), .val (.int p2), .val (.int p3), .val (.int p4), .val (.ref ta), .val (.ref tb), .val (.ref wC), .val (.int (0 : Int32)), .val (.ref d), .val (.int (1 : Int32)), .unset] [])) t₀
              refine XS.iconst X11.here hx rfl (hb hby at_108) ?_
              show Steps p.tables e below (T11.setTop (mkF m 109 #[.val (.int p1), .val (.int p2), .val (.int p3), .val (.int p4), .val (.ref ta), .val (.ref tb), .val (.ref wC), .val (.int (0 : Int32)), .val (.ref d), .val (.int (1 : Int32)), .unset] [(.int (0 : Int32))])) t₀
              refine XS.istore X11.here hx rfl (hb hby at_109) rfl (l' := #[.val (.int p1), .val (.int p2), .val (.int p3), .val (.int p4), .val (.ref ta), .val (.ref tb), .val (.ref wC), .val (.int (0 : Int32)), .val (.ref d), .val (.int (1 : Int32)), .val (.int (0 : Int32))]) rfl ?_
              show Steps p.tables e below (T11.setTop (mkF m 111 #[.val (.int p1), .val (.int p2), .val (.int p3), .val (.int p4), .val (.ref ta), .val (.ref tb), .val (.ref wC), .val (.int (0 : Int32)), .val (.ref d), .val (.int (1 : Int32)), .val (.int (0 : Int32))] [])) t₀
              refine XS.aload X11.here hx rfl (hb hby at_111) rfl rfl ?_
              exact k₀
            have hr : (if d = r7 ∨ d = r8 then (1 : Int32) else 0) = (0 : Int32) := by
              rw [hd]
              exact if_neg (own_L1 hc83 ne_r3_r7 ne_r3_r8 ne_r4_r7 ne_r4_r8 ne_r9_r7 ne_r9_r8 ne_r10_r7 ne_r10_r8)
            have hE : Exa Z h0 d "com/example/concordat/concordat/core/ConflictRule" := by
              rw [hd]; unfold own_dec; (repeat' split) <;> assumption
            obtain ⟨cq14, kq14, q14a, q14b, q14c⟩ := isOf hZ e11 hE
            obtain ⟨_, _, ⟨T14, L14, k14, n14⟩, -, X14, ⟨Lc14, hQ14, l14, y14, z14⟩, st14⟩ := X11.virtualBack hx (y := (⟨"com/example/concordat/concordat/core/ConflictRule", "holderReleases", "()Z"⟩ : MethodName)) (z := (⟨"com/example/concordat/concordat/core/ConflictRule", "holderReleases", "()Z"⟩ : MethodName)) hown (mvT hZ (hw _ (List.mem_of_getElem? (i := 26) rfl))) (mvT hZ (hw _ (List.mem_of_getElem? (i := 27) rfl))) (notFace_of_selects (args := #[]) (mvT hZ (hw _ (List.mem_of_getElem? (i := 29) rfl)))) (mvT hZ (hw _ (List.mem_of_getElem? (i := 29) rfl))) (mvT hZ (hw _ (List.mem_of_getElem? (i := 28) rfl))) (by decide) (backOf (W := 0) (rm3 l Z a0 hw [] d r7 r8 (0 : Int32) h0 n0 Z0 S_R7 S_R8 hr) hZ (hw _ (List.mem_of_getElem? (i := 30) rfl)) (hw _ (List.mem_of_getElem? (i := 15) rfl)) (by decide) (by decide)) q14a q14c (g := (mkF m 113 #[.val (.int p1), .val (.int p2), .val (.int p3), .val (.int p4), .val (.ref ta), .val (.ref tb), .val (.ref wC), .val (.int (0 : Int32)), .val (.ref d), .val (.int (1 : Int32)), .val (.int (0 : Int32))] [(.ref d)])) rfl (by rw [hml]; rfl) (Steps.refl _) (argsL := []) (rest := []) (lenOf pd_2 rfl) rfl (by show 2 * 0 + _ ≤ _; exact Nat.le_of_eq rfl) (hb hby at_113) (fun _ _ => ⟨rfl, e11, (by decide : 0 + 0 ≤ _), (by decide : 0 + 0 ≤ _)⟩)
            dsimp only [Pt.U, Pt.locs, Pt.cells, Pt.slots] at X14 l14 y14 z14 st14 hQ14
            subst l14 y14 z14
            obtain ⟨rfl, N14q, e14⟩ := hQ14
            have N14 := Fr.app N4 N14q
            refine hG _ _ (fun t₀ k₀ => st14.trans k₀) ?_
            show G (T14.setTop (mkF m 116 #[.val (.int p1), .val (.int p2), .val (.int p3), .val (.int p4), .val (.ref ta), .val (.ref tb), .val (.ref wC), .val (.int (0 : Int32)), .val (.ref d), .val (.int (1 : Int32)), .val (.int (0 : Int32))] [(.int (0 : Int32))]))
            refine hG _ (T14.setTop (mkF m 126 #[.val (.int p1), .val (.int p2), .val (.int p3), .val (.int p4), .val (.ref ta), .val (.ref tb), .val (.ref wC), .val (.int (0 : Int32)), .val (.ref d), .val (.int (1 : Int32)), .val (.int (0 : Int32))] [(.int (1 : Int32))])) (fun t₀ k₀ => ?_) ?_
            · show Steps p.tables e below (T14.setTop (mkF m 116 #[.val (.int p1), .val (.int p2), .val (.int p3), .val (.int p4), .val (.ref ta), .val (.ref tb), .val (.ref wC), .val (.int (0 : Int32)), .val (.ref d), .val (.int (1 : Int32)), .val (.int (0 : Int32))] [(.int (0 : Int32))])) t₀
              refine XS.iload X14.here hx rfl (hb hby at_116) rfl ?_
              show Steps p.tables e below (T14.setTop (mkF m 118 #[.val (.int p1), .val (.int p2), .val (.int p3), .val (.int p4), .val (.ref ta), .val (.ref tb), .val (.ref wC), .val (.int (0 : Int32)), .val (.ref d), .val (.int (1 : Int32)), .val (.int (0 : Int32))] [(.int (0 : Int32)), (.int (0 : Int32))])) t₀
              refine XS.icmpNo X14.here hx rfl (hb hby at_118) rfl (teq (by decide : ((0 : Int32) = (0 : Int32)))).2 ?_
              show Steps p.tables e below (T14.setTop (mkF m 121 #[.val (.int p1), .val (.int p2), .val (.int p3), .val (.int p4), .val (.ref ta), .val (.ref tb), .val (.ref wC), .val (.int (0 : Int32)), .val (.ref d), .val (.int (1 : Int32)), .val (.int (0 : Int32))] [])) t₀
              refine XS.iconst X14.here hx rfl (hb hby at_121) ?_
              show Steps p.tables e below (T14.setTop (mkF m 122 #[.val (.int p1), .val (.int p2), .val (.int p3), .val (.int p4), .val (.ref ta), .val (.ref tb), .val (.ref wC), .val (.int (0 : Int32)), .val (.ref d), .val (.int (1 : Int32)), .val (.int (0 : Int32))] [(.int (1 : Int32))])) t₀
              refine XS.goto X14.here hx rfl (pc0 := 122) (pc' := 126) rfl (hb hby at_122) (by decide) (by decide) ?_
              exact k₀
            refine hF _ T14 _ _ _ (some (.int (1 : Int32))) _ X14 e14 (fun h => by rw [hrt] at h; cases h) (by decide) (by decide) ?_ (fun fs hr => retN X14 hx (t := .boolean) hrt (by simp) (hb hby at_126) hr)
            exact ⟨rfl, N14⟩
        ·
          refine hG _ (T10.setTop (mkF m 80 #[.val (.int p1), .val (.int p2), .val (.int p3), .val (.int p4), .val (.ref ta), .val (.ref tb), .val (.ref wC), .val (.int (0 : Int32)), .val (.ref d), .val (.int (0 : Int32)), .unset] [(.ref ta)])) (fun t₀ k₀ => ?_) ?_
          · show Steps p.tables e below (T10.setTop (mkF m 68 #[.val (.int p1), .val (.int p2), .val (.int p3), .val (.int p4), .val (.ref ta), .val (.ref tb), .val (.ref wC), .val (.int (0 : Int32)), .val (.ref d), .unset, .unset] [(.ref wPF), (.ref tb)])) t₀
            refine Jvm.RoadKit.acmp (g := (mkF m 68 #[.val (.int p1), .val (.int p2), .val (.int p3), .val (.int p4), .val (.ref ta), .val (.ref tb), .val (.ref wC), .val (.int (0 : Int32)), .val (.ref d), .unset, .unset] [(.ref wPF), (.ref tb)])) X10 hx rfl rfl rfl (pc0 := 68) (pc' := 75) (same := false) rfl (hb hby at_68) rfl (decide_eq_false fun q => hc68 (Value.ref.inj q)) (by decide) (by decide) ?_
            show Steps p.tables e below (T10.setTop (mkF m 75 #[.val (.int p1), .val (.int p2), .val (.int p3), .val (.int p4), .val (.ref ta), .val (.ref tb), .val (.ref wC), .val (.int (0 : Int32)), .val (.ref d), .unset, .unset] [])) t₀
            refine XS.iconst X10.here hx rfl (hb hby at_75) ?_
            show Steps p.tables e below (T10.setTop (mkF m 76 #[.val (.int p1), .val (.int p2), .val (.int p3), .val (.int p4), .val (.ref ta), .val (.ref tb), .val (.ref wC), .val (.int (0 : Int32)), .val (.ref d), .unset, .unset] [(.int (0 : Int32))])) t₀
            refine XS.istore X10.here hx rfl (hb hby at_76) rfl (l' := #[.val (.int p1), .val (.int p2), .val (.int p3), .val (.int p4), .val (.ref ta), .val (.ref tb), .val (.ref wC), .val (.int (0 : Int32)), .val (.ref d), .val (.int (0 : Int32)), .unset]) rfl ?_
            show Steps p.tables e below (T10.setTop (mkF m 78 #[.val (.int p1), .val (.int p2), .val (.int p3), .val (.int p4), .val (.ref ta), .val (.ref tb), .val (.ref wC), .val (.int (0 : Int32)), .val (.ref d), .val (.int (0 : Int32)), .unset] [])) t₀
            refine XS.aload X10.here hx rfl (hb hby at_78) rfl rfl ?_
            exact k₀
          obtain ⟨T15, X15, e15, st15⟩ := getS2 X10 hx hZ hown (host := "") (Or.inl (hw _ (List.mem_of_getElem? (i := 8) rfl))) Via.refl e10 S_KONS (g := (mkF m 80 #[.val (.int p1), .val (.int p2), .val (.int p3), .val (.int p4), .val (.ref ta), .val (.ref tb), .val (.ref wC), .val (.int (0 : Int32)), .val (.ref d), .val (.int (0 : Int32)), .unset] [(.ref ta)])) rfl (hb hby at_80)
          refine hG _ _ (fun t₀ k₀ => st15 _ k₀) ?_
          show G (T15.setTop (mkF m 83 #[.val (.int p1), .val (.int p2), .val (.int p3), .val (.int p4), .val (.ref ta), .val (.ref tb), .val (.ref wC), .val (.int (0 : Int32)), .val (.ref d), .val (.int (0 : Int32)), .unset] [(.ref wKO), (.ref ta)]))
          by_cases hc83 : ta = wKO
          ·
            refine hG _ (T15.setTop (mkF m 113 #[.val (.int p1), .val (.int p2), .val (.int p3), .val (.int p4), .val (.ref ta), .val (.ref tb), .val (.ref wC), .val (.int (0 : Int32)), .val (.ref d), .val (.int (0 : Int32)), .val (.int (0 : Int32))] [(.ref d)])) (fun t₀ k₀ => ?_) ?_
            · show Steps p.tables e below (T15.setTop (mkF m 83 #[.val (.int p1), .val (.int p2), .val (.int p3), .val (.int p4), .val (.ref ta), .val (.ref tb), .val (.ref wC), .val (.int (0 : Int32)), .val (.ref d), .val (.int (0 : Int32)), .unset] [(.ref wKO), (.ref ta)])) t₀
              refine Jvm.RoadKit.acmp (g := (mkF m 83 #[.val (.int p1), .val (.int p2), .val (.int p3), .val (.int p4), .val (.ref ta), .val (.ref tb), .val (.ref wC), .val (.int (0 : Int32)), .val (.ref d), .val (.int (0 : Int32)), .unset] [(.ref wKO), (.ref ta)])) X15 hx rfl rfl rfl (pc0 := 83) (pc' := 86) (same := true) rfl (hb hby at_83) rfl (decide_eq_true (congrArg Value.ref hc83)) (by decide) (by decide) ?_
              show Steps p.tables e below (T15.setTop (mkF m 86 #[.val (.int p1), .val (.int p2), .val (.int p3), .val (.int p4), .val (.ref ta), .val (.ref tb), .val (.ref wC), .val (.int (0 : Int32)), .val (.ref d), .val (.int (0 : Int32)), .unset] [])) t₀
              refine XS.iload X15.here hx rfl (hb hby at_86) rfl ?_
              show Steps p.tables e below (T15.setTop (mkF m 88 #[.val (.int p1), .val (.int p2), .val (.int p3), .val (.int p4), .val (.ref ta), .val (.ref tb), .val (.ref wC), .val (.int (0 : Int32)), .val (.ref d), .val (.int (0 : Int32)), .unset] [(.int (0 : Int32))])) t₀
              refine XS.ifYes X15.here hx rfl (pc0 := 88) (pc' := 108) rfl (hb hby at_88) rfl ((if0 _ _).trans (teq (by decide : ((0 : Int32) = (0 : Int32)))).1) (by decide) (by decide) ?_
              show Steps p.tables e below (T15.setTop (mkF m 108 #[.val (.int p1), .val (.int p2), .val (.int p3), .val (.int p4), .val (.ref ta), .val (.ref tb), .val (.ref wC), .val (.int (0 : Int32)), .val (.ref d), .val (.int (0 : Int32)), .unset] [])) t₀
              refine XS.iconst X15.here hx rfl (hb hby at_108) ?_
              show Steps p.tables e below (T15.setTop (mkF m 109 #[.val (.int p1), .val (.int p2), .val (.int p3), .val (.int p4), .val (.ref ta), .val (.ref tb), .val (.ref wC), .val (.int (0 : Int32)), .val (.ref d), .val (.int (0 : Int32)), .unset] [(.int (0 : Int32))])) t₀
              refine XS.istore X15.here hx rfl (hb hby at_109) rfl (l' := #[.val (.int p1), .val (.int p2), .val (.int p3), .val (.int p4), .val (.ref ta), .val (.ref tb), .val (.ref wC), .val (.int (0 : Int32)), .val (.ref d), .val (.int (0 : Int32)), .val (.int (0 : Int32))]) rfl ?_
              show Steps p.tables e below (T15.setTop (mkF m 111 #[.val (.int p1), .val (.int p2), .val (.int p3), .val (.int p4), .val (.ref ta), .val (.ref tb), .val (.ref wC), .val (.int (0 : Int32)), .val (.ref d), .val (.int (0 : Int32)), .val (.int (0 : Int32))] [])) t₀
              refine XS.aload X15.here hx rfl (hb hby at_111) rfl rfl ?_
              exact k₀
            have hr : (if d = r7 ∨ d = r8 then (1 : Int32) else 0) = (0 : Int32) := by
              rw [hd]
              rw [hc83]
              exact if_neg (own_L2 ne_wKO_wOP ne_wKO_wAU (htb5.elim (fun z => absurd z hc60) fun z => z.elim (fun z => absurd z hc68) id) ne_r5_r7 ne_r5_r8 ne_r9_r7 ne_r9_r8 ne_r10_r7 ne_r10_r8)
            have hE : Exa Z h0 d "com/example/concordat/concordat/core/ConflictRule" := by
              rw [hd]; unfold own_dec; (repeat' split) <;> assumption
            obtain ⟨cq16, kq16, q16a, q16b, q16c⟩ := isOf hZ e15 hE
            obtain ⟨_, _, ⟨T16, L16, k16, n16⟩, -, X16, ⟨Lc16, hQ16, l16, y16, z16⟩, st16⟩ := X15.virtualBack hx (y := (⟨"com/example/concordat/concordat/core/ConflictRule", "holderReleases", "()Z"⟩ : MethodName)) (z := (⟨"com/example/concordat/concordat/core/ConflictRule", "holderReleases", "()Z"⟩ : MethodName)) hown (mvT hZ (hw _ (List.mem_of_getElem? (i := 26) rfl))) (mvT hZ (hw _ (List.mem_of_getElem? (i := 27) rfl))) (notFace_of_selects (args := #[]) (mvT hZ (hw _ (List.mem_of_getElem? (i := 29) rfl)))) (mvT hZ (hw _ (List.mem_of_getElem? (i := 29) rfl))) (mvT hZ (hw _ (List.mem_of_getElem? (i := 28) rfl))) (by decide) (backOf (W := 0) (rm3 l Z a0 hw [] d r7 r8 (0 : Int32) h0 n0 Z0 S_R7 S_R8 hr) hZ (hw _ (List.mem_of_getElem? (i := 30) rfl)) (hw _ (List.mem_of_getElem? (i := 15) rfl)) (by decide) (by decide)) q16a q16c (g := (mkF m 113 #[.val (.int p1), .val (.int p2), .val (.int p3), .val (.int p4), .val (.ref ta), .val (.ref tb), .val (.ref wC), .val (.int (0 : Int32)), .val (.ref d), .val (.int (0 : Int32)), .val (.int (0 : Int32))] [(.ref d)])) rfl (by rw [hml]; rfl) (Steps.refl _) (argsL := []) (rest := []) (lenOf pd_2 rfl) rfl (by show 2 * 0 + _ ≤ _; exact Nat.le_of_eq rfl) (hb hby at_113) (fun _ _ => ⟨rfl, e15, (by decide : 0 + 0 ≤ _), (by decide : 0 + 0 ≤ _)⟩)
            dsimp only [Pt.U, Pt.locs, Pt.cells, Pt.slots] at X16 l16 y16 z16 st16 hQ16
            subst l16 y16 z16
            obtain ⟨rfl, N16q, e16⟩ := hQ16
            have N16 := Fr.app N4 N16q
            refine hG _ _ (fun t₀ k₀ => st16.trans k₀) ?_
            show G (T16.setTop (mkF m 116 #[.val (.int p1), .val (.int p2), .val (.int p3), .val (.int p4), .val (.ref ta), .val (.ref tb), .val (.ref wC), .val (.int (0 : Int32)), .val (.ref d), .val (.int (0 : Int32)), .val (.int (0 : Int32))] [(.int (0 : Int32))]))
            refine hG _ (T16.setTop (mkF m 126 #[.val (.int p1), .val (.int p2), .val (.int p3), .val (.int p4), .val (.ref ta), .val (.ref tb), .val (.ref wC), .val (.int (0 : Int32)), .val (.ref d), .val (.int (0 : Int32)), .val (.int (0 : Int32))] [(.int (1 : Int32))])) (fun t₀ k₀ => ?_) ?_
            · show Steps p.tables e below (T16.setTop (mkF m 116 #[.val (.int p1), .val (.int p2), .val (.int p3), .val (.int p4), .val (.ref ta), .val (.ref tb), .val (.ref wC), .val (.int (0 : Int32)), .val (.ref d), .val (.int (0 : Int32)), .val (.int (0 : Int32))] [(.int (0 : Int32))])) t₀
              refine XS.iload X16.here hx rfl (hb hby at_116) rfl ?_
              show Steps p.tables e below (T16.setTop (mkF m 118 #[.val (.int p1), .val (.int p2), .val (.int p3), .val (.int p4), .val (.ref ta), .val (.ref tb), .val (.ref wC), .val (.int (0 : Int32)), .val (.ref d), .val (.int (0 : Int32)), .val (.int (0 : Int32))] [(.int (0 : Int32)), (.int (0 : Int32))])) t₀
              refine XS.icmpNo X16.here hx rfl (hb hby at_118) rfl (teq (by decide : ((0 : Int32) = (0 : Int32)))).2 ?_
              show Steps p.tables e below (T16.setTop (mkF m 121 #[.val (.int p1), .val (.int p2), .val (.int p3), .val (.int p4), .val (.ref ta), .val (.ref tb), .val (.ref wC), .val (.int (0 : Int32)), .val (.ref d), .val (.int (0 : Int32)), .val (.int (0 : Int32))] [])) t₀
              refine XS.iconst X16.here hx rfl (hb hby at_121) ?_
              show Steps p.tables e below (T16.setTop (mkF m 122 #[.val (.int p1), .val (.int p2), .val (.int p3), .val (.int p4), .val (.ref ta), .val (.ref tb), .val (.ref wC), .val (.int (0 : Int32)), .val (.ref d), .val (.int (0 : Int32)), .val (.int (0 : Int32))] [(.int (1 : Int32))])) t₀
              refine XS.goto X16.here hx rfl (pc0 := 122) (pc' := 126) rfl (hb hby at_122) (by decide) (by decide) ?_
              exact k₀
            refine hF _ T16 _ _ _ (some (.int (1 : Int32))) _ X16 e16 (fun h => by rw [hrt] at h; cases h) (by decide) (by decide) ?_ (fun fs hr => retN X16 hx (t := .boolean) hrt (by simp) (hb hby at_126) hr)
            exact ⟨rfl, N16⟩
          ·
            refine hG _ (T15.setTop (mkF m 113 #[.val (.int p1), .val (.int p2), .val (.int p3), .val (.int p4), .val (.ref ta), .val (.ref tb), .val (.ref wC), .val (.int (0 : Int32)), .val (.ref d), .val (.int (0 : Int32)), .val (.int (0 : Int32))] [(.ref d)])) (fun t₀ k₀ => ?_) ?_
            · show Steps p.tables e below (T15.setTop (mkF m 83 #[.val (.int p1), .val (.int p2), .val (.int p3), .val (.int p4), .val (.ref ta), .val (.ref tb), .val (.ref wC), .val (.int (0 : Int32)), .val (.ref d), .val (.int (0 : Int32)), .unset] [(.ref wKO), (.ref ta)])) t₀
              refine Jvm.RoadKit.acmp (g := (mkF m 83 #[.val (.int p1), .val (.int p2), .val (.int p3), .val (.int p4), .val (.ref ta), .val (.ref tb), .val (.ref wC), .val (.int (0 : Int32)), .val (.ref d), .val (.int (0 : Int32)), .unset] [(.ref wKO), (.ref ta)])) X15 hx rfl rfl rfl (pc0 := 83) (pc' := 108) (same := false) rfl (hb hby at_83) rfl (decide_eq_false fun q => hc83 (Value.ref.inj q)) (by decide) (by decide) ?_
              show Steps p.tables e below (T15.setTop (mkF m 108 #[.val (.int p1), .val (.int p2), .val (.int p3), .val (.int p4), .val (.ref ta), .val (.ref tb), .val (.ref wC), .val (.int (0 : Int32)), .val (.ref d), .val (.int (0 : Int32)), .unset] [])) t₀
              refine XS.iconst X15.here hx rfl (hb hby at_108) ?_
              show Steps p.tables e below (T15.setTop (mkF m 109 #[.val (.int p1), .val (.int p2), .val (.int p3), .val (.int p4), .val (.ref ta), .val (.ref tb), .val (.ref wC), .val (.int (0 : Int32)), .val (.ref d), .val (.int (0 : Int32)), .unset] [(.int (0 : Int32))])) t₀
              refine XS.istore X15.here hx rfl (hb hby at_109) rfl (l' := #[.val (.int p1), .val (.int p2), .val (.int p3), .val (.int p4), .val (.ref ta), .val (.ref tb), .val (.ref wC), .val (.int (0 : Int32)), .val (.ref d), .val (.int (0 : Int32)), .val (.int (0 : Int32))]) rfl ?_
              show Steps p.tables e below (T15.setTop (mkF m 111 #[.val (.int p1), .val (.int p2), .val (.int p3), .val (.int p4), .val (.ref ta), .val (.ref tb), .val (.ref wC), .val (.int (0 : Int32)), .val (.ref d), .val (.int (0 : Int32)), .val (.int (0 : Int32))] [])) t₀
              refine XS.aload X15.here hx rfl (hb hby at_111) rfl rfl ?_
              exact k₀
            have hr : (if d = r7 ∨ d = r8 then (1 : Int32) else 0) = (0 : Int32) := by
              rw [hd]
              exact if_neg (own_L1 hc83 ne_r3_r7 ne_r3_r8 ne_r4_r7 ne_r4_r8 ne_r9_r7 ne_r9_r8 ne_r10_r7 ne_r10_r8)
            have hE : Exa Z h0 d "com/example/concordat/concordat/core/ConflictRule" := by
              rw [hd]; unfold own_dec; (repeat' split) <;> assumption
            obtain ⟨cq17, kq17, q17a, q17b, q17c⟩ := isOf hZ e15 hE
            obtain ⟨_, _, ⟨T17, L17, k17, n17⟩, -, X17, ⟨Lc17, hQ17, l17, y17, z17⟩, st17⟩ := X15.virtualBack hx (y := (⟨"com/example/concordat/concordat/core/ConflictRule", "holderReleases", "()Z"⟩ : MethodName)) (z := (⟨"com/example/concordat/concordat/core/ConflictRule", "holderReleases", "()Z"⟩ : MethodName)) hown (mvT hZ (hw _ (List.mem_of_getElem? (i := 26) rfl))) (mvT hZ (hw _ (List.mem_of_getElem? (i := 27) rfl))) (notFace_of_selects (args := #[]) (mvT hZ (hw _ (List.mem_of_getElem? (i := 29) rfl)))) (mvT hZ (hw _ (List.mem_of_getElem? (i := 29) rfl))) (mvT hZ (hw _ (List.mem_of_getElem? (i := 28) rfl))) (by decide) (backOf (W := 0) (rm3 l Z a0 hw [] d r7 r8 (0 : Int32) h0 n0 Z0 S_R7 S_R8 hr) hZ (hw _ (List.mem_of_getElem? (i := 30) rfl)) (hw _ (List.mem_of_getElem? (i := 15) rfl)) (by decide) (by decide)) q17a q17c (g := (mkF m 113 #[.val (.int p1), .val (.int p2), .val (.int p3), .val (.int p4), .val (.ref ta), .val (.ref tb), .val (.ref wC), .val (.int (0 : Int32)), .val (.ref d), .val (.int (0 : Int32)), .val (.int (0 : Int32))] [(.ref d)])) rfl (by rw [hml]; rfl) (Steps.refl _) (argsL := []) (rest := []) (lenOf pd_2 rfl) rfl (by show 2 * 0 + _ ≤ _; exact Nat.le_of_eq rfl) (hb hby at_113) (fun _ _ => ⟨rfl, e15, (by decide : 0 + 0 ≤ _), (by decide : 0 + 0 ≤ _)⟩)
            dsimp only [Pt.U, Pt.locs, Pt.cells, Pt.slots] at X17 l17 y17 z17 st17 hQ17
            subst l17 y17 z17
            obtain ⟨rfl, N17q, e17⟩ := hQ17
            have N17 := Fr.app N4 N17q
            refine hG _ _ (fun t₀ k₀ => st17.trans k₀) ?_
            show G (T17.setTop (mkF m 116 #[.val (.int p1), .val (.int p2), .val (.int p3), .val (.int p4), .val (.ref ta), .val (.ref tb), .val (.ref wC), .val (.int (0 : Int32)), .val (.ref d), .val (.int (0 : Int32)), .val (.int (0 : Int32))] [(.int (0 : Int32))]))
            refine hG _ (T17.setTop (mkF m 126 #[.val (.int p1), .val (.int p2), .val (.int p3), .val (.int p4), .val (.ref ta), .val (.ref tb), .val (.ref wC), .val (.int (0 : Int32)), .val (.ref d), .val (.int (0 : Int32)), .val (.int (0 : Int32))] [(.int (1 : Int32))])) (fun t₀ k₀ => ?_) ?_
            · show Steps p.tables e below (T17.setTop (mkF m 116 #[.val (.int p1), .val (.int p2), .val (.int p3), .val (.int p4), .val (.ref ta), .val (.ref tb), .val (.ref wC), .val (.int (0 : Int32)), .val (.ref d), .val (.int (0 : Int32)), .val (.int (0 : Int32))] [(.int (0 : Int32))])) t₀
              refine XS.iload X17.here hx rfl (hb hby at_116) rfl ?_
              show Steps p.tables e below (T17.setTop (mkF m 118 #[.val (.int p1), .val (.int p2), .val (.int p3), .val (.int p4), .val (.ref ta), .val (.ref tb), .val (.ref wC), .val (.int (0 : Int32)), .val (.ref d), .val (.int (0 : Int32)), .val (.int (0 : Int32))] [(.int (0 : Int32)), (.int (0 : Int32))])) t₀
              refine XS.icmpNo X17.here hx rfl (hb hby at_118) rfl (teq (by decide : ((0 : Int32) = (0 : Int32)))).2 ?_
              show Steps p.tables e below (T17.setTop (mkF m 121 #[.val (.int p1), .val (.int p2), .val (.int p3), .val (.int p4), .val (.ref ta), .val (.ref tb), .val (.ref wC), .val (.int (0 : Int32)), .val (.ref d), .val (.int (0 : Int32)), .val (.int (0 : Int32))] [])) t₀
              refine XS.iconst X17.here hx rfl (hb hby at_121) ?_
              show Steps p.tables e below (T17.setTop (mkF m 122 #[.val (.int p1), .val (.int p2), .val (.int p3), .val (.int p4), .val (.ref ta), .val (.ref tb), .val (.ref wC), .val (.int (0 : Int32)), .val (.ref d), .val (.int (0 : Int32)), .val (.int (0 : Int32))] [(.int (1 : Int32))])) t₀
              refine XS.goto X17.here hx rfl (pc0 := 122) (pc' := 126) rfl (hb hby at_122) (by decide) (by decide) ?_
              exact k₀
            refine hF _ T17 _ _ _ (some (.int (1 : Int32))) _ X17 e17 (fun h => by rw [hrt] at h; cases h) (by decide) (by decide) ?_ (fun fs hr => retN X17 hx (t := .boolean) hrt (by simp) (hb hby at_126) hr)
            exact ⟨rfl, N17⟩
    ·
      refine hG _ (T3.setTop (mkF m 50 #[.val (.int p1), .val (.int p2), .val (.int p3), .val (.int p4), .val (.ref ta), .val (.ref tb), .val (.ref wC), .val (.int (1 : Int32)), .unset, .unset, .unset] [(.int (1 : Int32)), (.ref wC), (.ref tb), (.ref ta)])) (fun t₀ k₀ => ?_) ?_
      · show Steps p.tables e below (T3.setTop (mkF m 32 #[.val (.int p1), .val (.int p2), .val (.int p3), .val (.int p4), .val (.ref ta), .val (.ref tb), .val (.ref wC), .unset, .unset, .unset, .unset] [(.int (p4 &&& (1 : Int32)))])) t₀
        refine XS.ifNo X3.here hx rfl (hb hby at_32) rfl ((if0 _ _).trans (feq hc32).1) ?_
        show Steps p.tables e below (T3.setTop (mkF m 35 #[.val (.int p1), .val (.int p2), .val (.int p3), .val (.int p4), .val (.ref ta), .val (.ref tb), .val (.ref wC), .unset, .unset, .unset, .unset] [])) t₀
        refine XS.iconst X3.here hx rfl (hb hby at_35) ?_
        show Steps p.tables e below (T3.setTop (mkF m 36 #[.val (.int p1), .val (.int p2), .val (.int p3), .val (.int p4), .val (.ref ta), .val (.ref tb), .val (.ref wC), .unset, .unset, .unset, .unset] [(.int (1 : Int32))])) t₀
        refine XS.goto X3.here hx rfl (pc0 := 36) (pc' := 40) rfl (hb hby at_36) (by decide) (by decide) ?_
        show Steps p.tables e below (T3.setTop (mkF m 40 #[.val (.int p1), .val (.int p2), .val (.int p3), .val (.int p4), .val (.ref ta), .val (.ref tb), .val (.ref wC), .unset, .unset, .unset, .unset] [(.int (1 : Int32))])) t₀
        refine XS.istore X3.here hx rfl (hb hby at_40) rfl (l' := #[.val (.int p1), .val (.int p2), .val (.int p3), .val (.int p4), .val (.ref ta), .val (.ref tb), .val (.ref wC), .val (.int (1 : Int32)), .unset, .unset, .unset]) rfl ?_
        show Steps p.tables e below (T3.setTop (mkF m 42 #[.val (.int p1), .val (.int p2), .val (.int p3), .val (.int p4), .val (.ref ta), .val (.ref tb), .val (.ref wC), .val (.int (1 : Int32)), .unset, .unset, .unset] [])) t₀
        refine XS.aload X3.here hx rfl (hb hby at_42) rfl rfl ?_
        show Steps p.tables e below (T3.setTop (mkF m 44 #[.val (.int p1), .val (.int p2), .val (.int p3), .val (.int p4), .val (.ref ta), .val (.ref tb), .val (.ref wC), .val (.int (1 : Int32)), .unset, .unset, .unset] [(.ref ta)])) t₀
        refine XS.aload X3.here hx rfl (hb hby at_44) rfl rfl ?_
        show Steps p.tables e below (T3.setTop (mkF m 46 #[.val (.int p1), .val (.int p2), .val (.int p3), .val (.int p4), .val (.ref ta), .val (.ref tb), .val (.ref wC), .val (.int (1 : Int32)), .unset, .unset, .unset] [(.ref tb), (.ref ta)])) t₀
        refine XS.aload X3.here hx rfl (hb hby at_46) rfl rfl ?_
        show Steps p.tables e below (T3.setTop (mkF m 48 #[.val (.int p1), .val (.int p2), .val (.int p3), .val (.int p4), .val (.ref ta), .val (.ref tb), .val (.ref wC), .val (.int (1 : Int32)), .unset, .unset, .unset] [(.ref wC), (.ref tb), (.ref ta)])) t₀
        refine XS.iload X3.here hx rfl (hb hby at_48) rfl ?_
        exact k₀
      obtain ⟨_, _, ⟨T18, L18, k18, n18⟩, -, X18, ⟨Lc18, hQ18, l18, y18, z18⟩, st18⟩ := Jvm.LawKit.callS X3 hx (y := (⟨"com/example/concordat/concordat/core/ConflictRule", "deciding", "(Lcom/example/concordat/concordat/core/TransactionType;Lcom/example/concordat/concordat/core/TransactionType;Lcom/example/concordat/concordat/core/DocumentObject;Z)Lcom/example/concordat/concordat/core/ConflictRule;"⟩ : MethodName)) hown (mvT hZ (hw _ (List.mem_of_getElem? (i := 13) rfl))) (mvT hZ (hw _ (List.mem_of_getElem? (i := 14) rfl))) (mvT hZ (hw _ (List.mem_of_getElem? (i := 15) rfl))) (mvT hZ (hw _ (List.mem_of_getElem? (i := 16) rfl))) (by decide) (backOf (W := 0) (rm2 l Z a0 hw [] ta tb wC (1 : Int32) wOP wKO wAU wS r3 r4 r5 r6 r7 r8 r9 r10 h0 n0 Z0 S_OPT_AKT S_KONS S_AUTO S_STATUS S_R3 S_R4 S_R5 S_R6 S_R7 S_R8 S_R9 S_R10) hZ (hw _ (List.mem_of_getElem? (i := 16) rfl)) (hw _ (List.mem_of_getElem? (i := 15) rfl)) (by decide) (by decide)) (g := (mkF m 50 #[.val (.int p1), .val (.int p2), .val (.int p3), .val (.int p4), .val (.ref ta), .val (.ref tb), .val (.ref wC), .val (.int (1 : Int32)), .unset, .unset, .unset] [(.int (1 : Int32)), (.ref wC), (.ref tb), (.ref ta)])) rfl (by rw [hml]; rfl) (argsL := [(.ref ta), (.ref tb), (.ref wC), (.int (1 : Int32))]) (rest := []) (lenOf pd_1 rfl) rfl (by show 2 * 0 + _ ≤ _; exact Nat.le_of_eq rfl) (hb hby at_50) (fun _ _ => ⟨rfl, e3, (by decide : 0 + 0 ≤ _), (by decide : 0 + 0 ≤ _)⟩)
      dsimp only [Pt.U, Pt.locs, Pt.cells, Pt.slots] at X18 l18 y18 z18 st18 hQ18
      subst l18 y18 z18
      obtain ⟨rfl, N18q, e18⟩ := hQ18
      have N18 := Fr.app N2 N18q
      refine hG _ _ (fun t₀ k₀ => st18 _ k₀) ?_
      show G (T18.setTop (mkF m 53 #[.val (.int p1), .val (.int p2), .val (.int p3), .val (.int p4), .val (.ref ta), .val (.ref tb), .val (.ref wC), .val (.int (1 : Int32)), .unset, .unset, .unset] [(.ref (own_dec wOP wKO wAU wS r3 r4 r5 r6 r7 r8 r9 r10 ta tb wC (1 : Int32)))]))
      obtain ⟨d, hd⟩ : ∃ z, z = (own_dec wOP wKO wAU wS r3 r4 r5 r6 r7 r8 r9 r10 ta tb wC (1 : Int32)) := ⟨_, rfl⟩
      rw [← hd]
      show G (T18.setTop (mkF m 53 #[.val (.int p1), .val (.int p2), .val (.int p3), .val (.int p4), .val (.ref ta), .val (.ref tb), .val (.ref wC), .val (.int (1 : Int32)), .unset, .unset, .unset] [(.ref d)]))
      refine hG _ (T18.setTop (mkF m 57 #[.val (.int p1), .val (.int p2), .val (.int p3), .val (.int p4), .val (.ref ta), .val (.ref tb), .val (.ref wC), .val (.int (1 : Int32)), .val (.ref d), .unset, .unset] [(.ref tb)])) (fun t₀ k₀ => ?_) ?_
      · show Steps p.tables e below (T18.setTop (mkF m 53 #[.val (.int p1), .val (.int p2), .val (.int p3), .val (.int p4), .val (.ref ta), .val (.ref tb), .val (.ref wC), .val (.int (1 : Int32)), .unset, .unset, .unset] [(.ref d)])) t₀
        refine XS.astore X18.here hx rfl (hb hby at_53) rfl rfl (l' := #[.val (.int p1), .val (.int p2), .val (.int p3), .val (.int p4), .val (.ref ta), .val (.ref tb), .val (.ref wC), .val (.int (1 : Int32)), .val (.ref d), .unset, .unset]) rfl ?_
        show Steps p.tables e below (T18.setTop (mkF m 55 #[.val (.int p1), .val (.int p2), .val (.int p3), .val (.int p4), .val (.ref ta), .val (.ref tb), .val (.ref wC), .val (.int (1 : Int32)), .val (.ref d), .unset, .unset] [])) t₀
        refine XS.aload X18.here hx rfl (hb hby at_55) rfl rfl ?_
        exact k₀
      obtain ⟨T19, X19, e19, st19⟩ := getS2 X18 hx hZ hown (host := "") (Or.inl (hw _ (List.mem_of_getElem? (i := 5) rfl))) Via.refl e18 S_PESS_AKT (g := (mkF m 57 #[.val (.int p1), .val (.int p2), .val (.int p3), .val (.int p4), .val (.ref ta), .val (.ref tb), .val (.ref wC), .val (.int (1 : Int32)), .val (.ref d), .unset, .unset] [(.ref tb)])) rfl (hb hby at_57)
      refine hG _ _ (fun t₀ k₀ => st19 _ k₀) ?_
      show G (T19.setTop (mkF m 60 #[.val (.int p1), .val (.int p2), .val (.int p3), .val (.int p4), .val (.ref ta), .val (.ref tb), .val (.ref wC), .val (.int (1 : Int32)), .val (.ref d), .unset, .unset] [(.ref wPA), (.ref tb)]))
      by_cases hc60 : tb = wPA
      ·
        refine hG _ (T19.setTop (mkF m 80 #[.val (.int p1), .val (.int p2), .val (.int p3), .val (.int p4), .val (.ref ta), .val (.ref tb), .val (.ref wC), .val (.int (1 : Int32)), .val (.ref d), .val (.int (1 : Int32)), .unset] [(.ref ta)])) (fun t₀ k₀ => ?_) ?_
        · show Steps p.tables e below (T19.setTop (mkF m 60 #[.val (.int p1), .val (.int p2), .val (.int p3), .val (.int p4), .val (.ref ta), .val (.ref tb), .val (.ref wC), .val (.int (1 : Int32)), .val (.ref d), .unset, .unset] [(.ref wPA), (.ref tb)])) t₀
          refine Jvm.RoadKit.acmp (g := (mkF m 60 #[.val (.int p1), .val (.int p2), .val (.int p3), .val (.int p4), .val (.ref ta), .val (.ref tb), .val (.ref wC), .val (.int (1 : Int32)), .val (.ref d), .unset, .unset] [(.ref wPA), (.ref tb)])) X19 hx rfl rfl rfl (pc0 := 60) (pc' := 71) (same := true) rfl (hb hby at_60) rfl (decide_eq_true (congrArg Value.ref hc60)) (by decide) (by decide) ?_
          show Steps p.tables e below (T19.setTop (mkF m 71 #[.val (.int p1), .val (.int p2), .val (.int p3), .val (.int p4), .val (.ref ta), .val (.ref tb), .val (.ref wC), .val (.int (1 : Int32)), .val (.ref d), .unset, .unset] [])) t₀
          refine XS.iconst X19.here hx rfl (hb hby at_71) ?_
          show Steps p.tables e below (T19.setTop (mkF m 72 #[.val (.int p1), .val (.int p2), .val (.int p3), .val (.int p4), .val (.ref ta), .val (.ref tb), .val (.ref wC), .val (.int (1 : Int32)), .val (.ref d), .unset, .unset] [(.int (1 : Int32))])) t₀
          refine XS.goto X19.here hx rfl (pc0 := 72) (pc' := 76) rfl (hb hby at_72) (by decide) (by decide) ?_
          show Steps p.tables e below (T19.setTop (mkF m 76 #[.val (.int p1), .val (.int p2), .val (.int p3), .val (.int p4), .val (.ref ta), .val (.ref tb), .val (.ref wC), .val (.int (1 : Int32)), .val (.ref d), .unset, .unset] [(.int (1 : Int32))])) t₀
          refine XS.istore X19.here hx rfl (hb hby at_76) rfl (l' := #[.val (.int p1), .val (.int p2), .val (.int p3), .val (.int p4), .val (.ref ta), .val (.ref tb), .val (.ref wC), .val (.int (1 : Int32)), .val (.ref d), .val (.int (1 : Int32)), .unset]) rfl ?_
          show Steps p.tables e below (T19.setTop (mkF m 78 #[.val (.int p1), .val (.int p2), .val (.int p3), .val (.int p4), .val (.ref ta), .val (.ref tb), .val (.ref wC), .val (.int (1 : Int32)), .val (.ref d), .val (.int (1 : Int32)), .unset] [])) t₀
          refine XS.aload X19.here hx rfl (hb hby at_78) rfl rfl ?_
          exact k₀
        obtain ⟨T20, X20, e20, st20⟩ := getS2 X19 hx hZ hown (host := "") (Or.inl (hw _ (List.mem_of_getElem? (i := 8) rfl))) Via.refl e19 S_KONS (g := (mkF m 80 #[.val (.int p1), .val (.int p2), .val (.int p3), .val (.int p4), .val (.ref ta), .val (.ref tb), .val (.ref wC), .val (.int (1 : Int32)), .val (.ref d), .val (.int (1 : Int32)), .unset] [(.ref ta)])) rfl (hb hby at_80)
        refine hG _ _ (fun t₀ k₀ => st20 _ k₀) ?_
        show G (T20.setTop (mkF m 83 #[.val (.int p1), .val (.int p2), .val (.int p3), .val (.int p4), .val (.ref ta), .val (.ref tb), .val (.ref wC), .val (.int (1 : Int32)), .val (.ref d), .val (.int (1 : Int32)), .unset] [(.ref wKO), (.ref ta)]))
        by_cases hc83 : ta = wKO
        ·
          refine hG _ (T20.setTop (mkF m 93 #[.val (.int p1), .val (.int p2), .val (.int p3), .val (.int p4), .val (.ref ta), .val (.ref tb), .val (.ref wC), .val (.int (1 : Int32)), .val (.ref d), .val (.int (1 : Int32)), .unset] [(.ref wC)])) (fun t₀ k₀ => ?_) ?_
          · show Steps p.tables e below (T20.setTop (mkF m 83 #[.val (.int p1), .val (.int p2), .val (.int p3), .val (.int p4), .val (.ref ta), .val (.ref tb), .val (.ref wC), .val (.int (1 : Int32)), .val (.ref d), .val (.int (1 : Int32)), .unset] [(.ref wKO), (.ref ta)])) t₀
            refine Jvm.RoadKit.acmp (g := (mkF m 83 #[.val (.int p1), .val (.int p2), .val (.int p3), .val (.int p4), .val (.ref ta), .val (.ref tb), .val (.ref wC), .val (.int (1 : Int32)), .val (.ref d), .val (.int (1 : Int32)), .unset] [(.ref wKO), (.ref ta)])) X20 hx rfl rfl rfl (pc0 := 83) (pc' := 86) (same := true) rfl (hb hby at_83) rfl (decide_eq_true (congrArg Value.ref hc83)) (by decide) (by decide) ?_
            show Steps p.tables e below (T20.setTop (mkF m 86 #[.val (.int p1), .val (.int p2), .val (.int p3), .val (.int p4), .val (.ref ta), .val (.ref tb), .val (.ref wC), .val (.int (1 : Int32)), .val (.ref d), .val (.int (1 : Int32)), .unset] [])) t₀
            refine XS.iload X20.here hx rfl (hb hby at_86) rfl ?_
            show Steps p.tables e below (T20.setTop (mkF m 88 #[.val (.int p1), .val (.int p2), .val (.int p3), .val (.int p4), .val (.ref ta), .val (.ref tb), .val (.ref wC), .val (.int (1 : Int32)), .val (.ref d), .val (.int (1 : Int32)), .unset] [(.int (1 : Int32))])) t₀
            refine XS.ifNo X20.here hx rfl (hb hby at_88) rfl ((if0 _ _).trans (feq (by decide : ¬ ((1 : Int32) = (0 : Int32)))).1) ?_
            show Steps p.tables e below (T20.setTop (mkF m 91 #[.val (.int p1), .val (.int p2), .val (.int p3), .val (.int p4), .val (.ref ta), .val (.ref tb), .val (.ref wC), .val (.int (1 : Int32)), .val (.ref d), .val (.int (1 : Int32)), .unset] [])) t₀
            refine XS.aload X20.here hx rfl (hb hby at_91) rfl rfl ?_
            exact k₀
          obtain ⟨T21, X21, e21, st21⟩ := getS2 X20 hx hZ hown (host := "") (Or.inl (hw _ (List.mem_of_getElem? (i := 41) rfl))) Via.refl e20 S_STATUS (g := (mkF m 93 #[.val (.int p1), .val (.int p2), .val (.int p3), .val (.int p4), .val (.ref ta), .val (.ref tb), .val (.ref wC), .val (.int (1 : Int32)), .val (.ref d), .val (.int (1 : Int32)), .unset] [(.ref wC)])) rfl (hb hby at_93)
          refine hG _ _ (fun t₀ k₀ => st21 _ k₀) ?_
          show G (T21.setTop (mkF m 96 #[.val (.int p1), .val (.int p2), .val (.int p3), .val (.int p4), .val (.ref ta), .val (.ref tb), .val (.ref wC), .val (.int (1 : Int32)), .val (.ref d), .val (.int (1 : Int32)), .unset] [(.ref wS), (.ref wC)]))
          refine hG _ (T21.setTop (mkF m 113 #[.val (.int p1), .val (.int p2), .val (.int p3), .val (.int p4), .val (.ref ta), .val (.ref tb), .val (.ref wC), .val (.int (1 : Int32)), .val (.ref d), .val (.int (1 : Int32)), .val (.int (1 : Int32))] [(.ref d)])) (fun t₀ k₀ => ?_) ?_
          · show Steps p.tables e below (T21.setTop (mkF m 96 #[.val (.int p1), .val (.int p2), .val (.int p3), .val (.int p4), .val (.ref ta), .val (.ref tb), .val (.ref wC), .val (.int (1 : Int32)), .val (.ref d), .val (.int (1 : Int32)), .unset] [(.ref wS), (.ref wC)])) t₀
            refine Jvm.RoadKit.acmp (g := (mkF m 96 #[.val (.int p1), .val (.int p2), .val (.int p3), .val (.int p4), .val (.ref ta), .val (.ref tb), .val (.ref wC), .val (.int (1 : Int32)), .val (.ref d), .val (.int (1 : Int32)), .unset] [(.ref wS), (.ref wC)])) X21 hx rfl rfl rfl (pc0 := 96) (pc' := 99) (same := false) rfl (hb hby at_96) rfl (decide_eq_false fun q => neCS (Value.ref.inj q)) (by decide) (by decide) ?_
            show Steps p.tables e below (T21.setTop (mkF m 99 #[.val (.int p1), .val (.int p2), .val (.int p3), .val (.int p4), .val (.ref ta), .val (.ref tb), .val (.ref wC), .val (.int (1 : Int32)), .val (.ref d), .val (.int (1 : Int32)), .unset] [])) t₀
            refine XS.iload X21.here hx rfl (hb hby at_99) rfl ?_
            show Steps p.tables e below (T21.setTop (mkF m 101 #[.val (.int p1), .val (.int p2), .val (.int p3), .val (.int p4), .val (.ref ta), .val (.ref tb), .val (.ref wC), .val (.int (1 : Int32)), .val (.ref d), .val (.int (1 : Int32)), .unset] [(.int (1 : Int32))])) t₀
            refine XS.ifNo X21.here hx rfl (hb hby at_101) rfl ((if0 _ _).trans (feq (by decide : ¬ ((1 : Int32) = (0 : Int32)))).1) ?_
            show Steps p.tables e below (T21.setTop (mkF m 104 #[.val (.int p1), .val (.int p2), .val (.int p3), .val (.int p4), .val (.ref ta), .val (.ref tb), .val (.ref wC), .val (.int (1 : Int32)), .val (.ref d), .val (.int (1 : Int32)), .unset] [])) t₀
            refine XS.iconst X21.here hx rfl (hb hby at_104) ?_
            show Steps p.tables e below (T21.setTop (mkF m 105 #[.val (.int p1), .val (.int p2), .val (.int p3), .val (.int p4), .val (.ref ta), .val (.ref tb), .val (.ref wC), .val (.int (1 : Int32)), .val (.ref d), .val (.int (1 : Int32)), .unset] [(.int (1 : Int32))])) t₀
            refine XS.goto X21.here hx rfl (pc0 := 105) (pc' := 109) rfl (hb hby at_105) (by decide) (by decide) ?_
            show Steps p.tables e below (T21.setTop (mkF m 109 #[.val (.int p1), .val (.int p2), .val (.int p3), .val (.int p4), .val (.ref ta), .val (.ref tb), .val (.ref wC), .val (.int (1 : Int32)), .val (.ref d), .val (.int (1 : Int32)), .unset] [(.int (1 : Int32))])) t₀
            refine XS.istore X21.here hx rfl (hb hby at_109) rfl (l' := #[.val (.int p1), .val (.int p2), .val (.int p3), .val (.int p4), .val (.ref ta), .val (.ref tb), .val (.ref wC), .val (.int (1 : Int32)), .val (.ref d), .val (.int (1 : Int32)), .val (.int (1 : Int32))]) rfl ?_
            show Steps p.tables e below (T21.setTop (mkF m 111 #[.val (.int p1), .val (.int p2), .val (.int p3), .val (.int p4), .val (.ref ta), .val (.ref tb), .val (.ref wC), .val (.int (1 : Int32)), .val (.ref d), .val (.int (1 : Int32)), .val (.int (1 : Int32))] [])) t₀
            refine XS.aload X21.here hx rfl (hb hby at_111) rfl rfl ?_
            exact k₀
          have hr : (if d = r7 ∨ d = r8 then (1 : Int32) else 0) = (1 : Int32) := by
            rw [hd]
            rw [hc83, hc60, own_L3 ne_wKO_wOP ne_wKO_wAU ne_wPA_wOP ne_wPA_wAU ne_wPA_wKO]
            rw [if_neg neCS]
            rw [if_neg (show ¬ ((1 : Int32) = (0 : Int32)) by decide)]
            exact if_pos (Or.inl rfl)
          have hE : Exa Z h0 d "com/example/concordat/concordat/core/ConflictRule" := by
            rw [hd]; unfold own_dec; (repeat' split) <;> assumption
          obtain ⟨cq22, kq22, q22a, q22b, q22c⟩ := isOf hZ e21 hE
          obtain ⟨_, _, ⟨T22, L22, k22, n22⟩, -, X22, ⟨Lc22, hQ22, l22, y22, z22⟩, st22⟩ := X21.virtualBack hx (y := (⟨"com/example/concordat/concordat/core/ConflictRule", "holderReleases", "()Z"⟩ : MethodName)) (z := (⟨"com/example/concordat/concordat/core/ConflictRule", "holderReleases", "()Z"⟩ : MethodName)) hown (mvT hZ (hw _ (List.mem_of_getElem? (i := 26) rfl))) (mvT hZ (hw _ (List.mem_of_getElem? (i := 27) rfl))) (notFace_of_selects (args := #[]) (mvT hZ (hw _ (List.mem_of_getElem? (i := 29) rfl)))) (mvT hZ (hw _ (List.mem_of_getElem? (i := 29) rfl))) (mvT hZ (hw _ (List.mem_of_getElem? (i := 28) rfl))) (by decide) (backOf (W := 0) (rm3 l Z a0 hw [] d r7 r8 (1 : Int32) h0 n0 Z0 S_R7 S_R8 hr) hZ (hw _ (List.mem_of_getElem? (i := 30) rfl)) (hw _ (List.mem_of_getElem? (i := 15) rfl)) (by decide) (by decide)) q22a q22c (g := (mkF m 113 #[.val (.int p1), .val (.int p2), .val (.int p3), .val (.int p4), .val (.ref ta), .val (.ref tb), .val (.ref wC), .val (.int (1 : Int32)), .val (.ref d), .val (.int (1 : Int32)), .val (.int (1 : Int32))] [(.ref d)])) rfl (by rw [hml]; rfl) (Steps.refl _) (argsL := []) (rest := []) (lenOf pd_2 rfl) rfl (by show 2 * 0 + _ ≤ _; exact Nat.le_of_eq rfl) (hb hby at_113) (fun _ _ => ⟨rfl, e21, (by decide : 0 + 0 ≤ _), (by decide : 0 + 0 ≤ _)⟩)
          dsimp only [Pt.U, Pt.locs, Pt.cells, Pt.slots] at X22 l22 y22 z22 st22 hQ22
          subst l22 y22 z22
          obtain ⟨rfl, N22q, e22⟩ := hQ22
          have N22 := Fr.app N18 N22q
          refine hG _ _ (fun t₀ k₀ => st22.trans k₀) ?_
          show G (T22.setTop (mkF m 116 #[.val (.int p1), .val (.int p2), .val (.int p3), .val (.int p4), .val (.ref ta), .val (.ref tb), .val (.ref wC), .val (.int (1 : Int32)), .val (.ref d), .val (.int (1 : Int32)), .val (.int (1 : Int32))] [(.int (1 : Int32))]))
          refine hG _ (T22.setTop (mkF m 126 #[.val (.int p1), .val (.int p2), .val (.int p3), .val (.int p4), .val (.ref ta), .val (.ref tb), .val (.ref wC), .val (.int (1 : Int32)), .val (.ref d), .val (.int (1 : Int32)), .val (.int (1 : Int32))] [(.int (1 : Int32))])) (fun t₀ k₀ => ?_) ?_
          · show Steps p.tables e below (T22.setTop (mkF m 116 #[.val (.int p1), .val (.int p2), .val (.int p3), .val (.int p4), .val (.ref ta), .val (.ref tb), .val (.ref wC), .val (.int (1 : Int32)), .val (.ref d), .val (.int (1 : Int32)), .val (.int (1 : Int32))] [(.int (1 : Int32))])) t₀
            refine XS.iload X22.here hx rfl (hb hby at_116) rfl ?_
            show Steps p.tables e below (T22.setTop (mkF m 118 #[.val (.int p1), .val (.int p2), .val (.int p3), .val (.int p4), .val (.ref ta), .val (.ref tb), .val (.ref wC), .val (.int (1 : Int32)), .val (.ref d), .val (.int (1 : Int32)), .val (.int (1 : Int32))] [(.int (1 : Int32)), (.int (1 : Int32))])) t₀
            refine XS.icmpNo X22.here hx rfl (hb hby at_118) rfl (teq (by decide : ((1 : Int32) = (1 : Int32)))).2 ?_
            show Steps p.tables e below (T22.setTop (mkF m 121 #[.val (.int p1), .val (.int p2), .val (.int p3), .val (.int p4), .val (.ref ta), .val (.ref tb), .val (.ref wC), .val (.int (1 : Int32)), .val (.ref d), .val (.int (1 : Int32)), .val (.int (1 : Int32))] [])) t₀
            refine XS.iconst X22.here hx rfl (hb hby at_121) ?_
            show Steps p.tables e below (T22.setTop (mkF m 122 #[.val (.int p1), .val (.int p2), .val (.int p3), .val (.int p4), .val (.ref ta), .val (.ref tb), .val (.ref wC), .val (.int (1 : Int32)), .val (.ref d), .val (.int (1 : Int32)), .val (.int (1 : Int32))] [(.int (1 : Int32))])) t₀
            refine XS.goto X22.here hx rfl (pc0 := 122) (pc' := 126) rfl (hb hby at_122) (by decide) (by decide) ?_
            exact k₀
          refine hF _ T22 _ _ _ (some (.int (1 : Int32))) _ X22 e22 (fun h => by rw [hrt] at h; cases h) (by decide) (by decide) ?_ (fun fs hr => retN X22 hx (t := .boolean) hrt (by simp) (hb hby at_126) hr)
          exact ⟨rfl, N22⟩
        ·
          refine hG _ (T20.setTop (mkF m 113 #[.val (.int p1), .val (.int p2), .val (.int p3), .val (.int p4), .val (.ref ta), .val (.ref tb), .val (.ref wC), .val (.int (1 : Int32)), .val (.ref d), .val (.int (1 : Int32)), .val (.int (0 : Int32))] [(.ref d)])) (fun t₀ k₀ => ?_) ?_
          · show Steps p.tables e below (T20.setTop (mkF m 83 #[.val (.int p1), .val (.int p2), .val (.int p3), .val (.int p4), .val (.ref ta), .val (.ref tb), .val (.ref wC), .val (.int (1 : Int32)), .val (.ref d), .val (.int (1 : Int32)), .unset] [(.ref wKO), (.ref ta)])) t₀
            refine Jvm.RoadKit.acmp (g := (mkF m 83 #[.val (.int p1), .val (.int p2), .val (.int p3), .val (.int p4), .val (.ref ta), .val (.ref tb), .val (.ref wC), .val (.int (1 : Int32)), .val (.ref d), .val (.int (1 : Int32)), .unset] [(.ref wKO), (.ref ta)])) X20 hx rfl rfl rfl (pc0 := 83) (pc' := 108) (same := false) rfl (hb hby at_83) rfl (decide_eq_false fun q => hc83 (Value.ref.inj q)) (by decide) (by decide) ?_
            show Steps p.tables e below (T20.setTop (mkF m 108 #[.val (.int p1), .val (.int p2), .val (.int p3), .val (.int p4), .val (.ref ta), .val (.ref tb), .val (.ref wC), .val (.int (1 : Int32)), .val (.ref d), .val (.int (1 : Int32)), .unset] [])) t₀
            refine XS.iconst X20.here hx rfl (hb hby at_108) ?_
            show Steps p.tables e below (T20.setTop (mkF m 109 #[.val (.int p1), .val (.int p2), .val (.int p3), .val (.int p4), .val (.ref ta), .val (.ref tb), .val (.ref wC), .val (.int (1 : Int32)), .val (.ref d), .val (.int (1 : Int32)), .unset] [(.int (0 : Int32))])) t₀
            refine XS.istore X20.here hx rfl (hb hby at_109) rfl (l' := #[.val (.int p1), .val (.int p2), .val (.int p3), .val (.int p4), .val (.ref ta), .val (.ref tb), .val (.ref wC), .val (.int (1 : Int32)), .val (.ref d), .val (.int (1 : Int32)), .val (.int (0 : Int32))]) rfl ?_
            show Steps p.tables e below (T20.setTop (mkF m 111 #[.val (.int p1), .val (.int p2), .val (.int p3), .val (.int p4), .val (.ref ta), .val (.ref tb), .val (.ref wC), .val (.int (1 : Int32)), .val (.ref d), .val (.int (1 : Int32)), .val (.int (0 : Int32))] [])) t₀
            refine XS.aload X20.here hx rfl (hb hby at_111) rfl rfl ?_
            exact k₀
          have hr : (if d = r7 ∨ d = r8 then (1 : Int32) else 0) = (0 : Int32) := by
            rw [hd]
            exact if_neg (own_L1 hc83 ne_r3_r7 ne_r3_r8 ne_r4_r7 ne_r4_r8 ne_r9_r7 ne_r9_r8 ne_r10_r7 ne_r10_r8)
          have hE : Exa Z h0 d "com/example/concordat/concordat/core/ConflictRule" := by
            rw [hd]; unfold own_dec; (repeat' split) <;> assumption
          obtain ⟨cq23, kq23, q23a, q23b, q23c⟩ := isOf hZ e20 hE
          obtain ⟨_, _, ⟨T23, L23, k23, n23⟩, -, X23, ⟨Lc23, hQ23, l23, y23, z23⟩, st23⟩ := X20.virtualBack hx (y := (⟨"com/example/concordat/concordat/core/ConflictRule", "holderReleases", "()Z"⟩ : MethodName)) (z := (⟨"com/example/concordat/concordat/core/ConflictRule", "holderReleases", "()Z"⟩ : MethodName)) hown (mvT hZ (hw _ (List.mem_of_getElem? (i := 26) rfl))) (mvT hZ (hw _ (List.mem_of_getElem? (i := 27) rfl))) (notFace_of_selects (args := #[]) (mvT hZ (hw _ (List.mem_of_getElem? (i := 29) rfl)))) (mvT hZ (hw _ (List.mem_of_getElem? (i := 29) rfl))) (mvT hZ (hw _ (List.mem_of_getElem? (i := 28) rfl))) (by decide) (backOf (W := 0) (rm3 l Z a0 hw [] d r7 r8 (0 : Int32) h0 n0 Z0 S_R7 S_R8 hr) hZ (hw _ (List.mem_of_getElem? (i := 30) rfl)) (hw _ (List.mem_of_getElem? (i := 15) rfl)) (by decide) (by decide)) q23a q23c (g := (mkF m 113 #[.val (.int p1), .val (.int p2), .val (.int p3), .val (.int p4), .val (.ref ta), .val (.ref tb), .val (.ref wC), .val (.int (1 : Int32)), .val (.ref d), .val (.int (1 : Int32)), .val (.int (0 : Int32))] [(.ref d)])) rfl (by rw [hml]; rfl) (Steps.refl _) (argsL := []) (rest := []) (lenOf pd_2 rfl) rfl (by show 2 * 0 + _ ≤ _; exact Nat.le_of_eq rfl) (hb hby at_113) (fun _ _ => ⟨rfl, e20, (by decide : 0 + 0 ≤ _), (by decide : 0 + 0 ≤ _)⟩)
          dsimp only [Pt.U, Pt.locs, Pt.cells, Pt.slots] at X23 l23 y23 z23 st23 hQ23
          subst l23 y23 z23
          obtain ⟨rfl, N23q, e23⟩ := hQ23
          have N23 := Fr.app N18 N23q
          refine hG _ _ (fun t₀ k₀ => st23.trans k₀) ?_
          show G (T23.setTop (mkF m 116 #[.val (.int p1), .val (.int p2), .val (.int p3), .val (.int p4), .val (.ref ta), .val (.ref tb), .val (.ref wC), .val (.int (1 : Int32)), .val (.ref d), .val (.int (1 : Int32)), .val (.int (0 : Int32))] [(.int (0 : Int32))]))
          refine hG _ (T23.setTop (mkF m 126 #[.val (.int p1), .val (.int p2), .val (.int p3), .val (.int p4), .val (.ref ta), .val (.ref tb), .val (.ref wC), .val (.int (1 : Int32)), .val (.ref d), .val (.int (1 : Int32)), .val (.int (0 : Int32))] [(.int (1 : Int32))])) (fun t₀ k₀ => ?_) ?_
          · show Steps p.tables e below (T23.setTop (mkF m 116 #[.val (.int p1), .val (.int p2), .val (.int p3), .val (.int p4), .val (.ref ta), .val (.ref tb), .val (.ref wC), .val (.int (1 : Int32)), .val (.ref d), .val (.int (1 : Int32)), .val (.int (0 : Int32))] [(.int (0 : Int32))])) t₀
            refine XS.iload X23.here hx rfl (hb hby at_116) rfl ?_
            show Steps p.tables e below (T23.setTop (mkF m 118 #[.val (.int p1), .val (.int p2), .val (.int p3), .val (.int p4), .val (.ref ta), .val (.ref tb), .val (.ref wC), .val (.int (1 : Int32)), .val (.ref d), .val (.int (1 : Int32)), .val (.int (0 : Int32))] [(.int (0 : Int32)), (.int (0 : Int32))])) t₀
            refine XS.icmpNo X23.here hx rfl (hb hby at_118) rfl (teq (by decide : ((0 : Int32) = (0 : Int32)))).2 ?_
            show Steps p.tables e below (T23.setTop (mkF m 121 #[.val (.int p1), .val (.int p2), .val (.int p3), .val (.int p4), .val (.ref ta), .val (.ref tb), .val (.ref wC), .val (.int (1 : Int32)), .val (.ref d), .val (.int (1 : Int32)), .val (.int (0 : Int32))] [])) t₀
            refine XS.iconst X23.here hx rfl (hb hby at_121) ?_
            show Steps p.tables e below (T23.setTop (mkF m 122 #[.val (.int p1), .val (.int p2), .val (.int p3), .val (.int p4), .val (.ref ta), .val (.ref tb), .val (.ref wC), .val (.int (1 : Int32)), .val (.ref d), .val (.int (1 : Int32)), .val (.int (0 : Int32))] [(.int (1 : Int32))])) t₀
            refine XS.goto X23.here hx rfl (pc0 := 122) (pc' := 126) rfl (hb hby at_122) (by decide) (by decide) ?_
            exact k₀
          refine hF _ T23 _ _ _ (some (.int (1 : Int32))) _ X23 e23 (fun h => by rw [hrt] at h; cases h) (by decide) (by decide) ?_ (fun fs hr => retN X23 hx (t := .boolean) hrt (by simp) (hb hby at_126) hr)
          exact ⟨rfl, N23⟩
      ·
        refine hG _ (T19.setTop (mkF m 65 #[.val (.int p1), .val (.int p2), .val (.int p3), .val (.int p4), .val (.ref ta), .val (.ref tb), .val (.ref wC), .val (.int (1 : Int32)), .val (.ref d), .unset, .unset] [(.ref tb)])) (fun t₀ k₀ => ?_) ?_
        · show Steps p.tables e below (T19.setTop (mkF m 60 #[.val (.int p1), .val (.int p2), .val (.int p3), .val (.int p4), .val (.ref ta), .val (.ref tb), .val (.ref wC), .val (.int (1 : Int32)), .val (.ref d), .unset, .unset] [(.ref wPA), (.ref tb)])) t₀
          refine Jvm.RoadKit.acmp (g := (mkF m 60 #[.val (.int p1), .val (.int p2), .val (.int p3), .val (.int p4), .val (.ref ta), .val (.ref tb), .val (.ref wC), .val (.int (1 : Int32)), .val (.ref d), .unset, .unset] [(.ref wPA), (.ref tb)])) X19 hx rfl rfl rfl (pc0 := 60) (pc' := 63) (same := false) rfl (hb hby at_60) rfl (decide_eq_false fun q => hc60 (Value.ref.inj q)) (by decide) (by decide) ?_
          show Steps p.tables e below (T19.setTop (mkF m 63 #[.val (.int p1), .val (.int p2), .val (.int p3), .val (.int p4), .val (.ref ta), .val (.ref tb), .val (.ref wC), .val (.int (1 : Int32)), .val (.ref d), .unset, .unset] [])) t₀
          refine XS.aload X19.here hx rfl (hb hby at_63) rfl rfl ?_
          exact k₀
        obtain ⟨T24, X24, e24, st24⟩ := getS2 X19 hx hZ hown (host := "") (Or.inl (hw _ (List.mem_of_getElem? (i := 24) rfl))) Via.refl e19 S_PESS_AF (g := (mkF m 65 #[.val (.int p1), .val (.int p2), .val (.int p3), .val (.int p4), .val (.ref ta), .val (.ref tb), .val (.ref wC), .val (.int (1 : Int32)), .val (.ref d), .unset, .unset] [(.ref tb)])) rfl (hb hby at_65)
        refine hG _ _ (fun t₀ k₀ => st24 _ k₀) ?_
        show G (T24.setTop (mkF m 68 #[.val (.int p1), .val (.int p2), .val (.int p3), .val (.int p4), .val (.ref ta), .val (.ref tb), .val (.ref wC), .val (.int (1 : Int32)), .val (.ref d), .unset, .unset] [(.ref wPF), (.ref tb)]))
        by_cases hc68 : tb = wPF
        ·
          refine hG _ (T24.setTop (mkF m 80 #[.val (.int p1), .val (.int p2), .val (.int p3), .val (.int p4), .val (.ref ta), .val (.ref tb), .val (.ref wC), .val (.int (1 : Int32)), .val (.ref d), .val (.int (1 : Int32)), .unset] [(.ref ta)])) (fun t₀ k₀ => ?_) ?_
          · show Steps p.tables e below (T24.setTop (mkF m 68 #[.val (.int p1), .val (.int p2), .val (.int p3), .val (.int p4), .val (.ref ta), .val (.ref tb), .val (.ref wC), .val (.int (1 : Int32)), .val (.ref d), .unset, .unset] [(.ref wPF), (.ref tb)])) t₀
            refine Jvm.RoadKit.acmp (g := (mkF m 68 #[.val (.int p1), .val (.int p2), .val (.int p3), .val (.int p4), .val (.ref ta), .val (.ref tb), .val (.ref wC), .val (.int (1 : Int32)), .val (.ref d), .unset, .unset] [(.ref wPF), (.ref tb)])) X24 hx rfl rfl rfl (pc0 := 68) (pc' := 71) (same := true) rfl (hb hby at_68) rfl (decide_eq_true (congrArg Value.ref hc68)) (by decide) (by decide) ?_
            show Steps p.tables e below (T24.setTop (mkF m 71 #[.val (.int p1), .val (.int p2), .val (.int p3), .val (.int p4), .val (.ref ta), .val (.ref tb), .val (.ref wC), .val (.int (1 : Int32)), .val (.ref d), .unset, .unset] [])) t₀
            refine XS.iconst X24.here hx rfl (hb hby at_71) ?_
            show Steps p.tables e below (T24.setTop (mkF m 72 #[.val (.int p1), .val (.int p2), .val (.int p3), .val (.int p4), .val (.ref ta), .val (.ref tb), .val (.ref wC), .val (.int (1 : Int32)), .val (.ref d), .unset, .unset] [(.int (1 : Int32))])) t₀
            refine XS.goto X24.here hx rfl (pc0 := 72) (pc' := 76) rfl (hb hby at_72) (by decide) (by decide) ?_
            show Steps p.tables e below (T24.setTop (mkF m 76 #[.val (.int p1), .val (.int p2), .val (.int p3), .val (.int p4), .val (.ref ta), .val (.ref tb), .val (.ref wC), .val (.int (1 : Int32)), .val (.ref d), .unset, .unset] [(.int (1 : Int32))])) t₀
            refine XS.istore X24.here hx rfl (hb hby at_76) rfl (l' := #[.val (.int p1), .val (.int p2), .val (.int p3), .val (.int p4), .val (.ref ta), .val (.ref tb), .val (.ref wC), .val (.int (1 : Int32)), .val (.ref d), .val (.int (1 : Int32)), .unset]) rfl ?_
            show Steps p.tables e below (T24.setTop (mkF m 78 #[.val (.int p1), .val (.int p2), .val (.int p3), .val (.int p4), .val (.ref ta), .val (.ref tb), .val (.ref wC), .val (.int (1 : Int32)), .val (.ref d), .val (.int (1 : Int32)), .unset] [])) t₀
            refine XS.aload X24.here hx rfl (hb hby at_78) rfl rfl ?_
            exact k₀
          obtain ⟨T25, X25, e25, st25⟩ := getS2 X24 hx hZ hown (host := "") (Or.inl (hw _ (List.mem_of_getElem? (i := 8) rfl))) Via.refl e24 S_KONS (g := (mkF m 80 #[.val (.int p1), .val (.int p2), .val (.int p3), .val (.int p4), .val (.ref ta), .val (.ref tb), .val (.ref wC), .val (.int (1 : Int32)), .val (.ref d), .val (.int (1 : Int32)), .unset] [(.ref ta)])) rfl (hb hby at_80)
          refine hG _ _ (fun t₀ k₀ => st25 _ k₀) ?_
          show G (T25.setTop (mkF m 83 #[.val (.int p1), .val (.int p2), .val (.int p3), .val (.int p4), .val (.ref ta), .val (.ref tb), .val (.ref wC), .val (.int (1 : Int32)), .val (.ref d), .val (.int (1 : Int32)), .unset] [(.ref wKO), (.ref ta)]))
          by_cases hc83 : ta = wKO
          ·
            refine hG _ (T25.setTop (mkF m 93 #[.val (.int p1), .val (.int p2), .val (.int p3), .val (.int p4), .val (.ref ta), .val (.ref tb), .val (.ref wC), .val (.int (1 : Int32)), .val (.ref d), .val (.int (1 : Int32)), .unset] [(.ref wC)])) (fun t₀ k₀ => ?_) ?_
            · show Steps p.tables e below (T25.setTop (mkF m 83 #[.val (.int p1), .val (.int p2), .val (.int p3), .val (.int p4), .val (.ref ta), .val (.ref tb), .val (.ref wC), .val (.int (1 : Int32)), .val (.ref d), .val (.int (1 : Int32)), .unset] [(.ref wKO), (.ref ta)])) t₀
              refine Jvm.RoadKit.acmp (g := (mkF m 83 #[.val (.int p1), .val (.int p2), .val (.int p3), .val (.int p4), .val (.ref ta), .val (.ref tb), .val (.ref wC), .val (.int (1 : Int32)), .val (.ref d), .val (.int (1 : Int32)), .unset] [(.ref wKO), (.ref ta)])) X25 hx rfl rfl rfl (pc0 := 83) (pc' := 86) (same := true) rfl (hb hby at_83) rfl (decide_eq_true (congrArg Value.ref hc83)) (by decide) (by decide) ?_
              show Steps p.tables e below (T25.setTop (mkF m 86 #[.val (.int p1), .val (.int p2), .val (.int p3), .val (.int p4), .val (.ref ta), .val (.ref tb), .val (.ref wC), .val (.int (1 : Int32)), .val (.ref d), .val (.int (1 : Int32)), .unset] [])) t₀
              refine XS.iload X25.here hx rfl (hb hby at_86) rfl ?_
              show Steps p.tables e below (T25.setTop (mkF m 88 #[.val (.int p1), .val (.int p2), .val (.int p3), .val (.int p4), .val (.ref ta), .val (.ref tb), .val (.ref wC), .val (.int (1 : Int32)), .val (.ref d), .val (.int (1 : Int32)), .unset] [(.int (1 : Int32))])) t₀
              refine XS.ifNo X25.here hx rfl (hb hby at_88) rfl ((if0 _ _).trans (feq (by decide : ¬ ((1 : Int32) = (0 : Int32)))).1) ?_
              show Steps p.tables e below (T25.setTop (mkF m 91 #[.val (.int p1), .val (.int p2), .val (.int p3), .val (.int p4), .val (.ref ta), .val (.ref tb), .val (.ref wC), .val (.int (1 : Int32)), .val (.ref d), .val (.int (1 : Int32)), .unset] [])) t₀
              refine XS.aload X25.here hx rfl (hb hby at_91) rfl rfl ?_
              exact k₀
            obtain ⟨T26, X26, e26, st26⟩ := getS2 X25 hx hZ hown (host := "") (Or.inl (hw _ (List.mem_of_getElem? (i := 41) rfl))) Via.refl e25 S_STATUS (g := (mkF m 93 #[.val (.int p1), .val (.int p2), .val (.int p3), .val (.int p4), .val (.ref ta), .val (.ref tb), .val (.ref wC), .val (.int (1 : Int32)), .val (.ref d), .val (.int (1 : Int32)), .unset] [(.ref wC)])) rfl (hb hby at_93)
            refine hG _ _ (fun t₀ k₀ => st26 _ k₀) ?_
            show G (T26.setTop (mkF m 96 #[.val (.int p1), .val (.int p2), .val (.int p3), .val (.int p4), .val (.ref ta), .val (.ref tb), .val (.ref wC), .val (.int (1 : Int32)), .val (.ref d), .val (.int (1 : Int32)), .unset] [(.ref wS), (.ref wC)]))
            refine hG _ (T26.setTop (mkF m 113 #[.val (.int p1), .val (.int p2), .val (.int p3), .val (.int p4), .val (.ref ta), .val (.ref tb), .val (.ref wC), .val (.int (1 : Int32)), .val (.ref d), .val (.int (1 : Int32)), .val (.int (1 : Int32))] [(.ref d)])) (fun t₀ k₀ => ?_) ?_
            · show Steps p.tables e below (T26.setTop (mkF m 96 #[.val (.int p1), .val (.int p2), .val (.int p3), .val (.int p4), .val (.ref ta), .val (.ref tb), .val (.ref wC), .val (.int (1 : Int32)), .val (.ref d), .val (.int (1 : Int32)), .unset] [(.ref wS), (.ref wC)])) t₀
              refine Jvm.RoadKit.acmp (g := (mkF m 96 #[.val (.int p1), .val (.int p2), .val (.int p3), .val (.int p4), .val (.ref ta), .val (.ref tb), .val (.ref wC), .val (.int (1 : Int32)), .val (.ref d), .val (.int (1 : Int32)), .unset] [(.ref wS), (.ref wC)])) X26 hx rfl rfl rfl (pc0 := 96) (pc' := 99) (same := false) rfl (hb hby at_96) rfl (decide_eq_false fun q => neCS (Value.ref.inj q)) (by decide) (by decide) ?_
              show Steps p.tables e below (T26.setTop (mkF m 99 #[.val (.int p1), .val (.int p2), .val (.int p3), .val (.int p4), .val (.ref ta), .val (.ref tb), .val (.ref wC), .val (.int (1 : Int32)), .val (.ref d), .val (.int (1 : Int32)), .unset] [])) t₀
              refine XS.iload X26.here hx rfl (hb hby at_99) rfl ?_
              show Steps p.tables e below (T26.setTop (mkF m 101 #[.val (.int p1), .val (.int p2), .val (.int p3), .val (.int p4), .val (.ref ta), .val (.ref tb), .val (.ref wC), .val (.int (1 : Int32)), .val (.ref d), .val (.int (1 : Int32)), .unset] [(.int (1 : Int32))])) t₀
              refine XS.ifNo X26.here hx rfl (hb hby at_101) rfl ((if0 _ _).trans (feq (by decide : ¬ ((1 : Int32) = (0 : Int32)))).1) ?_
              show Steps p.tables e below (T26.setTop (mkF m 104 #[.val (.int p1), .val (.int p2), .val (.int p3), .val (.int p4), .val (.ref ta), .val (.ref tb), .val (.ref wC), .val (.int (1 : Int32)), .val (.ref d), .val (.int (1 : Int32)), .unset] [])) t₀
              refine XS.iconst X26.here hx rfl (hb hby at_104) ?_
              show Steps p.tables e below (T26.setTop (mkF m 105 #[.val (.int p1), .val (.int p2), .val (.int p3), .val (.int p4), .val (.ref ta), .val (.ref tb), .val (.ref wC), .val (.int (1 : Int32)), .val (.ref d), .val (.int (1 : Int32)), .unset] [(.int (1 : Int32))])) t₀
              refine XS.goto X26.here hx rfl (pc0 := 105) (pc' := 109) rfl (hb hby at_105) (by decide) (by decide) ?_
              show Steps p.tables e below (T26.setTop (mkF m 109 #[.val (.int p1), .val (.int p2), .val (.int p3), .val (.int p4), .val (.ref ta), .val (.ref tb), .val (.ref wC), .val (.int (1 : Int32)), .val (.ref d), .val (.int (1 : Int32)), .unset] [(.int (1 : Int32))])) t₀
              refine XS.istore X26.here hx rfl (hb hby at_109) rfl (l' := #[.val (.int p1), .val (.int p2), .val (.int p3), .val (.int p4), .val (.ref ta), .val (.ref tb), .val (.ref wC), .val (.int (1 : Int32)), .val (.ref d), .val (.int (1 : Int32)), .val (.int (1 : Int32))]) rfl ?_
              show Steps p.tables e below (T26.setTop (mkF m 111 #[.val (.int p1), .val (.int p2), .val (.int p3), .val (.int p4), .val (.ref ta), .val (.ref tb), .val (.ref wC), .val (.int (1 : Int32)), .val (.ref d), .val (.int (1 : Int32)), .val (.int (1 : Int32))] [])) t₀
              refine XS.aload X26.here hx rfl (hb hby at_111) rfl rfl ?_
              exact k₀
            have hr : (if d = r7 ∨ d = r8 then (1 : Int32) else 0) = (1 : Int32) := by
              rw [hd]
              rw [hc83, hc68, own_L3 ne_wKO_wOP ne_wKO_wAU ne_wPF_wOP ne_wPF_wAU ne_wPF_wKO]
              rw [if_neg neCS]
              rw [if_neg (show ¬ ((1 : Int32) = (0 : Int32)) by decide)]
              exact if_pos (Or.inl rfl)
            have hE : Exa Z h0 d "com/example/concordat/concordat/core/ConflictRule" := by
              rw [hd]; unfold own_dec; (repeat' split) <;> assumption
            obtain ⟨cq27, kq27, q27a, q27b, q27c⟩ := isOf hZ e26 hE
            obtain ⟨_, _, ⟨T27, L27, k27, n27⟩, -, X27, ⟨Lc27, hQ27, l27, y27, z27⟩, st27⟩ := X26.virtualBack hx (y := (⟨"com/example/concordat/concordat/core/ConflictRule", "holderReleases", "()Z"⟩ : MethodName)) (z := (⟨"com/example/concordat/concordat/core/ConflictRule", "holderReleases", "()Z"⟩ : MethodName)) hown (mvT hZ (hw _ (List.mem_of_getElem? (i := 26) rfl))) (mvT hZ (hw _ (List.mem_of_getElem? (i := 27) rfl))) (notFace_of_selects (args := #[]) (mvT hZ (hw _ (List.mem_of_getElem? (i := 29) rfl)))) (mvT hZ (hw _ (List.mem_of_getElem? (i := 29) rfl))) (mvT hZ (hw _ (List.mem_of_getElem? (i := 28) rfl))) (by decide) (backOf (W := 0) (rm3 l Z a0 hw [] d r7 r8 (1 : Int32) h0 n0 Z0 S_R7 S_R8 hr) hZ (hw _ (List.mem_of_getElem? (i := 30) rfl)) (hw _ (List.mem_of_getElem? (i := 15) rfl)) (by decide) (by decide)) q27a q27c (g := (mkF m 113 #[.val (.int p1), .val (.int p2), .val (.int p3), .val (.int p4), .val (.ref ta), .val (.ref tb), .val (.ref wC), .val (.int (1 : Int32)), .val (.ref d), .val (.int (1 : Int32)), .val (.int (1 : Int32))] [(.ref d)])) rfl (by rw [hml]; rfl) (Steps.refl _) (argsL := []) (rest := []) (lenOf pd_2 rfl) rfl (by show 2 * 0 + _ ≤ _; exact Nat.le_of_eq rfl) (hb hby at_113) (fun _ _ => ⟨rfl, e26, (by decide : 0 + 0 ≤ _), (by decide : 0 + 0 ≤ _)⟩)
            dsimp only [Pt.U, Pt.locs, Pt.cells, Pt.slots] at X27 l27 y27 z27 st27 hQ27
            subst l27 y27 z27
            obtain ⟨rfl, N27q, e27⟩ := hQ27
            have N27 := Fr.app N18 N27q
            refine hG _ _ (fun t₀ k₀ => st27.trans k₀) ?_
            show G (T27.setTop (mkF m 116 #[.val (.int p1), .val (.int p2), .val (.int p3), .val (.int p4), .val (.ref ta), .val (.ref tb), .val (.ref wC), .val (.int (1 : Int32)), .val (.ref d), .val (.int (1 : Int32)), .val (.int (1 : Int32))] [(.int (1 : Int32))]))
            refine hG _ (T27.setTop (mkF m 126 #[.val (.int p1), .val (.int p2), .val (.int p3), .val (.int p4), .val (.ref ta), .val (.ref tb), .val (.ref wC), .val (.int (1 : Int32)), .val (.ref d), .val (.int (1 : Int32)), .val (.int (1 : Int32))] [(.int (1 : Int32))])) (fun t₀ k₀ => ?_) ?_
            · show Steps p.tables e below (T27.setTop (mkF m 116 #[.val (.int p1), .val (.int p2), .val (.int p3), .val (.int p4), .val (.ref ta), .val (.ref tb), .val (.ref wC), .val (.int (1 : Int32)), .val (.ref d), .val (.int (1 : Int32)), .val (.int (1 : Int32))] [(.int (1 : Int32))])) t₀
              refine XS.iload X27.here hx rfl (hb hby at_116) rfl ?_
              show Steps p.tables e below (T27.setTop (mkF m 118 #[.val (.int p1), .val (.int p2), .val (.int p3), .val (.int p4), .val (.ref ta), .val (.ref tb), .val (.ref wC), .val (.int (1 : Int32)), .val (.ref d), .val (.int (1 : Int32)), .val (.int (1 : Int32))] [(.int (1 : Int32)), (.int (1 : Int32))])) t₀
              refine XS.icmpNo X27.here hx rfl (hb hby at_118) rfl (teq (by decide : ((1 : Int32) = (1 : Int32)))).2 ?_
              show Steps p.tables e below (T27.setTop (mkF m 121 #[.val (.int p1), .val (.int p2), .val (.int p3), .val (.int p4), .val (.ref ta), .val (.ref tb), .val (.ref wC), .val (.int (1 : Int32)), .val (.ref d), .val (.int (1 : Int32)), .val (.int (1 : Int32))] [])) t₀
              refine XS.iconst X27.here hx rfl (hb hby at_121) ?_
              show Steps p.tables e below (T27.setTop (mkF m 122 #[.val (.int p1), .val (.int p2), .val (.int p3), .val (.int p4), .val (.ref ta), .val (.ref tb), .val (.ref wC), .val (.int (1 : Int32)), .val (.ref d), .val (.int (1 : Int32)), .val (.int (1 : Int32))] [(.int (1 : Int32))])) t₀
              refine XS.goto X27.here hx rfl (pc0 := 122) (pc' := 126) rfl (hb hby at_122) (by decide) (by decide) ?_
              exact k₀
            refine hF _ T27 _ _ _ (some (.int (1 : Int32))) _ X27 e27 (fun h => by rw [hrt] at h; cases h) (by decide) (by decide) ?_ (fun fs hr => retN X27 hx (t := .boolean) hrt (by simp) (hb hby at_126) hr)
            exact ⟨rfl, N27⟩
          ·
            refine hG _ (T25.setTop (mkF m 113 #[.val (.int p1), .val (.int p2), .val (.int p3), .val (.int p4), .val (.ref ta), .val (.ref tb), .val (.ref wC), .val (.int (1 : Int32)), .val (.ref d), .val (.int (1 : Int32)), .val (.int (0 : Int32))] [(.ref d)])) (fun t₀ k₀ => ?_) ?_
            · show Steps p.tables e below (T25.setTop (mkF m 83 #[.val (.int p1), .val (.int p2), .val (.int p3), .val (.int p4), .val (.ref ta), .val (.ref tb), .val (.ref wC), .val (.int (1 : Int32)), .val (.ref d), .val (.int (1 : Int32)), .unset] [(.ref wKO), (.ref ta)])) t₀
              refine Jvm.RoadKit.acmp (g := (mkF m 83 #[.val (.int p1), .val (.int p2), .val (.int p3), .val (.int p4), .val (.ref ta), .val (.ref tb), .val (.ref wC), .val (.int (1 : Int32)), .val (.ref d), .val (.int (1 : Int32)), .unset] [(.ref wKO), (.ref ta)])) X25 hx rfl rfl rfl (pc0 := 83) (pc' := 108) (same := false) rfl (hb hby at_83) rfl (decide_eq_false fun q => hc83 (Value.ref.inj q)) (by decide) (by decide) ?_
              show Steps p.tables e below (T25.setTop (mkF m 108 #[.val (.int p1), .val (.int p2), .val (.int p3), .val (.int p4), .val (.ref ta), .val (.ref tb), .val (.ref wC), .val (.int (1 : Int32)), .val (.ref d), .val (.int (1 : Int32)), .unset] [])) t₀
              refine XS.iconst X25.here hx rfl (hb hby at_108) ?_
              show Steps p.tables e below (T25.setTop (mkF m 109 #[.val (.int p1), .val (.int p2), .val (.int p3), .val (.int p4), .val (.ref ta), .val (.ref tb), .val (.ref wC), .val (.int (1 : Int32)), .val (.ref d), .val (.int (1 : Int32)), .unset] [(.int (0 : Int32))])) t₀
              refine XS.istore X25.here hx rfl (hb hby at_109) rfl (l' := #[.val (.int p1), .val (.int p2), .val (.int p3), .val (.int p4), .val (.ref ta), .val (.ref tb), .val (.ref wC), .val (.int (1 : Int32)), .val (.ref d), .val (.int (1 : Int32)), .val (.int (0 : Int32))]) rfl ?_
              show Steps p.tables e below (T25.setTop (mkF m 111 #[.val (.int p1), .val (.int p2), .val (.int p3), .val (.int p4), .val (.ref ta), .val (.ref tb), .val (.ref wC), .val (.int (1 : Int32)), .val (.ref d), .val (.int (1 : Int32)), .val (.int (0 : Int32))] [])) t₀
              refine XS.aload X25.here hx rfl (hb hby at_111) rfl rfl ?_
              exact k₀
            have hr : (if d = r7 ∨ d = r8 then (1 : Int32) else 0) = (0 : Int32) := by
              rw [hd]
              exact if_neg (own_L1 hc83 ne_r3_r7 ne_r3_r8 ne_r4_r7 ne_r4_r8 ne_r9_r7 ne_r9_r8 ne_r10_r7 ne_r10_r8)
            have hE : Exa Z h0 d "com/example/concordat/concordat/core/ConflictRule" := by
              rw [hd]; unfold own_dec; (repeat' split) <;> assumption
            obtain ⟨cq28, kq28, q28a, q28b, q28c⟩ := isOf hZ e25 hE
            obtain ⟨_, _, ⟨T28, L28, k28, n28⟩, -, X28, ⟨Lc28, hQ28, l28, y28, z28⟩, st28⟩ := X25.virtualBack hx (y := (⟨"com/example/concordat/concordat/core/ConflictRule", "holderReleases", "()Z"⟩ : MethodName)) (z := (⟨"com/example/concordat/concordat/core/ConflictRule", "holderReleases", "()Z"⟩ : MethodName)) hown (mvT hZ (hw _ (List.mem_of_getElem? (i := 26) rfl))) (mvT hZ (hw _ (List.mem_of_getElem? (i := 27) rfl))) (notFace_of_selects (args := #[]) (mvT hZ (hw _ (List.mem_of_getElem? (i := 29) rfl)))) (mvT hZ (hw _ (List.mem_of_getElem? (i := 29) rfl))) (mvT hZ (hw _ (List.mem_of_getElem? (i := 28) rfl))) (by decide) (backOf (W := 0) (rm3 l Z a0 hw [] d r7 r8 (0 : Int32) h0 n0 Z0 S_R7 S_R8 hr) hZ (hw _ (List.mem_of_getElem? (i := 30) rfl)) (hw _ (List.mem_of_getElem? (i := 15) rfl)) (by decide) (by decide)) q28a q28c (g := (mkF m 113 #[.val (.int p1), .val (.int p2), .val (.int p3), .val (.int p4), .val (.ref ta), .val (.ref tb), .val (.ref wC), .val (.int (1 : Int32)), .val (.ref d), .val (.int (1 : Int32)), .val (.int (0 : Int32))] [(.ref d)])) rfl (by rw [hml]; rfl) (Steps.refl _) (argsL := []) (rest := []) (lenOf pd_2 rfl) rfl (by show 2 * 0 + _ ≤ _; exact Nat.le_of_eq rfl) (hb hby at_113) (fun _ _ => ⟨rfl, e25, (by decide : 0 + 0 ≤ _), (by decide : 0 + 0 ≤ _)⟩)
            dsimp only [Pt.U, Pt.locs, Pt.cells, Pt.slots] at X28 l28 y28 z28 st28 hQ28
            subst l28 y28 z28
            obtain ⟨rfl, N28q, e28⟩ := hQ28
            have N28 := Fr.app N18 N28q
            refine hG _ _ (fun t₀ k₀ => st28.trans k₀) ?_
            show G (T28.setTop (mkF m 116 #[.val (.int p1), .val (.int p2), .val (.int p3), .val (.int p4), .val (.ref ta), .val (.ref tb), .val (.ref wC), .val (.int (1 : Int32)), .val (.ref d), .val (.int (1 : Int32)), .val (.int (0 : Int32))] [(.int (0 : Int32))]))
            refine hG _ (T28.setTop (mkF m 126 #[.val (.int p1), .val (.int p2), .val (.int p3), .val (.int p4), .val (.ref ta), .val (.ref tb), .val (.ref wC), .val (.int (1 : Int32)), .val (.ref d), .val (.int (1 : Int32)), .val (.int (0 : Int32))] [(.int (1 : Int32))])) (fun t₀ k₀ => ?_) ?_
            · show Steps p.tables e below (T28.setTop (mkF m 116 #[.val (.int p1), .val (.int p2), .val (.int p3), .val (.int p4), .val (.ref ta), .val (.ref tb), .val (.ref wC), .val (.int (1 : Int32)), .val (.ref d), .val (.int (1 : Int32)), .val (.int (0 : Int32))] [(.int (0 : Int32))])) t₀
              refine XS.iload X28.here hx rfl (hb hby at_116) rfl ?_
              show Steps p.tables e below (T28.setTop (mkF m 118 #[.val (.int p1), .val (.int p2), .val (.int p3), .val (.int p4), .val (.ref ta), .val (.ref tb), .val (.ref wC), .val (.int (1 : Int32)), .val (.ref d), .val (.int (1 : Int32)), .val (.int (0 : Int32))] [(.int (0 : Int32)), (.int (0 : Int32))])) t₀
              refine XS.icmpNo X28.here hx rfl (hb hby at_118) rfl (teq (by decide : ((0 : Int32) = (0 : Int32)))).2 ?_
              show Steps p.tables e below (T28.setTop (mkF m 121 #[.val (.int p1), .val (.int p2), .val (.int p3), .val (.int p4), .val (.ref ta), .val (.ref tb), .val (.ref wC), .val (.int (1 : Int32)), .val (.ref d), .val (.int (1 : Int32)), .val (.int (0 : Int32))] [])) t₀
              refine XS.iconst X28.here hx rfl (hb hby at_121) ?_
              show Steps p.tables e below (T28.setTop (mkF m 122 #[.val (.int p1), .val (.int p2), .val (.int p3), .val (.int p4), .val (.ref ta), .val (.ref tb), .val (.ref wC), .val (.int (1 : Int32)), .val (.ref d), .val (.int (1 : Int32)), .val (.int (0 : Int32))] [(.int (1 : Int32))])) t₀
              refine XS.goto X28.here hx rfl (pc0 := 122) (pc' := 126) rfl (hb hby at_122) (by decide) (by decide) ?_
              exact k₀
            refine hF _ T28 _ _ _ (some (.int (1 : Int32))) _ X28 e28 (fun h => by rw [hrt] at h; cases h) (by decide) (by decide) ?_ (fun fs hr => retN X28 hx (t := .boolean) hrt (by simp) (hb hby at_126) hr)
            exact ⟨rfl, N28⟩
        ·
          refine hG _ (T24.setTop (mkF m 80 #[.val (.int p1), .val (.int p2), .val (.int p3), .val (.int p4), .val (.ref ta), .val (.ref tb), .val (.ref wC), .val (.int (1 : Int32)), .val (.ref d), .val (.int (0 : Int32)), .unset] [(.ref ta)])) (fun t₀ k₀ => ?_) ?_
          · show Steps p.tables e below (T24.setTop (mkF m 68 #[.val (.int p1), .val (.int p2), .val (.int p3), .val (.int p4), .val (.ref ta), .val (.ref tb), .val (.ref wC), .val (.int (1 : Int32)), .val (.ref d), .unset, .unset] [(.ref wPF), (.ref tb)])) t₀
            refine Jvm.RoadKit.acmp (g := (mkF m 68 #[.val (.int p1), .val (.int p2), .val (.int p3), .val (.int p4), .val (.ref ta), .val (.ref tb), .val (.ref wC), .val (.int (1 : Int32)), .val (.ref d), .unset, .unset] [(.ref wPF), (.ref tb)])) X24 hx rfl rfl rfl (pc0 := 68) (pc' := 75) (same := false) rfl (hb hby at_68) rfl (decide_eq_false fun q => hc68 (Value.ref.inj q)) (by decide) (by decide) ?_
            show Steps p.tables e below (T24.setTop (mkF m 75 #[.val (.int p1), .val (.int p2), .val (.int p3), .val (.int p4), .val (.ref ta), .val (.ref tb), .val (.ref wC), .val (.int (1 : Int32)), .val (.ref d), .unset, .unset] [])) t₀
            refine XS.iconst X24.here hx rfl (hb hby at_75) ?_
            show Steps p.tables e below (T24.setTop (mkF m 76 #[.val (.int p1), .val (.int p2), .val (.int p3), .val (.int p4), .val (.ref ta), .val (.ref tb), .val (.ref wC), .val (.int (1 : Int32)), .val (.ref d), .unset, .unset] [(.int (0 : Int32))])) t₀
            refine XS.istore X24.here hx rfl (hb hby at_76) rfl (l' := #[.val (.int p1), .val (.int p2), .val (.int p3), .val (.int p4), .val (.ref ta), .val (.ref tb), .val (.ref wC), .val (.int (1 : Int32)), .val (.ref d), .val (.int (0 : Int32)), .unset]) rfl ?_
            show Steps p.tables e below (T24.setTop (mkF m 78 #[.val (.int p1), .val (.int p2), .val (.int p3), .val (.int p4), .val (.ref ta), .val (.ref tb), .val (.ref wC), .val (.int (1 : Int32)), .val (.ref d), .val (.int (0 : Int32)), .unset] [])) t₀
            refine XS.aload X24.here hx rfl (hb hby at_78) rfl rfl ?_
            exact k₀
          obtain ⟨T29, X29, e29, st29⟩ := getS2 X24 hx hZ hown (host := "") (Or.inl (hw _ (List.mem_of_getElem? (i := 8) rfl))) Via.refl e24 S_KONS (g := (mkF m 80 #[.val (.int p1), .val (.int p2), .val (.int p3), .val (.int p4), .val (.ref ta), .val (.ref tb), .val (.ref wC), .val (.int (1 : Int32)), .val (.ref d), .val (.int (0 : Int32)), .unset] [(.ref ta)])) rfl (hb hby at_80)
          refine hG _ _ (fun t₀ k₀ => st29 _ k₀) ?_
          show G (T29.setTop (mkF m 83 #[.val (.int p1), .val (.int p2), .val (.int p3), .val (.int p4), .val (.ref ta), .val (.ref tb), .val (.ref wC), .val (.int (1 : Int32)), .val (.ref d), .val (.int (0 : Int32)), .unset] [(.ref wKO), (.ref ta)]))
          by_cases hc83 : ta = wKO
          ·
            refine hG _ (T29.setTop (mkF m 113 #[.val (.int p1), .val (.int p2), .val (.int p3), .val (.int p4), .val (.ref ta), .val (.ref tb), .val (.ref wC), .val (.int (1 : Int32)), .val (.ref d), .val (.int (0 : Int32)), .val (.int (0 : Int32))] [(.ref d)])) (fun t₀ k₀ => ?_) ?_
            · show Steps p.tables e below (T29.setTop (mkF m 83 #[.val (.int p1), .val (.int p2), .val (.int p3), .val (.int p4), .val (.ref ta), .val (.ref tb), .val (.ref wC), .val (.int (1 : Int32)), .val (.ref d), .val (.int (0 : Int32)), .unset] [(.ref wKO), (.ref ta)])) t₀
              refine Jvm.RoadKit.acmp (g := (mkF m 83 #[.val (.int p1), .val (.int p2), .val (.int p3), .val (.int p4), .val (.ref ta), .val (.ref tb), .val (.ref wC), .val (.int (1 : Int32)), .val (.ref d), .val (.int (0 : Int32)), .unset] [(.ref wKO), (.ref ta)])) X29 hx rfl rfl rfl (pc0 := 83) (pc' := 86) (same := true) rfl (hb hby at_83) rfl (decide_eq_true (congrArg Value.ref hc83)) (by decide) (by decide) ?_
              show Steps p.tables e below (T29.setTop (mkF m 86 #[.val (.int p1), .val (.int p2), .val (.int p3), .val (.int p4), .val (.ref ta), .val (.ref tb), .val (.ref wC), .val (.int (1 : Int32)), .val (.ref d), .val (.int (0 : Int32)), .unset] [])) t₀
              refine XS.iload X29.here hx rfl (hb hby at_86) rfl ?_
              show Steps p.tables e below (T29.setTop (mkF m 88 #[.val (.int p1), .val (.int p2), .val (.int p3), .val (.int p4), .val (.ref ta), .val (.ref tb), .val (.ref wC), .val (.int (1 : Int32)), .val (.ref d), .val (.int (0 : Int32)), .unset] [(.int (0 : Int32))])) t₀
              refine XS.ifYes X29.here hx rfl (pc0 := 88) (pc' := 108) rfl (hb hby at_88) rfl ((if0 _ _).trans (teq (by decide : ((0 : Int32) = (0 : Int32)))).1) (by decide) (by decide) ?_
              show Steps p.tables e below (T29.setTop (mkF m 108 #[.val (.int p1), .val (.int p2), .val (.int p3), .val (.int p4), .val (.ref ta), .val (.ref tb), .val (.ref wC), .val (.int (1 : Int32)), .val (.ref d), .val (.int (0 : Int32)), .unset] [])) t₀
              refine XS.iconst X29.here hx rfl (hb hby at_108) ?_
              show Steps p.tables e below (T29.setTop (mkF m 109 #[.val (.int p1), .val (.int p2), .val (.int p3), .val (.int p4), .val (.ref ta), .val (.ref tb), .val (.ref wC), .val (.int (1 : Int32)), .val (.ref d), .val (.int (0 : Int32)), .unset] [(.int (0 : Int32))])) t₀
              refine XS.istore X29.here hx rfl (hb hby at_109) rfl (l' := #[.val (.int p1), .val (.int p2), .val (.int p3), .val (.int p4), .val (.ref ta), .val (.ref tb), .val (.ref wC), .val (.int (1 : Int32)), .val (.ref d), .val (.int (0 : Int32)), .val (.int (0 : Int32))]) rfl ?_
              show Steps p.tables e below (T29.setTop (mkF m 111 #[.val (.int p1), .val (.int p2), .val (.int p3), .val (.int p4), .val (.ref ta), .val (.ref tb), .val (.ref wC), .val (.int (1 : Int32)), .val (.ref d), .val (.int (0 : Int32)), .val (.int (0 : Int32))] [])) t₀
              refine XS.aload X29.here hx rfl (hb hby at_111) rfl rfl ?_
              exact k₀
            have hr : (if d = r7 ∨ d = r8 then (1 : Int32) else 0) = (0 : Int32) := by
              rw [hd]
              rw [hc83]
              exact if_neg (own_L2 ne_wKO_wOP ne_wKO_wAU (htb5.elim (fun z => absurd z hc60) fun z => z.elim (fun z => absurd z hc68) id) ne_r5_r7 ne_r5_r8 ne_r9_r7 ne_r9_r8 ne_r10_r7 ne_r10_r8)
            have hE : Exa Z h0 d "com/example/concordat/concordat/core/ConflictRule" := by
              rw [hd]; unfold own_dec; (repeat' split) <;> assumption
            obtain ⟨cq30, kq30, q30a, q30b, q30c⟩ := isOf hZ e29 hE
            obtain ⟨_, _, ⟨T30, L30, k30, n30⟩, -, X30, ⟨Lc30, hQ30, l30, y30, z30⟩, st30⟩ := X29.virtualBack hx (y := (⟨"com/example/concordat/concordat/core/ConflictRule", "holderReleases", "()Z"⟩ : MethodName)) (z := (⟨"com/example/concordat/concordat/core/ConflictRule", "holderReleases", "()Z"⟩ : MethodName)) hown (mvT hZ (hw _ (List.mem_of_getElem? (i := 26) rfl))) (mvT hZ (hw _ (List.mem_of_getElem? (i := 27) rfl))) (notFace_of_selects (args := #[]) (mvT hZ (hw _ (List.mem_of_getElem? (i := 29) rfl)))) (mvT hZ (hw _ (List.mem_of_getElem? (i := 29) rfl))) (mvT hZ (hw _ (List.mem_of_getElem? (i := 28) rfl))) (by decide) (backOf (W := 0) (rm3 l Z a0 hw [] d r7 r8 (0 : Int32) h0 n0 Z0 S_R7 S_R8 hr) hZ (hw _ (List.mem_of_getElem? (i := 30) rfl)) (hw _ (List.mem_of_getElem? (i := 15) rfl)) (by decide) (by decide)) q30a q30c (g := (mkF m 113 #[.val (.int p1), .val (.int p2), .val (.int p3), .val (.int p4), .val (.ref ta), .val (.ref tb), .val (.ref wC), .val (.int (1 : Int32)), .val (.ref d), .val (.int (0 : Int32)), .val (.int (0 : Int32))] [(.ref d)])) rfl (by rw [hml]; rfl) (Steps.refl _) (argsL := []) (rest := []) (lenOf pd_2 rfl) rfl (by show 2 * 0 + _ ≤ _; exact Nat.le_of_eq rfl) (hb hby at_113) (fun _ _ => ⟨rfl, e29, (by decide : 0 + 0 ≤ _), (by decide : 0 + 0 ≤ _)⟩)
            dsimp only [Pt.U, Pt.locs, Pt.cells, Pt.slots] at X30 l30 y30 z30 st30 hQ30
            subst l30 y30 z30
            obtain ⟨rfl, N30q, e30⟩ := hQ30
            have N30 := Fr.app N18 N30q
            refine hG _ _ (fun t₀ k₀ => st30.trans k₀) ?_
            show G (T30.setTop (mkF m 116 #[.val (.int p1), .val (.int p2), .val (.int p3), .val (.int p4), .val (.ref ta), .val (.ref tb), .val (.ref wC), .val (.int (1 : Int32)), .val (.ref d), .val (.int (0 : Int32)), .val (.int (0 : Int32))] [(.int (0 : Int32))]))
            refine hG _ (T30.setTop (mkF m 126 #[.val (.int p1), .val (.int p2), .val (.int p3), .val (.int p4), .val (.ref ta), .val (.ref tb), .val (.ref wC), .val (.int (1 : Int32)), .val (.ref d), .val (.int (0 : Int32)), .val (.int (0 : Int32))] [(.int (1 : Int32))])) (fun t₀ k₀ => ?_) ?_
            · show Steps p.tables e below (T30.setTop (mkF m 116 #[.val (.int p1), .val (.int p2), .val (.int p3), .val (.int p4), .val (.ref ta), .val (.ref tb), .val (.ref wC), .val (.int (1 : Int32)), .val (.ref d), .val (.int (0 : Int32)), .val (.int (0 : Int32))] [(.int (0 : Int32))])) t₀
              refine XS.iload X30.here hx rfl (hb hby at_116) rfl ?_
              show Steps p.tables e below (T30.setTop (mkF m 118 #[.val (.int p1), .val (.int p2), .val (.int p3), .val (.int p4), .val (.ref ta), .val (.ref tb), .val (.ref wC), .val (.int (1 : Int32)), .val (.ref d), .val (.int (0 : Int32)), .val (.int (0 : Int32))] [(.int (0 : Int32)), (.int (0 : Int32))])) t₀
              refine XS.icmpNo X30.here hx rfl (hb hby at_118) rfl (teq (by decide : ((0 : Int32) = (0 : Int32)))).2 ?_
              show Steps p.tables e below (T30.setTop (mkF m 121 #[.val (.int p1), .val (.int p2), .val (.int p3), .val (.int p4), .val (.ref ta), .val (.ref tb), .val (.ref wC), .val (.int (1 : Int32)), .val (.ref d), .val (.int (0 : Int32)), .val (.int (0 : Int32))] [])) t₀
              refine XS.iconst X30.here hx rfl (hb hby at_121) ?_
              show Steps p.tables e below (T30.setTop (mkF m 122 #[.val (.int p1), .val (.int p2), .val (.int p3), .val (.int p4), .val (.ref ta), .val (.ref tb), .val (.ref wC), .val (.int (1 : Int32)), .val (.ref d), .val (.int (0 : Int32)), .val (.int (0 : Int32))] [(.int (1 : Int32))])) t₀
              refine XS.goto X30.here hx rfl (pc0 := 122) (pc' := 126) rfl (hb hby at_122) (by decide) (by decide) ?_
              exact k₀
            refine hF _ T30 _ _ _ (some (.int (1 : Int32))) _ X30 e30 (fun h => by rw [hrt] at h; cases h) (by decide) (by decide) ?_ (fun fs hr => retN X30 hx (t := .boolean) hrt (by simp) (hb hby at_126) hr)
            exact ⟨rfl, N30⟩
          ·
            refine hG _ (T29.setTop (mkF m 113 #[.val (.int p1), .val (.int p2), .val (.int p3), .val (.int p4), .val (.ref ta), .val (.ref tb), .val (.ref wC), .val (.int (1 : Int32)), .val (.ref d), .val (.int (0 : Int32)), .val (.int (0 : Int32))] [(.ref d)])) (fun t₀ k₀ => ?_) ?_
            · show Steps p.tables e below (T29.setTop (mkF m 83 #[.val (.int p1), .val (.int p2), .val (.int p3), .val (.int p4), .val (.ref ta), .val (.ref tb), .val (.ref wC), .val (.int (1 : Int32)), .val (.ref d), .val (.int (0 : Int32)), .unset] [(.ref wKO), (.ref ta)])) t₀
              refine Jvm.RoadKit.acmp (g := (mkF m 83 #[.val (.int p1), .val (.int p2), .val (.int p3), .val (.int p4), .val (.ref ta), .val (.ref tb), .val (.ref wC), .val (.int (1 : Int32)), .val (.ref d), .val (.int (0 : Int32)), .unset] [(.ref wKO), (.ref ta)])) X29 hx rfl rfl rfl (pc0 := 83) (pc' := 108) (same := false) rfl (hb hby at_83) rfl (decide_eq_false fun q => hc83 (Value.ref.inj q)) (by decide) (by decide) ?_
              show Steps p.tables e below (T29.setTop (mkF m 108 #[.val (.int p1), .val (.int p2), .val (.int p3), .val (.int p4), .val (.ref ta), .val (.ref tb), .val (.ref wC), .val (.int (1 : Int32)), .val (.ref d), .val (.int (0 : Int32)), .unset] [])) t₀
              refine XS.iconst X29.here hx rfl (hb hby at_108) ?_
              show Steps p.tables e below (T29.setTop (mkF m 109 #[.val (.int p1), .val (.int p2), .val (.int p3), .val (.int p4), .val (.ref ta), .val (.ref tb), .val (.ref wC), .val (.int (1 : Int32)), .val (.ref d), .val (.int (0 : Int32)), .unset] [(.int (0 : Int32))])) t₀
              refine XS.istore X29.here hx rfl (hb hby at_109) rfl (l' := #[.val (.int p1), .val (.int p2), .val (.int p3), .val (.int p4), .val (.ref ta), .val (.ref tb), .val (.ref wC), .val (.int (1 : Int32)), .val (.ref d), .val (.int (0 : Int32)), .val (.int (0 : Int32))]) rfl ?_
              show Steps p.tables e below (T29.setTop (mkF m 111 #[.val (.int p1), .val (.int p2), .val (.int p3), .val (.int p4), .val (.ref ta), .val (.ref tb), .val (.ref wC), .val (.int (1 : Int32)), .val (.ref d), .val (.int (0 : Int32)), .val (.int (0 : Int32))] [])) t₀
              refine XS.aload X29.here hx rfl (hb hby at_111) rfl rfl ?_
              exact k₀
            have hr : (if d = r7 ∨ d = r8 then (1 : Int32) else 0) = (0 : Int32) := by
              rw [hd]
              exact if_neg (own_L1 hc83 ne_r3_r7 ne_r3_r8 ne_r4_r7 ne_r4_r8 ne_r9_r7 ne_r9_r8 ne_r10_r7 ne_r10_r8)
            have hE : Exa Z h0 d "com/example/concordat/concordat/core/ConflictRule" := by
              rw [hd]; unfold own_dec; (repeat' split) <;> assumption
            obtain ⟨cq31, kq31, q31a, q31b, q31c⟩ := isOf hZ e29 hE
            obtain ⟨_, _, ⟨T31, L31, k31, n31⟩, -, X31, ⟨Lc31, hQ31, l31, y31, z31⟩, st31⟩ := X29.virtualBack hx (y := (⟨"com/example/concordat/concordat/core/ConflictRule", "holderReleases", "()Z"⟩ : MethodName)) (z := (⟨"com/example/concordat/concordat/core/ConflictRule", "holderReleases", "()Z"⟩ : MethodName)) hown (mvT hZ (hw _ (List.mem_of_getElem? (i := 26) rfl))) (mvT hZ (hw _ (List.mem_of_getElem? (i := 27) rfl))) (notFace_of_selects (args := #[]) (mvT hZ (hw _ (List.mem_of_getElem? (i := 29) rfl)))) (mvT hZ (hw _ (List.mem_of_getElem? (i := 29) rfl))) (mvT hZ (hw _ (List.mem_of_getElem? (i := 28) rfl))) (by decide) (backOf (W := 0) (rm3 l Z a0 hw [] d r7 r8 (0 : Int32) h0 n0 Z0 S_R7 S_R8 hr) hZ (hw _ (List.mem_of_getElem? (i := 30) rfl)) (hw _ (List.mem_of_getElem? (i := 15) rfl)) (by decide) (by decide)) q31a q31c (g := (mkF m 113 #[.val (.int p1), .val (.int p2), .val (.int p3), .val (.int p4), .val (.ref ta), .val (.ref tb), .val (.ref wC), .val (.int (1 : Int32)), .val (.ref d), .val (.int (0 : Int32)), .val (.int (0 : Int32))] [(.ref d)])) rfl (by rw [hml]; rfl) (Steps.refl _) (argsL := []) (rest := []) (lenOf pd_2 rfl) rfl (by show 2 * 0 + _ ≤ _; exact Nat.le_of_eq rfl) (hb hby at_113) (fun _ _ => ⟨rfl, e29, (by decide : 0 + 0 ≤ _), (by decide : 0 + 0 ≤ _)⟩)
            dsimp only [Pt.U, Pt.locs, Pt.cells, Pt.slots] at X31 l31 y31 z31 st31 hQ31
            subst l31 y31 z31
            obtain ⟨rfl, N31q, e31⟩ := hQ31
            have N31 := Fr.app N18 N31q
            refine hG _ _ (fun t₀ k₀ => st31.trans k₀) ?_
            show G (T31.setTop (mkF m 116 #[.val (.int p1), .val (.int p2), .val (.int p3), .val (.int p4), .val (.ref ta), .val (.ref tb), .val (.ref wC), .val (.int (1 : Int32)), .val (.ref d), .val (.int (0 : Int32)), .val (.int (0 : Int32))] [(.int (0 : Int32))]))
            refine hG _ (T31.setTop (mkF m 126 #[.val (.int p1), .val (.int p2), .val (.int p3), .val (.int p4), .val (.ref ta), .val (.ref tb), .val (.ref wC), .val (.int (1 : Int32)), .val (.ref d), .val (.int (0 : Int32)), .val (.int (0 : Int32))] [(.int (1 : Int32))])) (fun t₀ k₀ => ?_) ?_
            · show Steps p.tables e below (T31.setTop (mkF m 116 #[.val (.int p1), .val (.int p2), .val (.int p3), .val (.int p4), .val (.ref ta), .val (.ref tb), .val (.ref wC), .val (.int (1 : Int32)), .val (.ref d), .val (.int (0 : Int32)), .val (.int (0 : Int32))] [(.int (0 : Int32))])) t₀
              refine XS.iload X31.here hx rfl (hb hby at_116) rfl ?_
              show Steps p.tables e below (T31.setTop (mkF m 118 #[.val (.int p1), .val (.int p2), .val (.int p3), .val (.int p4), .val (.ref ta), .val (.ref tb), .val (.ref wC), .val (.int (1 : Int32)), .val (.ref d), .val (.int (0 : Int32)), .val (.int (0 : Int32))] [(.int (0 : Int32)), (.int (0 : Int32))])) t₀
              refine XS.icmpNo X31.here hx rfl (hb hby at_118) rfl (teq (by decide : ((0 : Int32) = (0 : Int32)))).2 ?_
              show Steps p.tables e below (T31.setTop (mkF m 121 #[.val (.int p1), .val (.int p2), .val (.int p3), .val (.int p4), .val (.ref ta), .val (.ref tb), .val (.ref wC), .val (.int (1 : Int32)), .val (.ref d), .val (.int (0 : Int32)), .val (.int (0 : Int32))] [])) t₀
              refine XS.iconst X31.here hx rfl (hb hby at_121) ?_
              show Steps p.tables e below (T31.setTop (mkF m 122 #[.val (.int p1), .val (.int p2), .val (.int p3), .val (.int p4), .val (.ref ta), .val (.ref tb), .val (.ref wC), .val (.int (1 : Int32)), .val (.ref d), .val (.int (0 : Int32)), .val (.int (0 : Int32))] [(.int (1 : Int32))])) t₀
              refine XS.goto X31.here hx rfl (pc0 := 122) (pc' := 126) rfl (hb hby at_122) (by decide) (by decide) ?_
              exact k₀
            refine hF _ T31 _ _ _ (some (.int (1 : Int32))) _ X31 e31 (fun h => by rw [hrt] at h; cases h) (by decide) (by decide) ?_ (fun fs hr => retN X31 hx (t := .boolean) hrt (by simp) (hb hby at_126) hr)
            exact ⟨rfl, N31⟩
  ·
    refine hG _ (T2.setTop (mkF m 24 #[.val (.int p1), .val (.int p2), .val (.int p3), .val (.int p4), .val (.ref ta), .val (.ref tb), .unset, .unset, .unset, .unset, .unset] [])) (fun t₀ k₀ => ?_) ?_
    · show Steps p.tables e below (T2.setTop (mkF m 15 #[.val (.int p1), .val (.int p2), .val (.int p3), .val (.int p4), .val (.ref ta), .val (.ref tb), .unset, .unset, .unset, .unset, .unset] [(.int (p3 &&& (1 : Int32)))])) t₀
      refine XS.ifYes X2.here hx rfl (pc0 := 15) (pc' := 24) rfl (hb hby at_15) rfl ((if0 _ _).trans (feq hc15).2) (by decide) (by decide) ?_
      exact k₀
    obtain ⟨T32, X32, e32, st32⟩ := getS2 X2 hx hZ hown (host := "") (Or.inl (hw _ (List.mem_of_getElem? (i := 41) rfl))) Via.refl e2 S_STATUS (g := (mkF m 24 #[.val (.int p1), .val (.int p2), .val (.int p3), .val (.int p4), .val (.ref ta), .val (.ref tb), .unset, .unset, .unset, .unset, .unset] [])) rfl (hb hby at_24)
    refine hG _ _ (fun t₀ k₀ => st32 _ k₀) ?_
    show G (T32.setTop (mkF m 27 #[.val (.int p1), .val (.int p2), .val (.int p3), .val (.int p4), .val (.ref ta), .val (.ref tb), .unset, .unset, .unset, .unset, .unset] [(.ref wS)]))
    refine hG _ (T32.setTop (mkF m 32 #[.val (.int p1), .val (.int p2), .val (.int p3), .val (.int p4), .val (.ref ta), .val (.ref tb), .val (.ref wS), .unset, .unset, .unset, .unset] [(.int (p4 &&& (1 : Int32)))])) (fun t₀ k₀ => ?_) ?_
    · show Steps p.tables e below (T32.setTop (mkF m 27 #[.val (.int p1), .val (.int p2), .val (.int p3), .val (.int p4), .val (.ref ta), .val (.ref tb), .unset, .unset, .unset, .unset, .unset] [(.ref wS)])) t₀
      refine XS.astore X32.here hx rfl (hb hby at_27) rfl rfl (l' := #[.val (.int p1), .val (.int p2), .val (.int p3), .val (.int p4), .val (.ref ta), .val (.ref tb), .val (.ref wS), .unset, .unset, .unset, .unset]) rfl ?_
      show Steps p.tables e below (T32.setTop (mkF m 29 #[.val (.int p1), .val (.int p2), .val (.int p3), .val (.int p4), .val (.ref ta), .val (.ref tb), .val (.ref wS), .unset, .unset, .unset, .unset] [])) t₀
      refine XS.iloadN X32.here hx rfl (hb hby at_29) rfl ?_
      show Steps p.tables e below (T32.setTop (mkF m 30 #[.val (.int p1), .val (.int p2), .val (.int p3), .val (.int p4), .val (.ref ta), .val (.ref tb), .val (.ref wS), .unset, .unset, .unset, .unset] [(.int p4)])) t₀
      refine XS.iconst X32.here hx rfl (hb hby at_30) ?_
      show Steps p.tables e below (T32.setTop (mkF m 31 #[.val (.int p1), .val (.int p2), .val (.int p3), .val (.int p4), .val (.ref ta), .val (.ref tb), .val (.ref wS), .unset, .unset, .unset, .unset] [(.int (1 : Int32)), (.int p4)])) t₀
      refine XS.iand X32.here hx rfl (hb hby at_31) rfl ?_
      exact k₀
    by_cases hc32 : (p4 &&& (1 : Int32)) = (0 : Int32)
    ·
      refine hG _ (T32.setTop (mkF m 50 #[.val (.int p1), .val (.int p2), .val (.int p3), .val (.int p4), .val (.ref ta), .val (.ref tb), .val (.ref wS), .val (.int (0 : Int32)), .unset, .unset, .unset] [(.int (0 : Int32)), (.ref wS), (.ref tb), (.ref ta)])) (fun t₀ k₀ => ?_) ?_
      · show Steps p.tables e below (T32.setTop (mkF m 32 #[.val (.int p1), .val (.int p2), .val (.int p3), .val (.int p4), .val (.ref ta), .val (.ref tb), .val (.ref wS), .unset, .unset, .unset, .unset] [(.int (p4 &&& (1 : Int32)))])) t₀
        refine XS.ifYes X32.here hx rfl (pc0 := 32) (pc' := 39) rfl (hb hby at_32) rfl ((if0 _ _).trans (teq hc32).1) (by decide) (by decide) ?_
        show Steps p.tables e below (T32.setTop (mkF m 39 #[.val (.int p1), .val (.int p2), .val (.int p3), .val (.int p4), .val (.ref ta), .val (.ref tb), .val (.ref wS), .unset, .unset, .unset, .unset] [])) t₀
        refine XS.iconst X32.here hx rfl (hb hby at_39) ?_
        show Steps p.tables e below (T32.setTop (mkF m 40 #[.val (.int p1), .val (.int p2), .val (.int p3), .val (.int p4), .val (.ref ta), .val (.ref tb), .val (.ref wS), .unset, .unset, .unset, .unset] [(.int (0 : Int32))])) t₀
        refine XS.istore X32.here hx rfl (hb hby at_40) rfl (l' := #[.val (.int p1), .val (.int p2), .val (.int p3), .val (.int p4), .val (.ref ta), .val (.ref tb), .val (.ref wS), .val (.int (0 : Int32)), .unset, .unset, .unset]) rfl ?_
        show Steps p.tables e below (T32.setTop (mkF m 42 #[.val (.int p1), .val (.int p2), .val (.int p3), .val (.int p4), .val (.ref ta), .val (.ref tb), .val (.ref wS), .val (.int (0 : Int32)), .unset, .unset, .unset] [])) t₀
        refine XS.aload X32.here hx rfl (hb hby at_42) rfl rfl ?_
        show Steps p.tables e below (T32.setTop (mkF m 44 #[.val (.int p1), .val (.int p2), .val (.int p3), .val (.int p4), .val (.ref ta), .val (.ref tb), .val (.ref wS), .val (.int (0 : Int32)), .unset, .unset, .unset] [(.ref ta)])) t₀
        refine XS.aload X32.here hx rfl (hb hby at_44) rfl rfl ?_
        show Steps p.tables e below (T32.setTop (mkF m 46 #[.val (.int p1), .val (.int p2), .val (.int p3), .val (.int p4), .val (.ref ta), .val (.ref tb), .val (.ref wS), .val (.int (0 : Int32)), .unset, .unset, .unset] [(.ref tb), (.ref ta)])) t₀
        refine XS.aload X32.here hx rfl (hb hby at_46) rfl rfl ?_
        show Steps p.tables e below (T32.setTop (mkF m 48 #[.val (.int p1), .val (.int p2), .val (.int p3), .val (.int p4), .val (.ref ta), .val (.ref tb), .val (.ref wS), .val (.int (0 : Int32)), .unset, .unset, .unset] [(.ref wS), (.ref tb), (.ref ta)])) t₀
        refine XS.iload X32.here hx rfl (hb hby at_48) rfl ?_
        exact k₀
      obtain ⟨_, _, ⟨T33, L33, k33, n33⟩, -, X33, ⟨Lc33, hQ33, l33, y33, z33⟩, st33⟩ := Jvm.LawKit.callS X32 hx (y := (⟨"com/example/concordat/concordat/core/ConflictRule", "deciding", "(Lcom/example/concordat/concordat/core/TransactionType;Lcom/example/concordat/concordat/core/TransactionType;Lcom/example/concordat/concordat/core/DocumentObject;Z)Lcom/example/concordat/concordat/core/ConflictRule;"⟩ : MethodName)) hown (mvT hZ (hw _ (List.mem_of_getElem? (i := 13) rfl))) (mvT hZ (hw _ (List.mem_of_getElem? (i := 14) rfl))) (mvT hZ (hw _ (List.mem_of_getElem? (i := 15) rfl))) (mvT hZ (hw _ (List.mem_of_getElem? (i := 16) rfl))) (by decide) (backOf (W := 0) (rm2 l Z a0 hw [] ta tb wS (0 : Int32) wOP wKO wAU wS r3 r4 r5 r6 r7 r8 r9 r10 h0 n0 Z0 S_OPT_AKT S_KONS S_AUTO S_STATUS S_R3 S_R4 S_R5 S_R6 S_R7 S_R8 S_R9 S_R10) hZ (hw _ (List.mem_of_getElem? (i := 16) rfl)) (hw _ (List.mem_of_getElem? (i := 15) rfl)) (by decide) (by decide)) (g := (mkF m 50 #[.val (.int p1), .val (.int p2), .val (.int p3), .val (.int p4), .val (.ref ta), .val (.ref tb), .val (.ref wS), .val (.int (0 : Int32)), .unset, .unset, .unset] [(.int (0 : Int32)), (.ref wS), (.ref tb), (.ref ta)])) rfl (by rw [hml]; rfl) (argsL := [(.ref ta), (.ref tb), (.ref wS), (.int (0 : Int32))]) (rest := []) (lenOf pd_1 rfl) rfl (by show 2 * 0 + _ ≤ _; exact Nat.le_of_eq rfl) (hb hby at_50) (fun _ _ => ⟨rfl, e32, (by decide : 0 + 0 ≤ _), (by decide : 0 + 0 ≤ _)⟩)
      dsimp only [Pt.U, Pt.locs, Pt.cells, Pt.slots] at X33 l33 y33 z33 st33 hQ33
      subst l33 y33 z33
      obtain ⟨rfl, N33q, e33⟩ := hQ33
      have N33 := Fr.app N2 N33q
      refine hG _ _ (fun t₀ k₀ => st33 _ k₀) ?_
      show G (T33.setTop (mkF m 53 #[.val (.int p1), .val (.int p2), .val (.int p3), .val (.int p4), .val (.ref ta), .val (.ref tb), .val (.ref wS), .val (.int (0 : Int32)), .unset, .unset, .unset] [(.ref (own_dec wOP wKO wAU wS r3 r4 r5 r6 r7 r8 r9 r10 ta tb wS (0 : Int32)))]))
      obtain ⟨d, hd⟩ : ∃ z, z = (own_dec wOP wKO wAU wS r3 r4 r5 r6 r7 r8 r9 r10 ta tb wS (0 : Int32)) := ⟨_, rfl⟩
      rw [← hd]
      show G (T33.setTop (mkF m 53 #[.val (.int p1), .val (.int p2), .val (.int p3), .val (.int p4), .val (.ref ta), .val (.ref tb), .val (.ref wS), .val (.int (0 : Int32)), .unset, .unset, .unset] [(.ref d)]))
      refine hG _ (T33.setTop (mkF m 57 #[.val (.int p1), .val (.int p2), .val (.int p3), .val (.int p4), .val (.ref ta), .val (.ref tb), .val (.ref wS), .val (.int (0 : Int32)), .val (.ref d), .unset, .unset] [(.ref tb)])) (fun t₀ k₀ => ?_) ?_
      · show Steps p.tables e below (T33.setTop (mkF m 53 #[.val (.int p1), .val (.int p2), .val (.int p3), .val (.int p4), .val (.ref ta), .val (.ref tb), .val (.ref wS), .val (.int (0 : Int32)), .unset, .unset, .unset] [(.ref d)])) t₀
        refine XS.astore X33.here hx rfl (hb hby at_53) rfl rfl (l' := #[.val (.int p1), .val (.int p2), .val (.int p3), .val (.int p4), .val (.ref ta), .val (.ref tb), .val (.ref wS), .val (.int (0 : Int32)), .val (.ref d), .unset, .unset]) rfl ?_
        show Steps p.tables e below (T33.setTop (mkF m 55 #[.val (.int p1), .val (.int p2), .val (.int p3), .val (.int p4), .val (.ref ta), .val (.ref tb), .val (.ref wS), .val (.int (0 : Int32)), .val (.ref d), .unset, .unset] [])) t₀
        refine XS.aload X33.here hx rfl (hb hby at_55) rfl rfl ?_
        exact k₀
      obtain ⟨T34, X34, e34, st34⟩ := getS2 X33 hx hZ hown (host := "") (Or.inl (hw _ (List.mem_of_getElem? (i := 5) rfl))) Via.refl e33 S_PESS_AKT (g := (mkF m 57 #[.val (.int p1), .val (.int p2), .val (.int p3), .val (.int p4), .val (.ref ta), .val (.ref tb), .val (.ref wS), .val (.int (0 : Int32)), .val (.ref d), .unset, .unset] [(.ref tb)])) rfl (hb hby at_57)
      refine hG _ _ (fun t₀ k₀ => st34 _ k₀) ?_
      show G (T34.setTop (mkF m 60 #[.val (.int p1), .val (.int p2), .val (.int p3), .val (.int p4), .val (.ref ta), .val (.ref tb), .val (.ref wS), .val (.int (0 : Int32)), .val (.ref d), .unset, .unset] [(.ref wPA), (.ref tb)]))
      by_cases hc60 : tb = wPA
      ·
        refine hG _ (T34.setTop (mkF m 80 #[.val (.int p1), .val (.int p2), .val (.int p3), .val (.int p4), .val (.ref ta), .val (.ref tb), .val (.ref wS), .val (.int (0 : Int32)), .val (.ref d), .val (.int (1 : Int32)), .unset] [(.ref ta)])) (fun t₀ k₀ => ?_) ?_
        · show Steps p.tables e below (T34.setTop (mkF m 60 #[.val (.int p1), .val (.int p2), .val (.int p3), .val (.int p4), .val (.ref ta), .val (.ref tb), .val (.ref wS), .val (.int (0 : Int32)), .val (.ref d), .unset, .unset] [(.ref wPA), (.ref tb)])) t₀
          refine Jvm.RoadKit.acmp (g := (mkF m 60 #[.val (.int p1), .val (.int p2), .val (.int p3), .val (.int p4), .val (.ref ta), .val (.ref tb), .val (.ref wS), .val (.int (0 : Int32)), .val (.ref d), .unset, .unset] [(.ref wPA), (.ref tb)])) X34 hx rfl rfl rfl (pc0 := 60) (pc' := 71) (same := true) rfl (hb hby at_60) rfl (decide_eq_true (congrArg Value.ref hc60)) (by decide) (by decide) ?_
          show Steps p.tables e below (T34.setTop (mkF m 71 #[.val (.int p1), .val (.int p2), .val (.int p3), .val (.int p4), .val (.ref ta), .val (.ref tb), .val (.ref wS), .val (.int (0 : Int32)), .val (.ref d), .unset, .unset] [])) t₀
          refine XS.iconst X34.here hx rfl (hb hby at_71) ?_
          show Steps p.tables e below (T34.setTop (mkF m 72 #[.val (.int p1), .val (.int p2), .val (.int p3), .val (.int p4), .val (.ref ta), .val (.ref tb), .val (.ref wS), .val (.int (0 : Int32)), .val (.ref d), .unset, .unset] [(.int (1 : Int32))])) t₀
          refine XS.goto X34.here hx rfl (pc0 := 72) (pc' := 76) rfl (hb hby at_72) (by decide) (by decide) ?_
          show Steps p.tables e below (T34.setTop (mkF m 76 #[.val (.int p1), .val (.int p2), .val (.int p3), .val (.int p4), .val (.ref ta), .val (.ref tb), .val (.ref wS), .val (.int (0 : Int32)), .val (.ref d), .unset, .unset] [(.int (1 : Int32))])) t₀
          refine XS.istore X34.here hx rfl (hb hby at_76) rfl (l' := #[.val (.int p1), .val (.int p2), .val (.int p3), .val (.int p4), .val (.ref ta), .val (.ref tb), .val (.ref wS), .val (.int (0 : Int32)), .val (.ref d), .val (.int (1 : Int32)), .unset]) rfl ?_
          show Steps p.tables e below (T34.setTop (mkF m 78 #[.val (.int p1), .val (.int p2), .val (.int p3), .val (.int p4), .val (.ref ta), .val (.ref tb), .val (.ref wS), .val (.int (0 : Int32)), .val (.ref d), .val (.int (1 : Int32)), .unset] [])) t₀
          refine XS.aload X34.here hx rfl (hb hby at_78) rfl rfl ?_
          exact k₀
        obtain ⟨T35, X35, e35, st35⟩ := getS2 X34 hx hZ hown (host := "") (Or.inl (hw _ (List.mem_of_getElem? (i := 8) rfl))) Via.refl e34 S_KONS (g := (mkF m 80 #[.val (.int p1), .val (.int p2), .val (.int p3), .val (.int p4), .val (.ref ta), .val (.ref tb), .val (.ref wS), .val (.int (0 : Int32)), .val (.ref d), .val (.int (1 : Int32)), .unset] [(.ref ta)])) rfl (hb hby at_80)
        refine hG _ _ (fun t₀ k₀ => st35 _ k₀) ?_
        show G (T35.setTop (mkF m 83 #[.val (.int p1), .val (.int p2), .val (.int p3), .val (.int p4), .val (.ref ta), .val (.ref tb), .val (.ref wS), .val (.int (0 : Int32)), .val (.ref d), .val (.int (1 : Int32)), .unset] [(.ref wKO), (.ref ta)]))
        by_cases hc83 : ta = wKO
        ·
          refine hG _ (T35.setTop (mkF m 93 #[.val (.int p1), .val (.int p2), .val (.int p3), .val (.int p4), .val (.ref ta), .val (.ref tb), .val (.ref wS), .val (.int (0 : Int32)), .val (.ref d), .val (.int (1 : Int32)), .unset] [(.ref wS)])) (fun t₀ k₀ => ?_) ?_
          · show Steps p.tables e below (T35.setTop (mkF m 83 #[.val (.int p1), .val (.int p2), .val (.int p3), .val (.int p4), .val (.ref ta), .val (.ref tb), .val (.ref wS), .val (.int (0 : Int32)), .val (.ref d), .val (.int (1 : Int32)), .unset] [(.ref wKO), (.ref ta)])) t₀
            refine Jvm.RoadKit.acmp (g := (mkF m 83 #[.val (.int p1), .val (.int p2), .val (.int p3), .val (.int p4), .val (.ref ta), .val (.ref tb), .val (.ref wS), .val (.int (0 : Int32)), .val (.ref d), .val (.int (1 : Int32)), .unset] [(.ref wKO), (.ref ta)])) X35 hx rfl rfl rfl (pc0 := 83) (pc' := 86) (same := true) rfl (hb hby at_83) rfl (decide_eq_true (congrArg Value.ref hc83)) (by decide) (by decide) ?_
            show Steps p.tables e below (T35.setTop (mkF m 86 #[.val (.int p1), .val (.int p2), .val (.int p3), .val (.int p4), .val (.ref ta), .val (.ref tb), .val (.ref wS), .val (.int (0 : Int32)), .val (.ref d), .val (.int (1 : Int32)), .unset] [])) t₀
            refine XS.iload X35.here hx rfl (hb hby at_86) rfl ?_
            show Steps p.tables e below (T35.setTop (mkF m 88 #[.val (.int p1), .val (.int p2), .val (.int p3), .val (.int p4), .val (.ref ta), .val (.ref tb), .val (.ref wS), .val (.int (0 : Int32)), .val (.ref d), .val (.int (1 : Int32)), .unset] [(.int (1 : Int32))])) t₀
            refine XS.ifNo X35.here hx rfl (hb hby at_88) rfl ((if0 _ _).trans (feq (by decide : ¬ ((1 : Int32) = (0 : Int32)))).1) ?_
            show Steps p.tables e below (T35.setTop (mkF m 91 #[.val (.int p1), .val (.int p2), .val (.int p3), .val (.int p4), .val (.ref ta), .val (.ref tb), .val (.ref wS), .val (.int (0 : Int32)), .val (.ref d), .val (.int (1 : Int32)), .unset] [])) t₀
            refine XS.aload X35.here hx rfl (hb hby at_91) rfl rfl ?_
            exact k₀
          obtain ⟨T36, X36, e36, st36⟩ := getS2 X35 hx hZ hown (host := "") (Or.inl (hw _ (List.mem_of_getElem? (i := 41) rfl))) Via.refl e35 S_STATUS (g := (mkF m 93 #[.val (.int p1), .val (.int p2), .val (.int p3), .val (.int p4), .val (.ref ta), .val (.ref tb), .val (.ref wS), .val (.int (0 : Int32)), .val (.ref d), .val (.int (1 : Int32)), .unset] [(.ref wS)])) rfl (hb hby at_93)
          refine hG _ _ (fun t₀ k₀ => st36 _ k₀) ?_
          show G (T36.setTop (mkF m 96 #[.val (.int p1), .val (.int p2), .val (.int p3), .val (.int p4), .val (.ref ta), .val (.ref tb), .val (.ref wS), .val (.int (0 : Int32)), .val (.ref d), .val (.int (1 : Int32)), .unset] [(.ref wS), (.ref wS)]))
          refine hG _ (T36.setTop (mkF m 113 #[.val (.int p1), .val (.int p2), .val (.int p3), .val (.int p4), .val (.ref ta), .val (.ref tb), .val (.ref wS), .val (.int (0 : Int32)), .val (.ref d), .val (.int (1 : Int32)), .val (.int (1 : Int32))] [(.ref d)])) (fun t₀ k₀ => ?_) ?_
          · show Steps p.tables e below (T36.setTop (mkF m 96 #[.val (.int p1), .val (.int p2), .val (.int p3), .val (.int p4), .val (.ref ta), .val (.ref tb), .val (.ref wS), .val (.int (0 : Int32)), .val (.ref d), .val (.int (1 : Int32)), .unset] [(.ref wS), (.ref wS)])) t₀
            refine Jvm.RoadKit.acmp (g := (mkF m 96 #[.val (.int p1), .val (.int p2), .val (.int p3), .val (.int p4), .val (.ref ta), .val (.ref tb), .val (.ref wS), .val (.int (0 : Int32)), .val (.ref d), .val (.int (1 : Int32)), .unset] [(.ref wS), (.ref wS)])) X36 hx rfl rfl rfl (pc0 := 96) (pc' := 104) (same := true) rfl (hb hby at_96) rfl (decide_eq_true (congrArg Value.ref rfl)) (by decide) (by decide) ?_
            show Steps p.tables e below (T36.setTop (mkF m 104 #[.val (.int p1), .val (.int p2), .val (.int p3), .val (.int p4), .val (.ref ta), .val (.ref tb), .val (.ref wS), .val (.int (0 : Int32)), .val (.ref d), .val (.int (1 : Int32)), .unset] [])) t₀
            refine XS.iconst X36.here hx rfl (hb hby at_104) ?_
            show Steps p.tables e below (T36.setTop (mkF m 105 #[.val (.int p1), .val (.int p2), .val (.int p3), .val (.int p4), .val (.ref ta), .val (.ref tb), .val (.ref wS), .val (.int (0 : Int32)), .val (.ref d), .val (.int (1 : Int32)), .unset] [(.int (1 : Int32))])) t₀
            refine XS.goto X36.here hx rfl (pc0 := 105) (pc' := 109) rfl (hb hby at_105) (by decide) (by decide) ?_
            show Steps p.tables e below (T36.setTop (mkF m 109 #[.val (.int p1), .val (.int p2), .val (.int p3), .val (.int p4), .val (.ref ta), .val (.ref tb), .val (.ref wS), .val (.int (0 : Int32)), .val (.ref d), .val (.int (1 : Int32)), .unset] [(.int (1 : Int32))])) t₀
            refine XS.istore X36.here hx rfl (hb hby at_109) rfl (l' := #[.val (.int p1), .val (.int p2), .val (.int p3), .val (.int p4), .val (.ref ta), .val (.ref tb), .val (.ref wS), .val (.int (0 : Int32)), .val (.ref d), .val (.int (1 : Int32)), .val (.int (1 : Int32))]) rfl ?_
            show Steps p.tables e below (T36.setTop (mkF m 111 #[.val (.int p1), .val (.int p2), .val (.int p3), .val (.int p4), .val (.ref ta), .val (.ref tb), .val (.ref wS), .val (.int (0 : Int32)), .val (.ref d), .val (.int (1 : Int32)), .val (.int (1 : Int32))] [])) t₀
            refine XS.aload X36.here hx rfl (hb hby at_111) rfl rfl ?_
            exact k₀
          have hr : (if d = r7 ∨ d = r8 then (1 : Int32) else 0) = (1 : Int32) := by
            rw [hd]
            rw [hc83, hc60, own_L3 ne_wKO_wOP ne_wKO_wAU ne_wPA_wOP ne_wPA_wAU ne_wPA_wKO]
            rw [if_pos rfl]
            exact if_pos (Or.inr rfl)
          have hE : Exa Z h0 d "com/example/concordat/concordat/core/ConflictRule" := by
            rw [hd]; unfold own_dec; (repeat' split) <;> assumption
          obtain ⟨cq37, kq37, q37a, q37b, q37c⟩ := isOf hZ e36 hE
          obtain ⟨_, _, ⟨T37, L37, k37, n37⟩, -, X37, ⟨Lc37, hQ37, l37, y37, z37⟩, st37⟩ := X36.virtualBack hx (y := (⟨"com/example/concordat/concordat/core/ConflictRule", "holderReleases", "()Z"⟩ : MethodName)) (z := (⟨"com/example/concordat/concordat/core/ConflictRule", "holderReleases", "()Z"⟩ : MethodName)) hown (mvT hZ (hw _ (List.mem_of_getElem? (i := 26) rfl))) (mvT hZ (hw _ (List.mem_of_getElem? (i := 27) rfl))) (notFace_of_selects (args := #[]) (mvT hZ (hw _ (List.mem_of_getElem? (i := 29) rfl)))) (mvT hZ (hw _ (List.mem_of_getElem? (i := 29) rfl))) (mvT hZ (hw _ (List.mem_of_getElem? (i := 28) rfl))) (by decide) (backOf (W := 0) (rm3 l Z a0 hw [] d r7 r8 (1 : Int32) h0 n0 Z0 S_R7 S_R8 hr) hZ (hw _ (List.mem_of_getElem? (i := 30) rfl)) (hw _ (List.mem_of_getElem? (i := 15) rfl)) (by decide) (by decide)) q37a q37c (g := (mkF m 113 #[.val (.int p1), .val (.int p2), .val (.int p3), .val (.int p4), .val (.ref ta), .val (.ref tb), .val (.ref wS), .val (.int (0 : Int32)), .val (.ref d), .val (.int (1 : Int32)), .val (.int (1 : Int32))] [(.ref d)])) rfl (by rw [hml]; rfl) (Steps.refl _) (argsL := []) (rest := []) (lenOf pd_2 rfl) rfl (by show 2 * 0 + _ ≤ _; exact Nat.le_of_eq rfl) (hb hby at_113) (fun _ _ => ⟨rfl, e36, (by decide : 0 + 0 ≤ _), (by decide : 0 + 0 ≤ _)⟩)
          dsimp only [Pt.U, Pt.locs, Pt.cells, Pt.slots] at X37 l37 y37 z37 st37 hQ37
          subst l37 y37 z37
          obtain ⟨rfl, N37q, e37⟩ := hQ37
          have N37 := Fr.app N33 N37q
          refine hG _ _ (fun t₀ k₀ => st37.trans k₀) ?_
          show G (T37.setTop (mkF m 116 #[.val (.int p1), .val (.int p2), .val (.int p3), .val (.int p4), .val (.ref ta), .val (.ref tb), .val (.ref wS), .val (.int (0 : Int32)), .val (.ref d), .val (.int (1 : Int32)), .val (.int (1 : Int32))] [(.int (1 : Int32))]))
          refine hG _ (T37.setTop (mkF m 126 #[.val (.int p1), .val (.int p2), .val (.int p3), .val (.int p4), .val (.ref ta), .val (.ref tb), .val (.ref wS), .val (.int (0 : Int32)), .val (.ref d), .val (.int (1 : Int32)), .val (.int (1 : Int32))] [(.int (1 : Int32))])) (fun t₀ k₀ => ?_) ?_
          · show Steps p.tables e below (T37.setTop (mkF m 116 #[.val (.int p1), .val (.int p2), .val (.int p3), .val (.int p4), .val (.ref ta), .val (.ref tb), .val (.ref wS), .val (.int (0 : Int32)), .val (.ref d), .val (.int (1 : Int32)), .val (.int (1 : Int32))] [(.int (1 : Int32))])) t₀
            refine XS.iload X37.here hx rfl (hb hby at_116) rfl ?_
            show Steps p.tables e below (T37.setTop (mkF m 118 #[.val (.int p1), .val (.int p2), .val (.int p3), .val (.int p4), .val (.ref ta), .val (.ref tb), .val (.ref wS), .val (.int (0 : Int32)), .val (.ref d), .val (.int (1 : Int32)), .val (.int (1 : Int32))] [(.int (1 : Int32)), (.int (1 : Int32))])) t₀
            refine XS.icmpNo X37.here hx rfl (hb hby at_118) rfl (teq (by decide : ((1 : Int32) = (1 : Int32)))).2 ?_
            show Steps p.tables e below (T37.setTop (mkF m 121 #[.val (.int p1), .val (.int p2), .val (.int p3), .val (.int p4), .val (.ref ta), .val (.ref tb), .val (.ref wS), .val (.int (0 : Int32)), .val (.ref d), .val (.int (1 : Int32)), .val (.int (1 : Int32))] [])) t₀
            refine XS.iconst X37.here hx rfl (hb hby at_121) ?_
            show Steps p.tables e below (T37.setTop (mkF m 122 #[.val (.int p1), .val (.int p2), .val (.int p3), .val (.int p4), .val (.ref ta), .val (.ref tb), .val (.ref wS), .val (.int (0 : Int32)), .val (.ref d), .val (.int (1 : Int32)), .val (.int (1 : Int32))] [(.int (1 : Int32))])) t₀
            refine XS.goto X37.here hx rfl (pc0 := 122) (pc' := 126) rfl (hb hby at_122) (by decide) (by decide) ?_
            exact k₀
          refine hF _ T37 _ _ _ (some (.int (1 : Int32))) _ X37 e37 (fun h => by rw [hrt] at h; cases h) (by decide) (by decide) ?_ (fun fs hr => retN X37 hx (t := .boolean) hrt (by simp) (hb hby at_126) hr)
          exact ⟨rfl, N37⟩
        ·
          refine hG _ (T35.setTop (mkF m 113 #[.val (.int p1), .val (.int p2), .val (.int p3), .val (.int p4), .val (.ref ta), .val (.ref tb), .val (.ref wS), .val (.int (0 : Int32)), .val (.ref d), .val (.int (1 : Int32)), .val (.int (0 : Int32))] [(.ref d)])) (fun t₀ k₀ => ?_) ?_
          · show Steps p.tables e below (T35.setTop (mkF m 83 #[.val (.int p1), .val (.int p2), .val (.int p3), .val (.int p4), .val (.ref ta), .val (.ref tb), .val (.ref wS), .val (.int (0 : Int32)), .val (.ref d), .val (.int (1 : Int32)), .unset] [(.ref wKO), (.ref ta)])) t₀
            refine Jvm.RoadKit.acmp (g := (mkF m 83 #[.val (.int p1), .val (.int p2), .val (.int p3), .val (.int p4), .val (.ref ta), .val (.ref tb), .val (.ref wS), .val (.int (0 : Int32)), .val (.ref d), .val (.int (1 : Int32)), .unset] [(.ref wKO), (.ref ta)])) X35 hx rfl rfl rfl (pc0 := 83) (pc' := 108) (same := false) rfl (hb hby at_83) rfl (decide_eq_false fun q => hc83 (Value.ref.inj q)) (by decide) (by decide) ?_
            show Steps p.tables e below (T35.setTop (mkF m 108 #[.val (.int p1), .val (.int p2), .val (.int p3), .val (.int p4), .val (.ref ta), .val (.ref tb), .val (.ref wS), .val (.int (0 : Int32)), .val (.ref d), .val (.int (1 : Int32)), .unset] [])) t₀
            refine XS.iconst X35.here hx rfl (hb hby at_108) ?_
            show Steps p.tables e below (T35.setTop (mkF m 109 #[.val (.int p1), .val (.int p2), .val (.int p3), .val (.int p4), .val (.ref ta), .val (.ref tb), .val (.ref wS), .val (.int (0 : Int32)), .val (.ref d), .val (.int (1 : Int32)), .unset] [(.int (0 : Int32))])) t₀
            refine XS.istore X35.here hx rfl (hb hby at_109) rfl (l' := #[.val (.int p1), .val (.int p2), .val (.int p3), .val (.int p4), .val (.ref ta), .val (.ref tb), .val (.ref wS), .val (.int (0 : Int32)), .val (.ref d), .val (.int (1 : Int32)), .val (.int (0 : Int32))]) rfl ?_
            show Steps p.tables e below (T35.setTop (mkF m 111 #[.val (.int p1), .val (.int p2), .val (.int p3), .val (.int p4), .val (.ref ta), .val (.ref tb), .val (.ref wS), .val (.int (0 : Int32)), .val (.ref d), .val (.int (1 : Int32)), .val (.int (0 : Int32))] [])) t₀
            refine XS.aload X35.here hx rfl (hb hby at_111) rfl rfl ?_
            exact k₀
          have hr : (if d = r7 ∨ d = r8 then (1 : Int32) else 0) = (0 : Int32) := by
            rw [hd]
            exact if_neg (own_L1 hc83 ne_r3_r7 ne_r3_r8 ne_r4_r7 ne_r4_r8 ne_r9_r7 ne_r9_r8 ne_r10_r7 ne_r10_r8)
          have hE : Exa Z h0 d "com/example/concordat/concordat/core/ConflictRule" := by
            rw [hd]; unfold own_dec; (repeat' split) <;> assumption
          obtain ⟨cq38, kq38, q38a, q38b, q38c⟩ := isOf hZ e35 hE
          obtain ⟨_, _, ⟨T38, L38, k38, n38⟩, -, X38, ⟨Lc38, hQ38, l38, y38, z38⟩, st38⟩ := X35.virtualBack hx (y := (⟨"com/example/concordat/concordat/core/ConflictRule", "holderReleases", "()Z"⟩ : MethodName)) (z := (⟨"com/example/concordat/concordat/core/ConflictRule", "holderReleases", "()Z"⟩ : MethodName)) hown (mvT hZ (hw _ (List.mem_of_getElem? (i := 26) rfl))) (mvT hZ (hw _ (List.mem_of_getElem? (i := 27) rfl))) (notFace_of_selects (args := #[]) (mvT hZ (hw _ (List.mem_of_getElem? (i := 29) rfl)))) (mvT hZ (hw _ (List.mem_of_getElem? (i := 29) rfl))) (mvT hZ (hw _ (List.mem_of_getElem? (i := 28) rfl))) (by decide) (backOf (W := 0) (rm3 l Z a0 hw [] d r7 r8 (0 : Int32) h0 n0 Z0 S_R7 S_R8 hr) hZ (hw _ (List.mem_of_getElem? (i := 30) rfl)) (hw _ (List.mem_of_getElem? (i := 15) rfl)) (by decide) (by decide)) q38a q38c (g := (mkF m 113 #[.val (.int p1), .val (.int p2), .val (.int p3), .val (.int p4), .val (.ref ta), .val (.ref tb), .val (.ref wS), .val (.int (0 : Int32)), .val (.ref d), .val (.int (1 : Int32)), .val (.int (0 : Int32))] [(.ref d)])) rfl (by rw [hml]; rfl) (Steps.refl _) (argsL := []) (rest := []) (lenOf pd_2 rfl) rfl (by show 2 * 0 + _ ≤ _; exact Nat.le_of_eq rfl) (hb hby at_113) (fun _ _ => ⟨rfl, e35, (by decide : 0 + 0 ≤ _), (by decide : 0 + 0 ≤ _)⟩)
          dsimp only [Pt.U, Pt.locs, Pt.cells, Pt.slots] at X38 l38 y38 z38 st38 hQ38
          subst l38 y38 z38
          obtain ⟨rfl, N38q, e38⟩ := hQ38
          have N38 := Fr.app N33 N38q
          refine hG _ _ (fun t₀ k₀ => st38.trans k₀) ?_
          show G (T38.setTop (mkF m 116 #[.val (.int p1), .val (.int p2), .val (.int p3), .val (.int p4), .val (.ref ta), .val (.ref tb), .val (.ref wS), .val (.int (0 : Int32)), .val (.ref d), .val (.int (1 : Int32)), .val (.int (0 : Int32))] [(.int (0 : Int32))]))
          refine hG _ (T38.setTop (mkF m 126 #[.val (.int p1), .val (.int p2), .val (.int p3), .val (.int p4), .val (.ref ta), .val (.ref tb), .val (.ref wS), .val (.int (0 : Int32)), .val (.ref d), .val (.int (1 : Int32)), .val (.int (0 : Int32))] [(.int (1 : Int32))])) (fun t₀ k₀ => ?_) ?_
          · show Steps p.tables e below (T38.setTop (mkF m 116 #[.val (.int p1), .val (.int p2), .val (.int p3), .val (.int p4), .val (.ref ta), .val (.ref tb), .val (.ref wS), .val (.int (0 : Int32)), .val (.ref d), .val (.int (1 : Int32)), .val (.int (0 : Int32))] [(.int (0 : Int32))])) t₀
            refine XS.iload X38.here hx rfl (hb hby at_116) rfl ?_
            show Steps p.tables e below (T38.setTop (mkF m 118 #[.val (.int p1), .val (.int p2), .val (.int p3), .val (.int p4), .val (.ref ta), .val (.ref tb), .val (.ref wS), .val (.int (0 : Int32)), .val (.ref d), .val (.int (1 : Int32)), .val (.int (0 : Int32))] [(.int (0 : Int32)), (.int (0 : Int32))])) t₀
            refine XS.icmpNo X38.here hx rfl (hb hby at_118) rfl (teq (by decide : ((0 : Int32) = (0 : Int32)))).2 ?_
            show Steps p.tables e below (T38.setTop (mkF m 121 #[.val (.int p1), .val (.int p2), .val (.int p3), .val (.int p4), .val (.ref ta), .val (.ref tb), .val (.ref wS), .val (.int (0 : Int32)), .val (.ref d), .val (.int (1 : Int32)), .val (.int (0 : Int32))] [])) t₀
            refine XS.iconst X38.here hx rfl (hb hby at_121) ?_
            show Steps p.tables e below (T38.setTop (mkF m 122 #[.val (.int p1), .val (.int p2), .val (.int p3), .val (.int p4), .val (.ref ta), .val (.ref tb), .val (.ref wS), .val (.int (0 : Int32)), .val (.ref d), .val (.int (1 : Int32)), .val (.int (0 : Int32))] [(.int (1 : Int32))])) t₀
            refine XS.goto X38.here hx rfl (pc0 := 122) (pc' := 126) rfl (hb hby at_122) (by decide) (by decide) ?_
            exact k₀
          refine hF _ T38 _ _ _ (some (.int (1 : Int32))) _ X38 e38 (fun h => by rw [hrt] at h; cases h) (by decide) (by decide) ?_ (fun fs hr => retN X38 hx (t := .boolean) hrt (by simp) (hb hby at_126) hr)
          exact ⟨rfl, N38⟩
      ·
        refine hG _ (T34.setTop (mkF m 65 #[.val (.int p1), .val (.int p2), .val (.int p3), .val (.int p4), .val (.ref ta), .val (.ref tb), .val (.ref wS), .val (.int (0 : Int32)), .val (.ref d), .unset, .unset] [(.ref tb)])) (fun t₀ k₀ => ?_) ?_
        · show Steps p.tables e below (T34.setTop (mkF m 60 #[.val (.int p1), .val (.int p2), .val (.int p3), .val (.int p4), .val (.ref ta), .val (.ref tb), .val (.ref wS), .val (.int (0 : Int32)), .val (.ref d), .unset, .unset] [(.ref wPA), (.ref tb)])) t₀
          refine Jvm.RoadKit.acmp (g := (mkF m 60 #[.val (.int p1), .val (.int p2), .val (.int p3), .val (.int p4), .val (.ref ta), .val (.ref tb), .val (.ref wS), .val (.int (0 : Int32)), .val (.ref d), .unset, .unset] [(.ref wPA), (.ref tb)])) X34 hx rfl rfl rfl (pc0 := 60) (pc' := 63) (same := false) rfl (hb hby at_60) rfl (decide_eq_false fun q => hc60 (Value.ref.inj q)) (by decide) (by decide) ?_
          show Steps p.tables e below (T34.setTop (mkF m 63 #[.val (.int p1), .val (.int p2), .val (.int p3), .val (.int p4), .val (.ref ta), .val (.ref tb), .val (.ref wS), .val (.int (0 : Int32)), .val (.ref d), .unset, .unset] [])) t₀
          refine XS.aload X34.here hx rfl (hb hby at_63) rfl rfl ?_
          exact k₀
        obtain ⟨T39, X39, e39, st39⟩ := getS2 X34 hx hZ hown (host := "") (Or.inl (hw _ (List.mem_of_getElem? (i := 24) rfl))) Via.refl e34 S_PESS_AF (g := (mkF m 65 #[.val (.int p1), .val (.int p2), .val (.int p3), .val (.int p4), .val (.ref ta), .val (.ref tb), .val (.ref wS), .val (.int (0 : Int32)), .val (.ref d), .unset, .unset] [(.ref tb)])) rfl (hb hby at_65)
        refine hG _ _ (fun t₀ k₀ => st39 _ k₀) ?_
        show G (T39.setTop (mkF m 68 #[.val (.int p1), .val (.int p2), .val (.int p3), .val (.int p4), .val (.ref ta), .val (.ref tb), .val (.ref wS), .val (.int (0 : Int32)), .val (.ref d), .unset, .unset] [(.ref wPF), (.ref tb)]))
        by_cases hc68 : tb = wPF
        ·
          refine hG _ (T39.setTop (mkF m 80 #[.val (.int p1), .val (.int p2), .val (.int p3), .val (.int p4), .val (.ref ta), .val (.ref tb), .val (.ref wS), .val (.int (0 : Int32)), .val (.ref d), .val (.int (1 : Int32)), .unset] [(.ref ta)])) (fun t₀ k₀ => ?_) ?_
          · show Steps p.tables e below (T39.setTop (mkF m 68 #[.val (.int p1), .val (.int p2), .val (.int p3), .val (.int p4), .val (.ref ta), .val (.ref tb), .val (.ref wS), .val (.int (0 : Int32)), .val (.ref d), .unset, .unset] [(.ref wPF), (.ref tb)])) t₀
            refine Jvm.RoadKit.acmp (g := (mkF m 68 #[.val (.int p1), .val (.int p2), .val (.int p3), .val (.int p4), .val (.ref ta), .val (.ref tb), .val (.ref wS), .val (.int (0 : Int32)), .val (.ref d), .unset, .unset] [(.ref wPF), (.ref tb)])) X39 hx rfl rfl rfl (pc0 := 68) (pc' := 71) (same := true) rfl (hb hby at_68) rfl (decide_eq_true (congrArg Value.ref hc68)) (by decide) (by decide) ?_
            show Steps p.tables e below (T39.setTop (mkF m 71 #[.val (.int p1), .val (.int p2), .val (.int p3), .val (.int p4), .val (.ref ta), .val (.ref tb), .val (.ref wS), .val (.int (0 : Int32)), .val (.ref d), .unset, .unset] [])) t₀
            refine XS.iconst X39.here hx rfl (hb hby at_71) ?_
            show Steps p.tables e below (T39.setTop (mkF m 72 #[.val (.int p1), .val (.int p2), .val (.int p3), .val (.int p4), .val (.ref ta), .val (.ref tb), .val (.ref wS), .val (.int (0 : Int32)), .val (.ref d), .unset, .unset] [(.int (1 : Int32))])) t₀
            refine XS.goto X39.here hx rfl (pc0 := 72) (pc' := 76) rfl (hb hby at_72) (by decide) (by decide) ?_
            show Steps p.tables e below (T39.setTop (mkF m 76 #[.val (.int p1), .val (.int p2), .val (.int p3), .val (.int p4), .val (.ref ta), .val (.ref tb), .val (.ref wS), .val (.int (0 : Int32)), .val (.ref d), .unset, .unset] [(.int (1 : Int32))])) t₀
            refine XS.istore X39.here hx rfl (hb hby at_76) rfl (l' := #[.val (.int p1), .val (.int p2), .val (.int p3), .val (.int p4), .val (.ref ta), .val (.ref tb), .val (.ref wS), .val (.int (0 : Int32)), .val (.ref d), .val (.int (1 : Int32)), .unset]) rfl ?_
            show Steps p.tables e below (T39.setTop (mkF m 78 #[.val (.int p1), .val (.int p2), .val (.int p3), .val (.int p4), .val (.ref ta), .val (.ref tb), .val (.ref wS), .val (.int (0 : Int32)), .val (.ref d), .val (.int (1 : Int32)), .unset] [])) t₀
            refine XS.aload X39.here hx rfl (hb hby at_78) rfl rfl ?_
            exact k₀
          obtain ⟨T40, X40, e40, st40⟩ := getS2 X39 hx hZ hown (host := "") (Or.inl (hw _ (List.mem_of_getElem? (i := 8) rfl))) Via.refl e39 S_KONS (g := (mkF m 80 #[.val (.int p1), .val (.int p2), .val (.int p3), .val (.int p4), .val (.ref ta), .val (.ref tb), .val (.ref wS), .val (.int (0 : Int32)), .val (.ref d), .val (.int (1 : Int32)), .unset] [(.ref ta)])) rfl (hb hby at_80)
          refine hG _ _ (fun t₀ k₀ => st40 _ k₀) ?_
          show G (T40.setTop (mkF m 83 #[.val (.int p1), .val (.int p2), .val (.int p3), .val (.int p4), .val (.ref ta), .val (.ref tb), .val (.ref wS), .val (.int (0 : Int32)), .val (.ref d), .val (.int (1 : Int32)), .unset] [(.ref wKO), (.ref ta)]))
          by_cases hc83 : ta = wKO
          ·
            refine hG _ (T40.setTop (mkF m 93 #[.val (.int p1), .val (.int p2), .val (.int p3), .val (.int p4), .val (.ref ta), .val (.ref tb), .val (.ref wS), .val (.int (0 : Int32)), .val (.ref d), .val (.int (1 : Int32)), .unset] [(.ref wS)])) (fun t₀ k₀ => ?_) ?_
            · show Steps p.tables e below (T40.setTop (mkF m 83 #[.val (.int p1), .val (.int p2), .val (.int p3), .val (.int p4), .val (.ref ta), .val (.ref tb), .val (.ref wS), .val (.int (0 : Int32)), .val (.ref d), .val (.int (1 : Int32)), .unset] [(.ref wKO), (.ref ta)])) t₀
              refine Jvm.RoadKit.acmp (g := (mkF m 83 #[.val (.int p1), .val (.int p2), .val (.int p3), .val (.int p4), .val (.ref ta), .val (.ref tb), .val (.ref wS), .val (.int (0 : Int32)), .val (.ref d), .val (.int (1 : Int32)), .unset] [(.ref wKO), (.ref ta)])) X40 hx rfl rfl rfl (pc0 := 83) (pc' := 86) (same := true) rfl (hb hby at_83) rfl (decide_eq_true (congrArg Value.ref hc83)) (by decide) (by decide) ?_
              show Steps p.tables e below (T40.setTop (mkF m 86 #[.val (.int p1), .val (.int p2), .val (.int p3), .val (.int p4), .val (.ref ta), .val (.ref tb), .val (.ref wS), .val (.int (0 : Int32)), .val (.ref d), .val (.int (1 : Int32)), .unset] [])) t₀
              refine XS.iload X40.here hx rfl (hb hby at_86) rfl ?_
              show Steps p.tables e below (T40.setTop (mkF m 88 #[.val (.int p1), .val (.int p2), .val (.int p3), .val (.int p4), .val (.ref ta), .val (.ref tb), .val (.ref wS), .val (.int (0 : Int32)), .val (.ref d), .val (.int (1 : Int32)), .unset] [(.int (1 : Int32))])) t₀
              refine XS.ifNo X40.here hx rfl (hb hby at_88) rfl ((if0 _ _).trans (feq (by decide : ¬ ((1 : Int32) = (0 : Int32)))).1) ?_
              show Steps p.tables e below (T40.setTop (mkF m 91 #[.val (.int p1), .val (.int p2), .val (.int p3), .val (.int p4), .val (.ref ta), .val (.ref tb), .val (.ref wS), .val (.int (0 : Int32)), .val (.ref d), .val (.int (1 : Int32)), .unset] [])) t₀
              refine XS.aload X40.here hx rfl (hb hby at_91) rfl rfl ?_
              exact k₀
            obtain ⟨T41, X41, e41, st41⟩ := getS2 X40 hx hZ hown (host := "") (Or.inl (hw _ (List.mem_of_getElem? (i := 41) rfl))) Via.refl e40 S_STATUS (g := (mkF m 93 #[.val (.int p1), .val (.int p2), .val (.int p3), .val (.int p4), .val (.ref ta), .val (.ref tb), .val (.ref wS), .val (.int (0 : Int32)), .val (.ref d), .val (.int (1 : Int32)), .unset] [(.ref wS)])) rfl (hb hby at_93)
            refine hG _ _ (fun t₀ k₀ => st41 _ k₀) ?_
            show G (T41.setTop (mkF m 96 #[.val (.int p1), .val (.int p2), .val (.int p3), .val (.int p4), .val (.ref ta), .val (.ref tb), .val (.ref wS), .val (.int (0 : Int32)), .val (.ref d), .val (.int (1 : Int32)), .unset] [(.ref wS), (.ref wS)]))
            refine hG _ (T41.setTop (mkF m 113 #[.val (.int p1), .val (.int p2), .val (.int p3), .val (.int p4), .val (.ref ta), .val (.ref tb), .val (.ref wS), .val (.int (0 : Int32)), .val (.ref d), .val (.int (1 : Int32)), .val (.int (1 : Int32))] [(.ref d)])) (fun t₀ k₀ => ?_) ?_
            · show Steps p.tables e below (T41.setTop (mkF m 96 #[.val (.int p1), .val (.int p2), .val (.int p3), .val (.int p4), .val (.ref ta), .val (.ref tb), .val (.ref wS), .val (.int (0 : Int32)), .val (.ref d), .val (.int (1 : Int32)), .unset] [(.ref wS), (.ref wS)])) t₀
              refine Jvm.RoadKit.acmp (g := (mkF m 96 #[.val (.int p1), .val (.int p2), .val (.int p3), .val (.int p4), .val (.ref ta), .val (.ref tb), .val (.ref wS), .val (.int (0 : Int32)), .val (.ref d), .val (.int (1 : Int32)), .unset] [(.ref wS), (.ref wS)])) X41 hx rfl rfl rfl (pc0 := 96) (pc' := 104) (same := true) rfl (hb hby at_96) rfl (decide_eq_true (congrArg Value.ref rfl)) (by decide) (by decide) ?_
              show Steps p.tables e below (T41.setTop (mkF m 104 #[.val (.int p1), .val (.int p2), .val (.int p3), .val (.int p4), .val (.ref ta), .val (.ref tb), .val (.ref wS), .val (.int (0 : Int32)), .val (.ref d), .val (.int (1 : Int32)), .unset] [])) t₀
              refine XS.iconst X41.here hx rfl (hb hby at_104) ?_
              show Steps p.tables e below (T41.setTop (mkF m 105 #[.val (.int p1), .val (.int p2), .val (.int p3), .val (.int p4), .val (.ref ta), .val (.ref tb), .val (.ref wS), .val (.int (0 : Int32)), .val (.ref d), .val (.int (1 : Int32)), .unset] [(.int (1 : Int32))])) t₀
              refine XS.goto X41.here hx rfl (pc0 := 105) (pc' := 109) rfl (hb hby at_105) (by decide) (by decide) ?_
              show Steps p.tables e below (T41.setTop (mkF m 109 #[.val (.int p1), .val (.int p2), .val (.int p3), .val (.int p4), .val (.ref ta), .val (.ref tb), .val (.ref wS), .val (.int (0 : Int32)), .val (.ref d), .val (.int (1 : Int32)), .unset] [(.int (1 : Int32))])) t₀
              refine XS.istore X41.here hx rfl (hb hby at_109) rfl (l' := #[.val (.int p1), .val (.int p2), .val (.int p3), .val (.int p4), .val (.ref ta), .val (.ref tb), .val (.ref wS), .val (.int (0 : Int32)), .val (.ref d), .val (.int (1 : Int32)), .val (.int (1 : Int32))]) rfl ?_
              show Steps p.tables e below (T41.setTop (mkF m 111 #[.val (.int p1), .val (.int p2), .val (.int p3), .val (.int p4), .val (.ref ta), .val (.ref tb), .val (.ref wS), .val (.int (0 : Int32)), .val (.ref d), .val (.int (1 : Int32)), .val (.int (1 : Int32))] [])) t₀
              refine XS.aload X41.here hx rfl (hb hby at_111) rfl rfl ?_
              exact k₀
            have hr : (if d = r7 ∨ d = r8 then (1 : Int32) else 0) = (1 : Int32) := by
              rw [hd]
              rw [hc83, hc68, own_L3 ne_wKO_wOP ne_wKO_wAU ne_wPF_wOP ne_wPF_wAU ne_wPF_wKO]
              rw [if_pos rfl]
              exact if_pos (Or.inr rfl)
            have hE : Exa Z h0 d "com/example/concordat/concordat/core/ConflictRule" := by
              rw [hd]; unfold own_dec; (repeat' split) <;> assumption
            obtain ⟨cq42, kq42, q42a, q42b, q42c⟩ := isOf hZ e41 hE
            obtain ⟨_, _, ⟨T42, L42, k42, n42⟩, -, X42, ⟨Lc42, hQ42, l42, y42, z42⟩, st42⟩ := X41.virtualBack hx (y := (⟨"com/example/concordat/concordat/core/ConflictRule", "holderReleases", "()Z"⟩ : MethodName)) (z := (⟨"com/example/concordat/concordat/core/ConflictRule", "holderReleases", "()Z"⟩ : MethodName)) hown (mvT hZ (hw _ (List.mem_of_getElem? (i := 26) rfl))) (mvT hZ (hw _ (List.mem_of_getElem? (i := 27) rfl))) (notFace_of_selects (args := #[]) (mvT hZ (hw _ (List.mem_of_getElem? (i := 29) rfl)))) (mvT hZ (hw _ (List.mem_of_getElem? (i := 29) rfl))) (mvT hZ (hw _ (List.mem_of_getElem? (i := 28) rfl))) (by decide) (backOf (W := 0) (rm3 l Z a0 hw [] d r7 r8 (1 : Int32) h0 n0 Z0 S_R7 S_R8 hr) hZ (hw _ (List.mem_of_getElem? (i := 30) rfl)) (hw _ (List.mem_of_getElem? (i := 15) rfl)) (by decide) (by decide)) q42a q42c (g := (mkF m 113 #[.val (.int p1), .val (.int p2), .val (.int p3), .val (.int p4), .val (.ref ta), .val (.ref tb), .val (.ref wS), .val (.int (0 : Int32)), .val (.ref d), .val (.int (1 : Int32)), .val (.int (1 : Int32))] [(.ref d)])) rfl (by rw [hml]; rfl) (Steps.refl _) (argsL := []) (rest := []) (lenOf pd_2 rfl) rfl (by show 2 * 0 + _ ≤ _; exact Nat.le_of_eq rfl) (hb hby at_113) (fun _ _ => ⟨rfl, e41, (by decide : 0 + 0 ≤ _), (by decide : 0 + 0 ≤ _)⟩)
            dsimp only [Pt.U, Pt.locs, Pt.cells, Pt.slots] at X42 l42 y42 z42 st42 hQ42
            subst l42 y42 z42
            obtain ⟨rfl, N42q, e42⟩ := hQ42
            have N42 := Fr.app N33 N42q
            refine hG _ _ (fun t₀ k₀ => st42.trans k₀) ?_
            show G (T42.setTop (mkF m 116 #[.val (.int p1), .val (.int p2), .val (.int p3), .val (.int p4), .val (.ref ta), .val (.ref tb), .val (.ref wS), .val (.int (0 : Int32)), .val (.ref d), .val (.int (1 : Int32)), .val (.int (1 : Int32))] [(.int (1 : Int32))]))
            refine hG _ (T42.setTop (mkF m 126 #[.val (.int p1), .val (.int p2), .val (.int p3), .val (.int p4), .val (.ref ta), .val (.ref tb), .val (.ref wS), .val (.int (0 : Int32)), .val (.ref d), .val (.int (1 : Int32)), .val (.int (1 : Int32))] [(.int (1 : Int32))])) (fun t₀ k₀ => ?_) ?_
            · show Steps p.tables e below (T42.setTop (mkF m 116 #[.val (.int p1), .val (.int p2), .val (.int p3), .val (.int p4), .val (.ref ta), .val (.ref tb), .val (.ref wS), .val (.int (0 : Int32)), .val (.ref d), .val (.int (1 : Int32)), .val (.int (1 : Int32))] [(.int (1 : Int32))])) t₀
              refine XS.iload X42.here hx rfl (hb hby at_116) rfl ?_
              show Steps p.tables e below (T42.setTop (mkF m 118 #[.val (.int p1), .val (.int p2), .val (.int p3), .val (.int p4), .val (.ref ta), .val (.ref tb), .val (.ref wS), .val (.int (0 : Int32)), .val (.ref d), .val (.int (1 : Int32)), .val (.int (1 : Int32))] [(.int (1 : Int32)), (.int (1 : Int32))])) t₀
              refine XS.icmpNo X42.here hx rfl (hb hby at_118) rfl (teq (by decide : ((1 : Int32) = (1 : Int32)))).2 ?_
              show Steps p.tables e below (T42.setTop (mkF m 121 #[.val (.int p1), .val (.int p2), .val (.int p3), .val (.int p4), .val (.ref ta), .val (.ref tb), .val (.ref wS), .val (.int (0 : Int32)), .val (.ref d), .val (.int (1 : Int32)), .val (.int (1 : Int32))] [])) t₀
              refine XS.iconst X42.here hx rfl (hb hby at_121) ?_
              show Steps p.tables e below (T42.setTop (mkF m 122 #[.val (.int p1), .val (.int p2), .val (.int p3), .val (.int p4), .val (.ref ta), .val (.ref tb), .val (.ref wS), .val (.int (0 : Int32)), .val (.ref d), .val (.int (1 : Int32)), .val (.int (1 : Int32))] [(.int (1 : Int32))])) t₀
              refine XS.goto X42.here hx rfl (pc0 := 122) (pc' := 126) rfl (hb hby at_122) (by decide) (by decide) ?_
              exact k₀
            refine hF _ T42 _ _ _ (some (.int (1 : Int32))) _ X42 e42 (fun h => by rw [hrt] at h; cases h) (by decide) (by decide) ?_ (fun fs hr => retN X42 hx (t := .boolean) hrt (by simp) (hb hby at_126) hr)
            exact ⟨rfl, N42⟩
          ·
            refine hG _ (T40.setTop (mkF m 113 #[.val (.int p1), .val (.int p2), .val (.int p3), .val (.int p4), .val (.ref ta), .val (.ref tb), .val (.ref wS), .val (.int (0 : Int32)), .val (.ref d), .val (.int (1 : Int32)), .val (.int (0 : Int32))] [(.ref d)])) (fun t₀ k₀ => ?_) ?_
            · show Steps p.tables e below (T40.setTop (mkF m 83 #[.val (.int p1), .val (.int p2), .val (.int p3), .val (.int p4), .val (.ref ta), .val (.ref tb), .val (.ref wS), .val (.int (0 : Int32)), .val (.ref d), .val (.int (1 : Int32)), .unset] [(.ref wKO), (.ref ta)])) t₀
              refine Jvm.RoadKit.acmp (g := (mkF m 83 #[.val (.int p1), .val (.int p2), .val (.int p3), .val (.int p4), .val (.ref ta), .val (.ref tb), .val (.ref wS), .val (.int (0 : Int32)), .val (.ref d), .val (.int (1 : Int32)), .unset] [(.ref wKO), (.ref ta)])) X40 hx rfl rfl rfl (pc0 := 83) (pc' := 108) (same := false) rfl (hb hby at_83) rfl (decide_eq_false fun q => hc83 (Value.ref.inj q)) (by decide) (by decide) ?_
              show Steps p.tables e below (T40.setTop (mkF m 108 #[.val (.int p1), .val (.int p2), .val (.int p3), .val (.int p4), .val (.ref ta), .val (.ref tb), .val (.ref wS), .val (.int (0 : Int32)), .val (.ref d), .val (.int (1 : Int32)), .unset] [])) t₀
              refine XS.iconst X40.here hx rfl (hb hby at_108) ?_
              show Steps p.tables e below (T40.setTop (mkF m 109 #[.val (.int p1), .val (.int p2), .val (.int p3), .val (.int p4), .val (.ref ta), .val (.ref tb), .val (.ref wS), .val (.int (0 : Int32)), .val (.ref d), .val (.int (1 : Int32)), .unset] [(.int (0 : Int32))])) t₀
              refine XS.istore X40.here hx rfl (hb hby at_109) rfl (l' := #[.val (.int p1), .val (.int p2), .val (.int p3), .val (.int p4), .val (.ref ta), .val (.ref tb), .val (.ref wS), .val (.int (0 : Int32)), .val (.ref d), .val (.int (1 : Int32)), .val (.int (0 : Int32))]) rfl ?_
              show Steps p.tables e below (T40.setTop (mkF m 111 #[.val (.int p1), .val (.int p2), .val (.int p3), .val (.int p4), .val (.ref ta), .val (.ref tb), .val (.ref wS), .val (.int (0 : Int32)), .val (.ref d), .val (.int (1 : Int32)), .val (.int (0 : Int32))] [])) t₀
              refine XS.aload X40.here hx rfl (hb hby at_111) rfl rfl ?_
              exact k₀
            have hr : (if d = r7 ∨ d = r8 then (1 : Int32) else 0) = (0 : Int32) := by
              rw [hd]
              exact if_neg (own_L1 hc83 ne_r3_r7 ne_r3_r8 ne_r4_r7 ne_r4_r8 ne_r9_r7 ne_r9_r8 ne_r10_r7 ne_r10_r8)
            have hE : Exa Z h0 d "com/example/concordat/concordat/core/ConflictRule" := by
              rw [hd]; unfold own_dec; (repeat' split) <;> assumption
            obtain ⟨cq43, kq43, q43a, q43b, q43c⟩ := isOf hZ e40 hE
            obtain ⟨_, _, ⟨T43, L43, k43, n43⟩, -, X43, ⟨Lc43, hQ43, l43, y43, z43⟩, st43⟩ := X40.virtualBack hx (y := (⟨"com/example/concordat/concordat/core/ConflictRule", "holderReleases", "()Z"⟩ : MethodName)) (z := (⟨"com/example/concordat/concordat/core/ConflictRule", "holderReleases", "()Z"⟩ : MethodName)) hown (mvT hZ (hw _ (List.mem_of_getElem? (i := 26) rfl))) (mvT hZ (hw _ (List.mem_of_getElem? (i := 27) rfl))) (notFace_of_selects (args := #[]) (mvT hZ (hw _ (List.mem_of_getElem? (i := 29) rfl)))) (mvT hZ (hw _ (List.mem_of_getElem? (i := 29) rfl))) (mvT hZ (hw _ (List.mem_of_getElem? (i := 28) rfl))) (by decide) (backOf (W := 0) (rm3 l Z a0 hw [] d r7 r8 (0 : Int32) h0 n0 Z0 S_R7 S_R8 hr) hZ (hw _ (List.mem_of_getElem? (i := 30) rfl)) (hw _ (List.mem_of_getElem? (i := 15) rfl)) (by decide) (by decide)) q43a q43c (g := (mkF m 113 #[.val (.int p1), .val (.int p2), .val (.int p3), .val (.int p4), .val (.ref ta), .val (.ref tb), .val (.ref wS), .val (.int (0 : Int32)), .val (.ref d), .val (.int (1 : Int32)), .val (.int (0 : Int32))] [(.ref d)])) rfl (by rw [hml]; rfl) (Steps.refl _) (argsL := []) (rest := []) (lenOf pd_2 rfl) rfl (by show 2 * 0 + _ ≤ _; exact Nat.le_of_eq rfl) (hb hby at_113) (fun _ _ => ⟨rfl, e40, (by decide : 0 + 0 ≤ _), (by decide : 0 + 0 ≤ _)⟩)
            dsimp only [Pt.U, Pt.locs, Pt.cells, Pt.slots] at X43 l43 y43 z43 st43 hQ43
            subst l43 y43 z43
            obtain ⟨rfl, N43q, e43⟩ := hQ43
            have N43 := Fr.app N33 N43q
            refine hG _ _ (fun t₀ k₀ => st43.trans k₀) ?_
            show G (T43.setTop (mkF m 116 #[.val (.int p1), .val (.int p2), .val (.int p3), .val (.int p4), .val (.ref ta), .val (.ref tb), .val (.ref wS), .val (.int (0 : Int32)), .val (.ref d), .val (.int (1 : Int32)), .val (.int (0 : Int32))] [(.int (0 : Int32))]))
            refine hG _ (T43.setTop (mkF m 126 #[.val (.int p1), .val (.int p2), .val (.int p3), .val (.int p4), .val (.ref ta), .val (.ref tb), .val (.ref wS), .val (.int (0 : Int32)), .val (.ref d), .val (.int (1 : Int32)), .val (.int (0 : Int32))] [(.int (1 : Int32))])) (fun t₀ k₀ => ?_) ?_
            · show Steps p.tables e below (T43.setTop (mkF m 116 #[.val (.int p1), .val (.int p2), .val (.int p3), .val (.int p4), .val (.ref ta), .val (.ref tb), .val (.ref wS), .val (.int (0 : Int32)), .val (.ref d), .val (.int (1 : Int32)), .val (.int (0 : Int32))] [(.int (0 : Int32))])) t₀
              refine XS.iload X43.here hx rfl (hb hby at_116) rfl ?_
              show Steps p.tables e below (T43.setTop (mkF m 118 #[.val (.int p1), .val (.int p2), .val (.int p3), .val (.int p4), .val (.ref ta), .val (.ref tb), .val (.ref wS), .val (.int (0 : Int32)), .val (.ref d), .val (.int (1 : Int32)), .val (.int (0 : Int32))] [(.int (0 : Int32)), (.int (0 : Int32))])) t₀
              refine XS.icmpNo X43.here hx rfl (hb hby at_118) rfl (teq (by decide : ((0 : Int32) = (0 : Int32)))).2 ?_
              show Steps p.tables e below (T43.setTop (mkF m 121 #[.val (.int p1), .val (.int p2), .val (.int p3), .val (.int p4), .val (.ref ta), .val (.ref tb), .val (.ref wS), .val (.int (0 : Int32)), .val (.ref d), .val (.int (1 : Int32)), .val (.int (0 : Int32))] [])) t₀
              refine XS.iconst X43.here hx rfl (hb hby at_121) ?_
              show Steps p.tables e below (T43.setTop (mkF m 122 #[.val (.int p1), .val (.int p2), .val (.int p3), .val (.int p4), .val (.ref ta), .val (.ref tb), .val (.ref wS), .val (.int (0 : Int32)), .val (.ref d), .val (.int (1 : Int32)), .val (.int (0 : Int32))] [(.int (1 : Int32))])) t₀
              refine XS.goto X43.here hx rfl (pc0 := 122) (pc' := 126) rfl (hb hby at_122) (by decide) (by decide) ?_
              exact k₀
            refine hF _ T43 _ _ _ (some (.int (1 : Int32))) _ X43 e43 (fun h => by rw [hrt] at h; cases h) (by decide) (by decide) ?_ (fun fs hr => retN X43 hx (t := .boolean) hrt (by simp) (hb hby at_126) hr)
            exact ⟨rfl, N43⟩
        ·
          refine hG _ (T39.setTop (mkF m 80 #[.val (.int p1), .val (.int p2), .val (.int p3), .val (.int p4), .val (.ref ta), .val (.ref tb), .val (.ref wS), .val (.int (0 : Int32)), .val (.ref d), .val (.int (0 : Int32)), .unset] [(.ref ta)])) (fun t₀ k₀ => ?_) ?_
          · show Steps p.tables e below (T39.setTop (mkF m 68 #[.val (.int p1), .val (.int p2), .val (.int p3), .val (.int p4), .val (.ref ta), .val (.ref tb), .val (.ref wS), .val (.int (0 : Int32)), .val (.ref d), .unset, .unset] [(.ref wPF), (.ref tb)])) t₀
            refine Jvm.RoadKit.acmp (g := (mkF m 68 #[.val (.int p1), .val (.int p2), .val (.int p3), .val (.int p4), .val (.ref ta), .val (.ref tb), .val (.ref wS), .val (.int (0 : Int32)), .val (.ref d), .unset, .unset] [(.ref wPF), (.ref tb)])) X39 hx rfl rfl rfl (pc0 := 68) (pc' := 75) (same := false) rfl (hb hby at_68) rfl (decide_eq_false fun q => hc68 (Value.ref.inj q)) (by decide) (by decide) ?_
            show Steps p.tables e below (T39.setTop (mkF m 75 #[.val (.int p1), .val (.int p2), .val (.int p3), .val (.int p4), .val (.ref ta), .val (.ref tb), .val (.ref wS), .val (.int (0 : Int32)), .val (.ref d), .unset, .unset] [])) t₀
            refine XS.iconst X39.here hx rfl (hb hby at_75) ?_
            show Steps p.tables e below (T39.setTop (mkF m 76 #[.val (.int p1), .val (.int p2), .val (.int p3), .val (.int p4), .val (.ref ta), .val (.ref tb), .val (.ref wS), .val (.int (0 : Int32)), .val (.ref d), .unset, .unset] [(.int (0 : Int32))])) t₀
            refine XS.istore X39.here hx rfl (hb hby at_76) rfl (l' := #[.val (.int p1), .val (.int p2), .val (.int p3), .val (.int p4), .val (.ref ta), .val (.ref tb), .val (.ref wS), .val (.int (0 : Int32)), .val (.ref d), .val (.int (0 : Int32)), .unset]) rfl ?_
            show Steps p.tables e below (T39.setTop (mkF m 78 #[.val (.int p1), .val (.int p2), .val (.int p3), .val (.int p4), .val (.ref ta), .val (.ref tb), .val (.ref wS), .val (.int (0 : Int32)), .val (.ref d), .val (.int (0 : Int32)), .unset] [])) t₀
            refine XS.aload X39.here hx rfl (hb hby at_78) rfl rfl ?_
            exact k₀
          obtain ⟨T44, X44, e44, st44⟩ := getS2 X39 hx hZ hown (host := "") (Or.inl (hw _ (List.mem_of_getElem? (i := 8) rfl))) Via.refl e39 S_KONS (g := (mkF m 80 #[.val (.int p1), .val (.int p2), .val (.int p3), .val (.int p4), .val (.ref ta), .val (.ref tb), .val (.ref wS), .val (.int (0 : Int32)), .val (.ref d), .val (.int (0 : Int32)), .unset] [(.ref ta)])) rfl (hb hby at_80)
          refine hG _ _ (fun t₀ k₀ => st44 _ k₀) ?_
          show G (T44.setTop (mkF m 83 #[.val (.int p1), .val (.int p2), .val (.int p3), .val (.int p4), .val (.ref ta), .val (.ref tb), .val (.ref wS), .val (.int (0 : Int32)), .val (.ref d), .val (.int (0 : Int32)), .unset] [(.ref wKO), (.ref ta)]))
          by_cases hc83 : ta = wKO
          ·
            refine hG _ (T44.setTop (mkF m 113 #[.val (.int p1), .val (.int p2), .val (.int p3), .val (.int p4), .val (.ref ta), .val (.ref tb), .val (.ref wS), .val (.int (0 : Int32)), .val (.ref d), .val (.int (0 : Int32)), .val (.int (0 : Int32))] [(.ref d)])) (fun t₀ k₀ => ?_) ?_
            · show Steps p.tables e below (T44.setTop (mkF m 83 #[.val (.int p1), .val (.int p2), .val (.int p3), .val (.int p4), .val (.ref ta), .val (.ref tb), .val (.ref wS), .val (.int (0 : Int32)), .val (.ref d), .val (.int (0 : Int32)), .unset] [(.ref wKO), (.ref ta)])) t₀
              refine Jvm.RoadKit.acmp (g := (mkF m 83 #[.val (.int p1), .val (.int p2), .val (.int p3), .val (.int p4), .val (.ref ta), .val (.ref tb), .val (.ref wS), .val (.int (0 : Int32)), .val (.ref d), .val (.int (0 : Int32)), .unset] [(.ref wKO), (.ref ta)])) X44 hx rfl rfl rfl (pc0 := 83) (pc' := 86) (same := true) rfl (hb hby at_83) rfl (decide_eq_true (congrArg Value.ref hc83)) (by decide) (by decide) ?_
              show Steps p.tables e below (T44.setTop (mkF m 86 #[.val (.int p1), .val (.int p2), .val (.int p3), .val (.int p4), .val (.ref ta), .val (.ref tb), .val (.ref wS), .val (.int (0 : Int32)), .val (.ref d), .val (.int (0 : Int32)), .unset] [])) t₀
              refine XS.iload X44.here hx rfl (hb hby at_86) rfl ?_
              show Steps p.tables e below (T44.setTop (mkF m 88 #[.val (.int p1), .val (.int p2), .val (.int p3), .val (.int p4), .val (.ref ta), .val (.ref tb), .val (.ref wS), .val (.int (0 : Int32)), .val (.ref d), .val (.int (0 : Int32)), .unset] [(.int (0 : Int32))])) t₀
              refine XS.ifYes X44.here hx rfl (pc0 := 88) (pc' := 108) rfl (hb hby at_88) rfl ((if0 _ _).trans (teq (by decide : ((0 : Int32) = (0 : Int32)))).1) (by decide) (by decide) ?_
              show Steps p.tables e below (T44.setTop (mkF m 108 #[.val (.int p1), .val (.int p2), .val (.int p3), .val (.int p4), .val (.ref ta), .val (.ref tb), .val (.ref wS), .val (.int (0 : Int32)), .val (.ref d), .val (.int (0 : Int32)), .unset] [])) t₀
              refine XS.iconst X44.here hx rfl (hb hby at_108) ?_
              show Steps p.tables e below (T44.setTop (mkF m 109 #[.val (.int p1), .val (.int p2), .val (.int p3), .val (.int p4), .val (.ref ta), .val (.ref tb), .val (.ref wS), .val (.int (0 : Int32)), .val (.ref d), .val (.int (0 : Int32)), .unset] [(.int (0 : Int32))])) t₀
              refine XS.istore X44.here hx rfl (hb hby at_109) rfl (l' := #[.val (.int p1), .val (.int p2), .val (.int p3), .val (.int p4), .val (.ref ta), .val (.ref tb), .val (.ref wS), .val (.int (0 : Int32)), .val (.ref d), .val (.int (0 : Int32)), .val (.int (0 : Int32))]) rfl ?_
              show Steps p.tables e below (T44.setTop (mkF m 111 #[.val (.int p1), .val (.int p2), .val (.int p3), .val (.int p4), .val (.ref ta), .val (.ref tb), .val (.ref wS), .val (.int (0 : Int32)), .val (.ref d), .val (.int (0 : Int32)), .val (.int (0 : Int32))] [])) t₀
              refine XS.aload X44.here hx rfl (hb hby at_111) rfl rfl ?_
              exact k₀
            have hr : (if d = r7 ∨ d = r8 then (1 : Int32) else 0) = (0 : Int32) := by
              rw [hd]
              rw [hc83]
              exact if_neg (own_L2 ne_wKO_wOP ne_wKO_wAU (htb5.elim (fun z => absurd z hc60) fun z => z.elim (fun z => absurd z hc68) id) ne_r5_r7 ne_r5_r8 ne_r9_r7 ne_r9_r8 ne_r10_r7 ne_r10_r8)
            have hE : Exa Z h0 d "com/example/concordat/concordat/core/ConflictRule" := by
              rw [hd]; unfold own_dec; (repeat' split) <;> assumption
            obtain ⟨cq45, kq45, q45a, q45b, q45c⟩ := isOf hZ e44 hE
            obtain ⟨_, _, ⟨T45, L45, k45, n45⟩, -, X45, ⟨Lc45, hQ45, l45, y45, z45⟩, st45⟩ := X44.virtualBack hx (y := (⟨"com/example/concordat/concordat/core/ConflictRule", "holderReleases", "()Z"⟩ : MethodName)) (z := (⟨"com/example/concordat/concordat/core/ConflictRule", "holderReleases", "()Z"⟩ : MethodName)) hown (mvT hZ (hw _ (List.mem_of_getElem? (i := 26) rfl))) (mvT hZ (hw _ (List.mem_of_getElem? (i := 27) rfl))) (notFace_of_selects (args := #[]) (mvT hZ (hw _ (List.mem_of_getElem? (i := 29) rfl)))) (mvT hZ (hw _ (List.mem_of_getElem? (i := 29) rfl))) (mvT hZ (hw _ (List.mem_of_getElem? (i := 28) rfl))) (by decide) (backOf (W := 0) (rm3 l Z a0 hw [] d r7 r8 (0 : Int32) h0 n0 Z0 S_R7 S_R8 hr) hZ (hw _ (List.mem_of_getElem? (i := 30) rfl)) (hw _ (List.mem_of_getElem? (i := 15) rfl)) (by decide) (by decide)) q45a q45c (g := (mkF m 113 #[.val (.int p1), .val (.int p2), .val (.int p3), .val (.int p4), .val (.ref ta), .val (.ref tb), .val (.ref wS), .val (.int (0 : Int32)), .val (.ref d), .val (.int (0 : Int32)), .val (.int (0 : Int32))] [(.ref d)])) rfl (by rw [hml]; rfl) (Steps.refl _) (argsL := []) (rest := []) (lenOf pd_2 rfl) rfl (by show 2 * 0 + _ ≤ _; exact Nat.le_of_eq rfl) (hb hby at_113) (fun _ _ => ⟨rfl, e44, (by decide : 0 + 0 ≤ _), (by decide : 0 + 0 ≤ _)⟩)
            dsimp only [Pt.U, Pt.locs, Pt.cells, Pt.slots] at X45 l45 y45 z45 st45 hQ45
            subst l45 y45 z45
            obtain ⟨rfl, N45q, e45⟩ := hQ45
            have N45 := Fr.app N33 N45q
            refine hG _ _ (fun t₀ k₀ => st45.trans k₀) ?_
            show G (T45.setTop (mkF m 116 #[.val (.int p1), .val (.int p2), .val (.int p3), .val (.int p4), .val (.ref ta), .val (.ref tb), .val (.ref wS), .val (.int (0 : Int32)), .val (.ref d), .val (.int (0 : Int32)), .val (.int (0 : Int32))] [(.int (0 : Int32))]))
            refine hG _ (T45.setTop (mkF m 126 #[.val (.int p1), .val (.int p2), .val (.int p3), .val (.int p4), .val (.ref ta), .val (.ref tb), .val (.ref wS), .val (.int (0 : Int32)), .val (.ref d), .val (.int (0 : Int32)), .val (.int (0 : Int32))] [(.int (1 : Int32))])) (fun t₀ k₀ => ?_) ?_
            · show Steps p.tables e below (T45.setTop (mkF m 116 #[.val (.int p1), .val (.int p2), .val (.int p3), .val (.int p4), .val (.ref ta), .val (.ref tb), .val (.ref wS), .val (.int (0 : Int32)), .val (.ref d), .val (.int (0 : Int32)), .val (.int (0 : Int32))] [(.int (0 : Int32))])) t₀
              refine XS.iload X45.here hx rfl (hb hby at_116) rfl ?_
              show Steps p.tables e below (T45.setTop (mkF m 118 #[.val (.int p1), .val (.int p2), .val (.int p3), .val (.int p4), .val (.ref ta), .val (.ref tb), .val (.ref wS), .val (.int (0 : Int32)), .val (.ref d), .val (.int (0 : Int32)), .val (.int (0 : Int32))] [(.int (0 : Int32)), (.int (0 : Int32))])) t₀
              refine XS.icmpNo X45.here hx rfl (hb hby at_118) rfl (teq (by decide : ((0 : Int32) = (0 : Int32)))).2 ?_
              show Steps p.tables e below (T45.setTop (mkF m 121 #[.val (.int p1), .val (.int p2), .val (.int p3), .val (.int p4), .val (.ref ta), .val (.ref tb), .val (.ref wS), .val (.int (0 : Int32)), .val (.ref d), .val (.int (0 : Int32)), .val (.int (0 : Int32))] [])) t₀
              refine XS.iconst X45.here hx rfl (hb hby at_121) ?_
              show Steps p.tables e below (T45.setTop (mkF m 122 #[.val (.int p1), .val (.int p2), .val (.int p3), .val (.int p4), .val (.ref ta), .val (.ref tb), .val (.ref wS), .val (.int (0 : Int32)), .val (.ref d), .val (.int (0 : Int32)), .val (.int (0 : Int32))] [(.int (1 : Int32))])) t₀
              refine XS.goto X45.here hx rfl (pc0 := 122) (pc' := 126) rfl (hb hby at_122) (by decide) (by decide) ?_
              exact k₀
            refine hF _ T45 _ _ _ (some (.int (1 : Int32))) _ X45 e45 (fun h => by rw [hrt] at h; cases h) (by decide) (by decide) ?_ (fun fs hr => retN X45 hx (t := .boolean) hrt (by simp) (hb hby at_126) hr)
            exact ⟨rfl, N45⟩
          ·
            refine hG _ (T44.setTop (mkF m 113 #[.val (.int p1), .val (.int p2), .val (.int p3), .val (.int p4), .val (.ref ta), .val (.ref tb), .val (.ref wS), .val (.int (0 : Int32)), .val (.ref d), .val (.int (0 : Int32)), .val (.int (0 : Int32))] [(.ref d)])) (fun t₀ k₀ => ?_) ?_
            · show Steps p.tables e below (T44.setTop (mkF m 83 #[.val (.int p1), .val (.int p2), .val (.int p3), .val (.int p4), .val (.ref ta), .val (.ref tb), .val (.ref wS), .val (.int (0 : Int32)), .val (.ref d), .val (.int (0 : Int32)), .unset] [(.ref wKO), (.ref ta)])) t₀
              refine Jvm.RoadKit.acmp (g := (mkF m 83 #[.val (.int p1), .val (.int p2), .val (.int p3), .val (.int p4), .val (.ref ta), .val (.ref tb), .val (.ref wS), .val (.int (0 : Int32)), .val (.ref d), .val (.int (0 : Int32)), .unset] [(.ref wKO), (.ref ta)])) X44 hx rfl rfl rfl (pc0 := 83) (pc' := 108) (same := false) rfl (hb hby at_83) rfl (decide_eq_false fun q => hc83 (Value.ref.inj q)) (by decide) (by decide) ?_
              show Steps p.tables e below (T44.setTop (mkF m 108 #[.val (.int p1), .val (.int p2), .val (.int p3), .val (.int p4), .val (.ref ta), .val (.ref tb), .val (.ref wS), .val (.int (0 : Int32)), .val (.ref d), .val (.int (0 : Int32)), .unset] [])) t₀
              refine XS.iconst X44.here hx rfl (hb hby at_108) ?_
              show Steps p.tables e below (T44.setTop (mkF m 109 #[.val (.int p1), .val (.int p2), .val (.int p3), .val (.int p4), .val (.ref ta), .val (.ref tb), .val (.ref wS), .val (.int (0 : Int32)), .val (.ref d), .val (.int (0 : Int32)), .unset] [(.int (0 : Int32))])) t₀
              refine XS.istore X44.here hx rfl (hb hby at_109) rfl (l' := #[.val (.int p1), .val (.int p2), .val (.int p3), .val (.int p4), .val (.ref ta), .val (.ref tb), .val (.ref wS), .val (.int (0 : Int32)), .val (.ref d), .val (.int (0 : Int32)), .val (.int (0 : Int32))]) rfl ?_
              show Steps p.tables e below (T44.setTop (mkF m 111 #[.val (.int p1), .val (.int p2), .val (.int p3), .val (.int p4), .val (.ref ta), .val (.ref tb), .val (.ref wS), .val (.int (0 : Int32)), .val (.ref d), .val (.int (0 : Int32)), .val (.int (0 : Int32))] [])) t₀
              refine XS.aload X44.here hx rfl (hb hby at_111) rfl rfl ?_
              exact k₀
            have hr : (if d = r7 ∨ d = r8 then (1 : Int32) else 0) = (0 : Int32) := by
              rw [hd]
              exact if_neg (own_L1 hc83 ne_r3_r7 ne_r3_r8 ne_r4_r7 ne_r4_r8 ne_r9_r7 ne_r9_r8 ne_r10_r7 ne_r10_r8)
            have hE : Exa Z h0 d "com/example/concordat/concordat/core/ConflictRule" := by
              rw [hd]; unfold own_dec; (repeat' split) <;> assumption
            obtain ⟨cq46, kq46, q46a, q46b, q46c⟩ := isOf hZ e44 hE
            obtain ⟨_, _, ⟨T46, L46, k46, n46⟩, -, X46, ⟨Lc46, hQ46, l46, y46, z46⟩, st46⟩ := X44.virtualBack hx (y := (⟨"com/example/concordat/concordat/core/ConflictRule", "holderReleases", "()Z"⟩ : MethodName)) (z := (⟨"com/example/concordat/concordat/core/ConflictRule", "holderReleases", "()Z"⟩ : MethodName)) hown (mvT hZ (hw _ (List.mem_of_getElem? (i := 26) rfl))) (mvT hZ (hw _ (List.mem_of_getElem? (i := 27) rfl))) (notFace_of_selects (args := #[]) (mvT hZ (hw _ (List.mem_of_getElem? (i := 29) rfl)))) (mvT hZ (hw _ (List.mem_of_getElem? (i := 29) rfl))) (mvT hZ (hw _ (List.mem_of_getElem? (i := 28) rfl))) (by decide) (backOf (W := 0) (rm3 l Z a0 hw [] d r7 r8 (0 : Int32) h0 n0 Z0 S_R7 S_R8 hr) hZ (hw _ (List.mem_of_getElem? (i := 30) rfl)) (hw _ (List.mem_of_getElem? (i := 15) rfl)) (by decide) (by decide)) q46a q46c (g := (mkF m 113 #[.val (.int p1), .val (.int p2), .val (.int p3), .val (.int p4), .val (.ref ta), .val (.ref tb), .val (.ref wS), .val (.int (0 : Int32)), .val (.ref d), .val (.int (0 : Int32)), .val (.int (0 : Int32))] [(.ref d)])) rfl (by rw [hml]; rfl) (Steps.refl _) (argsL := []) (rest := []) (lenOf pd_2 rfl) rfl (by show 2 * 0 + _ ≤ _; exact Nat.le_of_eq rfl) (hb hby at_113) (fun _ _ => ⟨rfl, e44, (by decide : 0 + 0 ≤ _), (by decide : 0 + 0 ≤ _)⟩)
            dsimp only [Pt.U, Pt.locs, Pt.cells, Pt.slots] at X46 l46 y46 z46 st46 hQ46
            subst l46 y46 z46
            obtain ⟨rfl, N46q, e46⟩ := hQ46
            have N46 := Fr.app N33 N46q
            refine hG _ _ (fun t₀ k₀ => st46.trans k₀) ?_
            show G (T46.setTop (mkF m 116 #[.val (.int p1), .val (.int p2), .val (.int p3), .val (.int p4), .val (.ref ta), .val (.ref tb), .val (.ref wS), .val (.int (0 : Int32)), .val (.ref d), .val (.int (0 : Int32)), .val (.int (0 : Int32))] [(.int (0 : Int32))]))
            refine hG _ (T46.setTop (mkF m 126 #[.val (.int p1), .val (.int p2), .val (.int p3), .val (.int p4), .val (.ref ta), .val (.ref tb), .val (.ref wS), .val (.int (0 : Int32)), .val (.ref d), .val (.int (0 : Int32)), .val (.int (0 : Int32))] [(.int (1 : Int32))])) (fun t₀ k₀ => ?_) ?_
            · show Steps p.tables e below (T46.setTop (mkF m 116 #[.val (.int p1), .val (.int p2), .val (.int p3), .val (.int p4), .val (.ref ta), .val (.ref tb), .val (.ref wS), .val (.int (0 : Int32)), .val (.ref d), .val (.int (0 : Int32)), .val (.int (0 : Int32))] [(.int (0 : Int32))])) t₀
              refine XS.iload X46.here hx rfl (hb hby at_116) rfl ?_
              show Steps p.tables e below (T46.setTop (mkF m 118 #[.val (.int p1), .val (.int p2), .val (.int p3), .val (.int p4), .val (.ref ta), .val (.ref tb), .val (.ref wS), .val (.int (0 : Int32)), .val (.ref d), .val (.int (0 : Int32)), .val (.int (0 : Int32))] [(.int (0 : Int32)), (.int (0 : Int32))])) t₀
              refine XS.icmpNo X46.here hx rfl (hb hby at_118) rfl (teq (by decide : ((0 : Int32) = (0 : Int32)))).2 ?_
              show Steps p.tables e below (T46.setTop (mkF m 121 #[.val (.int p1), .val (.int p2), .val (.int p3), .val (.int p4), .val (.ref ta), .val (.ref tb), .val (.ref wS), .val (.int (0 : Int32)), .val (.ref d), .val (.int (0 : Int32)), .val (.int (0 : Int32))] [])) t₀
              refine XS.iconst X46.here hx rfl (hb hby at_121) ?_
              show Steps p.tables e below (T46.setTop (mkF m 122 #[.val (.int p1), .val (.int p2), .val (.int p3), .val (.int p4), .val (.ref ta), .val (.ref tb), .val (.ref wS), .val (.int (0 : Int32)), .val (.ref d), .val (.int (0 : Int32)), .val (.int (0 : Int32))] [(.int (1 : Int32))])) t₀
              refine XS.goto X46.here hx rfl (pc0 := 122) (pc' := 126) rfl (hb hby at_122) (by decide) (by decide) ?_
              exact k₀
            refine hF _ T46 _ _ _ (some (.int (1 : Int32))) _ X46 e46 (fun h => by rw [hrt] at h; cases h) (by decide) (by decide) ?_ (fun fs hr => retN X46 hx (t := .boolean) hrt (by simp) (hb hby at_126) hr)
            exact ⟨rfl, N46⟩
    ·
      refine hG _ (T32.setTop (mkF m 50 #[.val (.int p1), .val (.int p2), .val (.int p3), .val (.int p4), .val (.ref ta), .val (.ref tb), .val (.ref wS), .val (.int (1 : Int32)), .unset, .unset, .unset] [(.int (1 : Int32)), (.ref wS), (.ref tb), (.ref ta)])) (fun t₀ k₀ => ?_) ?_
      · show Steps p.tables e below (T32.setTop (mkF m 32 #[.val (.int p1), .val (.int p2), .val (.int p3), .val (.int p4), .val (.ref ta), .val (.ref tb), .val (.ref wS), .unset, .unset, .unset, .unset] [(.int (p4 &&& (1 : Int32)))])) t₀
        refine XS.ifNo X32.here hx rfl (hb hby at_32) rfl ((if0 _ _).trans (feq hc32).1) ?_
        show Steps p.tables e below (T32.setTop (mkF m 35 #[.val (.int p1), .val (.int p2), .val (.int p3), .val (.int p4), .val (.ref ta), .val (.ref tb), .val (.ref wS), .unset, .unset, .unset, .unset] [])) t₀
        refine XS.iconst X32.here hx rfl (hb hby at_35) ?_
        show Steps p.tables e below (T32.setTop (mkF m 36 #[.val (.int p1), .val (.int p2), .val (.int p3), .val (.int p4), .val (.ref ta), .val (.ref tb), .val (.ref wS), .unset, .unset, .unset, .unset] [(.int (1 : Int32))])) t₀
        refine XS.goto X32.here hx rfl (pc0 := 36) (pc' := 40) rfl (hb hby at_36) (by decide) (by decide) ?_
        show Steps p.tables e below (T32.setTop (mkF m 40 #[.val (.int p1), .val (.int p2), .val (.int p3), .val (.int p4), .val (.ref ta), .val (.ref tb), .val (.ref wS), .unset, .unset, .unset, .unset] [(.int (1 : Int32))])) t₀
        refine XS.istore X32.here hx rfl (hb hby at_40) rfl (l' := #[.val (.int p1), .val (.int p2), .val (.int p3), .val (.int p4), .val (.ref ta), .val (.ref tb), .val (.ref wS), .val (.int (1 : Int32)), .unset, .unset, .unset]) rfl ?_
        show Steps p.tables e below (T32.setTop (mkF m 42 #[.val (.int p1), .val (.int p2), .val (.int p3), .val (.int p4), .val (.ref ta), .val (.ref tb), .val (.ref wS), .val (.int (1 : Int32)), .unset, .unset, .unset] [])) t₀
        refine XS.aload X32.here hx rfl (hb hby at_42) rfl rfl ?_
        show Steps p.tables e below (T32.setTop (mkF m 44 #[.val (.int p1), .val (.int p2), .val (.int p3), .val (.int p4), .val (.ref ta), .val (.ref tb), .val (.ref wS), .val (.int (1 : Int32)), .unset, .unset, .unset] [(.ref ta)])) t₀
        refine XS.aload X32.here hx rfl (hb hby at_44) rfl rfl ?_
        show Steps p.tables e below (T32.setTop (mkF m 46 #[.val (.int p1), .val (.int p2), .val (.int p3), .val (.int p4), .val (.ref ta), .val (.ref tb), .val (.ref wS), .val (.int (1 : Int32)), .unset, .unset, .unset] [(.ref tb), (.ref ta)])) t₀
        refine XS.aload X32.here hx rfl (hb hby at_46) rfl rfl ?_
        show Steps p.tables e below (T32.setTop (mkF m 48 #[.val (.int p1), .val (.int p2), .val (.int p3), .val (.int p4), .val (.ref ta), .val (.ref tb), .val (.ref wS), .val (.int (1 : Int32)), .unset, .unset, .unset] [(.ref wS), (.ref tb), (.ref ta)])) t₀
        refine XS.iload X32.here hx rfl (hb hby at_48) rfl ?_
        exact k₀
      obtain ⟨_, _, ⟨T47, L47, k47, n47⟩, -, X47, ⟨Lc47, hQ47, l47, y47, z47⟩, st47⟩ := Jvm.LawKit.callS X32 hx (y := (⟨"com/example/concordat/concordat/core/ConflictRule", "deciding", "(Lcom/example/concordat/concordat/core/TransactionType;Lcom/example/concordat/concordat/core/TransactionType;Lcom/example/concordat/concordat/core/DocumentObject;Z)Lcom/example/concordat/concordat/core/ConflictRule;"⟩ : MethodName)) hown (mvT hZ (hw _ (List.mem_of_getElem? (i := 13) rfl))) (mvT hZ (hw _ (List.mem_of_getElem? (i := 14) rfl))) (mvT hZ (hw _ (List.mem_of_getElem? (i := 15) rfl))) (mvT hZ (hw _ (List.mem_of_getElem? (i := 16) rfl))) (by decide) (backOf (W := 0) (rm2 l Z a0 hw [] ta tb wS (1 : Int32) wOP wKO wAU wS r3 r4 r5 r6 r7 r8 r9 r10 h0 n0 Z0 S_OPT_AKT S_KONS S_AUTO S_STATUS S_R3 S_R4 S_R5 S_R6 S_R7 S_R8 S_R9 S_R10) hZ (hw _ (List.mem_of_getElem? (i := 16) rfl)) (hw _ (List.mem_of_getElem? (i := 15) rfl)) (by decide) (by decide)) (g := (mkF m 50 #[.val (.int p1), .val (.int p2), .val (.int p3), .val (.int p4), .val (.ref ta), .val (.ref tb), .val (.ref wS), .val (.int (1 : Int32)), .unset, .unset, .unset] [(.int (1 : Int32)), (.ref wS), (.ref tb), (.ref ta)])) rfl (by rw [hml]; rfl) (argsL := [(.ref ta), (.ref tb), (.ref wS), (.int (1 : Int32))]) (rest := []) (lenOf pd_1 rfl) rfl (by show 2 * 0 + _ ≤ _; exact Nat.le_of_eq rfl) (hb hby at_50) (fun _ _ => ⟨rfl, e32, (by decide : 0 + 0 ≤ _), (by decide : 0 + 0 ≤ _)⟩)
      dsimp only [Pt.U, Pt.locs, Pt.cells, Pt.slots] at X47 l47 y47 z47 st47 hQ47
      subst l47 y47 z47
      obtain ⟨rfl, N47q, e47⟩ := hQ47
      have N47 := Fr.app N2 N47q
      refine hG _ _ (fun t₀ k₀ => st47 _ k₀) ?_
      show G (T47.setTop (mkF m 53 #[.val (.int p1), .val (.int p2), .val (.int p3), .val (.int p4), .val (.ref ta), .val (.ref tb), .val (.ref wS), .val (.int (1 : Int32)), .unset, .unset, .unset] [(.ref (own_dec wOP wKO wAU wS r3 r4 r5 r6 r7 r8 r9 r10 ta tb wS (1 : Int32)))]))
      obtain ⟨d, hd⟩ : ∃ z, z = (own_dec wOP wKO wAU wS r3 r4 r5 r6 r7 r8 r9 r10 ta tb wS (1 : Int32)) := ⟨_, rfl⟩
      rw [← hd]
      show G (T47.setTop (mkF m 53 #[.val (.int p1), .val (.int p2), .val (.int p3), .val (.int p4), .val (.ref ta), .val (.ref tb), .val (.ref wS), .val (.int (1 : Int32)), .unset, .unset, .unset] [(.ref d)]))
      refine hG _ (T47.setTop (mkF m 57 #[.val (.int p1), .val (.int p2), .val (.int p3), .val (.int p4), .val (.ref ta), .val (.ref tb), .val (.ref wS), .val (.int (1 : Int32)), .val (.ref d), .unset, .unset] [(.ref tb)])) (fun t₀ k₀ => ?_) ?_
      · show Steps p.tables e below (T47.setTop (mkF m 53 #[.val (.int p1), .val (.int p2), .val (.int p3), .val (.int p4), .val (.ref ta), .val (.ref tb), .val (.ref wS), .val (.int (1 : Int32)), .unset, .unset, .unset] [(.ref d)])) t₀
        refine XS.astore X47.here hx rfl (hb hby at_53) rfl rfl (l' := #[.val (.int p1), .val (.int p2), .val (.int p3), .val (.int p4), .val (.ref ta), .val (.ref tb), .val (.ref wS), .val (.int (1 : Int32)), .val (.ref d), .unset, .unset]) rfl ?_
        show Steps p.tables e below (T47.setTop (mkF m 55 #[.val (.int p1), .val (.int p2), .val (.int p3), .val (.int p4), .val (.ref ta), .val (.ref tb), .val (.ref wS), .val (.int (1 : Int32)), .val (.ref d), .unset, .unset] [])) t₀
        refine XS.aload X47.here hx rfl (hb hby at_55) rfl rfl ?_
        exact k₀
      obtain ⟨T48, X48, e48, st48⟩ := getS2 X47 hx hZ hown (host := "") (Or.inl (hw _ (List.mem_of_getElem? (i := 5) rfl))) Via.refl e47 S_PESS_AKT (g := (mkF m 57 #[.val (.int p1), .val (.int p2), .val (.int p3), .val (.int p4), .val (.ref ta), .val (.ref tb), .val (.ref wS), .val (.int (1 : Int32)), .val (.ref d), .unset, .unset] [(.ref tb)])) rfl (hb hby at_57)
      refine hG _ _ (fun t₀ k₀ => st48 _ k₀) ?_
      show G (T48.setTop (mkF m 60 #[.val (.int p1), .val (.int p2), .val (.int p3), .val (.int p4), .val (.ref ta), .val (.ref tb), .val (.ref wS), .val (.int (1 : Int32)), .val (.ref d), .unset, .unset] [(.ref wPA), (.ref tb)]))
      by_cases hc60 : tb = wPA
      ·
        refine hG _ (T48.setTop (mkF m 80 #[.val (.int p1), .val (.int p2), .val (.int p3), .val (.int p4), .val (.ref ta), .val (.ref tb), .val (.ref wS), .val (.int (1 : Int32)), .val (.ref d), .val (.int (1 : Int32)), .unset] [(.ref ta)])) (fun t₀ k₀ => ?_) ?_
        · show Steps p.tables e below (T48.setTop (mkF m 60 #[.val (.int p1), .val (.int p2), .val (.int p3), .val (.int p4), .val (.ref ta), .val (.ref tb), .val (.ref wS), .val (.int (1 : Int32)), .val (.ref d), .unset, .unset] [(.ref wPA), (.ref tb)])) t₀
          refine Jvm.RoadKit.acmp (g := (mkF m 60 #[.val (.int p1), .val (.int p2), .val (.int p3), .val (.int p4), .val (.ref ta), .val (.ref tb), .val (.ref wS), .val (.int (1 : Int32)), .val (.ref d), .unset, .unset] [(.ref wPA), (.ref tb)])) X48 hx rfl rfl rfl (pc0 := 60) (pc' := 71) (same := true) rfl (hb hby at_60) rfl (decide_eq_true (congrArg Value.ref hc60)) (by decide) (by decide) ?_
          show Steps p.tables e below (T48.setTop (mkF m 71 #[.val (.int p1), .val (.int p2), .val (.int p3), .val (.int p4), .val (.ref ta), .val (.ref tb), .val (.ref wS), .val (.int (1 : Int32)), .val (.ref d), .unset, .unset] [])) t₀
          refine XS.iconst X48.here hx rfl (hb hby at_71) ?_
          show Steps p.tables e below (T48.setTop (mkF m 72 #[.val (.int p1), .val (.int p2), .val (.int p3), .val (.int p4), .val (.ref ta), .val (.ref tb), .val (.ref wS), .val (.int (1 : Int32)), .val (.ref d), .unset, .unset] [(.int (1 : Int32))])) t₀
          refine XS.goto X48.here hx rfl (pc0 := 72) (pc' := 76) rfl (hb hby at_72) (by decide) (by decide) ?_
          show Steps p.tables e below (T48.setTop (mkF m 76 #[.val (.int p1), .val (.int p2), .val (.int p3), .val (.int p4), .val (.ref ta), .val (.ref tb), .val (.ref wS), .val (.int (1 : Int32)), .val (.ref d), .unset, .unset] [(.int (1 : Int32))])) t₀
          refine XS.istore X48.here hx rfl (hb hby at_76) rfl (l' := #[.val (.int p1), .val (.int p2), .val (.int p3), .val (.int p4), .val (.ref ta), .val (.ref tb), .val (.ref wS), .val (.int (1 : Int32)), .val (.ref d), .val (.int (1 : Int32)), .unset]) rfl ?_
          show Steps p.tables e below (T48.setTop (mkF m 78 #[.val (.int p1), .val (.int p2), .val (.int p3), .val (.int p4), .val (.ref ta), .val (.ref tb), .val (.ref wS), .val (.int (1 : Int32)), .val (.ref d), .val (.int (1 : Int32)), .unset] [])) t₀
          refine XS.aload X48.here hx rfl (hb hby at_78) rfl rfl ?_
          exact k₀
        obtain ⟨T49, X49, e49, st49⟩ := getS2 X48 hx hZ hown (host := "") (Or.inl (hw _ (List.mem_of_getElem? (i := 8) rfl))) Via.refl e48 S_KONS (g := (mkF m 80 #[.val (.int p1), .val (.int p2), .val (.int p3), .val (.int p4), .val (.ref ta), .val (.ref tb), .val (.ref wS), .val (.int (1 : Int32)), .val (.ref d), .val (.int (1 : Int32)), .unset] [(.ref ta)])) rfl (hb hby at_80)
        refine hG _ _ (fun t₀ k₀ => st49 _ k₀) ?_
        show G (T49.setTop (mkF m 83 #[.val (.int p1), .val (.int p2), .val (.int p3), .val (.int p4), .val (.ref ta), .val (.ref tb), .val (.ref wS), .val (.int (1 : Int32)), .val (.ref d), .val (.int (1 : Int32)), .unset] [(.ref wKO), (.ref ta)]))
        by_cases hc83 : ta = wKO
        ·
          refine hG _ (T49.setTop (mkF m 93 #[.val (.int p1), .val (.int p2), .val (.int p3), .val (.int p4), .val (.ref ta), .val (.ref tb), .val (.ref wS), .val (.int (1 : Int32)), .val (.ref d), .val (.int (1 : Int32)), .unset] [(.ref wS)])) (fun t₀ k₀ => ?_) ?_
          · show Steps p.tables e below (T49.setTop (mkF m 83 #[.val (.int p1), .val (.int p2), .val (.int p3), .val (.int p4), .val (.ref ta), .val (.ref tb), .val (.ref wS), .val (.int (1 : Int32)), .val (.ref d), .val (.int (1 : Int32)), .unset] [(.ref wKO), (.ref ta)])) t₀
            refine Jvm.RoadKit.acmp (g := (mkF m 83 #[.val (.int p1), .val (.int p2), .val (.int p3), .val (.int p4), .val (.ref ta), .val (.ref tb), .val (.ref wS), .val (.int (1 : Int32)), .val (.ref d), .val (.int (1 : Int32)), .unset] [(.ref wKO), (.ref ta)])) X49 hx rfl rfl rfl (pc0 := 83) (pc' := 86) (same := true) rfl (hb hby at_83) rfl (decide_eq_true (congrArg Value.ref hc83)) (by decide) (by decide) ?_
            show Steps p.tables e below (T49.setTop (mkF m 86 #[.val (.int p1), .val (.int p2), .val (.int p3), .val (.int p4), .val (.ref ta), .val (.ref tb), .val (.ref wS), .val (.int (1 : Int32)), .val (.ref d), .val (.int (1 : Int32)), .unset] [])) t₀
            refine XS.iload X49.here hx rfl (hb hby at_86) rfl ?_
            show Steps p.tables e below (T49.setTop (mkF m 88 #[.val (.int p1), .val (.int p2), .val (.int p3), .val (.int p4), .val (.ref ta), .val (.ref tb), .val (.ref wS), .val (.int (1 : Int32)), .val (.ref d), .val (.int (1 : Int32)), .unset] [(.int (1 : Int32))])) t₀
            refine XS.ifNo X49.here hx rfl (hb hby at_88) rfl ((if0 _ _).trans (feq (by decide : ¬ ((1 : Int32) = (0 : Int32)))).1) ?_
            show Steps p.tables e below (T49.setTop (mkF m 91 #[.val (.int p1), .val (.int p2), .val (.int p3), .val (.int p4), .val (.ref ta), .val (.ref tb), .val (.ref wS), .val (.int (1 : Int32)), .val (.ref d), .val (.int (1 : Int32)), .unset] [])) t₀
            refine XS.aload X49.here hx rfl (hb hby at_91) rfl rfl ?_
            exact k₀
          obtain ⟨T50, X50, e50, st50⟩ := getS2 X49 hx hZ hown (host := "") (Or.inl (hw _ (List.mem_of_getElem? (i := 41) rfl))) Via.refl e49 S_STATUS (g := (mkF m 93 #[.val (.int p1), .val (.int p2), .val (.int p3), .val (.int p4), .val (.ref ta), .val (.ref tb), .val (.ref wS), .val (.int (1 : Int32)), .val (.ref d), .val (.int (1 : Int32)), .unset] [(.ref wS)])) rfl (hb hby at_93)
          refine hG _ _ (fun t₀ k₀ => st50 _ k₀) ?_
          show G (T50.setTop (mkF m 96 #[.val (.int p1), .val (.int p2), .val (.int p3), .val (.int p4), .val (.ref ta), .val (.ref tb), .val (.ref wS), .val (.int (1 : Int32)), .val (.ref d), .val (.int (1 : Int32)), .unset] [(.ref wS), (.ref wS)]))
          refine hG _ (T50.setTop (mkF m 113 #[.val (.int p1), .val (.int p2), .val (.int p3), .val (.int p4), .val (.ref ta), .val (.ref tb), .val (.ref wS), .val (.int (1 : Int32)), .val (.ref d), .val (.int (1 : Int32)), .val (.int (1 : Int32))] [(.ref d)])) (fun t₀ k₀ => ?_) ?_
          · show Steps p.tables e below (T50.setTop (mkF m 96 #[.val (.int p1), .val (.int p2), .val (.int p3), .val (.int p4), .val (.ref ta), .val (.ref tb), .val (.ref wS), .val (.int (1 : Int32)), .val (.ref d), .val (.int (1 : Int32)), .unset] [(.ref wS), (.ref wS)])) t₀
            refine Jvm.RoadKit.acmp (g := (mkF m 96 #[.val (.int p1), .val (.int p2), .val (.int p3), .val (.int p4), .val (.ref ta), .val (.ref tb), .val (.ref wS), .val (.int (1 : Int32)), .val (.ref d), .val (.int (1 : Int32)), .unset] [(.ref wS), (.ref wS)])) X50 hx rfl rfl rfl (pc0 := 96) (pc' := 104) (same := true) rfl (hb hby at_96) rfl (decide_eq_true (congrArg Value.ref rfl)) (by decide) (by decide) ?_
            show Steps p.tables e below (T50.setTop (mkF m 104 #[.val (.int p1), .val (.int p2), .val (.int p3), .val (.int p4), .val (.ref ta), .val (.ref tb), .val (.ref wS), .val (.int (1 : Int32)), .val (.ref d), .val (.int (1 : Int32)), .unset] [])) t₀
            refine XS.iconst X50.here hx rfl (hb hby at_104) ?_
            show Steps p.tables e below (T50.setTop (mkF m 105 #[.val (.int p1), .val (.int p2), .val (.int p3), .val (.int p4), .val (.ref ta), .val (.ref tb), .val (.ref wS), .val (.int (1 : Int32)), .val (.ref d), .val (.int (1 : Int32)), .unset] [(.int (1 : Int32))])) t₀
            refine XS.goto X50.here hx rfl (pc0 := 105) (pc' := 109) rfl (hb hby at_105) (by decide) (by decide) ?_
            show Steps p.tables e below (T50.setTop (mkF m 109 #[.val (.int p1), .val (.int p2), .val (.int p3), .val (.int p4), .val (.ref ta), .val (.ref tb), .val (.ref wS), .val (.int (1 : Int32)), .val (.ref d), .val (.int (1 : Int32)), .unset] [(.int (1 : Int32))])) t₀
            refine XS.istore X50.here hx rfl (hb hby at_109) rfl (l' := #[.val (.int p1), .val (.int p2), .val (.int p3), .val (.int p4), .val (.ref ta), .val (.ref tb), .val (.ref wS), .val (.int (1 : Int32)), .val (.ref d), .val (.int (1 : Int32)), .val (.int (1 : Int32))]) rfl ?_
            show Steps p.tables e below (T50.setTop (mkF m 111 #[.val (.int p1), .val (.int p2), .val (.int p3), .val (.int p4), .val (.ref ta), .val (.ref tb), .val (.ref wS), .val (.int (1 : Int32)), .val (.ref d), .val (.int (1 : Int32)), .val (.int (1 : Int32))] [])) t₀
            refine XS.aload X50.here hx rfl (hb hby at_111) rfl rfl ?_
            exact k₀
          have hr : (if d = r7 ∨ d = r8 then (1 : Int32) else 0) = (1 : Int32) := by
            rw [hd]
            rw [hc83, hc60, own_L3 ne_wKO_wOP ne_wKO_wAU ne_wPA_wOP ne_wPA_wAU ne_wPA_wKO]
            rw [if_pos rfl]
            exact if_pos (Or.inr rfl)
          have hE : Exa Z h0 d "com/example/concordat/concordat/core/ConflictRule" := by
            rw [hd]; unfold own_dec; (repeat' split) <;> assumption
          obtain ⟨cq51, kq51, q51a, q51b, q51c⟩ := isOf hZ e50 hE
          obtain ⟨_, _, ⟨T51, L51, k51, n51⟩, -, X51, ⟨Lc51, hQ51, l51, y51, z51⟩, st51⟩ := X50.virtualBack hx (y := (⟨"com/example/concordat/concordat/core/ConflictRule", "holderReleases", "()Z"⟩ : MethodName)) (z := (⟨"com/example/concordat/concordat/core/ConflictRule", "holderReleases", "()Z"⟩ : MethodName)) hown (mvT hZ (hw _ (List.mem_of_getElem? (i := 26) rfl))) (mvT hZ (hw _ (List.mem_of_getElem? (i := 27) rfl))) (notFace_of_selects (args := #[]) (mvT hZ (hw _ (List.mem_of_getElem? (i := 29) rfl)))) (mvT hZ (hw _ (List.mem_of_getElem? (i := 29) rfl))) (mvT hZ (hw _ (List.mem_of_getElem? (i := 28) rfl))) (by decide) (backOf (W := 0) (rm3 l Z a0 hw [] d r7 r8 (1 : Int32) h0 n0 Z0 S_R7 S_R8 hr) hZ (hw _ (List.mem_of_getElem? (i := 30) rfl)) (hw _ (List.mem_of_getElem? (i := 15) rfl)) (by decide) (by decide)) q51a q51c (g := (mkF m 113 #[.val (.int p1), .val (.int p2), .val (.int p3), .val (.int p4), .val (.ref ta), .val (.ref tb), .val (.ref wS), .val (.int (1 : Int32)), .val (.ref d), .val (.int (1 : Int32)), .val (.int (1 : Int32))] [(.ref d)])) rfl (by rw [hml]; rfl) (Steps.refl _) (argsL := []) (rest := []) (lenOf pd_2 rfl) rfl (by show 2 * 0 + _ ≤ _; exact Nat.le_of_eq rfl) (hb hby at_113) (fun _ _ => ⟨rfl, e50, (by decide : 0 + 0 ≤ _), (by decide : 0 + 0 ≤ _)⟩)
          dsimp only [Pt.U, Pt.locs, Pt.cells, Pt.slots] at X51 l51 y51 z51 st51 hQ51
          subst l51 y51 z51
          obtain ⟨rfl, N51q, e51⟩ := hQ51
          have N51 := Fr.app N47 N51q
          refine hG _ _ (fun t₀ k₀ => st51.trans k₀) ?_
          show G (T51.setTop (mkF m 116 #[.val (.int p1), .val (.int p2), .val (.int p3), .val (.int p4), .val (.ref ta), .val (.ref tb), .val (.ref wS), .val (.int (1 : Int32)), .val (.ref d), .val (.int (1 : Int32)), .val (.int (1 : Int32))] [(.int (1 : Int32))]))
          refine hG _ (T51.setTop (mkF m 126 #[.val (.int p1), .val (.int p2), .val (.int p3), .val (.int p4), .val (.ref ta), .val (.ref tb), .val (.ref wS), .val (.int (1 : Int32)), .val (.ref d), .val (.int (1 : Int32)), .val (.int (1 : Int32))] [(.int (1 : Int32))])) (fun t₀ k₀ => ?_) ?_
          · show Steps p.tables e below (T51.setTop (mkF m 116 #[.val (.int p1), .val (.int p2), .val (.int p3), .val (.int p4), .val (.ref ta), .val (.ref tb), .val (.ref wS), .val (.int (1 : Int32)), .val (.ref d), .val (.int (1 : Int32)), .val (.int (1 : Int32))] [(.int (1 : Int32))])) t₀
            refine XS.iload X51.here hx rfl (hb hby at_116) rfl ?_
            show Steps p.tables e below (T51.setTop (mkF m 118 #[.val (.int p1), .val (.int p2), .val (.int p3), .val (.int p4), .val (.ref ta), .val (.ref tb), .val (.ref wS), .val (.int (1 : Int32)), .val (.ref d), .val (.int (1 : Int32)), .val (.int (1 : Int32))] [(.int (1 : Int32)), (.int (1 : Int32))])) t₀
            refine XS.icmpNo X51.here hx rfl (hb hby at_118) rfl (teq (by decide : ((1 : Int32) = (1 : Int32)))).2 ?_
            show Steps p.tables e below (T51.setTop (mkF m 121 #[.val (.int p1), .val (.int p2), .val (.int p3), .val (.int p4), .val (.ref ta), .val (.ref tb), .val (.ref wS), .val (.int (1 : Int32)), .val (.ref d), .val (.int (1 : Int32)), .val (.int (1 : Int32))] [])) t₀
            refine XS.iconst X51.here hx rfl (hb hby at_121) ?_
            show Steps p.tables e below (T51.setTop (mkF m 122 #[.val (.int p1), .val (.int p2), .val (.int p3), .val (.int p4), .val (.ref ta), .val (.ref tb), .val (.ref wS), .val (.int (1 : Int32)), .val (.ref d), .val (.int (1 : Int32)), .val (.int (1 : Int32))] [(.int (1 : Int32))])) t₀
            refine XS.goto X51.here hx rfl (pc0 := 122) (pc' := 126) rfl (hb hby at_122) (by decide) (by decide) ?_
            exact k₀
          refine hF _ T51 _ _ _ (some (.int (1 : Int32))) _ X51 e51 (fun h => by rw [hrt] at h; cases h) (by decide) (by decide) ?_ (fun fs hr => retN X51 hx (t := .boolean) hrt (by simp) (hb hby at_126) hr)
          exact ⟨rfl, N51⟩
        ·
          refine hG _ (T49.setTop (mkF m 113 #[.val (.int p1), .val (.int p2), .val (.int p3), .val (.int p4), .val (.ref ta), .val (.ref tb), .val (.ref wS), .val (.int (1 : Int32)), .val (.ref d), .val (.int (1 : Int32)), .val (.int (0 : Int32))] [(.ref d)])) (fun t₀ k₀ => ?_) ?_
          · show Steps p.tables e below (T49.setTop (mkF m 83 #[.val (.int p1), .val (.int p2), .val (.int p3), .val (.int p4), .val (.ref ta), .val (.ref tb), .val (.ref wS), .val (.int (1 : Int32)), .val (.ref d), .val (.int (1 : Int32)), .unset] [(.ref wKO), (.ref ta)])) t₀
            refine Jvm.RoadKit.acmp (g := (mkF m 83 #[.val (.int p1), .val (.int p2), .val (.int p3), .val (.int p4), .val (.ref ta), .val (.ref tb), .val (.ref wS), .val (.int (1 : Int32)), .val (.ref d), .val (.int (1 : Int32)), .unset] [(.ref wKO), (.ref ta)])) X49 hx rfl rfl rfl (pc0 := 83) (pc' := 108) (same := false) rfl (hb hby at_83) rfl (decide_eq_false fun q => hc83 (Value.ref.inj q)) (by decide) (by decide) ?_
            show Steps p.tables e below (T49.setTop (mkF m 108 #[.val (.int p1), .val (.int p2), .val (.int p3), .val (.int p4), .val (.ref ta), .val (.ref tb), .val (.ref wS), .val (.int (1 : Int32)), .val (.ref d), .val (.int (1 : Int32)), .unset] [])) t₀
            refine XS.iconst X49.here hx rfl (hb hby at_108) ?_
            show Steps p.tables e below (T49.setTop (mkF m 109 #[.val (.int p1), .val (.int p2), .val (.int p3), .val (.int p4), .val (.ref ta), .val (.ref tb), .val (.ref wS), .val (.int (1 : Int32)), .val (.ref d), .val (.int (1 : Int32)), .unset] [(.int (0 : Int32))])) t₀
            refine XS.istore X49.here hx rfl (hb hby at_109) rfl (l' := #[.val (.int p1), .val (.int p2), .val (.int p3), .val (.int p4), .val (.ref ta), .val (.ref tb), .val (.ref wS), .val (.int (1 : Int32)), .val (.ref d), .val (.int (1 : Int32)), .val (.int (0 : Int32))]) rfl ?_
            show Steps p.tables e below (T49.setTop (mkF m 111 #[.val (.int p1), .val (.int p2), .val (.int p3), .val (.int p4), .val (.ref ta), .val (.ref tb), .val (.ref wS), .val (.int (1 : Int32)), .val (.ref d), .val (.int (1 : Int32)), .val (.int (0 : Int32))] [])) t₀
            refine XS.aload X49.here hx rfl (hb hby at_111) rfl rfl ?_
            exact k₀
          have hr : (if d = r7 ∨ d = r8 then (1 : Int32) else 0) = (0 : Int32) := by
            rw [hd]
            exact if_neg (own_L1 hc83 ne_r3_r7 ne_r3_r8 ne_r4_r7 ne_r4_r8 ne_r9_r7 ne_r9_r8 ne_r10_r7 ne_r10_r8)
          have hE : Exa Z h0 d "com/example/concordat/concordat/core/ConflictRule" := by
            rw [hd]; unfold own_dec; (repeat' split) <;> assumption
          obtain ⟨cq52, kq52, q52a, q52b, q52c⟩ := isOf hZ e49 hE
          obtain ⟨_, _, ⟨T52, L52, k52, n52⟩, -, X52, ⟨Lc52, hQ52, l52, y52, z52⟩, st52⟩ := X49.virtualBack hx (y := (⟨"com/example/concordat/concordat/core/ConflictRule", "holderReleases", "()Z"⟩ : MethodName)) (z := (⟨"com/example/concordat/concordat/core/ConflictRule", "holderReleases", "()Z"⟩ : MethodName)) hown (mvT hZ (hw _ (List.mem_of_getElem? (i := 26) rfl))) (mvT hZ (hw _ (List.mem_of_getElem? (i := 27) rfl))) (notFace_of_selects (args := #[]) (mvT hZ (hw _ (List.mem_of_getElem? (i := 29) rfl)))) (mvT hZ (hw _ (List.mem_of_getElem? (i := 29) rfl))) (mvT hZ (hw _ (List.mem_of_getElem? (i := 28) rfl))) (by decide) (backOf (W := 0) (rm3 l Z a0 hw [] d r7 r8 (0 : Int32) h0 n0 Z0 S_R7 S_R8 hr) hZ (hw _ (List.mem_of_getElem? (i := 30) rfl)) (hw _ (List.mem_of_getElem? (i := 15) rfl)) (by decide) (by decide)) q52a q52c (g := (mkF m 113 #[.val (.int p1), .val (.int p2), .val (.int p3), .val (.int p4), .val (.ref ta), .val (.ref tb), .val (.ref wS), .val (.int (1 : Int32)), .val (.ref d), .val (.int (1 : Int32)), .val (.int (0 : Int32))] [(.ref d)])) rfl (by rw [hml]; rfl) (Steps.refl _) (argsL := []) (rest := []) (lenOf pd_2 rfl) rfl (by show 2 * 0 + _ ≤ _; exact Nat.le_of_eq rfl) (hb hby at_113) (fun _ _ => ⟨rfl, e49, (by decide : 0 + 0 ≤ _), (by decide : 0 + 0 ≤ _)⟩)
          dsimp only [Pt.U, Pt.locs, Pt.cells, Pt.slots] at X52 l52 y52 z52 st52 hQ52
          subst l52 y52 z52
          obtain ⟨rfl, N52q, e52⟩ := hQ52
          have N52 := Fr.app N47 N52q
          refine hG _ _ (fun t₀ k₀ => st52.trans k₀) ?_
          show G (T52.setTop (mkF m 116 #[.val (.int p1), .val (.int p2), .val (.int p3), .val (.int p4), .val (.ref ta), .val (.ref tb), .val (.ref wS), .val (.int (1 : Int32)), .val (.ref d), .val (.int (1 : Int32)), .val (.int (0 : Int32))] [(.int (0 : Int32))]))
          refine hG _ (T52.setTop (mkF m 126 #[.val (.int p1), .val (.int p2), .val (.int p3), .val (.int p4), .val (.ref ta), .val (.ref tb), .val (.ref wS), .val (.int (1 : Int32)), .val (.ref d), .val (.int (1 : Int32)), .val (.int (0 : Int32))] [(.int (1 : Int32))])) (fun t₀ k₀ => ?_) ?_
          · show Steps p.tables e below (T52.setTop (mkF m 116 #[.val (.int p1), .val (.int p2), .val (.int p3), .val (.int p4), .val (.ref ta), .val (.ref tb), .val (.ref wS), .val (.int (1 : Int32)), .val (.ref d), .val (.int (1 : Int32)), .val (.int (0 : Int32))] [(.int (0 : Int32))])) t₀
            refine XS.iload X52.here hx rfl (hb hby at_116) rfl ?_
            show Steps p.tables e below (T52.setTop (mkF m 118 #[.val (.int p1), .val (.int p2), .val (.int p3), .val (.int p4), .val (.ref ta), .val (.ref tb), .val (.ref wS), .val (.int (1 : Int32)), .val (.ref d), .val (.int (1 : Int32)), .val (.int (0 : Int32))] [(.int (0 : Int32)), (.int (0 : Int32))])) t₀
            refine XS.icmpNo X52.here hx rfl (hb hby at_118) rfl (teq (by decide : ((0 : Int32) = (0 : Int32)))).2 ?_
            show Steps p.tables e below (T52.setTop (mkF m 121 #[.val (.int p1), .val (.int p2), .val (.int p3), .val (.int p4), .val (.ref ta), .val (.ref tb), .val (.ref wS), .val (.int (1 : Int32)), .val (.ref d), .val (.int (1 : Int32)), .val (.int (0 : Int32))] [])) t₀
            refine XS.iconst X52.here hx rfl (hb hby at_121) ?_
            show Steps p.tables e below (T52.setTop (mkF m 122 #[.val (.int p1), .val (.int p2), .val (.int p3), .val (.int p4), .val (.ref ta), .val (.ref tb), .val (.ref wS), .val (.int (1 : Int32)), .val (.ref d), .val (.int (1 : Int32)), .val (.int (0 : Int32))] [(.int (1 : Int32))])) t₀
            refine XS.goto X52.here hx rfl (pc0 := 122) (pc' := 126) rfl (hb hby at_122) (by decide) (by decide) ?_
            exact k₀
          refine hF _ T52 _ _ _ (some (.int (1 : Int32))) _ X52 e52 (fun h => by rw [hrt] at h; cases h) (by decide) (by decide) ?_ (fun fs hr => retN X52 hx (t := .boolean) hrt (by simp) (hb hby at_126) hr)
          exact ⟨rfl, N52⟩
      ·
        refine hG _ (T48.setTop (mkF m 65 #[.val (.int p1), .val (.int p2), .val (.int p3), .val (.int p4), .val (.ref ta), .val (.ref tb), .val (.ref wS), .val (.int (1 : Int32)), .val (.ref d), .unset, .unset] [(.ref tb)])) (fun t₀ k₀ => ?_) ?_
        · show Steps p.tables e below (T48.setTop (mkF m 60 #[.val (.int p1), .val (.int p2), .val (.int p3), .val (.int p4), .val (.ref ta), .val (.ref tb), .val (.ref wS), .val (.int (1 : Int32)), .val (.ref d), .unset, .unset] [(.ref wPA), (.ref tb)])) t₀
          refine Jvm.RoadKit.acmp (g := (mkF m 60 #[.val (.int p1), .val (.int p2), .val (.int p3), .val (.int p4), .val (.ref ta), .val (.ref tb), .val (.ref wS), .val (.int (1 : Int32)), .val (.ref d), .unset, .unset] [(.ref wPA), (.ref tb)])) X48 hx rfl rfl rfl (pc0 := 60) (pc' := 63) (same := false) rfl (hb hby at_60) rfl (decide_eq_false fun q => hc60 (Value.ref.inj q)) (by decide) (by decide) ?_
          show Steps p.tables e below (T48.setTop (mkF m 63 #[.val (.int p1), .val (.int p2), .val (.int p3), .val (.int p4), .val (.ref ta), .val (.ref tb), .val (.ref wS), .val (.int (1 : Int32)), .val (.ref d), .unset, .unset] [])) t₀
          refine XS.aload X48.here hx rfl (hb hby at_63) rfl rfl ?_
          exact k₀
        obtain ⟨T53, X53, e53, st53⟩ := getS2 X48 hx hZ hown (host := "") (Or.inl (hw _ (List.mem_of_getElem? (i := 24) rfl))) Via.refl e48 S_PESS_AF (g := (mkF m 65 #[.val (.int p1), .val (.int p2), .val (.int p3), .val (.int p4), .val (.ref ta), .val (.ref tb), .val (.ref wS), .val (.int (1 : Int32)), .val (.ref d), .unset, .unset] [(.ref tb)])) rfl (hb hby at_65)
        refine hG _ _ (fun t₀ k₀ => st53 _ k₀) ?_
        show G (T53.setTop (mkF m 68 #[.val (.int p1), .val (.int p2), .val (.int p3), .val (.int p4), .val (.ref ta), .val (.ref tb), .val (.ref wS), .val (.int (1 : Int32)), .val (.ref d), .unset, .unset] [(.ref wPF), (.ref tb)]))
        by_cases hc68 : tb = wPF
        ·
          refine hG _ (T53.setTop (mkF m 80 #[.val (.int p1), .val (.int p2), .val (.int p3), .val (.int p4), .val (.ref ta), .val (.ref tb), .val (.ref wS), .val (.int (1 : Int32)), .val (.ref d), .val (.int (1 : Int32)), .unset] [(.ref ta)])) (fun t₀ k₀ => ?_) ?_
          · show Steps p.tables e below (T53.setTop (mkF m 68 #[.val (.int p1), .val (.int p2), .val (.int p3), .val (.int p4), .val (.ref ta), .val (.ref tb), .val (.ref wS), .val (.int (1 : Int32)), .val (.ref d), .unset, .unset] [(.ref wPF), (.ref tb)])) t₀
            refine Jvm.RoadKit.acmp (g := (mkF m 68 #[.val (.int p1), .val (.int p2), .val (.int p3), .val (.int p4), .val (.ref ta), .val (.ref tb), .val (.ref wS), .val (.int (1 : Int32)), .val (.ref d), .unset, .unset] [(.ref wPF), (.ref tb)])) X53 hx rfl rfl rfl (pc0 := 68) (pc' := 71) (same := true) rfl (hb hby at_68) rfl (decide_eq_true (congrArg Value.ref hc68)) (by decide) (by decide) ?_
            show Steps p.tables e below (T53.setTop (mkF m 71 #[.val (.int p1), .val (.int p2), .val (.int p3), .val (.int p4), .val (.ref ta), .val (.ref tb), .val (.ref wS), .val (.int (1 : Int32)), .val (.ref d), .unset, .unset] [])) t₀
            refine XS.iconst X53.here hx rfl (hb hby at_71) ?_
            show Steps p.tables e below (T53.setTop (mkF m 72 #[.val (.int p1), .val (.int p2), .val (.int p3), .val (.int p4), .val (.ref ta), .val (.ref tb), .val (.ref wS), .val (.int (1 : Int32)), .val (.ref d), .unset, .unset] [(.int (1 : Int32))])) t₀
            refine XS.goto X53.here hx rfl (pc0 := 72) (pc' := 76) rfl (hb hby at_72) (by decide) (by decide) ?_
            show Steps p.tables e below (T53.setTop (mkF m 76 #[.val (.int p1), .val (.int p2), .val (.int p3), .val (.int p4), .val (.ref ta), .val (.ref tb), .val (.ref wS), .val (.int (1 : Int32)), .val (.ref d), .unset, .unset] [(.int (1 : Int32))])) t₀
            refine XS.istore X53.here hx rfl (hb hby at_76) rfl (l' := #[.val (.int p1), .val (.int p2), .val (.int p3), .val (.int p4), .val (.ref ta), .val (.ref tb), .val (.ref wS), .val (.int (1 : Int32)), .val (.ref d), .val (.int (1 : Int32)), .unset]) rfl ?_
            show Steps p.tables e below (T53.setTop (mkF m 78 #[.val (.int p1), .val (.int p2), .val (.int p3), .val (.int p4), .val (.ref ta), .val (.ref tb), .val (.ref wS), .val (.int (1 : Int32)), .val (.ref d), .val (.int (1 : Int32)), .unset] [])) t₀
            refine XS.aload X53.here hx rfl (hb hby at_78) rfl rfl ?_
            exact k₀
          obtain ⟨T54, X54, e54, st54⟩ := getS2 X53 hx hZ hown (host := "") (Or.inl (hw _ (List.mem_of_getElem? (i := 8) rfl))) Via.refl e53 S_KONS (g := (mkF m 80 #[.val (.int p1), .val (.int p2), .val (.int p3), .val (.int p4), .val (.ref ta), .val (.ref tb), .val (.ref wS), .val (.int (1 : Int32)), .val (.ref d), .val (.int (1 : Int32)), .unset] [(.ref ta)])) rfl (hb hby at_80)
          refine hG _ _ (fun t₀ k₀ => st54 _ k₀) ?_
          show G (T54.setTop (mkF m 83 #[.val (.int p1), .val (.int p2), .val (.int p3), .val (.int p4), .val (.ref ta), .val (.ref tb), .val (.ref wS), .val (.int (1 : Int32)), .val (.ref d), .val (.int (1 : Int32)), .unset] [(.ref wKO), (.ref ta)]))
          by_cases hc83 : ta = wKO
          ·
            refine hG _ (T54.setTop (mkF m 93 #[.val (.int p1), .val (.int p2), .val (.int p3), .val (.int p4), .val (.ref ta), .val (.ref tb), .val (.ref wS), .val (.int (1 : Int32)), .val (.ref d), .val (.int (1 : Int32)), .unset] [(.ref wS)])) (fun t₀ k₀ => ?_) ?_
            · show Steps p.tables e below (T54.setTop (mkF m 83 #[.val (.int p1), .val (.int p2), .val (.int p3), .val (.int p4), .val (.ref ta), .val (.ref tb), .val (.ref wS), .val (.int (1 : Int32)), .val (.ref d), .val (.int (1 : Int32)), .unset] [(.ref wKO), (.ref ta)])) t₀
              refine Jvm.RoadKit.acmp (g := (mkF m 83 #[.val (.int p1), .val (.int p2), .val (.int p3), .val (.int p4), .val (.ref ta), .val (.ref tb), .val (.ref wS), .val (.int (1 : Int32)), .val (.ref d), .val (.int (1 : Int32)), .unset] [(.ref wKO), (.ref ta)])) X54 hx rfl rfl rfl (pc0 := 83) (pc' := 86) (same := true) rfl (hb hby at_83) rfl (decide_eq_true (congrArg Value.ref hc83)) (by decide) (by decide) ?_
              show Steps p.tables e below (T54.setTop (mkF m 86 #[.val (.int p1), .val (.int p2), .val (.int p3), .val (.int p4), .val (.ref ta), .val (.ref tb), .val (.ref wS), .val (.int (1 : Int32)), .val (.ref d), .val (.int (1 : Int32)), .unset] [])) t₀
              refine XS.iload X54.here hx rfl (hb hby at_86) rfl ?_
              show Steps p.tables e below (T54.setTop (mkF m 88 #[.val (.int p1), .val (.int p2), .val (.int p3), .val (.int p4), .val (.ref ta), .val (.ref tb), .val (.ref wS), .val (.int (1 : Int32)), .val (.ref d), .val (.int (1 : Int32)), .unset] [(.int (1 : Int32))])) t₀
              refine XS.ifNo X54.here hx rfl (hb hby at_88) rfl ((if0 _ _).trans (feq (by decide : ¬ ((1 : Int32) = (0 : Int32)))).1) ?_
              show Steps p.tables e below (T54.setTop (mkF m 91 #[.val (.int p1), .val (.int p2), .val (.int p3), .val (.int p4), .val (.ref ta), .val (.ref tb), .val (.ref wS), .val (.int (1 : Int32)), .val (.ref d), .val (.int (1 : Int32)), .unset] [])) t₀
              refine XS.aload X54.here hx rfl (hb hby at_91) rfl rfl ?_
              exact k₀
            obtain ⟨T55, X55, e55, st55⟩ := getS2 X54 hx hZ hown (host := "") (Or.inl (hw _ (List.mem_of_getElem? (i := 41) rfl))) Via.refl e54 S_STATUS (g := (mkF m 93 #[.val (.int p1), .val (.int p2), .val (.int p3), .val (.int p4), .val (.ref ta), .val (.ref tb), .val (.ref wS), .val (.int (1 : Int32)), .val (.ref d), .val (.int (1 : Int32)), .unset] [(.ref wS)])) rfl (hb hby at_93)
            refine hG _ _ (fun t₀ k₀ => st55 _ k₀) ?_
            show G (T55.setTop (mkF m 96 #[.val (.int p1), .val (.int p2), .val (.int p3), .val (.int p4), .val (.ref ta), .val (.ref tb), .val (.ref wS), .val (.int (1 : Int32)), .val (.ref d), .val (.int (1 : Int32)), .unset] [(.ref wS), (.ref wS)]))
            refine hG _ (T55.setTop (mkF m 113 #[.val (.int p1), .val (.int p2), .val (.int p3), .val (.int p4), .val (.ref ta), .val (.ref tb), .val (.ref wS), .val (.int (1 : Int32)), .val (.ref d), .val (.int (1 : Int32)), .val (.int (1 : Int32))] [(.ref d)])) (fun t₀ k₀ => ?_) ?_
            · show Steps p.tables e below (T55.setTop (mkF m 96 #[.val (.int p1), .val (.int p2), .val (.int p3), .val (.int p4), .val (.ref ta), .val (.ref tb), .val (.ref wS), .val (.int (1 : Int32)), .val (.ref d), .val (.int (1 : Int32)), .unset] [(.ref wS), (.ref wS)])) t₀
              refine Jvm.RoadKit.acmp (g := (mkF m 96 #[.val (.int p1), .val (.int p2), .val (.int p3), .val (.int p4), .val (.ref ta), .val (.ref tb), .val (.ref wS), .val (.int (1 : Int32)), .val (.ref d), .val (.int (1 : Int32)), .unset] [(.ref wS), (.ref wS)])) X55 hx rfl rfl rfl (pc0 := 96) (pc' := 104) (same := true) rfl (hb hby at_96) rfl (decide_eq_true (congrArg Value.ref rfl)) (by decide) (by decide) ?_
              show Steps p.tables e below (T55.setTop (mkF m 104 #[.val (.int p1), .val (.int p2), .val (.int p3), .val (.int p4), .val (.ref ta), .val (.ref tb), .val (.ref wS), .val (.int (1 : Int32)), .val (.ref d), .val (.int (1 : Int32)), .unset] [])) t₀
              refine XS.iconst X55.here hx rfl (hb hby at_104) ?_
              show Steps p.tables e below (T55.setTop (mkF m 105 #[.val (.int p1), .val (.int p2), .val (.int p3), .val (.int p4), .val (.ref ta), .val (.ref tb), .val (.ref wS), .val (.int (1 : Int32)), .val (.ref d), .val (.int (1 : Int32)), .unset] [(.int (1 : Int32))])) t₀
              refine XS.goto X55.here hx rfl (pc0 := 105) (pc' := 109) rfl (hb hby at_105) (by decide) (by decide) ?_
              show Steps p.tables e below (T55.setTop (mkF m 109 #[.val (.int p1), .val (.int p2), .val (.int p3), .val (.int p4), .val (.ref ta), .val (.ref tb), .val (.ref wS), .val (.int (1 : Int32)), .val (.ref d), .val (.int (1 : Int32)), .unset] [(.int (1 : Int32))])) t₀
              refine XS.istore X55.here hx rfl (hb hby at_109) rfl (l' := #[.val (.int p1), .val (.int p2), .val (.int p3), .val (.int p4), .val (.ref ta), .val (.ref tb), .val (.ref wS), .val (.int (1 : Int32)), .val (.ref d), .val (.int (1 : Int32)), .val (.int (1 : Int32))]) rfl ?_
              show Steps p.tables e below (T55.setTop (mkF m 111 #[.val (.int p1), .val (.int p2), .val (.int p3), .val (.int p4), .val (.ref ta), .val (.ref tb), .val (.ref wS), .val (.int (1 : Int32)), .val (.ref d), .val (.int (1 : Int32)), .val (.int (1 : Int32))] [])) t₀
              refine XS.aload X55.here hx rfl (hb hby at_111) rfl rfl ?_
              exact k₀
            have hr : (if d = r7 ∨ d = r8 then (1 : Int32) else 0) = (1 : Int32) := by
              rw [hd]
              rw [hc83, hc68, own_L3 ne_wKO_wOP ne_wKO_wAU ne_wPF_wOP ne_wPF_wAU ne_wPF_wKO]
              rw [if_pos rfl]
              exact if_pos (Or.inr rfl)
            have hE : Exa Z h0 d "com/example/concordat/concordat/core/ConflictRule" := by
              rw [hd]; unfold own_dec; (repeat' split) <;> assumption
            obtain ⟨cq56, kq56, q56a, q56b, q56c⟩ := isOf hZ e55 hE
            obtain ⟨_, _, ⟨T56, L56, k56, n56⟩, -, X56, ⟨Lc56, hQ56, l56, y56, z56⟩, st56⟩ := X55.virtualBack hx (y := (⟨"com/example/concordat/concordat/core/ConflictRule", "holderReleases", "()Z"⟩ : MethodName)) (z := (⟨"com/example/concordat/concordat/core/ConflictRule", "holderReleases", "()Z"⟩ : MethodName)) hown (mvT hZ (hw _ (List.mem_of_getElem? (i := 26) rfl))) (mvT hZ (hw _ (List.mem_of_getElem? (i := 27) rfl))) (notFace_of_selects (args := #[]) (mvT hZ (hw _ (List.mem_of_getElem? (i := 29) rfl)))) (mvT hZ (hw _ (List.mem_of_getElem? (i := 29) rfl))) (mvT hZ (hw _ (List.mem_of_getElem? (i := 28) rfl))) (by decide) (backOf (W := 0) (rm3 l Z a0 hw [] d r7 r8 (1 : Int32) h0 n0 Z0 S_R7 S_R8 hr) hZ (hw _ (List.mem_of_getElem? (i := 30) rfl)) (hw _ (List.mem_of_getElem? (i := 15) rfl)) (by decide) (by decide)) q56a q56c (g := (mkF m 113 #[.val (.int p1), .val (.int p2), .val (.int p3), .val (.int p4), .val (.ref ta), .val (.ref tb), .val (.ref wS), .val (.int (1 : Int32)), .val (.ref d), .val (.int (1 : Int32)), .val (.int (1 : Int32))] [(.ref d)])) rfl (by rw [hml]; rfl) (Steps.refl _) (argsL := []) (rest := []) (lenOf pd_2 rfl) rfl (by show 2 * 0 + _ ≤ _; exact Nat.le_of_eq rfl) (hb hby at_113) (fun _ _ => ⟨rfl, e55, (by decide : 0 + 0 ≤ _), (by decide : 0 + 0 ≤ _)⟩)
            dsimp only [Pt.U, Pt.locs, Pt.cells, Pt.slots] at X56 l56 y56 z56 st56 hQ56
            subst l56 y56 z56
            obtain ⟨rfl, N56q, e56⟩ := hQ56
            have N56 := Fr.app N47 N56q
            refine hG _ _ (fun t₀ k₀ => st56.trans k₀) ?_
            show G (T56.setTop (mkF m 116 #[.val (.int p1), .val (.int p2), .val (.int p3), .val (.int p4), .val (.ref ta), .val (.ref tb), .val (.ref wS), .val (.int (1 : Int32)), .val (.ref d), .val (.int (1 : Int32)), .val (.int (1 : Int32))] [(.int (1 : Int32))]))
            refine hG _ (T56.setTop (mkF m 126 #[.val (.int p1), .val (.int p2), .val (.int p3), .val (.int p4), .val (.ref ta), .val (.ref tb), .val (.ref wS), .val (.int (1 : Int32)), .val (.ref d), .val (.int (1 : Int32)), .val (.int (1 : Int32))] [(.int (1 : Int32))])) (fun t₀ k₀ => ?_) ?_
            · show Steps p.tables e below (T56.setTop (mkF m 116 #[.val (.int p1), .val (.int p2), .val (.int p3), .val (.int p4), .val (.ref ta), .val (.ref tb), .val (.ref wS), .val (.int (1 : Int32)), .val (.ref d), .val (.int (1 : Int32)), .val (.int (1 : Int32))] [(.int (1 : Int32))])) t₀
              refine XS.iload X56.here hx rfl (hb hby at_116) rfl ?_
              show Steps p.tables e below (T56.setTop (mkF m 118 #[.val (.int p1), .val (.int p2), .val (.int p3), .val (.int p4), .val (.ref ta), .val (.ref tb), .val (.ref wS), .val (.int (1 : Int32)), .val (.ref d), .val (.int (1 : Int32)), .val (.int (1 : Int32))] [(.int (1 : Int32)), (.int (1 : Int32))])) t₀
              refine XS.icmpNo X56.here hx rfl (hb hby at_118) rfl (teq (by decide : ((1 : Int32) = (1 : Int32)))).2 ?_
              show Steps p.tables e below (T56.setTop (mkF m 121 #[.val (.int p1), .val (.int p2), .val (.int p3), .val (.int p4), .val (.ref ta), .val (.ref tb), .val (.ref wS), .val (.int (1 : Int32)), .val (.ref d), .val (.int (1 : Int32)), .val (.int (1 : Int32))] [])) t₀
              refine XS.iconst X56.here hx rfl (hb hby at_121) ?_
              show Steps p.tables e below (T56.setTop (mkF m 122 #[.val (.int p1), .val (.int p2), .val (.int p3), .val (.int p4), .val (.ref ta), .val (.ref tb), .val (.ref wS), .val (.int (1 : Int32)), .val (.ref d), .val (.int (1 : Int32)), .val (.int (1 : Int32))] [(.int (1 : Int32))])) t₀
              refine XS.goto X56.here hx rfl (pc0 := 122) (pc' := 126) rfl (hb hby at_122) (by decide) (by decide) ?_
              exact k₀
            refine hF _ T56 _ _ _ (some (.int (1 : Int32))) _ X56 e56 (fun h => by rw [hrt] at h; cases h) (by decide) (by decide) ?_ (fun fs hr => retN X56 hx (t := .boolean) hrt (by simp) (hb hby at_126) hr)
            exact ⟨rfl, N56⟩
          ·
            refine hG _ (T54.setTop (mkF m 113 #[.val (.int p1), .val (.int p2), .val (.int p3), .val (.int p4), .val (.ref ta), .val (.ref tb), .val (.ref wS), .val (.int (1 : Int32)), .val (.ref d), .val (.int (1 : Int32)), .val (.int (0 : Int32))] [(.ref d)])) (fun t₀ k₀ => ?_) ?_
            · show Steps p.tables e below (T54.setTop (mkF m 83 #[.val (.int p1), .val (.int p2), .val (.int p3), .val (.int p4), .val (.ref ta), .val (.ref tb), .val (.ref wS), .val (.int (1 : Int32)), .val (.ref d), .val (.int (1 : Int32)), .unset] [(.ref wKO), (.ref ta)])) t₀
              refine Jvm.RoadKit.acmp (g := (mkF m 83 #[.val (.int p1), .val (.int p2), .val (.int p3), .val (.int p4), .val (.ref ta), .val (.ref tb), .val (.ref wS), .val (.int (1 : Int32)), .val (.ref d), .val (.int (1 : Int32)), .unset] [(.ref wKO), (.ref ta)])) X54 hx rfl rfl rfl (pc0 := 83) (pc' := 108) (same := false) rfl (hb hby at_83) rfl (decide_eq_false fun q => hc83 (Value.ref.inj q)) (by decide) (by decide) ?_
              show Steps p.tables e below (T54.setTop (mkF m 108 #[.val (.int p1), .val (.int p2), .val (.int p3), .val (.int p4), .val (.ref ta), .val (.ref tb), .val (.ref wS), .val (.int (1 : Int32)), .val (.ref d), .val (.int (1 : Int32)), .unset] [])) t₀
              refine XS.iconst X54.here hx rfl (hb hby at_108) ?_
              show Steps p.tables e below (T54.setTop (mkF m 109 #[.val (.int p1), .val (.int p2), .val (.int p3), .val (.int p4), .val (.ref ta), .val (.ref tb), .val (.ref wS), .val (.int (1 : Int32)), .val (.ref d), .val (.int (1 : Int32)), .unset] [(.int (0 : Int32))])) t₀
              refine XS.istore X54.here hx rfl (hb hby at_109) rfl (l' := #[.val (.int p1), .val (.int p2), .val (.int p3), .val (.int p4), .val (.ref ta), .val (.ref tb), .val (.ref wS), .val (.int (1 : Int32)), .val (.ref d), .val (.int (1 : Int32)), .val (.int (0 : Int32))]) rfl ?_
              show Steps p.tables e below (T54.setTop (mkF m 111 #[.val (.int p1), .val (.int p2), .val (.int p3), .val (.int p4), .val (.ref ta), .val (.ref tb), .val (.ref wS), .val (.int (1 : Int32)), .val (.ref d), .val (.int (1 : Int32)), .val (.int (0 : Int32))] [])) t₀
              refine XS.aload X54.here hx rfl (hb hby at_111) rfl rfl ?_
              exact k₀
            have hr : (if d = r7 ∨ d = r8 then (1 : Int32) else 0) = (0 : Int32) := by
              rw [hd]
              exact if_neg (own_L1 hc83 ne_r3_r7 ne_r3_r8 ne_r4_r7 ne_r4_r8 ne_r9_r7 ne_r9_r8 ne_r10_r7 ne_r10_r8)
            have hE : Exa Z h0 d "com/example/concordat/concordat/core/ConflictRule" := by
              rw [hd]; unfold own_dec; (repeat' split) <;> assumption
            obtain ⟨cq57, kq57, q57a, q57b, q57c⟩ := isOf hZ e54 hE
            obtain ⟨_, _, ⟨T57, L57, k57, n57⟩, -, X57, ⟨Lc57, hQ57, l57, y57, z57⟩, st57⟩ := X54.virtualBack hx (y := (⟨"com/example/concordat/concordat/core/ConflictRule", "holderReleases", "()Z"⟩ : MethodName)) (z := (⟨"com/example/concordat/concordat/core/ConflictRule", "holderReleases", "()Z"⟩ : MethodName)) hown (mvT hZ (hw _ (List.mem_of_getElem? (i := 26) rfl))) (mvT hZ (hw _ (List.mem_of_getElem? (i := 27) rfl))) (notFace_of_selects (args := #[]) (mvT hZ (hw _ (List.mem_of_getElem? (i := 29) rfl)))) (mvT hZ (hw _ (List.mem_of_getElem? (i := 29) rfl))) (mvT hZ (hw _ (List.mem_of_getElem? (i := 28) rfl))) (by decide) (backOf (W := 0) (rm3 l Z a0 hw [] d r7 r8 (0 : Int32) h0 n0 Z0 S_R7 S_R8 hr) hZ (hw _ (List.mem_of_getElem? (i := 30) rfl)) (hw _ (List.mem_of_getElem? (i := 15) rfl)) (by decide) (by decide)) q57a q57c (g := (mkF m 113 #[.val (.int p1), .val (.int p2), .val (.int p3), .val (.int p4), .val (.ref ta), .val (.ref tb), .val (.ref wS), .val (.int (1 : Int32)), .val (.ref d), .val (.int (1 : Int32)), .val (.int (0 : Int32))] [(.ref d)])) rfl (by rw [hml]; rfl) (Steps.refl _) (argsL := []) (rest := []) (lenOf pd_2 rfl) rfl (by show 2 * 0 + _ ≤ _; exact Nat.le_of_eq rfl) (hb hby at_113) (fun _ _ => ⟨rfl, e54, (by decide : 0 + 0 ≤ _), (by decide : 0 + 0 ≤ _)⟩)
            dsimp only [Pt.U, Pt.locs, Pt.cells, Pt.slots] at X57 l57 y57 z57 st57 hQ57
            subst l57 y57 z57
            obtain ⟨rfl, N57q, e57⟩ := hQ57
            have N57 := Fr.app N47 N57q
            refine hG _ _ (fun t₀ k₀ => st57.trans k₀) ?_
            show G (T57.setTop (mkF m 116 #[.val (.int p1), .val (.int p2), .val (.int p3), .val (.int p4), .val (.ref ta), .val (.ref tb), .val (.ref wS), .val (.int (1 : Int32)), .val (.ref d), .val (.int (1 : Int32)), .val (.int (0 : Int32))] [(.int (0 : Int32))]))
            refine hG _ (T57.setTop (mkF m 126 #[.val (.int p1), .val (.int p2), .val (.int p3), .val (.int p4), .val (.ref ta), .val (.ref tb), .val (.ref wS), .val (.int (1 : Int32)), .val (.ref d), .val (.int (1 : Int32)), .val (.int (0 : Int32))] [(.int (1 : Int32))])) (fun t₀ k₀ => ?_) ?_
            · show Steps p.tables e below (T57.setTop (mkF m 116 #[.val (.int p1), .val (.int p2), .val (.int p3), .val (.int p4), .val (.ref ta), .val (.ref tb), .val (.ref wS), .val (.int (1 : Int32)), .val (.ref d), .val (.int (1 : Int32)), .val (.int (0 : Int32))] [(.int (0 : Int32))])) t₀
              refine XS.iload X57.here hx rfl (hb hby at_116) rfl ?_
              show Steps p.tables e below (T57.setTop (mkF m 118 #[.val (.int p1), .val (.int p2), .val (.int p3), .val (.int p4), .val (.ref ta), .val (.ref tb), .val (.ref wS), .val (.int (1 : Int32)), .val (.ref d), .val (.int (1 : Int32)), .val (.int (0 : Int32))] [(.int (0 : Int32)), (.int (0 : Int32))])) t₀
              refine XS.icmpNo X57.here hx rfl (hb hby at_118) rfl (teq (by decide : ((0 : Int32) = (0 : Int32)))).2 ?_
              show Steps p.tables e below (T57.setTop (mkF m 121 #[.val (.int p1), .val (.int p2), .val (.int p3), .val (.int p4), .val (.ref ta), .val (.ref tb), .val (.ref wS), .val (.int (1 : Int32)), .val (.ref d), .val (.int (1 : Int32)), .val (.int (0 : Int32))] [])) t₀
              refine XS.iconst X57.here hx rfl (hb hby at_121) ?_
              show Steps p.tables e below (T57.setTop (mkF m 122 #[.val (.int p1), .val (.int p2), .val (.int p3), .val (.int p4), .val (.ref ta), .val (.ref tb), .val (.ref wS), .val (.int (1 : Int32)), .val (.ref d), .val (.int (1 : Int32)), .val (.int (0 : Int32))] [(.int (1 : Int32))])) t₀
              refine XS.goto X57.here hx rfl (pc0 := 122) (pc' := 126) rfl (hb hby at_122) (by decide) (by decide) ?_
              exact k₀
            refine hF _ T57 _ _ _ (some (.int (1 : Int32))) _ X57 e57 (fun h => by rw [hrt] at h; cases h) (by decide) (by decide) ?_ (fun fs hr => retN X57 hx (t := .boolean) hrt (by simp) (hb hby at_126) hr)
            exact ⟨rfl, N57⟩
        ·
          refine hG _ (T53.setTop (mkF m 80 #[.val (.int p1), .val (.int p2), .val (.int p3), .val (.int p4), .val (.ref ta), .val (.ref tb), .val (.ref wS), .val (.int (1 : Int32)), .val (.ref d), .val (.int (0 : Int32)), .unset] [(.ref ta)])) (fun t₀ k₀ => ?_) ?_
          · show Steps p.tables e below (T53.setTop (mkF m 68 #[.val (.int p1), .val (.int p2), .val (.int p3), .val (.int p4), .val (.ref ta), .val (.ref tb), .val (.ref wS), .val (.int (1 : Int32)), .val (.ref d), .unset, .unset] [(.ref wPF), (.ref tb)])) t₀
            refine Jvm.RoadKit.acmp (g := (mkF m 68 #[.val (.int p1), .val (.int p2), .val (.int p3), .val (.int p4), .val (.ref ta), .val (.ref tb), .val (.ref wS), .val (.int (1 : Int32)), .val (.ref d), .unset, .unset] [(.ref wPF), (.ref tb)])) X53 hx rfl rfl rfl (pc0 := 68) (pc' := 75) (same := false) rfl (hb hby at_68) rfl (decide_eq_false fun q => hc68 (Value.ref.inj q)) (by decide) (by decide) ?_
            show Steps p.tables e below (T53.setTop (mkF m 75 #[.val (.int p1), .val (.int p2), .val (.int p3), .val (.int p4), .val (.ref ta), .val (.ref tb), .val (.ref wS), .val (.int (1 : Int32)), .val (.ref d), .unset, .unset] [])) t₀
            refine XS.iconst X53.here hx rfl (hb hby at_75) ?_
            show Steps p.tables e below (T53.setTop (mkF m 76 #[.val (.int p1), .val (.int p2), .val (.int p3), .val (.int p4), .val (.ref ta), .val (.ref tb), .val (.ref wS), .val (.int (1 : Int32)), .val (.ref d), .unset, .unset] [(.int (0 : Int32))])) t₀
            refine XS.istore X53.here hx rfl (hb hby at_76) rfl (l' := #[.val (.int p1), .val (.int p2), .val (.int p3), .val (.int p4), .val (.ref ta), .val (.ref tb), .val (.ref wS), .val (.int (1 : Int32)), .val (.ref d), .val (.int (0 : Int32)), .unset]) rfl ?_
            show Steps p.tables e below (T53.setTop (mkF m 78 #[.val (.int p1), .val (.int p2), .val (.int p3), .val (.int p4), .val (.ref ta), .val (.ref tb), .val (.ref wS), .val (.int (1 : Int32)), .val (.ref d), .val (.int (0 : Int32)), .unset] [])) t₀
            refine XS.aload X53.here hx rfl (hb hby at_78) rfl rfl ?_
            exact k₀
          obtain ⟨T58, X58, e58, st58⟩ := getS2 X53 hx hZ hown (host := "") (Or.inl (hw _ (List.mem_of_getElem? (i := 8) rfl))) Via.refl e53 S_KONS (g := (mkF m 80 #[.val (.int p1), .val (.int p2), .val (.int p3), .val (.int p4), .val (.ref ta), .val (.ref tb), .val (.ref wS), .val (.int (1 : Int32)), .val (.ref d), .val (.int (0 : Int32)), .unset] [(.ref ta)])) rfl (hb hby at_80)
          refine hG _ _ (fun t₀ k₀ => st58 _ k₀) ?_
          show G (T58.setTop (mkF m 83 #[.val (.int p1), .val (.int p2), .val (.int p3), .val (.int p4), .val (.ref ta), .val (.ref tb), .val (.ref wS), .val (.int (1 : Int32)), .val (.ref d), .val (.int (0 : Int32)), .unset] [(.ref wKO), (.ref ta)]))
          by_cases hc83 : ta = wKO
          ·
            refine hG _ (T58.setTop (mkF m 113 #[.val (.int p1), .val (.int p2), .val (.int p3), .val (.int p4), .val (.ref ta), .val (.ref tb), .val (.ref wS), .val (.int (1 : Int32)), .val (.ref d), .val (.int (0 : Int32)), .val (.int (0 : Int32))] [(.ref d)])) (fun t₀ k₀ => ?_) ?_
            · show Steps p.tables e below (T58.setTop (mkF m 83 #[.val (.int p1), .val (.int p2), .val (.int p3), .val (.int p4), .val (.ref ta), .val (.ref tb), .val (.ref wS), .val (.int (1 : Int32)), .val (.ref d), .val (.int (0 : Int32)), .unset] [(.ref wKO), (.ref ta)])) t₀
              refine Jvm.RoadKit.acmp (g := (mkF m 83 #[.val (.int p1), .val (.int p2), .val (.int p3), .val (.int p4), .val (.ref ta), .val (.ref tb), .val (.ref wS), .val (.int (1 : Int32)), .val (.ref d), .val (.int (0 : Int32)), .unset] [(.ref wKO), (.ref ta)])) X58 hx rfl rfl rfl (pc0 := 83) (pc' := 86) (same := true) rfl (hb hby at_83) rfl (decide_eq_true (congrArg Value.ref hc83)) (by decide) (by decide) ?_
              show Steps p.tables e below (T58.setTop (mkF m 86 #[.val (.int p1), .val (.int p2), .val (.int p3), .val (.int p4), .val (.ref ta), .val (.ref tb), .val (.ref wS), .val (.int (1 : Int32)), .val (.ref d), .val (.int (0 : Int32)), .unset] [])) t₀
              refine XS.iload X58.here hx rfl (hb hby at_86) rfl ?_
              show Steps p.tables e below (T58.setTop (mkF m 88 #[.val (.int p1), .val (.int p2), .val (.int p3), .val (.int p4), .val (.ref ta), .val (.ref tb), .val (.ref wS), .val (.int (1 : Int32)), .val (.ref d), .val (.int (0 : Int32)), .unset] [(.int (0 : Int32))])) t₀
              refine XS.ifYes X58.here hx rfl (pc0 := 88) (pc' := 108) rfl (hb hby at_88) rfl ((if0 _ _).trans (teq (by decide : ((0 : Int32) = (0 : Int32)))).1) (by decide) (by decide) ?_
              show Steps p.tables e below (T58.setTop (mkF m 108 #[.val (.int p1), .val (.int p2), .val (.int p3), .val (.int p4), .val (.ref ta), .val (.ref tb), .val (.ref wS), .val (.int (1 : Int32)), .val (.ref d), .val (.int (0 : Int32)), .unset] [])) t₀
              refine XS.iconst X58.here hx rfl (hb hby at_108) ?_
              show Steps p.tables e below (T58.setTop (mkF m 109 #[.val (.int p1), .val (.int p2), .val (.int p3), .val (.int p4), .val (.ref ta), .val (.ref tb), .val (.ref wS), .val (.int (1 : Int32)), .val (.ref d), .val (.int (0 : Int32)), .unset] [(.int (0 : Int32))])) t₀
              refine XS.istore X58.here hx rfl (hb hby at_109) rfl (l' := #[.val (.int p1), .val (.int p2), .val (.int p3), .val (.int p4), .val (.ref ta), .val (.ref tb), .val (.ref wS), .val (.int (1 : Int32)), .val (.ref d), .val (.int (0 : Int32)), .val (.int (0 : Int32))]) rfl ?_
              show Steps p.tables e below (T58.setTop (mkF m 111 #[.val (.int p1), .val (.int p2), .val (.int p3), .val (.int p4), .val (.ref ta), .val (.ref tb), .val (.ref wS), .val (.int (1 : Int32)), .val (.ref d), .val (.int (0 : Int32)), .val (.int (0 : Int32))] [])) t₀
              refine XS.aload X58.here hx rfl (hb hby at_111) rfl rfl ?_
              exact k₀
            have hr : (if d = r7 ∨ d = r8 then (1 : Int32) else 0) = (0 : Int32) := by
              rw [hd]
              rw [hc83]
              exact if_neg (own_L2 ne_wKO_wOP ne_wKO_wAU (htb5.elim (fun z => absurd z hc60) fun z => z.elim (fun z => absurd z hc68) id) ne_r5_r7 ne_r5_r8 ne_r9_r7 ne_r9_r8 ne_r10_r7 ne_r10_r8)
            have hE : Exa Z h0 d "com/example/concordat/concordat/core/ConflictRule" := by
              rw [hd]; unfold own_dec; (repeat' split) <;> assumption
            obtain ⟨cq59, kq59, q59a, q59b, q59c⟩ := isOf hZ e58 hE
            obtain ⟨_, _, ⟨T59, L59, k59, n59⟩, -, X59, ⟨Lc59, hQ59, l59, y59, z59⟩, st59⟩ := X58.virtualBack hx (y := (⟨"com/example/concordat/concordat/core/ConflictRule", "holderReleases", "()Z"⟩ : MethodName)) (z := (⟨"com/example/concordat/concordat/core/ConflictRule", "holderReleases", "()Z"⟩ : MethodName)) hown (mvT hZ (hw _ (List.mem_of_getElem? (i := 26) rfl))) (mvT hZ (hw _ (List.mem_of_getElem? (i := 27) rfl))) (notFace_of_selects (args := #[]) (mvT hZ (hw _ (List.mem_of_getElem? (i := 29) rfl)))) (mvT hZ (hw _ (List.mem_of_getElem? (i := 29) rfl))) (mvT hZ (hw _ (List.mem_of_getElem? (i := 28) rfl))) (by decide) (backOf (W := 0) (rm3 l Z a0 hw [] d r7 r8 (0 : Int32) h0 n0 Z0 S_R7 S_R8 hr) hZ (hw _ (List.mem_of_getElem? (i := 30) rfl)) (hw _ (List.mem_of_getElem? (i := 15) rfl)) (by decide) (by decide)) q59a q59c (g := (mkF m 113 #[.val (.int p1), .val (.int p2), .val (.int p3), .val (.int p4), .val (.ref ta), .val (.ref tb), .val (.ref wS), .val (.int (1 : Int32)), .val (.ref d), .val (.int (0 : Int32)), .val (.int (0 : Int32))] [(.ref d)])) rfl (by rw [hml]; rfl) (Steps.refl _) (argsL := []) (rest := []) (lenOf pd_2 rfl) rfl (by show 2 * 0 + _ ≤ _; exact Nat.le_of_eq rfl) (hb hby at_113) (fun _ _ => ⟨rfl, e58, (by decide : 0 + 0 ≤ _), (by decide : 0 + 0 ≤ _)⟩)
            dsimp only [Pt.U, Pt.locs, Pt.cells, Pt.slots] at X59 l59 y59 z59 st59 hQ59
            subst l59 y59 z59
            obtain ⟨rfl, N59q, e59⟩ := hQ59
            have N59 := Fr.app N47 N59q
            refine hG _ _ (fun t₀ k₀ => st59.trans k₀) ?_
            show G (T59.setTop (mkF m 116 #[.val (.int p1), .val (.int p2), .val (.int p3), .val (.int p4), .val (.ref ta), .val (.ref tb), .val (.ref wS), .val (.int (1 : Int32)), .val (.ref d), .val (.int (0 : Int32)), .val (.int (0 : Int32))] [(.int (0 : Int32))]))
            refine hG _ (T59.setTop (mkF m 126 #[.val (.int p1), .val (.int p2), .val (.int p3), .val (.int p4), .val (.ref ta), .val (.ref tb), .val (.ref wS), .val (.int (1 : Int32)), .val (.ref d), .val (.int (0 : Int32)), .val (.int (0 : Int32))] [(.int (1 : Int32))])) (fun t₀ k₀ => ?_) ?_
            · show Steps p.tables e below (T59.setTop (mkF m 116 #[.val (.int p1), .val (.int p2), .val (.int p3), .val (.int p4), .val (.ref ta), .val (.ref tb), .val (.ref wS), .val (.int (1 : Int32)), .val (.ref d), .val (.int (0 : Int32)), .val (.int (0 : Int32))] [(.int (0 : Int32))])) t₀
              refine XS.iload X59.here hx rfl (hb hby at_116) rfl ?_
              show Steps p.tables e below (T59.setTop (mkF m 118 #[.val (.int p1), .val (.int p2), .val (.int p3), .val (.int p4), .val (.ref ta), .val (.ref tb), .val (.ref wS), .val (.int (1 : Int32)), .val (.ref d), .val (.int (0 : Int32)), .val (.int (0 : Int32))] [(.int (0 : Int32)), (.int (0 : Int32))])) t₀
              refine XS.icmpNo X59.here hx rfl (hb hby at_118) rfl (teq (by decide : ((0 : Int32) = (0 : Int32)))).2 ?_
              show Steps p.tables e below (T59.setTop (mkF m 121 #[.val (.int p1), .val (.int p2), .val (.int p3), .val (.int p4), .val (.ref ta), .val (.ref tb), .val (.ref wS), .val (.int (1 : Int32)), .val (.ref d), .val (.int (0 : Int32)), .val (.int (0 : Int32))] [])) t₀
              refine XS.iconst X59.here hx rfl (hb hby at_121) ?_
              show Steps p.tables e below (T59.setTop (mkF m 122 #[.val (.int p1), .val (.int p2), .val (.int p3), .val (.int p4), .val (.ref ta), .val (.ref tb), .val (.ref wS), .val (.int (1 : Int32)), .val (.ref d), .val (.int (0 : Int32)), .val (.int (0 : Int32))] [(.int (1 : Int32))])) t₀
              refine XS.goto X59.here hx rfl (pc0 := 122) (pc' := 126) rfl (hb hby at_122) (by decide) (by decide) ?_
              exact k₀
            refine hF _ T59 _ _ _ (some (.int (1 : Int32))) _ X59 e59 (fun h => by rw [hrt] at h; cases h) (by decide) (by decide) ?_ (fun fs hr => retN X59 hx (t := .boolean) hrt (by simp) (hb hby at_126) hr)
            exact ⟨rfl, N59⟩
          ·
            refine hG _ (T58.setTop (mkF m 113 #[.val (.int p1), .val (.int p2), .val (.int p3), .val (.int p4), .val (.ref ta), .val (.ref tb), .val (.ref wS), .val (.int (1 : Int32)), .val (.ref d), .val (.int (0 : Int32)), .val (.int (0 : Int32))] [(.ref d)])) (fun t₀ k₀ => ?_) ?_
            · show Steps p.tables e below (T58.setTop (mkF m 83 #[.val (.int p1), .val (.int p2), .val (.int p3), .val (.int p4), .val (.ref ta), .val (.ref tb), .val (.ref wS), .val (.int (1 : Int32)), .val (.ref d), .val (.int (0 : Int32)), .unset] [(.ref wKO), (.ref ta)])) t₀
              refine Jvm.RoadKit.acmp (g := (mkF m 83 #[.val (.int p1), .val (.int p2), .val (.int p3), .val (.int p4), .val (.ref ta), .val (.ref tb), .val (.ref wS), .val (.int (1 : Int32)), .val (.ref d), .val (.int (0 : Int32)), .unset] [(.ref wKO), (.ref ta)])) X58 hx rfl rfl rfl (pc0 := 83) (pc' := 108) (same := false) rfl (hb hby at_83) rfl (decide_eq_false fun q => hc83 (Value.ref.inj q)) (by decide) (by decide) ?_
              show Steps p.tables e below (T58.setTop (mkF m 108 #[.val (.int p1), .val (.int p2), .val (.int p3), .val (.int p4), .val (.ref ta), .val (.ref tb), .val (.ref wS), .val (.int (1 : Int32)), .val (.ref d), .val (.int (0 : Int32)), .unset] [])) t₀
              refine XS.iconst X58.here hx rfl (hb hby at_108) ?_
              show Steps p.tables e below (T58.setTop (mkF m 109 #[.val (.int p1), .val (.int p2), .val (.int p3), .val (.int p4), .val (.ref ta), .val (.ref tb), .val (.ref wS), .val (.int (1 : Int32)), .val (.ref d), .val (.int (0 : Int32)), .unset] [(.int (0 : Int32))])) t₀
              refine XS.istore X58.here hx rfl (hb hby at_109) rfl (l' := #[.val (.int p1), .val (.int p2), .val (.int p3), .val (.int p4), .val (.ref ta), .val (.ref tb), .val (.ref wS), .val (.int (1 : Int32)), .val (.ref d), .val (.int (0 : Int32)), .val (.int (0 : Int32))]) rfl ?_
              show Steps p.tables e below (T58.setTop (mkF m 111 #[.val (.int p1), .val (.int p2), .val (.int p3), .val (.int p4), .val (.ref ta), .val (.ref tb), .val (.ref wS), .val (.int (1 : Int32)), .val (.ref d), .val (.int (0 : Int32)), .val (.int (0 : Int32))] [])) t₀
              refine XS.aload X58.here hx rfl (hb hby at_111) rfl rfl ?_
              exact k₀
            have hr : (if d = r7 ∨ d = r8 then (1 : Int32) else 0) = (0 : Int32) := by
              rw [hd]
              exact if_neg (own_L1 hc83 ne_r3_r7 ne_r3_r8 ne_r4_r7 ne_r4_r8 ne_r9_r7 ne_r9_r8 ne_r10_r7 ne_r10_r8)
            have hE : Exa Z h0 d "com/example/concordat/concordat/core/ConflictRule" := by
              rw [hd]; unfold own_dec; (repeat' split) <;> assumption
            obtain ⟨cq60, kq60, q60a, q60b, q60c⟩ := isOf hZ e58 hE
            obtain ⟨_, _, ⟨T60, L60, k60, n60⟩, -, X60, ⟨Lc60, hQ60, l60, y60, z60⟩, st60⟩ := X58.virtualBack hx (y := (⟨"com/example/concordat/concordat/core/ConflictRule", "holderReleases", "()Z"⟩ : MethodName)) (z := (⟨"com/example/concordat/concordat/core/ConflictRule", "holderReleases", "()Z"⟩ : MethodName)) hown (mvT hZ (hw _ (List.mem_of_getElem? (i := 26) rfl))) (mvT hZ (hw _ (List.mem_of_getElem? (i := 27) rfl))) (notFace_of_selects (args := #[]) (mvT hZ (hw _ (List.mem_of_getElem? (i := 29) rfl)))) (mvT hZ (hw _ (List.mem_of_getElem? (i := 29) rfl))) (mvT hZ (hw _ (List.mem_of_getElem? (i := 28) rfl))) (by decide) (backOf (W := 0) (rm3 l Z a0 hw [] d r7 r8 (0 : Int32) h0 n0 Z0 S_R7 S_R8 hr) hZ (hw _ (List.mem_of_getElem? (i := 30) rfl)) (hw _ (List.mem_of_getElem? (i := 15) rfl)) (by decide) (by decide)) q60a q60c (g := (mkF m 113 #[.val (.int p1), .val (.int p2), .val (.int p3), .val (.int p4), .val (.ref ta), .val (.ref tb), .val (.ref wS), .val (.int (1 : Int32)), .val (.ref d), .val (.int (0 : Int32)), .val (.int (0 : Int32))] [(.ref d)])) rfl (by rw [hml]; rfl) (Steps.refl _) (argsL := []) (rest := []) (lenOf pd_2 rfl) rfl (by show 2 * 0 + _ ≤ _; exact Nat.le_of_eq rfl) (hb hby at_113) (fun _ _ => ⟨rfl, e58, (by decide : 0 + 0 ≤ _), (by decide : 0 + 0 ≤ _)⟩)
            dsimp only [Pt.U, Pt.locs, Pt.cells, Pt.slots] at X60 l60 y60 z60 st60 hQ60
            subst l60 y60 z60
            obtain ⟨rfl, N60q, e60⟩ := hQ60
            have N60 := Fr.app N47 N60q
            refine hG _ _ (fun t₀ k₀ => st60.trans k₀) ?_
            show G (T60.setTop (mkF m 116 #[.val (.int p1), .val (.int p2), .val (.int p3), .val (.int p4), .val (.ref ta), .val (.ref tb), .val (.ref wS), .val (.int (1 : Int32)), .val (.ref d), .val (.int (0 : Int32)), .val (.int (0 : Int32))] [(.int (0 : Int32))]))
            refine hG _ (T60.setTop (mkF m 126 #[.val (.int p1), .val (.int p2), .val (.int p3), .val (.int p4), .val (.ref ta), .val (.ref tb), .val (.ref wS), .val (.int (1 : Int32)), .val (.ref d), .val (.int (0 : Int32)), .val (.int (0 : Int32))] [(.int (1 : Int32))])) (fun t₀ k₀ => ?_) ?_
            · show Steps p.tables e below (T60.setTop (mkF m 116 #[.val (.int p1), .val (.int p2), .val (.int p3), .val (.int p4), .val (.ref ta), .val (.ref tb), .val (.ref wS), .val (.int (1 : Int32)), .val (.ref d), .val (.int (0 : Int32)), .val (.int (0 : Int32))] [(.int (0 : Int32))])) t₀
              refine XS.iload X60.here hx rfl (hb hby at_116) rfl ?_
              show Steps p.tables e below (T60.setTop (mkF m 118 #[.val (.int p1), .val (.int p2), .val (.int p3), .val (.int p4), .val (.ref ta), .val (.ref tb), .val (.ref wS), .val (.int (1 : Int32)), .val (.ref d), .val (.int (0 : Int32)), .val (.int (0 : Int32))] [(.int (0 : Int32)), (.int (0 : Int32))])) t₀
              refine XS.icmpNo X60.here hx rfl (hb hby at_118) rfl (teq (by decide : ((0 : Int32) = (0 : Int32)))).2 ?_
              show Steps p.tables e below (T60.setTop (mkF m 121 #[.val (.int p1), .val (.int p2), .val (.int p3), .val (.int p4), .val (.ref ta), .val (.ref tb), .val (.ref wS), .val (.int (1 : Int32)), .val (.ref d), .val (.int (0 : Int32)), .val (.int (0 : Int32))] [])) t₀
              refine XS.iconst X60.here hx rfl (hb hby at_121) ?_
              show Steps p.tables e below (T60.setTop (mkF m 122 #[.val (.int p1), .val (.int p2), .val (.int p3), .val (.int p4), .val (.ref ta), .val (.ref tb), .val (.ref wS), .val (.int (1 : Int32)), .val (.ref d), .val (.int (0 : Int32)), .val (.int (0 : Int32))] [(.int (1 : Int32))])) t₀
              refine XS.goto X60.here hx rfl (pc0 := 122) (pc' := 126) rfl (hb hby at_122) (by decide) (by decide) ?_
              exact k₀
            refine hF _ T60 _ _ _ (some (.int (1 : Int32))) _ X60 e60 (fun h => by rw [hrt] at h; cases h) (by decide) (by decide) ?_ (fun fs hr => retN X60 hx (t := .boolean) hrt (by simp) (hb hby at_126) hr)
            exact ⟨rfl, N60⟩
theorem own_fldI {s : State} {args : Array Value} {t : Term} {C n d : String} {k : Int32} {a : Addr} (h : (Jvm.Cond.eq (.field t C n d) (.int k)).value args s none s [] = some true) (ev : t.eval args s none [] s = some (.ref a)) : Fld s s.heap a C n d (.int k) := by
  obtain ⟨x, y, hx, hy, k1, k2⟩ := cmp_v (Or.inl h)
  cases (Term.int_eval (args := args) (first := s) (o := none) (idx := []) (s := s) k).symm.trans hy
  obtain ⟨z, rfl⟩ : ∃ z, x = .int z := k2
  have e := gotT (Cond.eq_ints hx hy) h
  subst e
  exact Fld.start ((fld_at ev).symm.trans hx)

set_option maxRecDepth 65536 in
set_option maxHeartbeats 40000000 in
theorem comes_1 {Post : Tables → Env → Array Value → State → Outcome → State → Prop} (hpost : ∀ tb e args s v u, (limb_1_1.after args s (.returned v) u = true ∧ limb_1_2.after args s (.returned v) u = true ∧ True) → FrameEnd s (.returned v) u (Jvm.fieldLocs frame_1_writes args s ++ Jvm.arrayLocs frame_1_arrays args s ++ Jvm.staticLocs frame_1_statics s) 0 0 → Post tb e args s (.returned v) u) :
    ArmFor flags0 classFile x code maxLocals ret World_1 tables_1 room_1 Calls_1 rest_1 Pre_1 Post := by
  intro l hfl _ _ p e ha hc hk s m args below hf hA hF happ hP
  obtain ⟨hcalls, hrest, hpre⟩ := hP
  obtain ⟨-, -, -, hnamed, -, -, -, hat⟩ := (Spec.applies_iff hf).mp happ
  obtain ⟨hg, hn⟩ := and_e (Cond.before_iff.mp (show (Jvm.Cond.and given_1 narrow_1).before args s = true from hpre))
  obtain ⟨hcount, gg⟩ := and_e hg
  obtain ⟨ga0, gg⟩ := and_e gg
  obtain ⟨ga1, gg⟩ := and_e gg
  obtain ⟨ga2, gg⟩ := and_e gg
  have ga3 := gg
  obtain ⟨w0, w1, w2, w3, rfl⟩ : ∃ w0 w1 w2 w3 : Value, args = #[w0, w1, w2, w3] := by
    have hs : args.size = 4 := by simpa [Cond.value, given_1] using hcount
    obtain ⟨L⟩ := args
    match L, hs with
    | [w0, w1, w2, w3], _ => exact ⟨w0, w1, w2, w3, rfl⟩
  have hw := fun d (hd : d ∈ tables_1) => atoms_spec (ws := Jvm.Cond.code x code maxLocals ret :: tables_1) hat d (List.mem_cons_of_mem _ hd)
  have hfit : Fit s := fun {y c} hc i hi => by
    obtain ⟨ha, rfl⟩ := Array.getElem?_eq_some_iff.mp hc
    have q := List.all_eq_true.mp ((Array.all_eq_true_iff_forall_mem.mp hF) _ (Array.getElem_mem ha)) i (List.mem_range.mpr hi)
    simpa [Array.getElem?_eq_getElem hi] using q
  obtain ⟨i0, ei0⟩ := is_v ga0
  obtain rfl : w0 = (.int i0) := Option.some.inj ei0
  obtain ⟨i1, ei1⟩ := is_v ga1
  obtain rfl : w1 = (.int i1) := Option.some.inj ei1
  obtain ⟨i2, ei2⟩ := is_v ga2
  obtain rfl : w2 = (.int i2) := Option.some.inj ei2
  obtain ⟨i3, ei3⟩ := is_v ga3
  obtain rfl : w3 = (.int i3) := Option.some.inj ei3
  obtain ⟨n0, hn⟩ := and_e hn
  obtain ⟨n1, hn⟩ := and_e hn
  obtain ⟨n2, hn⟩ := and_e hn
  obtain ⟨n3, hn⟩ := and_e hn
  obtain ⟨n4, hn⟩ := and_e hn
  obtain ⟨n5, hn⟩ := and_e hn
  obtain ⟨n6, hn⟩ := and_e hn
  obtain ⟨n7, hn⟩ := and_e hn
  obtain ⟨n8, hn⟩ := and_e hn
  obtain ⟨n9, hn⟩ := and_e hn
  obtain ⟨n10, hn⟩ := and_e hn
  obtain ⟨n11, hn⟩ := and_e hn
  obtain ⟨n12, hn⟩ := and_e hn
  obtain ⟨n13, hn⟩ := and_e hn
  obtain ⟨n14, hn⟩ := and_e hn
  obtain ⟨n15, hn⟩ := and_e hn
  obtain ⟨n16, hn⟩ := and_e hn
  obtain ⟨n17, hn⟩ := and_e hn
  obtain ⟨n18, hn⟩ := and_e hn
  obtain ⟨n19, hn⟩ := and_e hn
  obtain ⟨n20, hn⟩ := and_e hn
  obtain ⟨n21, hn⟩ := and_e hn
  obtain ⟨n22, hn⟩ := and_e hn
  obtain ⟨n23, hn⟩ := and_e hn
  obtain ⟨n24, hn⟩ := and_e hn
  obtain ⟨n25, hn⟩ := and_e hn
  obtain ⟨n26, hn⟩ := and_e hn
  obtain ⟨n27, hn⟩ := and_e hn
  obtain ⟨n28, hn⟩ := and_e hn
  have n29 := hn
  obtain ⟨wPA, ev_wPA⟩ := exa_v n0
  have S_PESS_AKT := Sta.start ev_wPA (Or.inr ⟨(hw _ (List.mem_of_getElem? (i := 6) rfl)), (hw _ (List.mem_of_getElem? (i := 7) rfl))⟩)
  have F_wPA := own_fldI n4 ev_wPA
  obtain ⟨wPF, ev_wPF⟩ := exa_v n10
  have S_PESS_AF := Sta.start ev_wPF (Or.inr ⟨(hw _ (List.mem_of_getElem? (i := 6) rfl)), (hw _ (List.mem_of_getElem? (i := 25) rfl))⟩)
  have F_wPF := own_fldI n11 ev_wPF
  obtain ⟨wOP, ev_wOP⟩ := exa_v n3
  have S_OPT_AKT := Sta.start ev_wOP (Or.inr ⟨(hw _ (List.mem_of_getElem? (i := 6) rfl)), (hw _ (List.mem_of_getElem? (i := 18) rfl))⟩)
  have F_wOP := own_fldI n5 ev_wOP
  obtain ⟨wKO, ev_wKO⟩ := exa_v n1
  have S_KONS := Sta.start ev_wKO (Or.inr ⟨(hw _ (List.mem_of_getElem? (i := 6) rfl)), (hw _ (List.mem_of_getElem? (i := 9) rfl))⟩)
  have F_wKO := own_fldI n6 ev_wKO
  obtain ⟨wAU, ev_wAU⟩ := exa_v n7
  have S_AUTO := Sta.start ev_wAU (Or.inr ⟨(hw _ (List.mem_of_getElem? (i := 6) rfl)), (hw _ (List.mem_of_getElem? (i := 20) rfl))⟩)
  have F_wAU := own_fldI n8 ev_wAU
  obtain ⟨wC, ev_wC⟩ := exa_v n2
  have S_CONTENTS := Sta.start ev_wC (Or.inr ⟨(hw _ (List.mem_of_getElem? (i := 11) rfl)), (hw _ (List.mem_of_getElem? (i := 12) rfl))⟩)
  have F_wC := own_fldI n22 ev_wC
  obtain ⟨wS, ev_wS⟩ := exa_v n21
  have S_STATUS := Sta.start ev_wS (Or.inr ⟨(hw _ (List.mem_of_getElem? (i := 11) rfl)), (hw _ (List.mem_of_getElem? (i := 42) rfl))⟩)
  have F_wS := own_fldI n23 ev_wS
  obtain ⟨r3, ev_r3⟩ := exa_v n9
  have S_R3 := Sta.start ev_r3 (Or.inr ⟨(hw _ (List.mem_of_getElem? (i := 15) rfl)), (hw _ (List.mem_of_getElem? (i := 23) rfl))⟩)
  have F_r3 := own_fldI n13 ev_r3
  obtain ⟨r4, ev_r4⟩ := exa_v n28
  have S_R4 := Sta.start ev_r4 (Or.inr ⟨(hw _ (List.mem_of_getElem? (i := 15) rfl)), (hw _ (List.mem_of_getElem? (i := 49) rfl))⟩)
  have F_r4 := own_fldI n29 ev_r4
  obtain ⟨r5, ev_r5⟩ := exa_v n26
  have S_R5 := Sta.start ev_r5 (Or.inr ⟨(hw _ (List.mem_of_getElem? (i := 15) rfl)), (hw _ (List.mem_of_getElem? (i := 47) rfl))⟩)
  have F_r5 := own_fldI n27 ev_r5
  obtain ⟨r6, ev_r6⟩ := exa_v n24
  have S_R6 := Sta.start ev_r6 (Or.inr ⟨(hw _ (List.mem_of_getElem? (i := 15) rfl)), (hw _ (List.mem_of_getElem? (i := 45) rfl))⟩)
  have F_r6 := own_fldI n25 ev_r6
  obtain ⟨r7, ev_r7⟩ := exa_v n12
  have S_R7 := Sta.start ev_r7 (Or.inr ⟨(hw _ (List.mem_of_getElem? (i := 15) rfl)), (hw _ (List.mem_of_getElem? (i := 32) rfl))⟩)
  have F_r7 := own_fldI n14 ev_r7
  obtain ⟨r8, ev_r8⟩ := exa_v n15
  have S_R8 := Sta.start ev_r8 (Or.inr ⟨(hw _ (List.mem_of_getElem? (i := 15) rfl)), (hw _ (List.mem_of_getElem? (i := 34) rfl))⟩)
  have F_r8 := own_fldI n16 ev_r8
  obtain ⟨r9, ev_r9⟩ := exa_v n17
  have S_R9 := Sta.start ev_r9 (Or.inr ⟨(hw _ (List.mem_of_getElem? (i := 15) rfl)), (hw _ (List.mem_of_getElem? (i := 37) rfl))⟩)
  have F_r9 := own_fldI n18 ev_r9
  obtain ⟨r10, ev_r10⟩ := exa_v n19
  have S_R10 := Sta.start ev_r10 (Or.inr ⟨(hw _ (List.mem_of_getElem? (i := 15) rfl)), (hw _ (List.mem_of_getElem? (i := 40) rfl))⟩)
  have F_r10 := own_fldI n20 ev_r10
  obtain ⟨n, o, h1, h2, h3, _, L, rfl, ⟨rfl, N⟩, hq⟩ := rm0 l s _ hw tables_1 i0 i1 i2 i3 wPA wPF wOP wKO wAU wC wS r3 r4 r5 r6 r7 r8 r9 r10 s.heap s.heap.size (Nat.le_refl _) S_PESS_AKT S_PESS_AF S_OPT_AKT S_KONS S_AUTO S_CONTENTS S_STATUS S_R3 S_R4 S_R5 S_R6 S_R7 S_R8 S_R9 S_R10 (Exa.start ev_r3 n9) (Exa.start ev_r4 n28) (Exa.start ev_r5 n26) (Exa.start ev_r6 n24) (Exa.start ev_r7 n12) (Exa.start ev_r8 n15) (Exa.start ev_r9 n17) (Exa.start ev_r10 n19) (F_wKO.ne F_wOP (by decide)) (F_wKO.ne F_wAU (by decide)) (F_wPA.ne F_wOP (by decide)) (F_wPA.ne F_wAU (by decide)) (F_wPA.ne F_wKO (by decide)) (F_wPF.ne F_wOP (by decide)) (F_wPF.ne F_wAU (by decide)) (F_wPF.ne F_wKO (by decide)) (F_r3.ne F_r7 (by decide)) (F_r3.ne F_r8 (by decide)) (F_r4.ne F_r7 (by decide)) (F_r4.ne F_r8 (by decide)) (F_r5.ne F_r7 (by decide)) (F_r5.ne F_r8 (by decide)) (F_r6.ne F_r7 (by decide)) (F_r6.ne F_r8 (by decide)) (F_r9.ne F_r7 (by decide)) (F_r9.ne F_r8 (by decide)) (F_r10.ne F_r7 (by decide)) (F_r10.ne F_r8 (by decide)) (F_wC.ne F_wS (by decide)) p e ha hc hk s m _ below hf ((Spec.applies_iff_loose hf).mp happ).1 ⟨rfl, State.Warmed39.refl s, rfl⟩ trivial
  refine ⟨n, _, h1, h2, h3, hpost _ _ _ _ _ _ ⟨Cond.after_iff.mpr rfl, Cond.after_iff.mpr (eq_i res_at (Term.int_eval (1)) rfl), trivial⟩ ⟨hq.1, hq.2.1, (hq.2.2.sift fun y hy => Or.inr (N y hy)).mono (by decide) (by decide)⟩⟩
theorem main_1_1 : Claimed_1_1 := comes_1 fun _ _ _ _ _ _ h hF => ⟨h.1, hF⟩
theorem main_1_2 : Claimed_1_2 := comes_1 fun _ _ _ _ _ _ h hF => ⟨h.2.1, hF⟩
end Jvm.Pilot.@@N@@
namespace Jvm.Pilot.@@N@@
open Jvm Jvm.ClassFile Sem Op Lib Jvm.Free Jvm.Stand Jvm.Pilot.@@N@@.Jvm.D
/-! MADE BY PROGRAM (witnessworld.py) out of the Statement's table words and the real class files: 14 classes; the members and pool entries that the words name. The judged class is class 1, her method 2. -/
namespace start1
open Jvm.ClassFile
def u (s : String) : CpInfo := .utf8 (stringToUtf16 s)
/-- a pool by its gaps: so many unusable entries, then the entry; so many at the end -/
def gap : Nat → List CpInfo → List CpInfo
  | 0, r => r
  | n + 1, r => .unusable :: gap n r
def poolList (es : List (Nat × CpInfo)) (last : Nat) : List CpInfo := es.foldr (fun e r => gap e.1 (e.2 :: r)) (gap last [])
def pool (es : List (Nat × CpInfo)) (last : Nat) : Array CpInfo := ⟨poolList es last⟩
def fileOf (pool : Array CpInfo) (this : Nat) (attrs : Array Attribute := #[]) (ms : Array MethodInfo := #[]) (fl : Nat := 33) (sup : Nat := 0) (ifs : Array Nat := #[]) (fds : Array FieldInfo := #[]) : ClassFile where
  minorVersion := 0
  majorVersion := 65
  constantPool := pool
  accessFlags := fl
  thisClass := this
  superClass := sup
  interfaces := ifs
  fields := fds
  methods := ms
  attributes := attrs
def plain (name : String) (sup : Option ClassId) : Class where
  name := name
  kind := .ordinary
  loader := none
  accessFlags := 33
  super := sup
  interfaces := #[]
  cf := none
  fields := #[]
  methods := #[]
  instanceTypes := #[]
  staticTypes := #[]
  resolved := #[]
  callSites := []
  init := .initialized
  statics := none
  mirror := none

def pool0 : Array CpInfo := pool [(5, u "<init>"), (0, u "()V"), (1, .class_ 10), (1, u "java/lang/Object")] 113

def k0m0 : Method := { name := "<init>", desc := "()V", sig := { parameters := [], returnType := none }, accessFlags := 1, code := none }
/-- java/lang/Object -/
def k0 : Class := { plain "java/lang/Object" none with
  accessFlags := 33
  interfaces := #[]
  cf := some (fileOf pool0 8 #[] #[{ accessFlags := 1, nameIndex := 5, descriptorIndex := 6, attributes := #[] }] 33 0 #[] #[])
  fields := #[]
  methods := #[k0m0]
  instanceTypes := #[]
  staticTypes := #[]
  resolved := Array.replicate 124 none
  statics := none }

def pool1 : Array CpInfo := pool [(2, .class_ 4), (1, u "java/lang/Object"), (0, u "<init>"), (0, u "()V"), (0, .integer 2147483647), (0, .fieldref 9 10), (0, .class_ 11), (0, .nameAndType 12 13), (0, u "com/example/concordat/concordat/core/TransactionType"), (0, u "PESS_AKT"), (0, u "Lcom/example/concordat/concordat/core/TransactionType;"), (0, .fieldref 9 15), (0, .nameAndType 16 13), (0, u "PESS_AF"), (0, .fieldref 9 18), (0, .nameAndType 19 13), (0, u "OPT_AKT"), (0, .fieldref 9 21), (0, .nameAndType 22 13), (0, u "KONS"), (0, .fieldref 9 24), (0, .nameAndType 25 13), (0, u "AUTO"), (0, .methodref 27 28), (0, .class_ 29), (0, .nameAndType 30 31), (0, u "com/example/concordat/concordat/core/ConflictRuleHolderReleasesPinLaw"), (0, u "type"), (0, u "(I)Lcom/example/concordat/concordat/core/TransactionType;"), (0, .fieldref 33 34), (0, .class_ 35), (0, .nameAndType 36 37), (0, u "com/example/concordat/concordat/core/DocumentObject"), (0, u "CONTENTS"), (0, u "Lcom/example/concordat/concordat/core/DocumentObject;"), (0, .fieldref 33 39), (0, .nameAndType 40 37), (0, u "STATUS"), (0, .methodref 42 43), (0, .class_ 44), (0, .nameAndType 45 46), (0, u "com/example/concordat/concordat/core/ConflictRule"), (0, u "deciding"), (0, u "(Lcom/example/concordat/concordat/core/TransactionType;Lcom/example/concordat/concordat/core/TransactionType;Lcom/example/concordat/concordat/core/DocumentObject;Z)Lcom/example/concordat/concordat/core/ConflictRule;"), (0, .methodref 42 48), (0, .nameAndType 49 50), (0, u "holderReleases"), (0, u "()Z"), (3, u "law"), (0, u "(IIII)Z")] 2

def k1m0 : Method := { name := "<init>", desc := "()V", sig := { parameters := [], returnType := none }, accessFlags := 1, code := none }
def k1c1 : Code := { maxStack := 2, maxLocals := 2, code := method_2_code, exceptionTable := #[], attributes := #[] }
def k1m1 : Method := { name := "type", desc := "(I)Lcom/example/concordat/concordat/core/TransactionType;", sig := { parameters := [.int], returnType := some (.object "com/example/concordat/concordat/core/TransactionType") }, accessFlags := 10, code := some k1c1 }
def k1c2 : Code := { maxStack := 4, maxLocals := 11, code := code, exceptionTable := #[], attributes := #[] }
def k1m2 : Method := { name := "law", desc := "(IIII)Z", sig := { parameters := [.int, .int, .int, .int], returnType := some .boolean }, accessFlags := 9, code := some k1c2 }
/-- com/example/concordat/concordat/core/ConflictRuleHolderReleasesPinLaw -/
def k1 : Class := { plain "com/example/concordat/concordat/core/ConflictRuleHolderReleasesPinLaw" (some 0) with
  accessFlags := 49
  interfaces := #[]
  cf := some (fileOf pool1 27 #[] #[{ accessFlags := 1, nameIndex := 5, descriptorIndex := 6, attributes := #[] }, { accessFlags := 10, nameIndex := 30, descriptorIndex := 31, attributes := #[] }, { accessFlags := 9, nameIndex := 54, descriptorIndex := 55, attributes := #[] }] 49 2 #[] #[])
  fields := #[]
  methods := #[k1m0, k1m1, k1m2]
  instanceTypes := #[]
  staticTypes := #[]
  resolved := Array.replicate 58 none
  statics := none }

def pool2 : Array CpInfo := pool [(1, .class_ 2), (0, u "java/lang/constant/Constable"), (0, .class_ 4), (0, u "java/lang/Object")] 6

/-- java/lang/constant/Constable -/
def k2 : Class := { plain "java/lang/constant/Constable" (some 0) with
  accessFlags := 1537
  interfaces := #[]
  cf := some (fileOf pool2 1 #[] #[] 1537 3 #[] #[])
  fields := #[]
  methods := #[]
  instanceTypes := #[]
  staticTypes := #[]
  resolved := Array.replicate 11 none
  statics := none }

def pool3 : Array CpInfo := pool [(1, .class_ 2), (0, u "java/lang/Comparable"), (0, .class_ 4), (0, u "java/lang/Object")] 7

/-- java/lang/Comparable -/
def k3 : Class := { plain "java/lang/Comparable" (some 0) with
  accessFlags := 1537
  interfaces := #[]
  cf := some (fileOf pool3 1 #[] #[] 1537 3 #[] #[])
  fields := #[]
  methods := #[]
  instanceTypes := #[]
  staticTypes := #[]
  resolved := Array.replicate 12 none
  statics := none }

def pool4 : Array CpInfo := pool [(1, .class_ 2), (0, u "java/io/Serializable"), (0, .class_ 4), (0, u "java/lang/Object")] 2

/-- java/io/Serializable -/
def k4 : Class := { plain "java/io/Serializable" (some 0) with
  accessFlags := 1537
  interfaces := #[]
  cf := some (fileOf pool4 1 #[] #[] 1537 3 #[] #[])
  fields := #[]
  methods := #[]
  instanceTypes := #[]
  staticTypes := #[]
  resolved := Array.replicate 7 none
  statics := none }

def pool5 : Array CpInfo := pool [(2, .class_ 4), (1, u "java/lang/Enum"), (0, u "name"), (0, u "Ljava/lang/String;"), (2, u "ordinal"), (0, u "I"), (1, .class_ 14), (1, u "java/lang/Object"), (4, u "hash"), (86, .class_ 108), (1, u "java/lang/Enum$EnumDesc"), (2, .class_ 112), (0, u "java/lang/constant/Constable"), (0, .class_ 114), (0, u "java/lang/Comparable"), (0, .class_ 116), (0, u "java/io/Serializable")] 87

/-- java/lang/Enum -/
def k5 : Class := { plain "java/lang/Enum" (some 0) with
  accessFlags := 1057
  interfaces := #[2, 3, 4]
  cf := some (fileOf pool5 2 #[.nestMembers #[106]] #[] 1057 12 #[111, 113, 115] #[{ accessFlags := 18, nameIndex := 5, descriptorIndex := 6, attributes := #[] }, { accessFlags := 18, nameIndex := 9, descriptorIndex := 10, attributes := #[] }, { accessFlags := 2, nameIndex := 19, descriptorIndex := 10, attributes := #[] }])
  fields := #[{ name := "name", type := (.object "java/lang/String"), accessFlags := 18, slot := 0, constantValue := 0 }, { name := "ordinal", type := .int, accessFlags := 18, slot := 1, constantValue := 0 }, { name := "hash", type := .int, accessFlags := 2, slot := 2, constantValue := 0 }]
  methods := #[]
  instanceTypes := #[(.object "java/lang/String"), .int, .int]
  staticTypes := #[]
  resolved := Array.replicate 204 none
  statics := none }

def pool6 : Array CpInfo := pool [(1, .class_ 2), (0, u "com/example/concordat/concordat/core/TransactionType"), (2, u "PESS_AKT"), (0, u "Lcom/example/concordat/concordat/core/TransactionType;"), (2, u "PESS_AF"), (2, u "OPT_AKT"), (2, u "KONS"), (2, u "AUTO"), (2, u "$VALUES"), (0, u "[Lcom/example/concordat/concordat/core/TransactionType;"), (6, .class_ 31), (1, u "java/lang/Enum"), (8, u "priority"), (0, u "I"), (2, u "oneDocument"), (0, u "Z"), (2, u "child")] 30

/-- com/example/concordat/concordat/core/TransactionType -/
def k6 : Class := { plain "com/example/concordat/concordat/core/TransactionType" (some 5) with
  accessFlags := 16433
  interfaces := #[]
  cf := some (fileOf pool6 1 #[] #[] 16433 29 #[] #[{ accessFlags := 16409, nameIndex := 5, descriptorIndex := 6, attributes := #[] }, { accessFlags := 16409, nameIndex := 9, descriptorIndex := 6, attributes := #[] }, { accessFlags := 16409, nameIndex := 12, descriptorIndex := 6, attributes := #[] }, { accessFlags := 16409, nameIndex := 15, descriptorIndex := 6, attributes := #[] }, { accessFlags := 16409, nameIndex := 18, descriptorIndex := 6, attributes := #[] }, { accessFlags := 18, nameIndex := 40, descriptorIndex := 41, attributes := #[] }, { accessFlags := 18, nameIndex := 44, descriptorIndex := 45, attributes := #[] }, { accessFlags := 18, nameIndex := 48, descriptorIndex := 45, attributes := #[] }, { accessFlags := 4122, nameIndex := 21, descriptorIndex := 22, attributes := #[] }])
  fields := #[{ name := "PESS_AKT", type := (.object "com/example/concordat/concordat/core/TransactionType"), accessFlags := 16409, slot := 0, constantValue := 0 }, { name := "PESS_AF", type := (.object "com/example/concordat/concordat/core/TransactionType"), accessFlags := 16409, slot := 1, constantValue := 0 }, { name := "OPT_AKT", type := (.object "com/example/concordat/concordat/core/TransactionType"), accessFlags := 16409, slot := 2, constantValue := 0 }, { name := "KONS", type := (.object "com/example/concordat/concordat/core/TransactionType"), accessFlags := 16409, slot := 3, constantValue := 0 }, { name := "AUTO", type := (.object "com/example/concordat/concordat/core/TransactionType"), accessFlags := 16409, slot := 4, constantValue := 0 }, { name := "priority", type := .int, accessFlags := 18, slot := 3, constantValue := 0 }, { name := "oneDocument", type := .boolean, accessFlags := 18, slot := 4, constantValue := 0 }, { name := "child", type := .boolean, accessFlags := 18, slot := 5, constantValue := 0 }, { name := "$VALUES", type := (.array (.object "com/example/concordat/concordat/core/TransactionType")), accessFlags := 4122, slot := 5, constantValue := 0 }]
  methods := #[]
  instanceTypes := #[(.object "java/lang/String"), .int, .int, .int, .boolean, .boolean]
  staticTypes := #[(.object "com/example/concordat/concordat/core/TransactionType"), (.object "com/example/concordat/concordat/core/TransactionType"), (.object "com/example/concordat/concordat/core/TransactionType"), (.object "com/example/concordat/concordat/core/TransactionType"), (.object "com/example/concordat/concordat/core/TransactionType"), (.array (.object "com/example/concordat/concordat/core/TransactionType"))]
  resolved := Array.replicate 79 none
  statics := some 0 }

def pool7 : Array CpInfo := pool [(1, .class_ 2), (0, u "com/example/concordat/concordat/core/DocumentObject"), (2, u "CONTENTS"), (0, u "Lcom/example/concordat/concordat/core/DocumentObject;"), (2, u "STATUS"), (2, u "$VALUES"), (0, u "[Lcom/example/concordat/concordat/core/DocumentObject;"), (6, .class_ 22), (1, u "java/lang/Enum")] 24

/-- com/example/concordat/concordat/core/DocumentObject -/
def k7 : Class := { plain "com/example/concordat/concordat/core/DocumentObject" (some 5) with
  accessFlags := 16433
  interfaces := #[]
  cf := some (fileOf pool7 1 #[] #[] 16433 20 #[] #[{ accessFlags := 16409, nameIndex := 5, descriptorIndex := 6, attributes := #[] }, { accessFlags := 16409, nameIndex := 9, descriptorIndex := 6, attributes := #[] }, { accessFlags := 4122, nameIndex := 12, descriptorIndex := 13, attributes := #[] }])
  fields := #[{ name := "CONTENTS", type := (.object "com/example/concordat/concordat/core/DocumentObject"), accessFlags := 16409, slot := 0, constantValue := 0 }, { name := "STATUS", type := (.object "com/example/concordat/concordat/core/DocumentObject"), accessFlags := 16409, slot := 1, constantValue := 0 }, { name := "$VALUES", type := (.array (.object "com/example/concordat/concordat/core/DocumentObject")), accessFlags := 4122, slot := 2, constantValue := 0 }]
  methods := #[]
  instanceTypes := #[(.object "java/lang/String"), .int, .int]
  staticTypes := #[(.object "com/example/concordat/concordat/core/DocumentObject"), (.object "com/example/concordat/concordat/core/DocumentObject"), (.array (.object "com/example/concordat/concordat/core/DocumentObject"))]
  resolved := Array.replicate 47 none
  statics := some 1 }

def pool8 : Array CpInfo := pool [(1, .class_ 2), (0, u "com/example/concordat/concordat/core/ConflictRule"), (0, .fieldref 1 4), (0, .nameAndType 5 6), (0, u "R3"), (0, u "Lcom/example/concordat/concordat/core/ConflictRule;"), (0, .fieldref 1 8), (0, .nameAndType 9 6), (0, u "R4"), (0, .fieldref 1 11), (0, .nameAndType 12 6), (0, u "R5"), (0, .fieldref 1 14), (0, .nameAndType 15 6), (0, u "R6"), (0, .fieldref 1 17), (0, .nameAndType 18 6), (0, u "R7"), (0, .fieldref 1 20), (0, .nameAndType 21 6), (0, u "R8"), (0, .fieldref 1 23), (0, .nameAndType 24 6), (0, u "R9"), (0, .fieldref 1 26), (0, .nameAndType 27 6), (0, u "R10"), (2, u "$VALUES"), (0, u "[Lcom/example/concordat/concordat/core/ConflictRule;"), (6, .class_ 40), (1, u "java/lang/Enum"), (8, u "number"), (0, u "I"), (0, .fieldref 52 53), (0, .class_ 54), (0, .nameAndType 55 56), (0, u "com/example/concordat/concordat/core/TransactionType"), (0, u "OPT_AKT"), (0, u "Lcom/example/concordat/concordat/core/TransactionType;"), (0, .fieldref 52 58), (0, .nameAndType 59 56), (0, u "AUTO"), (0, .fieldref 52 61), (0, .nameAndType 62 56), (0, u "KONS"), (0, .fieldref 64 65), (0, .class_ 66), (0, .nameAndType 67 68), (0, u "com/example/concordat/concordat/core/DocumentObject"), (0, u "STATUS"), (0, u "Lcom/example/concordat/concordat/core/DocumentObject;"), (23, u "deciding"), (0, u "(Lcom/example/concordat/concordat/core/TransactionType;Lcom/example/concordat/concordat/core/TransactionType;Lcom/example/concordat/concordat/core/DocumentObject;Z)Lcom/example/concordat/concordat/core/ConflictRule;"), (1, u "holderReleases"), (0, u "()Z")] 5

def k8c0 : Code := { maxStack := 2, maxLocals := 5, code := prog_5_method_5_code, exceptionTable := #[], attributes := #[] }
def k8m0 : Method := { name := "deciding", desc := "(Lcom/example/concordat/concordat/core/TransactionType;Lcom/example/concordat/concordat/core/TransactionType;Lcom/example/concordat/concordat/core/DocumentObject;Z)Lcom/example/concordat/concordat/core/ConflictRule;", sig := { parameters := [(.object "com/example/concordat/concordat/core/TransactionType"), (.object "com/example/concordat/concordat/core/TransactionType"), (.object "com/example/concordat/concordat/core/DocumentObject"), .boolean], returnType := some (.object "com/example/concordat/concordat/core/ConflictRule") }, accessFlags := 9, code := some k8c0 }
def k8c1 : Code := { maxStack := 2, maxLocals := 1, code := prog_5_method_6_code, exceptionTable := #[], attributes := #[] }
def k8m1 : Method := { name := "holderReleases", desc := "()Z", sig := { parameters := [], returnType := some .boolean }, accessFlags := 1, code := some k8c1 }
/-- com/example/concordat/concordat/core/ConflictRule -/
def k8 : Class := { plain "com/example/concordat/concordat/core/ConflictRule" (some 5) with
  accessFlags := 16433
  interfaces := #[]
  cf := some (fileOf pool8 1 #[] #[{ accessFlags := 9, nameIndex := 92, descriptorIndex := 93, attributes := #[] }, { accessFlags := 1, nameIndex := 95, descriptorIndex := 96, attributes := #[] }] 16433 38 #[] #[{ accessFlags := 16409, nameIndex := 5, descriptorIndex := 6, attributes := #[] }, { accessFlags := 16409, nameIndex := 9, descriptorIndex := 6, attributes := #[] }, { accessFlags := 16409, nameIndex := 12, descriptorIndex := 6, attributes := #[] }, { accessFlags := 16409, nameIndex := 15, descriptorIndex := 6, attributes := #[] }, { accessFlags := 16409, nameIndex := 18, descriptorIndex := 6, attributes := #[] }, { accessFlags := 16409, nameIndex := 21, descriptorIndex := 6, attributes := #[] }, { accessFlags := 16409, nameIndex := 24, descriptorIndex := 6, attributes := #[] }, { accessFlags := 16409, nameIndex := 27, descriptorIndex := 6, attributes := #[] }, { accessFlags := 18, nameIndex := 49, descriptorIndex := 50, attributes := #[] }, { accessFlags := 4122, nameIndex := 30, descriptorIndex := 31, attributes := #[] }])
  fields := #[{ name := "R3", type := (.object "com/example/concordat/concordat/core/ConflictRule"), accessFlags := 16409, slot := 0, constantValue := 0 }, { name := "R4", type := (.object "com/example/concordat/concordat/core/ConflictRule"), accessFlags := 16409, slot := 1, constantValue := 0 }, { name := "R5", type := (.object "com/example/concordat/concordat/core/ConflictRule"), accessFlags := 16409, slot := 2, constantValue := 0 }, { name := "R6", type := (.object "com/example/concordat/concordat/core/ConflictRule"), accessFlags := 16409, slot := 3, constantValue := 0 }, { name := "R7", type := (.object "com/example/concordat/concordat/core/ConflictRule"), accessFlags := 16409, slot := 4, constantValue := 0 }, { name := "R8", type := (.object "com/example/concordat/concordat/core/ConflictRule"), accessFlags := 16409, slot := 5, constantValue := 0 }, { name := "R9", type := (.object "com/example/concordat/concordat/core/ConflictRule"), accessFlags := 16409, slot := 6, constantValue := 0 }, { name := "R10", type := (.object "com/example/concordat/concordat/core/ConflictRule"), accessFlags := 16409, slot := 7, constantValue := 0 }, { name := "number", type := .int, accessFlags := 18, slot := 3, constantValue := 0 }, { name := "$VALUES", type := (.array (.object "com/example/concordat/concordat/core/ConflictRule")), accessFlags := 4122, slot := 8, constantValue := 0 }]
  methods := #[k8m0, k8m1]
  instanceTypes := #[(.object "java/lang/String"), .int, .int, .int]
  staticTypes := #[(.object "com/example/concordat/concordat/core/ConflictRule"), (.object "com/example/concordat/concordat/core/ConflictRule"), (.object "com/example/concordat/concordat/core/ConflictRule"), (.object "com/example/concordat/concordat/core/ConflictRule"), (.object "com/example/concordat/concordat/core/ConflictRule"), (.object "com/example/concordat/concordat/core/ConflictRule"), (.object "com/example/concordat/concordat/core/ConflictRule"), (.object "com/example/concordat/concordat/core/ConflictRule"), (.array (.object "com/example/concordat/concordat/core/ConflictRule"))]
  resolved := Array.replicate 102 none
  statics := some 2 }

def pool9 : Array CpInfo := pool [(1, u "java/lang/Cloneable"), (0, .class_ 1), (0, u "java/lang/Object"), (0, .class_ 3)] 3

/-- java/lang/Cloneable -/
def k9 : Class := { plain "java/lang/Cloneable" (some 0) with
  accessFlags := 1537
  interfaces := #[]
  cf := some (fileOf pool9 2 #[] #[] 1537 4 #[] #[])
  fields := #[]
  methods := #[]
  instanceTypes := #[]
  staticTypes := #[]
  resolved := Array.replicate 8 none
  statics := none }

/-- the primitive byte -/
def k10 : Class := { plain "byte" none with kind := .primitive 'B', accessFlags := 0x411 }
/-- [B -/
def k11 : Class := { plain "[B" (some 0) with kind := .array 10 .byte, interfaces := #[9, 4], accessFlags := 1041 }

/-- the primitive int -/
def k12 : Class := { plain "int" none with kind := .primitive 'I', accessFlags := 0x411 }
/-- [I -/
def k13 : Class := { plain "[I" (some 0) with kind := .array 12 .int, interfaces := #[9, 4], accessFlags := 1041 }

def heap : Heap := #[{ cls := 6, slots := #[.ref 3, .ref 4, .ref 5, .ref 6, .ref 7, .null], vm := .statics 6 },
  { cls := 7, slots := #[.ref 8, .ref 9, .null], vm := .statics 7 },
  { cls := 8, slots := #[.ref 10, .ref 11, .ref 12, .ref 13, .ref 14, .ref 15, .ref 16, .ref 17, .null], vm := .statics 8 },
  { cls := 6, slots := #[.null, .int 0, .int 0, .int 0, .int 0, .int 0], vm := .none },
  { cls := 6, slots := #[.null, .int 1, .int 0, .int 0, .int 0, .int 0], vm := .none },
  { cls := 6, slots := #[.null, .int 2, .int 0, .int 0, .int 0, .int 0], vm := .none },
  { cls := 6, slots := #[.null, .int 3, .int 0, .int 0, .int 0, .int 0], vm := .none },
  { cls := 6, slots := #[.null, .int 4, .int 0, .int 0, .int 0, .int 0], vm := .none },
  { cls := 7, slots := #[.null, .int 0, .int 0], vm := .none },
  { cls := 7, slots := #[.null, .int 1, .int 0], vm := .none },
  { cls := 8, slots := #[.null, .int 0, .int 0, .int 0], vm := .none },
  { cls := 8, slots := #[.null, .int 1, .int 0, .int 0], vm := .none },
  { cls := 8, slots := #[.null, .int 2, .int 0, .int 0], vm := .none },
  { cls := 8, slots := #[.null, .int 3, .int 0, .int 0], vm := .none },
  { cls := 8, slots := #[.null, .int 4, .int 0, .int 0], vm := .none },
  { cls := 8, slots := #[.null, .int 5, .int 0, .int 0], vm := .none },
  { cls := 8, slots := #[.null, .int 6, .int 0, .int 0], vm := .none },
  { cls := 8, slots := #[.null, .int 7, .int 0, .int 0], vm := .none }]
def classes : Array Class := #[k0, k1, k2, k3, k4, k5, k6, k7, k8, k9, k10, k11, k12, k13]
def interned : List (Array UInt16 × Addr) := []
def slotsUsed : Nat := 86
def theMethod : MethodId := ⟨1, 2⟩
def args0 : Array Value := #[.int 5, .int 4, .int 1, .int 0]
def aboutOver (below : List Frame) : State where
  vm := { classes := classes, interned := interned.toArray }
  heap := heap
  slotsUsed := slotsUsed
  threads := #[{ frames := .invoking theMethod args0 :: below }]
def below0 : List Frame := [.native { method := ⟨0, 0⟩, args := #[] }]
def about1 : State := aboutOver below0
def p0 : Program := .bare "" "" ""
def e0 : Env := launch0.env 0 0 0
theorem w_frames : about1.frames = Frame.invoking theMethod args0 :: below0 := rfl
set_option maxRecDepth 65536 in
theorem w_args : argsFit about1.vm theMethod args0 = true := by decide +kernel
set_option maxRecDepth 65536 in
theorem w_heap : heapFits about1 = true := by decide +kernel
set_option maxRecDepth 65536 in
theorem w_runnable : about1.curStatus? = some .runnable := by decide +kernel
set_option maxRecDepth 65536 in
theorem w_alone : about1.alone = true := by decide +kernel
set_option maxRecDepth 65536 in
theorem w_named : about1.methodNamed? x = some theMethod := by decide +kernel
set_option maxRecDepth 65536 in
theorem w_hears : about1.hears theMethod below0 = true := by decide +kernel
set_option maxRecDepth 65536 in
theorem w_ripe : about1.ripe theMethod args0 below0 = true := by decide +kernel
theorem w_running : about1.status = .running := rfl
set_option maxRecDepth 65536 in
theorem w_room : about1.hasRoom e0.platform room_1 = true :=
  launch0.hasRoom_least _ room_1 (by decide +kernel) (by decide +kernel) (by decide +kernel) (by decide +kernel) (by decide +kernel) (by decide +kernel)
theorem allAtoms_all (ts : List Jvm.Cond) (a : Array Jvm.Value) (st : Jvm.State) : (allAtoms ts).before a st = ts.all (fun c => c.before a st) := by
  induction ts with
  | nil => rfl
  | cons c t ih =>
    show (Jvm.Cond.and c (allAtoms t)).before a st = _
    rw [Jvm.Cond.before_and, ih, List.all_cons]
def words1 : List Jvm.Cond := Jvm.Cond.code x code maxLocals ret :: tables_1
/-- a 'code' word, met by the world's own term for the bytes: nothing is compared byte by byte -/
theorem code_word {y : MethodName} {bytes : ByteArray} {mx : Nat} {rt : Option FieldType} {a : Array Value} {s : State} {m : MethodId} {meth : Method} {c : Code} (h1 : s.methodNamed? y = some m) (h2 : s.vm.method? m = some meth) (h3 : meth.code = some c) (h4 : c.code = bytes)
    (h5 : (c.maxLocals == mx && c.exceptionTable.isEmpty && decide (c.maxStack ≤ mostOperands) && decide (meth.sig.returnType = rt) && !meth.locks && decide (parseMethodDescriptor y.desc = some meth.sig)) = true) : (Jvm.Cond.code y bytes mx rt).before a s = true := by
  simp only [Bool.and_eq_true, beq_iff_eq, Bool.not_eq_true', decide_eq_true_eq] at h5
  obtain ⟨⟨⟨⟨⟨g1, g2⟩, g3⟩, g4⟩, g5⟩, g6⟩ := h5
  simp [Cond.before, Cond.holds, Cond.value, h1, h2, h3, h4, g1, g2, g3, g4, g5, g6]
def isCode : Jvm.Cond → Bool
  | .code _ _ _ _ => true
  | _ => false
theorem all_split {L : List Jvm.Cond} {P : Jvm.Cond → Bool} (h1 : L.all (fun c => isCode c || P c) = true) (h2 : ∀ c ∈ L.filter isCode, P c = true) : L.all P = true := by
  refine List.all_eq_true.mpr fun c hc => ?_
  have h := List.all_eq_true.mp h1 c hc
  rcases Bool.eq_false_or_eq_true (isCode c) with hi | hi
  · exact h2 c (List.mem_filter.mpr ⟨hc, hi⟩)
  · simpa [hi] using h
set_option maxRecDepth 65536 in
theorem w_c0 : (Jvm.Cond.code x code maxLocals ret).before args0 about1 = true := code_word (m := ⟨1, 2⟩) (meth := k1m2) (c := k1c2) (by decide +kernel) rfl rfl rfl (by decide +kernel)
set_option maxRecDepth 65536 in
theorem w_c1 : (Jvm.Cond.code ({ cls := "com/example/concordat/concordat/core/ConflictRuleHolderReleasesPinLaw", name := "type", desc := "(I)Lcom/example/concordat/concordat/core/TransactionType;" } : Jvm.MethodName) method_2_code (2 : Nat) (Option.some (Jvm.ClassFile.FieldType.object "com/example/concordat/concordat/core/TransactionType"))).before args0 about1 = true := code_word (m := ⟨1, 1⟩) (meth := k1m1) (c := k1c1) (by decide +kernel) rfl rfl rfl (by decide +kernel)
set_option maxRecDepth 65536 in
theorem w_c2 : (Jvm.Cond.code ({ cls := "com/example/concordat/concordat/core/ConflictRule", name := "deciding", desc := "(Lcom/example/concordat/concordat/core/TransactionType;Lcom/example/concordat/concordat/core/TransactionType;Lcom/example/concordat/concordat/core/DocumentObject;Z)Lcom/example/concordat/concordat/core/ConflictRule;" } : Jvm.MethodName) prog_5_method_5_code (5 : Nat) (Option.some (Jvm.ClassFile.FieldType.object "com/example/concordat/concordat/core/ConflictRule"))).before args0 about1 = true := code_word (m := ⟨8, 0⟩) (meth := k8m0) (c := k8c0) (by decide +kernel) rfl rfl rfl (by decide +kernel)
set_option maxRecDepth 65536 in
theorem w_c3 : (Jvm.Cond.code ({ cls := "com/example/concordat/concordat/core/ConflictRule", name := "holderReleases", desc := "()Z" } : Jvm.MethodName) prog_5_method_6_code (1 : Nat) (Option.some Jvm.ClassFile.FieldType.boolean)).before args0 about1 = true := code_word (m := ⟨8, 1⟩) (meth := k8m1) (c := k8c1) (by decide +kernel) rfl rfl rfl (by decide +kernel)
def codes1 : List Jvm.Cond := [Jvm.Cond.code x code maxLocals ret, Jvm.Cond.code ({ cls := "com/example/concordat/concordat/core/ConflictRuleHolderReleasesPinLaw", name := "type", desc := "(I)Lcom/example/concordat/concordat/core/TransactionType;" } : Jvm.MethodName) method_2_code (2 : Nat) (Option.some (Jvm.ClassFile.FieldType.object "com/example/concordat/concordat/core/TransactionType")), Jvm.Cond.code ({ cls := "com/example/concordat/concordat/core/ConflictRule", name := "deciding", desc := "(Lcom/example/concordat/concordat/core/TransactionType;Lcom/example/concordat/concordat/core/TransactionType;Lcom/example/concordat/concordat/core/DocumentObject;Z)Lcom/example/concordat/concordat/core/ConflictRule;" } : Jvm.MethodName) prog_5_method_5_code (5 : Nat) (Option.some (Jvm.ClassFile.FieldType.object "com/example/concordat/concordat/core/ConflictRule")), Jvm.Cond.code ({ cls := "com/example/concordat/concordat/core/ConflictRule", name := "holderReleases", desc := "()Z" } : Jvm.MethodName) prog_5_method_6_code (1 : Nat) (Option.some Jvm.ClassFile.FieldType.boolean)]
set_option maxRecDepth 65536 in
theorem codes_eq : words1.filter isCode = codes1 := rfl
theorem w_codes : ∀ c ∈ words1.filter isCode, c.before args0 about1 = true := by
  rw [codes_eq]
  intro c hc
  simp only [codes1, List.mem_cons, List.not_mem_nil, or_false] at hc
  rcases hc with rfl | rfl | rfl | rfl
  · exact w_c0
  · exact w_c1
  · exact w_c2
  · exact w_c3
set_option maxRecDepth 65536 in
theorem w_t1 : (words1.take 24).all (fun c => isCode c || c.before args0 about1) = true := by decide +kernel
set_option maxRecDepth 65536 in
theorem w_t2 : ((words1.drop 24).take 24).all (fun c => isCode c || c.before args0 about1) = true := by decide +kernel
set_option maxRecDepth 65536 in
theorem w_t3 : ((words1.drop 24).drop 24).all (fun c => isCode c || c.before args0 about1) = true := by decide +kernel
theorem w_tables : (allAtoms (Jvm.Cond.code x code maxLocals ret :: tables_1)).before args0 about1 = true := by
  rw [allAtoms_all]
  show words1.all (fun c => c.before args0 about1) = true
  refine all_split ?_ w_codes
  rw [← List.take_append_drop 24 words1, List.all_append, w_t1, ← List.take_append_drop 24 (words1.drop 24), List.all_append, w_t2, w_t3]
  rfl
set_option maxRecDepth 65536 in
theorem w_case : (Jvm.Cond.and given_1 narrow_1).before args0 about1 = true := by decide +kernel
theorem w_applies : (headSpec (Jvm.Cond.code x code maxLocals ret :: tables_1) room_1).applies x e0.platform about1 = true :=
  (Spec.applies_iff w_frames).mpr ⟨w_running, w_runnable, w_alone, w_named, w_hears, w_ripe, w_room, w_tables⟩
theorem atStart : AtStart classFile x code maxLocals ret World_1 tables_1 room_1 Calls_1 rest_1 Pre_1 launch0 p0 e0 about1 theMethod args0 below0 :=
  ⟨lists_1, trivial, launch0.admits_env _ _ _, launch0.least_env, fairChoices_fair.cas, fairChoices_fair.clock, w_frames, w_args, w_heap, w_applies, trivial, trivial, w_case⟩
end start1
theorem witness_1 : WitnessClaimed_1 := ⟨start1.p0, start1.e0, start1.about1, start1.theMethod, start1.args0, start1.below0, start1.atStart⟩
end Jvm.Pilot.@@N@@
