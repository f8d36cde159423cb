import JvmDerived
import JvmDerived.Pilot.@@N@@Statement
import JvmDerived.Pilot.@@N@@Code
set_option linter.unusedVariables false
set_option linter.unusedSimpArgs false
namespace Jvm.Pilot.@@N@@
open Jvm Jvm.ClassFile Sem Op Lib Jvm.Free Jvm.Stand Jvm.LawKit Jvm.RoadKit Bundle Jvm.Pilot.@@N@@.Jvm.D
/-- a predicate that goes backwards over the machine's steps -/
def OwnAdv (p : Program) (e : Env) (below : List Frame) (G : State → Prop) : Prop := ∀ A B : State, (∀ t, Steps p.tables e below B t → Steps p.tables e below A t) → G B → G A
/-- what a return must show -/
def OwnFin (p : Program) (l : Launch) (e : Env) (R : Room) (s : State) (m : MethodId) (args : Array Value) (below : List Frame) (meth : Method) (c : Code) (G : State → Prop) (Q : Option Value → Heap → List Loc → Prop) (kc ks : Nat) : Prop :=
  ∀ (A T : State) (locs : List Loc) (cells slots : Nat) (v : Option Value) (h : Heap), Stand p l e R s m args below meth c T locs cells slots → T.heap = h → (meth.sig.returnType = none → v = none) → cells ≤ kc → slots ≤ ks → Q v h locs →
    (∀ fs : List Frame, (∀ (f : JFrame) (acts : List Action), f.method = m → f.locked = none → f.entered = [] → (doReturn e (T.setTop f) acts v).1 = T.setFrames fs) → Steps p.tables e below A (T.setFrames fs)) → G A
theorem own_body {l : Launch} {y : MethodName} {bytes : ByteArray} {maxL : Nat} {rt : Option FieldType} {ws : List Jvm.Cond} {rm : Room} {as' : Array Value} {Z : State} {h0 : Heap} {Q : Option Value → Heap → List Loc → Prop} (hpl : plainFor y = true)
    (body : ∀ (p : Program) (e : Env) (s : State) (m : MethodId) (below : List Frame) (meth : Method) (c : Code) (s₁ : State) (G : State → Prop), Stand p l e rm s m as' below meth c s₁ [] 0 0 → p.tables.exec = Jvm.exec → Z.Warmed39 s.vm → c.code = bytes → c.maxLocals = maxL → s.vm.findClass y.cls = some m.cls → meth.name = y.name → meth.sig.returnType = rt → s₁.heap = h0 →
      OwnAdv p e below G → OwnFin p l e rm s m as' below meth c G Q rm.cells rm.slots → G (s₁.setTop (entryFrame m as' maxL))) :
    MetFree l y (head1 (Jvm.Cond.code y bytes maxL rt :: ws) rm) (fun a U => a = as' ∧ Z.Warmed39 U.vm ∧ U.heap = h0) (fun _ _ _ _ _ => True) (fun _ U o U' => ∃ v L, o = .returned v ∧ Q v U'.heap L ∧ FrameEnd U o U' L rm.cells rm.slots) := by
  refine MetFree.of_bodySF hpl hisR ?_
  intro p e s m args below meth c s₁ Bd hml0 hP hK
  obtain ⟨rfl, hZ, hh⟩ := hP
  have e0 : s₁.heap = h0 := by rw [← hh, Bd.state]; rfl
  refine body p e s m below meth c s₁ (fun A => ∃ s₂ o, Steps p.tables e below A s₂ ∧ s₂.status = .running ∧ Ended s₂ below o ∧ ∃ v L, o = .returned v ∧ Q v s₂.heap L ∧ FrameEnd s o s₂ L rm.cells rm.slots) (Stand.of_body Bd) Bd.exec hZ Bd.bytes hml0 (findClass_of_methodNamed Bd.named) (name_of_methodNamed Bd.named Bd.method).1 Bd.returns e0 ?_ ?_
  · intro A B h g
    obtain ⟨t, o, st, r⟩ := g
    exact ⟨t, o, h t st, r⟩
  · intro A T locs cells slots v h X eT hv hc hl hQ hs
    obtain ⟨fs, hr, hrun, hended, hW, hsame⟩ := X.leave (v := v) hv Bd.notSynchronized
    exact ⟨_, _, hs fs hr, hrun, hended, v, locs, rfl, (show Q v T.heap locs by rw [eT]; exact hQ), ⟨_, rfl⟩, hW, hsame.mono hc hl⟩
section OwnRet
variable {p : Program} {l : Launch} {e : Env} {R : Room} {s : State} {m : MethodId} {args : Array Value} {below : List Frame} {meth : Method} {c : Code} {T : State} {locs : List Loc} {cells slots : Nat}
theorem own_retI (X : Stand p l e R s m args below meth c T locs cells slots) (hx : p.tables.exec = Jvm.exec) {pc : Nat} {Ls : Array Slot} {z : Int32} {rest : List Value} (hret : meth.sig.returnType = some .int) (hd : decode c.code pc = .ok (.ireturn, 1)) {fs : List Frame}
    (hl : ∀ (f : JFrame) (acts : List Action), f.method = m → f.locked = none → f.entered = [] → (doReturn e (T.setTop f) acts (some (.int z))).1 = T.setFrames fs) : Steps p.tables e below (T.setTop (mkF m pc Ls (.int z :: rest))) (T.setFrames fs) :=
  retOut X hx hret rfl (Or.inl ⟨rfl, Or.inl rfl, z, rfl⟩) hd hl
theorem own_retJ (X : Stand p l e R s m args below meth c T locs cells slots) (hx : p.tables.exec = Jvm.exec) {pc : Nat} {Ls : Array Slot} {z : Int64} {rest : List Value} (hret : meth.sig.returnType = some .long) (hd : decode c.code pc = .ok (.lreturn, 1)) {fs : List Frame}
    (hl : ∀ (f : JFrame) (acts : List Action), f.method = m → f.locked = none → f.entered = [] → (doReturn e (T.setTop f) acts (some (.long z))).1 = T.setFrames fs) : Steps p.tables e below (T.setTop (mkF m pc Ls (.long z :: rest))) (T.setFrames fs) :=
  retOut X hx hret rfl (Or.inr (Or.inl ⟨rfl, rfl, z, rfl⟩)) hd hl
theorem own_retA (X : Stand p l e R s m args below meth c T locs cells slots) (hx : p.tables.exec = Jvm.exec) {pc : Nat} {Ls : Array Slot} {w : Value} {t : FieldType} {rest : List Value} (hret : meth.sig.returnType = some t) (ht : t.isReference = true) (hn : narrow t w = w) (hw : w.isRef = true) (hd : decode c.code pc = .ok (.areturn, 1)) {fs : List Frame}
    (hl : ∀ (f : JFrame) (acts : List Action), f.method = m → f.locked = none → f.entered = [] → (doReturn e (T.setTop f) acts (some w)).1 = T.setFrames fs) : Steps p.tables e below (T.setTop (mkF m pc Ls (w :: rest))) (T.setFrames fs) :=
  retOut X hx hret hn (Or.inr (Or.inr (Or.inr (Or.inr ⟨rfl, ht, hw⟩)))) hd hl
end OwnRet

theorem pd_0 : parseMethodDescriptor "(I)Lcom/example/nodex/nodex/records/DataRegion$Content;" = some ⟨[.int], some (.object "com/example/nodex/nodex/records/DataRegion$Content")⟩ := by decide +kernel
theorem pd_1 : parseMethodDescriptor "([IIIIJLcom/example/nodex/nodex/records/DataRegion$Content;)V" = some ⟨[(.array .int), .int, .int, .int, .long, (.object "com/example/nodex/nodex/records/DataRegion$Content")], none⟩ := by decide +kernel
theorem pd_2 : parseMethodDescriptor "()Ljava/util/List;" = some ⟨[], some (.object "java/util/List")⟩ := by decide +kernel
theorem pd_3 : parseMethodDescriptor "([IIIILjava/util/List;IJJLcom/example/nodex/nodex/records/DataRegion$Content;)V" = some ⟨[(.array .int), .int, .int, .int, (.object "java/util/List"), .int, .long, .long, (.object "com/example/nodex/nodex/records/DataRegion$Content")], none⟩ := by decide +kernel
theorem pd_4 : parseMethodDescriptor "()V" = some ⟨[], none⟩ := by decide +kernel
theorem pd_5 : parseMethodDescriptor "(Lcom/example/nodex/nodex/records/DataRegion;)Z" = some ⟨[(.object "com/example/nodex/nodex/records/DataRegion")], some .boolean⟩ := by decide +kernel
theorem pd_6 : parseMethodDescriptor "(JIJI)Z" = some ⟨[.long, .int, .long, .int], some .boolean⟩ := by decide +kernel
def own_out (s1 s2 : Int64) (c1 c2 : Int32) : Int32 := if s2 < s1 ∨ (s1 = s2 ∧ c2 < c1) then (1 : Int32) else (0 : Int32)
theorem own_out1 {s1 s2 : Int64} {c1 c2 : Int32} (h : s2 < s1) : own_out s1 s2 c1 c2 = (1 : Int32) := if_pos (Or.inl h)
theorem own_out2 {s1 s2 : Int64} {c1 c2 : Int32} (h : s1 = s2) (g : c2 < c1) : own_out s1 s2 c1 c2 = (1 : Int32) := if_pos (Or.inr ⟨h, g⟩)
theorem own_out3 {s1 s2 : Int64} {c1 c2 : Int32} (h : ¬ s2 < s1) (g : ¬ s1 = s2) : own_out s1 s2 c1 c2 = (0 : Int32) := if_neg fun q => q.elim h fun z => g z.1
theorem own_out4 {s1 s2 : Int64} {c1 c2 : Int32} (h : ¬ s2 < s1) (g : ¬ c2 < c1) : own_out s1 s2 c1 c2 = (0 : Int32) := if_neg fun q => q.elim h fun z => g z.2
theorem own_self (s1 : Int64) (c1 : Int32) : own_out s1 s1 c1 c1 = (0 : Int32) := own_out4 (by rw [Int64.lt_iff_toInt_lt]; omega) (by rw [Int32.lt_iff_toInt_lt]; omega)
theorem own_lt {s1 s2 : Int64} {c1 c2 : Int32} (h : s1 < s2) : own_out s1 s2 c1 c2 = (0 : Int32) := own_out3 (by rw [Int64.lt_iff_toInt_lt] at *; omega) (by rw [Int64.lt_iff_toInt_lt] at h; rw [← Int64.toInt_inj]; omega)
theorem own_eq {s1 s2 : Int64} (h : ¬ s1 < s2) (g : ¬ s2 < s1) : s1 = s2 := by rw [Int64.lt_iff_toInt_lt] at *; rw [← Int64.toInt_inj]; omega
theorem d1_0 : decode method_4_code 0 = .ok (.iload_n 0, 1) := by decide +kernel
theorem d1_1 : decode method_4_code 1 = .ok (.iconst 3, 1) := by decide +kernel
theorem d1_2 : decode method_4_code 2 = .ok (.iand, 1) := by decide +kernel
theorem d1_3 : decode method_4_code 3 = .ok (.istore_n 1, 1) := by decide +kernel
theorem d1_4 : decode method_4_code 4 = .ok (.iload_n 1, 1) := by decide +kernel
theorem d1_5 : decode method_4_code 5 = .ok (.ifCond .ne 7, 3) := by decide +kernel
theorem d1_8 : decode method_4_code 8 = .ok (.getstatic 27, 3) := by decide +kernel
theorem d1_11 : decode method_4_code 11 = .ok (.areturn, 1) := by decide +kernel
theorem d1_12 : decode method_4_code 12 = .ok (.iload_n 1, 1) := by decide +kernel
theorem d1_13 : decode method_4_code 13 = .ok (.iconst 1, 1) := by decide +kernel
theorem d1_14 : decode method_4_code 14 = .ok (.if_icmp .ne 7, 3) := by decide +kernel
theorem d1_17 : decode method_4_code 17 = .ok (.getstatic 33, 3) := by decide +kernel
theorem d1_20 : decode method_4_code 20 = .ok (.areturn, 1) := by decide +kernel
theorem d1_21 : decode method_4_code 21 = .ok (.getstatic 36, 3) := by decide +kernel
theorem d1_24 : decode method_4_code 24 = .ok (.areturn, 1) := by decide +kernel
theorem pn_1 : plainFor (⟨"com/example/nodex/nodex/records/DataRegionOutranksPinLaw", "pick", "(I)Lcom/example/nodex/nodex/records/DataRegion$Content;"⟩ : MethodName) = true := plainFor_of_name (by first | (simp [plainName, overriddenIn]; done) | decide +kernel)
theorem ef_rmP (m : MethodId) (x0 : Int32) : entryFrame m #[(.int x0)] 2 = mkF m 0 #[.val (.int x0), .unset] [] := by first | (simp [entryFrame, mkF, argsToLocals, Value.category]; done) | rfl
def Q_rmP (Z : State) (u : Int32) (wI wL wF : Addr) (h0 : Heap) (n0 : Nat) (v : Option Value) (h : Heap) (L : List Loc) : Prop := ∃ b, v = some (.ref b) ∧ Fr n0 L ∧ h = h0
set_option maxRecDepth 65536 in
set_option maxHeartbeats 40000000 in
theorem rmP (l : Launch) (Z : State) (a0 : Array Value) (hw : ∀ d ∈ tables_1, d.before a0 Z = true) (ws : List Jvm.Cond) (u : Int32) (wI wL wF : Addr) (h0 : Heap) (n0 : Nat) (Z0 : n0 ≤ h0.size) (O0 : Old Z n0 h0) (S_ITEMS : Sta Z Z.heap "com/example/nodex/nodex/records/DataRegion$Content" "ITEMS" "Lcom/example/nodex/nodex/records/DataRegion$Content;" (.ref wI)) (S_LINKS : Sta Z Z.heap "com/example/nodex/nodex/records/DataRegion$Content" "LINKS" "Lcom/example/nodex/nodex/records/DataRegion$Content;" (.ref wL)) (S_FIELDS : Sta Z Z.heap "com/example/nodex/nodex/records/DataRegion$Content" "FIELDS" "Lcom/example/nodex/nodex/records/DataRegion$Content;" (.ref wF)) :
    MetFree l (⟨"com/example/nodex/nodex/records/DataRegionOutranksPinLaw", "pick", "(I)Lcom/example/nodex/nodex/records/DataRegion$Content;"⟩ : MethodName) (head1 (Jvm.Cond.code (⟨"com/example/nodex/nodex/records/DataRegionOutranksPinLaw", "pick", "(I)Lcom/example/nodex/nodex/records/DataRegion$Content;"⟩ : MethodName) method_4_code 2 (some (.object "com/example/nodex/nodex/records/DataRegion$Content")) :: ws) ({ frames := 0, cells := 0, slots := 0, locals := 0 } : Room)) (fun a U => a = #[(.int u)] ∧ Z.Warmed39 U.vm ∧ U.heap = h0) (fun _ _ _ _ _ => True) (fun _ U o U' => ∃ v L, o = .returned v ∧ Q_rmP Z u wI wL wF h0 n0 v U'.heap L ∧ FrameEnd U o U' L ({ frames := 0, cells := 0, slots := 0, locals := 0 } : Room).cells ({ frames := 0, cells := 0, slots := 0, locals := 0 } : Room).slots) := by
  refine own_body (Q := fun v h L => Q_rmP Z u wI wL wF h0 n0 v h L) pn_1 ?_
  intro p e s m below meth c s₁ G X0 hx hZ hby hml hown hnm hrt e0 hG hF
  have hown : s.vm.findClass "com/example/nodex/nodex/records/DataRegionOutranksPinLaw" = some m.cls := hown
  have N0 := Fr.nil n0
  rw [ef_rmP m u]
  show G (s₁.setTop (mkF m 0 #[.val (.int u), .unset] []))
  refine hG _ (s₁.setTop (mkF m 5 #[.val (.int u), .val (.int (u &&& (3 : Int32)))] [(.int (u &&& (3 : Int32)))])) (fun t₀ k₀ => ?_) ?_
  · show Steps p.tables e below (s₁.setTop (mkF m 0 #[.val (.int u), .unset] [])) t₀
    refine XS.iloadN X0.here hx rfl (hb hby d1_0) rfl ?_
    show Steps p.tables e below (s₁.setTop (mkF m 1 #[.val (.int u), .unset] [(.int u)])) t₀
    refine XS.iconst X0.here hx rfl (hb hby d1_1) ?_
    show Steps p.tables e below (s₁.setTop (mkF m 2 #[.val (.int u), .unset] [(.int (3 : Int32)), (.int u)])) t₀
    refine XS.iand X0.here hx rfl (hb hby d1_2) rfl ?_
    show Steps p.tables e below (s₁.setTop (mkF m 3 #[.val (.int u), .unset] [(.int (u &&& (3 : Int32)))])) t₀
    refine XS.istoreN X0.here hx rfl (hb hby d1_3) rfl (l' := #[.val (.int u), .val (.int (u &&& (3 : Int32)))]) rfl ?_
    show Steps p.tables e below (s₁.setTop (mkF m 4 #[.val (.int u), .val (.int (u &&& (3 : Int32)))] [])) t₀
    refine XS.iloadN X0.here hx rfl (hb hby d1_4) rfl ?_
    exact k₀
  by_cases hc5 : (u &&& (3 : Int32)) = (0 : Int32)
  ·
    refine hG _ (s₁.setTop (mkF m 8 #[.val (.int u), .val (.int (u &&& (3 : Int32)))] [])) (fun t₀ k₀ => ?_) ?_
    · show Steps p.tables e below (s₁.setTop (mkF m 5 #[.val (.int u), .val (.int (u &&& (3 : Int32)))] [(.int (u &&& (3 : Int32)))])) t₀
      refine XS.ifNo X0.here hx rfl (hb hby d1_5) rfl ((if0 _ _).trans (teq hc5).2) ?_
      exact k₀
    obtain ⟨T1, X1, e1, st1⟩ := getS2 X0 hx hZ hown (host := "") (Or.inl (hw _ (List.mem_of_getElem? (i := 5) rfl))) Via.refl e0 (S_ITEMS.ext O0.2) (g := (mkF m 8 #[.val (.int u), .val (.int (u &&& (3 : Int32)))] [])) rfl (hb hby d1_8)
    refine hG _ _ (fun t₀ k₀ => st1 _ k₀) ?_
    show G (T1.setTop (mkF m 11 #[.val (.int u), .val (.int (u &&& (3 : Int32)))] [(.ref wI)]))
    refine hF _ T1 _ _ _ (some (.ref wI)) _ X1 e1 (fun h => by rw [hrt] at h; cases h) (by decide) (by decide) ?_ (fun fs hr => own_retA X1 hx hrt rfl rfl rfl (hb hby d1_11) hr)
    exact ⟨_, rfl, N0, rfl⟩
  ·
    refine hG _ (s₁.setTop (mkF m 14 #[.val (.int u), .val (.int (u &&& (3 : Int32)))] [(.int (1 : Int32)), (.int (u &&& (3 : Int32)))])) (fun t₀ k₀ => ?_) ?_
    · show Steps p.tables e below (s₁.setTop (mkF m 5 #[.val (.int u), .val (.int (u &&& (3 : Int32)))] [(.int (u &&& (3 : Int32)))])) t₀
      refine XS.ifYes X0.here hx rfl (pc0 := 5) (pc' := 12) rfl (hb hby d1_5) rfl ((if0 _ _).trans (feq hc5).2) (by decide) (by decide) ?_
      show Steps p.tables e below (s₁.setTop (mkF m 12 #[.val (.int u), .val (.int (u &&& (3 : Int32)))] [])) t₀
      refine XS.iloadN X0.here hx rfl (hb hby d1_12) rfl ?_
      show Steps p.tables e below (s₁.setTop (mkF m 13 #[.val (.int u), .val (.int (u &&& (3 : Int32)))] [(.int (u &&& (3 : Int32)))])) t₀
      refine XS.iconst X0.here hx rfl (hb hby d1_13) ?_
      exact k₀
    by_cases hc14 : (u &&& (3 : Int32)) = (1 : Int32)
    ·
      refine hG _ (s₁.setTop (mkF m 17 #[.val (.int u), .val (.int (u &&& (3 : Int32)))] [])) (fun t₀ k₀ => ?_) ?_
      · show Steps p.tables e below (s₁.setTop (mkF m 14 #[.val (.int u), .val (.int (u &&& (3 : Int32)))] [(.int (1 : Int32)), (.int (u &&& (3 : Int32)))])) t₀
        refine XS.icmpNo X0.here hx rfl (hb hby d1_14) rfl (teq hc14).2 ?_
        exact k₀
      obtain ⟨T2, X2, e2, st2⟩ := getS2 X0 hx hZ hown (host := "") (Or.inl (hw _ (List.mem_of_getElem? (i := 55) rfl))) Via.refl e0 (S_LINKS.ext O0.2) (g := (mkF m 17 #[.val (.int u), .val (.int (u &&& (3 : Int32)))] [])) rfl (hb hby d1_17)
      refine hG _ _ (fun t₀ k₀ => st2 _ k₀) ?_
      show G (T2.setTop (mkF m 20 #[.val (.int u), .val (.int (u &&& (3 : Int32)))] [(.ref wL)]))
      refine hF _ T2 _ _ _ (some (.ref wL)) _ X2 e2 (fun h => by rw [hrt] at h; cases h) (by decide) (by decide) ?_ (fun fs hr => own_retA X2 hx hrt rfl rfl rfl (hb hby d1_20) hr)
      exact ⟨_, rfl, N0, rfl⟩
    ·
      refine hG _ (s₁.setTop (mkF m 21 #[.val (.int u), .val (.int (u &&& (3 : Int32)))] [])) (fun t₀ k₀ => ?_) ?_
      · show Steps p.tables e below (s₁.setTop (mkF m 14 #[.val (.int u), .val (.int (u &&& (3 : Int32)))] [(.int (1 : Int32)), (.int (u &&& (3 : Int32)))])) t₀
        refine XS.icmpYes X0.here hx rfl (pc0 := 14) (pc' := 21) rfl (hb hby d1_14) rfl (feq hc14).2 (by decide) (by decide) ?_
        exact k₀
      obtain ⟨T3, X3, e3, st3⟩ := getS2 X0 hx hZ hown (host := "") (Or.inl (hw _ (List.mem_of_getElem? (i := 53) rfl))) Via.refl e0 (S_FIELDS.ext O0.2) (g := (mkF m 21 #[.val (.int u), .val (.int (u &&& (3 : Int32)))] [])) rfl (hb hby d1_21)
      refine hG _ _ (fun t₀ k₀ => st3 _ k₀) ?_
      show G (T3.setTop (mkF m 24 #[.val (.int u), .val (.int (u &&& (3 : Int32)))] [(.ref wF)]))
      refine hF _ T3 _ _ _ (some (.ref wF)) _ X3 e3 (fun h => by rw [hrt] at h; cases h) (by decide) (by decide) ?_ (fun fs hr => own_retA X3 hx hrt rfl rfl rfl (hb hby d1_24) hr)
      exact ⟨_, rfl, N0, rfl⟩
theorem d3_0 : decode jdk_40_method_36_code 0 = .ok (.getstatic 90, 3) := by decide +kernel
theorem d3_3 : decode jdk_40_method_36_code 3 = .ok (.areturn, 1) := by decide +kernel
theorem pn_3 : plainFor (⟨"java/util/List", "of", "()Ljava/util/List;"⟩ : MethodName) = true := plainFor_of_name (by first | (simp [plainName, overriddenIn]; done) | decide +kernel)
theorem ef_rmL (m : MethodId)  : entryFrame m #[] 0 = mkF m 0 #[] [] := by first | (simp [entryFrame, mkF, argsToLocals, Value.category]; done) | rfl
def Q_rmL (Z : State) (wE : Addr) (h0 : Heap) (n0 : Nat) (v : Option Value) (h : Heap) (L : List Loc) : Prop := v = some (.ref wE) ∧ Fr n0 L ∧ h = h0
set_option maxRecDepth 65536 in
set_option maxHeartbeats 40000000 in
theorem rmL (l : Launch) (Z : State) (a0 : Array Value) (hw : ∀ d ∈ tables_1, d.before a0 Z = true) (ws : List Jvm.Cond) (wE : Addr) (h0 : Heap) (n0 : Nat) (Z0 : n0 ≤ h0.size) (O0 : Old Z n0 h0) (S_EMPTY : Sta Z Z.heap "java/util/ImmutableCollections" "EMPTY_LIST" "Ljava/util/ImmutableCollections$ListN;" (.ref wE)) :
    MetFree l (⟨"java/util/List", "of", "()Ljava/util/List;"⟩ : MethodName) (head1 (Jvm.Cond.code (⟨"java/util/List", "of", "()Ljava/util/List;"⟩ : MethodName) jdk_40_method_36_code 0 (some (.object "java/util/List")) :: ws) ({ frames := 0, cells := 0, slots := 0, locals := 0 } : Room)) (fun a U => a = #[] ∧ Z.Warmed39 U.vm ∧ U.heap = h0) (fun _ _ _ _ _ => True) (fun _ U o U' => ∃ v L, o = .returned v ∧ Q_rmL Z wE h0 n0 v U'.heap L ∧ FrameEnd U o U' L ({ frames := 0, cells := 0, slots := 0, locals := 0 } : Room).cells ({ frames := 0, cells := 0, slots := 0, locals := 0 } : Room).slots) := by
  refine own_body (Q := fun v h L => Q_rmL Z wE h0 n0 v h L) pn_3 ?_
  intro p e s m below meth c s₁ G X0 hx hZ hby hml hown hnm hrt e0 hG hF
  have hown : s.vm.findClass "java/util/List" = some m.cls := hown
  have N0 := Fr.nil n0
  rw [ef_rmL m]
  show G (s₁.setTop (mkF m 0 #[] []))
  obtain ⟨T1, X1, e1, st1⟩ := getS2 X0 hx hZ hown (host := "") (Or.inl (hw _ (List.mem_of_getElem? (i := 19) rfl))) Via.refl e0 (S_EMPTY.ext O0.2) (g := (mkF m 0 #[] [])) rfl (hb hby d3_0)
  refine hG _ _ (fun t₀ k₀ => st1 _ k₀) ?_
  show G (T1.setTop (mkF m 3 #[] [(.ref wE)]))
  refine hF _ T1 _ _ _ (some (.ref wE)) _ X1 e1 (fun h => by rw [hrt] at h; cases h) (by decide) (by decide) ?_ (fun fs hr => own_retA X1 hx hrt rfl rfl rfl (hb hby d3_3) hr)
  exact ⟨rfl, N0, rfl⟩
theorem d4_0 : decode prog_22_method_2_code 0 = .ok (.aload_n 0, 1) := by decide +kernel
theorem d4_1 : decode prog_22_method_2_code 1 = .ok (.invokespecial 13, 3) := by decide +kernel
theorem d4_4 : decode prog_22_method_2_code 4 = .ok (.aload_n 0, 1) := by decide +kernel
theorem d4_5 : decode prog_22_method_2_code 5 = .ok (.aload_n 1, 1) := by decide +kernel
theorem d4_6 : decode prog_22_method_2_code 6 = .ok (.putfield 18, 3) := by decide +kernel
theorem d4_9 : decode prog_22_method_2_code 9 = .ok (.aload_n 0, 1) := by decide +kernel
theorem d4_10 : decode prog_22_method_2_code 10 = .ok (.iload_n 2, 1) := by decide +kernel
theorem d4_11 : decode prog_22_method_2_code 11 = .ok (.putfield 22, 3) := by decide +kernel
theorem d4_14 : decode prog_22_method_2_code 14 = .ok (.aload_n 0, 1) := by decide +kernel
theorem d4_15 : decode prog_22_method_2_code 15 = .ok (.iload_n 3, 1) := by decide +kernel
theorem d4_16 : decode prog_22_method_2_code 16 = .ok (.putfield 26, 3) := by decide +kernel
theorem d4_19 : decode prog_22_method_2_code 19 = .ok (.aload_n 0, 1) := by decide +kernel
theorem d4_20 : decode prog_22_method_2_code 20 = .ok (.iload 4, 2) := by decide +kernel
theorem d4_22 : decode prog_22_method_2_code 22 = .ok (.putfield 29, 3) := by decide +kernel
theorem d4_25 : decode prog_22_method_2_code 25 = .ok (.aload_n 0, 1) := by decide +kernel
theorem d4_26 : decode prog_22_method_2_code 26 = .ok (.aload 5, 2) := by decide +kernel
theorem d4_28 : decode prog_22_method_2_code 28 = .ok (.putfield 32, 3) := by decide +kernel
theorem d4_31 : decode prog_22_method_2_code 31 = .ok (.aload_n 0, 1) := by decide +kernel
theorem d4_32 : decode prog_22_method_2_code 32 = .ok (.iload 6, 2) := by decide +kernel
theorem d4_34 : decode prog_22_method_2_code 34 = .ok (.putfield 36, 3) := by decide +kernel
theorem d4_37 : decode prog_22_method_2_code 37 = .ok (.aload_n 0, 1) := by decide +kernel
theorem d4_38 : decode prog_22_method_2_code 38 = .ok (.lload 7, 2) := by decide +kernel
theorem d4_40 : decode prog_22_method_2_code 40 = .ok (.putfield 39, 3) := by decide +kernel
theorem d4_43 : decode prog_22_method_2_code 43 = .ok (.aload_n 0, 1) := by decide +kernel
theorem d4_44 : decode prog_22_method_2_code 44 = .ok (.lload 9, 2) := by decide +kernel
theorem d4_46 : decode prog_22_method_2_code 46 = .ok (.putfield 43, 3) := by decide +kernel
theorem d4_49 : decode prog_22_method_2_code 49 = .ok (.aload_n 0, 1) := by decide +kernel
theorem d4_50 : decode prog_22_method_2_code 50 = .ok (.aload 11, 2) := by decide +kernel
theorem d4_52 : decode prog_22_method_2_code 52 = .ok (.putfield 46, 3) := by decide +kernel
theorem d4_55 : decode prog_22_method_2_code 55 = .ok (.return_, 1) := by decide +kernel
theorem pn_4 : plainFor (⟨"com/example/nodex/nodex/records/DataRegion", "<init>", "([IIIILjava/util/List;IJJLcom/example/nodex/nodex/records/DataRegion$Content;)V"⟩ : MethodName) = true := plainFor_of_name (by first | (simp [plainName, overriddenIn]; done) | decide +kernel)
theorem ef_rm2 (m : MethodId) (x0 : Addr) (x1 : Addr) (x2 : Int32) (x3 : Int32) (x4 : Int32) (x5 : Addr) (x6 : Int32) (x7 : Int64) (x8 : Int64) (x9 : Addr) : entryFrame m #[(.ref x0), (.ref x1), (.int x2), (.int x3), (.int x4), (.ref x5), (.int x6), (.long x7), (.long x8), (.ref x9)] 12 = mkF m 0 #[.val (.ref x0), .val (.ref x1), .val (.int x2), .val (.int x3), .val (.int x4), .val (.ref x5), .val (.int x6), .val (.long x7), .second, .val (.long x8), .second, .val (.ref x9)] [] := by first | (simp [entryFrame, mkF, argsToLocals, Value.category]; done) | rfl
def Q_rm2 (Z : State) (a1 a2 : Addr) (u1 u2 u3 : Int32) (a3 : Addr) (u4 : Int32) (q1 q2 : Int64) (a4 : Addr) (h0 : Heap) (n0 : Nat) (v : Option Value) (h : Heap) (L : List Loc) : Prop := v = none ∧ Fr n0 L ∧ Keep h0 h [a1] ∧ Fld Z h a1 "com/example/nodex/nodex/records/DataRegion" "recordCount" "I" (.int u4) ∧ Fld Z h a1 "com/example/nodex/nodex/records/DataRegion" "standing" "J" (.long q2)
set_option maxRecDepth 65536 in
set_option maxHeartbeats 40000000 in
theorem rm2 (l : Launch) (Z : State) (a0 : Array Value) (hw : ∀ d ∈ tables_1, d.before a0 Z = true) (ws : List Jvm.Cond) (a1 a2 : Addr) (u1 u2 u3 : Int32) (a3 : Addr) (u4 : Int32) (q1 q2 : Int64) (a4 : Addr) (h0 : Heap) (n0 : Nat) (Z0 : n0 ≤ h0.size) (E1 : Exa Z h0 a1 "com/example/nodex/nodex/records/DataRegion") (g1 : n0 ≤ a1) (F_children : Fld Z h0 a1 "com/example/nodex/nodex/records/DataRegion" "children" "[I" .null) (F_first : Fld Z h0 a1 "com/example/nodex/nodex/records/DataRegion" "first" "I" (.int (0 : Int32))) (F_span : Fld Z h0 a1 "com/example/nodex/nodex/records/DataRegion" "span" "I" (.int (0 : Int32))) (F_count : Fld Z h0 a1 "com/example/nodex/nodex/records/DataRegion" "count" "I" (.int (0 : Int32))) (F_parts : Fld Z h0 a1 "com/example/nodex/nodex/records/DataRegion" "parts" "Ljava/util/List;" .null) (F_recordCount : Fld Z h0 a1 "com/example/nodex/nodex/records/DataRegion" "recordCount" "I" (.int (0 : Int32))) (F_weight : Fld Z h0 a1 "com/example/nodex/nodex/records/DataRegion" "weight" "J" (.long (0 : Int64))) (F_standing : Fld Z h0 a1 "com/example/nodex/nodex/records/DataRegion" "standing" "J" (.long (0 : Int64))) (F_content : Fld Z h0 a1 "com/example/nodex/nodex/records/DataRegion" "content" "Lcom/example/nodex/nodex/records/DataRegion$Content;" .null) :
    MetFree l (⟨"com/example/nodex/nodex/records/DataRegion", "<init>", "([IIIILjava/util/List;IJJLcom/example/nodex/nodex/records/DataRegion$Content;)V"⟩ : MethodName) (head1 (Jvm.Cond.code (⟨"com/example/nodex/nodex/records/DataRegion", "<init>", "([IIIILjava/util/List;IJJLcom/example/nodex/nodex/records/DataRegion$Content;)V"⟩ : MethodName) prog_22_method_2_code 12 none :: ws) ({ frames := 1, cells := 0, slots := 0, locals := 12 } : Room)) (fun a U => a = #[(.ref a1), (.ref a2), (.int u1), (.int u2), (.int u3), (.ref a3), (.int u4), (.long q1), (.long q2), (.ref a4)] ∧ Z.Warmed39 U.vm ∧ U.heap = h0) (fun _ _ _ _ _ => True) (fun _ U o U' => ∃ v L, o = .returned v ∧ Q_rm2 Z a1 a2 u1 u2 u3 a3 u4 q1 q2 a4 h0 n0 v U'.heap L ∧ FrameEnd U o U' L ({ frames := 1, cells := 0, slots := 0, locals := 12 } : Room).cells ({ frames := 1, cells := 0, slots := 0, locals := 12 } : Room).slots) := by
  refine own_body (Q := fun v h L => Q_rm2 Z a1 a2 u1 u2 u3 a3 u4 q1 q2 a4 h0 n0 v h L) pn_4 ?_
  intro p e s m below meth c s₁ G X0 hx hZ hby hml hown hnm hrt e0 hG hF
  have hown : s.vm.findClass "com/example/nodex/nodex/records/DataRegion" = some m.cls := hown
  have hnm : meth.name = "<init>" := hnm
  have N0 := Fr.nil n0
  rw [ef_rm2 m a1 a2 u1 u2 u3 a3 u4 q1 q2 a4]
  show G (s₁.setTop (mkF m 0 #[.val (.ref a1), .val (.ref a2), .val (.int u1), .val (.int u2), .val (.int u3), .val (.ref a3), .val (.int u4), .val (.long q1), .second, .val (.long q2), .second, .val (.ref a4)] []))
  refine hG _ (s₁.setTop (mkF m 1 #[.val (.ref a1), .val (.ref a2), .val (.int u1), .val (.int u2), .val (.int u3), .val (.ref a3), .val (.int u4), .val (.long q1), .second, .val (.long q2), .second, .val (.ref a4)] [(.ref a1)])) (fun t₀ k₀ => ?_) ?_
  · show Steps p.tables e below (s₁.setTop (mkF m 0 #[.val (.ref a1), .val (.ref a2), .val (.int u1), .val (.int u2), .val (.int u3), .val (.ref a3), .val (.int u4), .val (.long q1), .second, .val (.long q2), .second, .val (.ref a4)] [])) t₀
    refine XS.aloadN X0.here hx rfl (hb hby d4_0) rfl rfl ?_
    exact k₀
  obtain ⟨T1, X1, e1, st1⟩ := initO X0 hx hZ hown (hw _ (List.mem_of_getElem? (i := 24) rfl)) (hw _ (List.mem_of_getElem? (i := 25) rfl)) (hw _ (List.mem_of_getElem? (i := 26) rfl)) e0 (g := (mkF m 1 #[.val (.ref a1), .val (.ref a2), .val (.int u1), .val (.int u2), .val (.int u3), .val (.ref a3), .val (.int u4), .val (.long q1), .second, .val (.long q2), .second, .val (.ref a4)] [(.ref a1)])) rfl (by rw [hml]; rfl) rfl (hb hby d4_1) (by decide) (W := 0) (by show 2 * 0 + _ ≤ _; exact Nat.le_of_eq rfl) (by decide)
  refine hG _ _ (fun t₀ k₀ => st1 _ k₀) ?_
  show G (T1.setTop (mkF m 4 #[.val (.ref a1), .val (.ref a2), .val (.int u1), .val (.int u2), .val (.int u3), .val (.ref a3), .val (.int u4), .val (.long q1), .second, .val (.long q2), .second, .val (.ref a4)] []))
  refine hG _ (T1.setTop (mkF m 6 #[.val (.ref a1), .val (.ref a2), .val (.int u1), .val (.int u2), .val (.int u3), .val (.ref a3), .val (.int u4), .val (.long q1), .second, .val (.long q2), .second, .val (.ref a4)] [(.ref a2), (.ref a1)])) (fun t₀ k₀ => ?_) ?_
  · show Steps p.tables e below (T1.setTop (mkF m 4 #[.val (.ref a1), .val (.ref a2), .val (.int u1), .val (.int u2), .val (.int u3), .val (.ref a3), .val (.int u4), .val (.long q1), .second, .val (.long q2), .second, .val (.ref a4)] [])) t₀
    refine XS.aloadN X1.here hx rfl (hb hby d4_4) rfl rfl ?_
    show Steps p.tables e below (T1.setTop (mkF m 5 #[.val (.ref a1), .val (.ref a2), .val (.int u1), .val (.int u2), .val (.int u3), .val (.ref a3), .val (.int u4), .val (.long q1), .second, .val (.long q2), .second, .val (.ref a4)] [(.ref a1)])) t₀
    refine XS.aloadN X1.here hx rfl (hb hby d4_5) rfl rfl ?_
    exact k₀
  obtain ⟨T2, h2, X2, e2, W2, st2⟩ := putF X1 hx hZ hown (host := "") (Or.inl (hw _ (List.mem_of_getElem? (i := 27) rfl))) Via.refl e1 F_children E1 (Or.inr ⟨(hw _ (List.mem_of_getElem? (i := 28) rfl)), rfl, hnm⟩) (hw _ (List.mem_of_getElem? (i := 9) rfl)) (ty := (.array .int)) (by decide) rfl rfl (g := (mkF m 6 #[.val (.ref a1), .val (.ref a2), .val (.int u1), .val (.int u2), .val (.int u3), .val (.ref a3), .val (.int u4), .val (.long q1), .second, .val (.long q2), .second, .val (.ref a4)] [(.ref a2), (.ref a1)])) rfl rfl (hb hby d4_6)
  refine hG _ _ (fun t₀ k₀ => st2 _ k₀) ?_
  have N2 := Fr.snoc X2 N0 g1
  have ea1_x2 := E1.wr W2
  have fa1_first_x2 := F_first.other W2 (Or.inr (slot_ne (Or.inr (hw _ (List.mem_of_getElem? (i := 30) rfl))) (Or.inr (hw _ (List.mem_of_getElem? (i := 28) rfl))) (by decide) (t := .int) (t' := (.array .int)) (by decide) (by decide)))
  have fa1_span_x2 := F_span.other W2 (Or.inr (slot_ne (Or.inr (hw _ (List.mem_of_getElem? (i := 32) rfl))) (Or.inr (hw _ (List.mem_of_getElem? (i := 28) rfl))) (by decide) (t := .int) (t' := (.array .int)) (by decide) (by decide)))
  have fa1_count_x2 := F_count.other W2 (Or.inr (slot_ne (Or.inr (hw _ (List.mem_of_getElem? (i := 34) rfl))) (Or.inr (hw _ (List.mem_of_getElem? (i := 28) rfl))) (by decide) (t := .int) (t' := (.array .int)) (by decide) (by decide)))
  have fa1_parts_x2 := F_parts.other W2 (Or.inr (slot_ne (Or.inr (hw _ (List.mem_of_getElem? (i := 36) rfl))) (Or.inr (hw _ (List.mem_of_getElem? (i := 28) rfl))) (by decide) (t := (.object "java/util/List")) (t' := (.array .int)) (by decide) (by decide)))
  have fa1_recordCount_x2 := F_recordCount.other W2 (Or.inr (slot_ne (Or.inr (hw _ (List.mem_of_getElem? (i := 38) rfl))) (Or.inr (hw _ (List.mem_of_getElem? (i := 28) rfl))) (by decide) (t := .int) (t' := (.array .int)) (by decide) (by decide)))
  have fa1_weight_x2 := F_weight.other W2 (Or.inr (slot_ne (Or.inr (hw _ (List.mem_of_getElem? (i := 40) rfl))) (Or.inr (hw _ (List.mem_of_getElem? (i := 28) rfl))) (by decide) (t := .long) (t' := (.array .int)) (by decide) (by decide)))
  have fa1_standing_x2 := F_standing.other W2 (Or.inr (slot_ne (Or.inr (hw _ (List.mem_of_getElem? (i := 42) rfl))) (Or.inr (hw _ (List.mem_of_getElem? (i := 28) rfl))) (by decide) (t := .long) (t' := (.array .int)) (by decide) (by decide)))
  have fa1_content_x2 := F_content.other W2 (Or.inr (slot_ne (Or.inr (hw _ (List.mem_of_getElem? (i := 44) rfl))) (Or.inr (hw _ (List.mem_of_getElem? (i := 28) rfl))) (by decide) (t := (.object "com/example/nodex/nodex/records/DataRegion$Content")) (t' := (.array .int)) (by decide) (by decide)))
  have k_x2 := (Keep.refl h0 [a1]).wr W2 (Or.inl (List.mem_of_getElem? (i := 0) rfl))
  have z_2 : n0 ≤ h2.size := Nat.le_trans Z0 (Keep.of_wr W2).1
  have F2_children := F_children.same W2
  show G (T2.setTop (mkF m 9 #[.val (.ref a1), .val (.ref a2), .val (.int u1), .val (.int u2), .val (.int u3), .val (.ref a3), .val (.int u4), .val (.long q1), .second, .val (.long q2), .second, .val (.ref a4)] []))
  refine hG _ (T2.setTop (mkF m 11 #[.val (.ref a1), .val (.ref a2), .val (.int u1), .val (.int u2), .val (.int u3), .val (.ref a3), .val (.int u4), .val (.long q1), .second, .val (.long q2), .second, .val (.ref a4)] [(.int u1), (.ref a1)])) (fun t₀ k₀ => ?_) ?_
  · show Steps p.tables e below (T2.setTop (mkF m 9 #[.val (.ref a1), .val (.ref a2), .val (.int u1), .val (.int u2), .val (.int u3), .val (.ref a3), .val (.int u4), .val (.long q1), .second, .val (.long q2), .second, .val (.ref a4)] [])) t₀
    refine XS.aloadN X2.here hx rfl (hb hby d4_9) rfl rfl ?_
    show Steps p.tables e below (T2.setTop (mkF m 10 #[.val (.ref a1), .val (.ref a2), .val (.int u1), .val (.int u2), .val (.int u3), .val (.ref a3), .val (.int u4), .val (.long q1), .second, .val (.long q2), .second, .val (.ref a4)] [(.ref a1)])) t₀
    refine XS.iloadN X2.here hx rfl (hb hby d4_10) rfl ?_
    exact k₀
  obtain ⟨T3, h3, X3, e3, W3, st3⟩ := putF X2 hx hZ hown (host := "") (Or.inl (hw _ (List.mem_of_getElem? (i := 29) rfl))) Via.refl e2 fa1_first_x2 ea1_x2 (Or.inr ⟨(hw _ (List.mem_of_getElem? (i := 30) rfl)), rfl, hnm⟩) (hw _ (List.mem_of_getElem? (i := 9) rfl)) (ty := .int) (by decide) rfl rfl (g := (mkF m 11 #[.val (.ref a1), .val (.ref a2), .val (.int u1), .val (.int u2), .val (.int u3), .val (.ref a3), .val (.int u4), .val (.long q1), .second, .val (.long q2), .second, .val (.ref a4)] [(.int u1), (.ref a1)])) rfl rfl (hb hby d4_11)
  refine hG _ _ (fun t₀ k₀ => st3 _ k₀) ?_
  have N3 := Fr.snoc X3 N2 g1
  have ea1_x3 := ea1_x2.wr W3
  have fa1_span_x3 := fa1_span_x2.other W3 (Or.inr (slot_ne (Or.inr (hw _ (List.mem_of_getElem? (i := 32) rfl))) (Or.inr (hw _ (List.mem_of_getElem? (i := 30) rfl))) (by decide) (t := .int) (t' := .int) (by decide) (by decide)))
  have fa1_count_x3 := fa1_count_x2.other W3 (Or.inr (slot_ne (Or.inr (hw _ (List.mem_of_getElem? (i := 34) rfl))) (Or.inr (hw _ (List.mem_of_getElem? (i := 30) rfl))) (by decide) (t := .int) (t' := .int) (by decide) (by decide)))
  have fa1_parts_x3 := fa1_parts_x2.other W3 (Or.inr (slot_ne (Or.inr (hw _ (List.mem_of_getElem? (i := 36) rfl))) (Or.inr (hw _ (List.mem_of_getElem? (i := 30) rfl))) (by decide) (t := (.object "java/util/List")) (t' := .int) (by decide) (by decide)))
  have fa1_recordCount_x3 := fa1_recordCount_x2.other W3 (Or.inr (slot_ne (Or.inr (hw _ (List.mem_of_getElem? (i := 38) rfl))) (Or.inr (hw _ (List.mem_of_getElem? (i := 30) rfl))) (by decide) (t := .int) (t' := .int) (by decide) (by decide)))
  have fa1_weight_x3 := fa1_weight_x2.other W3 (Or.inr (slot_ne (Or.inr (hw _ (List.mem_of_getElem? (i := 40) rfl))) (Or.inr (hw _ (List.mem_of_getElem? (i := 30) rfl))) (by decide) (t := .long) (t' := .int) (by decide) (by decide)))
  have fa1_standing_x3 := fa1_standing_x2.other W3 (Or.inr (slot_ne (Or.inr (hw _ (List.mem_of_getElem? (i := 42) rfl))) (Or.inr (hw _ (List.mem_of_getElem? (i := 30) rfl))) (by decide) (t := .long) (t' := .int) (by decide) (by decide)))
  have fa1_content_x3 := fa1_content_x2.other W3 (Or.inr (slot_ne (Or.inr (hw _ (List.mem_of_getElem? (i := 44) rfl))) (Or.inr (hw _ (List.mem_of_getElem? (i := 30) rfl))) (by decide) (t := (.object "com/example/nodex/nodex/records/DataRegion$Content")) (t' := .int) (by decide) (by decide)))
  have k_x3 := k_x2.wr W3 (Or.inl (List.mem_of_getElem? (i := 0) rfl))
  have z_3 : n0 ≤ h3.size := Nat.le_trans z_2 (Keep.of_wr W3).1
  have F3_first := fa1_first_x2.same W3
  show G (T3.setTop (mkF m 14 #[.val (.ref a1), .val (.ref a2), .val (.int u1), .val (.int u2), .val (.int u3), .val (.ref a3), .val (.int u4), .val (.long q1), .second, .val (.long q2), .second, .val (.ref a4)] []))
  refine hG _ (T3.setTop (mkF m 16 #[.val (.ref a1), .val (.ref a2), .val (.int u1), .val (.int u2), .val (.int u3), .val (.ref a3), .val (.int u4), .val (.long q1), .second, .val (.long q2), .second, .val (.ref a4)] [(.int u2), (.ref a1)])) (fun t₀ k₀ => ?_) ?_
  · show Steps p.tables e below (T3.setTop (mkF m 14 #[.val (.ref a1), .val (.ref a2), .val (.int u1), .val (.int u2), .val (.int u3), .val (.ref a3), .val (.int u4), .val (.long q1), .second, .val (.long q2), .second, .val (.ref a4)] [])) t₀
    refine XS.aloadN X3.here hx rfl (hb hby d4_14) rfl rfl ?_
    show Steps p.tables e below (T3.setTop (mkF m 15 #[.val (.ref a1), .val (.ref a2), .val (.int u1), .val (.int u2), .val (.int u3), .val (.ref a3), .val (.int u4), .val (.long q1), .second, .val (.long q2), .second, .val (.ref a4)] [(.ref a1)])) t₀
    refine XS.iloadN X3.here hx rfl (hb hby d4_15) rfl ?_
    exact k₀
  obtain ⟨T4, h4, X4, e4, W4, st4⟩ := putF X3 hx hZ hown (host := "") (Or.inl (hw _ (List.mem_of_getElem? (i := 31) rfl))) Via.refl e3 fa1_span_x3 ea1_x3 (Or.inr ⟨(hw _ (List.mem_of_getElem? (i := 32) rfl)), rfl, hnm⟩) (hw _ (List.mem_of_getElem? (i := 9) rfl)) (ty := .int) (by decide) rfl rfl (g := (mkF m 16 #[.val (.ref a1), .val (.ref a2), .val (.int u1), .val (.int u2), .val (.int u3), .val (.ref a3), .val (.int u4), .val (.long q1), .second, .val (.long q2), .second, .val (.ref a4)] [(.int u2), (.ref a1)])) rfl rfl (hb hby d4_16)
  refine hG _ _ (fun t₀ k₀ => st4 _ k₀) ?_
  have N4 := Fr.snoc X4 N3 g1
  have ea1_x4 := ea1_x3.wr W4
  have fa1_count_x4 := fa1_count_x3.other W4 (Or.inr (slot_ne (Or.inr (hw _ (List.mem_of_getElem? (i := 34) rfl))) (Or.inr (hw _ (List.mem_of_getElem? (i := 32) rfl))) (by decide) (t := .int) (t' := .int) (by decide) (by decide)))
  have fa1_parts_x4 := fa1_parts_x3.other W4 (Or.inr (slot_ne (Or.inr (hw _ (List.mem_of_getElem? (i := 36) rfl))) (Or.inr (hw _ (List.mem_of_getElem? (i := 32) rfl))) (by decide) (t := (.object "java/util/List")) (t' := .int) (by decide) (by decide)))
  have fa1_recordCount_x4 := fa1_recordCount_x3.other W4 (Or.inr (slot_ne (Or.inr (hw _ (List.mem_of_getElem? (i := 38) rfl))) (Or.inr (hw _ (List.mem_of_getElem? (i := 32) rfl))) (by decide) (t := .int) (t' := .int) (by decide) (by decide)))
  have fa1_weight_x4 := fa1_weight_x3.other W4 (Or.inr (slot_ne (Or.inr (hw _ (List.mem_of_getElem? (i := 40) rfl))) (Or.inr (hw _ (List.mem_of_getElem? (i := 32) rfl))) (by decide) (t := .long) (t' := .int) (by decide) (by decide)))
  have fa1_standing_x4 := fa1_standing_x3.other W4 (Or.inr (slot_ne (Or.inr (hw _ (List.mem_of_getElem? (i := 42) rfl))) (Or.inr (hw _ (List.mem_of_getElem? (i := 32) rfl))) (by decide) (t := .long) (t' := .int) (by decide) (by decide)))
  have fa1_content_x4 := fa1_content_x3.other W4 (Or.inr (slot_ne (Or.inr (hw _ (List.mem_of_getElem? (i := 44) rfl))) (Or.inr (hw _ (List.mem_of_getElem? (i := 32) rfl))) (by decide) (t := (.object "com/example/nodex/nodex/records/DataRegion$Content")) (t' := .int) (by decide) (by decide)))
  have k_x4 := k_x3.wr W4 (Or.inl (List.mem_of_getElem? (i := 0) rfl))
  have z_4 : n0 ≤ h4.size := Nat.le_trans z_3 (Keep.of_wr W4).1
  have F4_span := fa1_span_x3.same W4
  show G (T4.setTop (mkF m 19 #[.val (.ref a1), .val (.ref a2), .val (.int u1), .val (.int u2), .val (.int u3), .val (.ref a3), .val (.int u4), .val (.long q1), .second, .val (.long q2), .second, .val (.ref a4)] []))
  refine hG _ (T4.setTop (mkF m 22 #[.val (.ref a1), .val (.ref a2), .val (.int u1), .val (.int u2), .val (.int u3), .val (.ref a3), .val (.int u4), .val (.long q1), .second, .val (.long q2), .second, .val (.ref a4)] [(.int u3), (.ref a1)])) (fun t₀ k₀ => ?_) ?_
  · show Steps p.tables e below (T4.setTop (mkF m 19 #[.val (.ref a1), .val (.ref a2), .val (.int u1), .val (.int u2), .val (.int u3), .val (.ref a3), .val (.int u4), .val (.long q1), .second, .val (.long q2), .second, .val (.ref a4)] [])) t₀
    refine XS.aloadN X4.here hx rfl (hb hby d4_19) rfl rfl ?_
    show Steps p.tables e below (T4.setTop (mkF m 20 #[.val (.ref a1), .val (.ref a2), .val (.int u1), .val (.int u2), .val (.int u3), .val (.ref a3), .val (.int u4), .val (.long q1), .second, .val (.long q2), .second, .val (.ref a4)] [(.ref a1)])) t₀
    refine XS.iload X4.here hx rfl (hb hby d4_20) rfl ?_
    exact k₀
  obtain ⟨T5, h5, X5, e5, W5, st5⟩ := putF X4 hx hZ hown (host := "") (Or.inl (hw _ (List.mem_of_getElem? (i := 33) rfl))) Via.refl e4 fa1_count_x4 ea1_x4 (Or.inr ⟨(hw _ (List.mem_of_getElem? (i := 34) rfl)), rfl, hnm⟩) (hw _ (List.mem_of_getElem? (i := 9) rfl)) (ty := .int) (by decide) rfl rfl (g := (mkF m 22 #[.val (.ref a1), .val (.ref a2), .val (.int u1), .val (.int u2), .val (.int u3), .val (.ref a3), .val (.int u4), .val (.long q1), .second, .val (.long q2), .second, .val (.ref a4)] [(.int u3), (.ref a1)])) rfl rfl (hb hby d4_22)
  refine hG _ _ (fun t₀ k₀ => st5 _ k₀) ?_
  have N5 := Fr.snoc X5 N4 g1
  have ea1_x5 := ea1_x4.wr W5
  have fa1_parts_x5 := fa1_parts_x4.other W5 (Or.inr (slot_ne (Or.inr (hw _ (List.mem_of_getElem? (i := 36) rfl))) (Or.inr (hw _ (List.mem_of_getElem? (i := 34) rfl))) (by decide) (t := (.object "java/util/List")) (t' := .int) (by decide) (by decide)))
  have fa1_recordCount_x5 := fa1_recordCount_x4.other W5 (Or.inr (slot_ne (Or.inr (hw _ (List.mem_of_getElem? (i := 38) rfl))) (Or.inr (hw _ (List.mem_of_getElem? (i := 34) rfl))) (by decide) (t := .int) (t' := .int) (by decide) (by decide)))
  have fa1_weight_x5 := fa1_weight_x4.other W5 (Or.inr (slot_ne (Or.inr (hw _ (List.mem_of_getElem? (i := 40) rfl))) (Or.inr (hw _ (List.mem_of_getElem? (i := 34) rfl))) (by decide) (t := .long) (t' := .int) (by decide) (by decide)))
  have fa1_standing_x5 := fa1_standing_x4.other W5 (Or.inr (slot_ne (Or.inr (hw _ (List.mem_of_getElem? (i := 42) rfl))) (Or.inr (hw _ (List.mem_of_getElem? (i := 34) rfl))) (by decide) (t := .long) (t' := .int) (by decide) (by decide)))
  have fa1_content_x5 := fa1_content_x4.other W5 (Or.inr (slot_ne (Or.inr (hw _ (List.mem_of_getElem? (i := 44) rfl))) (Or.inr (hw _ (List.mem_of_getElem? (i := 34) rfl))) (by decide) (t := (.object "com/example/nodex/nodex/records/DataRegion$Content")) (t' := .int) (by decide) (by decide)))
  have k_x5 := k_x4.wr W5 (Or.inl (List.mem_of_getElem? (i := 0) rfl))
  have z_5 : n0 ≤ h5.size := Nat.le_trans z_4 (Keep.of_wr W5).1
  have F5_count := fa1_count_x4.same W5
  show G (T5.setTop (mkF m 25 #[.val (.ref a1), .val (.ref a2), .val (.int u1), .val (.int u2), .val (.int u3), .val (.ref a3), .val (.int u4), .val (.long q1), .second, .val (.long q2), .second, .val (.ref a4)] []))
  refine hG _ (T5.setTop (mkF m 28 #[.val (.ref a1), .val (.ref a2), .val (.int u1), .val (.int u2), .val (.int u3), .val (.ref a3), .val (.int u4), .val (.long q1), .second, .val (.long q2), .second, .val (.ref a4)] [(.ref a3), (.ref a1)])) (fun t₀ k₀ => ?_) ?_
  · show Steps p.tables e below (T5.setTop (mkF m 25 #[.val (.ref a1), .val (.ref a2), .val (.int u1), .val (.int u2), .val (.int u3), .val (.ref a3), .val (.int u4), .val (.long q1), .second, .val (.long q2), .second, .val (.ref a4)] [])) t₀
    refine XS.aloadN X5.here hx rfl (hb hby d4_25) rfl rfl ?_
    show Steps p.tables e below (T5.setTop (mkF m 26 #[.val (.ref a1), .val (.ref a2), .val (.int u1), .val (.int u2), .val (.int u3), .val (.ref a3), .val (.int u4), .val (.long q1), .second, .val (.long q2), .second, .val (.ref a4)] [(.ref a1)])) t₀
    refine XS.aload X5.here hx rfl (hb hby d4_26) rfl rfl ?_
    exact k₀
  obtain ⟨T6, h6, X6, e6, W6, st6⟩ := putF X5 hx hZ hown (host := "") (Or.inl (hw _ (List.mem_of_getElem? (i := 35) rfl))) Via.refl e5 fa1_parts_x5 ea1_x5 (Or.inr ⟨(hw _ (List.mem_of_getElem? (i := 36) rfl)), rfl, hnm⟩) (hw _ (List.mem_of_getElem? (i := 9) rfl)) (ty := (.object "java/util/List")) (by decide) rfl rfl (g := (mkF m 28 #[.val (.ref a1), .val (.ref a2), .val (.int u1), .val (.int u2), .val (.int u3), .val (.ref a3), .val (.int u4), .val (.long q1), .second, .val (.long q2), .second, .val (.ref a4)] [(.ref a3), (.ref a1)])) rfl rfl (hb hby d4_28)
  refine hG _ _ (fun t₀ k₀ => st6 _ k₀) ?_
  have N6 := Fr.snoc X6 N5 g1
  have ea1_x6 := ea1_x5.wr W6
  have fa1_recordCount_x6 := fa1_recordCount_x5.other W6 (Or.inr (slot_ne (Or.inr (hw _ (List.mem_of_getElem? (i := 38) rfl))) (Or.inr (hw _ (List.mem_of_getElem? (i := 36) rfl))) (by decide) (t := .int) (t' := (.object "java/util/List")) (by decide) (by decide)))
  have fa1_weight_x6 := fa1_weight_x5.other W6 (Or.inr (slot_ne (Or.inr (hw _ (List.mem_of_getElem? (i := 40) rfl))) (Or.inr (hw _ (List.mem_of_getElem? (i := 36) rfl))) (by decide) (t := .long) (t' := (.object "java/util/List")) (by decide) (by decide)))
  have fa1_standing_x6 := fa1_standing_x5.other W6 (Or.inr (slot_ne (Or.inr (hw _ (List.mem_of_getElem? (i := 42) rfl))) (Or.inr (hw _ (List.mem_of_getElem? (i := 36) rfl))) (by decide) (t := .long) (t' := (.object "java/util/List")) (by decide) (by decide)))
  have fa1_content_x6 := fa1_content_x5.other W6 (Or.inr (slot_ne (Or.inr (hw _ (List.mem_of_getElem? (i := 44) rfl))) (Or.inr (hw _ (List.mem_of_getElem? (i := 36) rfl))) (by decide) (t := (.object "com/example/nodex/nodex/records/DataRegion$Content")) (t' := (.object "java/util/List")) (by decide) (by decide)))
  have k_x6 := k_x5.wr W6 (Or.inl (List.mem_of_getElem? (i := 0) rfl))
  have z_6 : n0 ≤ h6.size := Nat.le_trans z_5 (Keep.of_wr W6).1
  have F6_parts := fa1_parts_x5.same W6
  show G (T6.setTop (mkF m 31 #[.val (.ref a1), .val (.ref a2), .val (.int u1), .val (.int u2), .val (.int u3), .val (.ref a3), .val (.int u4), .val (.long q1), .second, .val (.long q2), .second, .val (.ref a4)] []))
  refine hG _ (T6.setTop (mkF m 34 #[.val (.ref a1), .val (.ref a2), .val (.int u1), .val (.int u2), .val (.int u3), .val (.ref a3), .val (.int u4), .val (.long q1), .second, .val (.long q2), .second, .val (.ref a4)] [(.int u4), (.ref a1)])) (fun t₀ k₀ => ?_) ?_
  · show Steps p.tables e below (T6.setTop (mkF m 31 #[.val (.ref a1), .val (.ref a2), .val (.int u1), .val (.int u2), .val (.int u3), .val (.ref a3), .val (.int u4), .val (.long q1), .second, .val (.long q2), .second, .val (.ref a4)] [])) t₀
    refine XS.aloadN X6.here hx rfl (hb hby d4_31) rfl rfl ?_
    show Steps p.tables e below (T6.setTop (mkF m 32 #[.val (.ref a1), .val (.ref a2), .val (.int u1), .val (.int u2), .val (.int u3), .val (.ref a3), .val (.int u4), .val (.long q1), .second, .val (.long q2), .second, .val (.ref a4)] [(.ref a1)])) t₀
    refine XS.iload X6.here hx rfl (hb hby d4_32) rfl ?_
    exact k₀
  obtain ⟨T7, h7, X7, e7, W7, st7⟩ := putF X6 hx hZ hown (host := "") (Or.inl (hw _ (List.mem_of_getElem? (i := 37) rfl))) Via.refl e6 fa1_recordCount_x6 ea1_x6 (Or.inr ⟨(hw _ (List.mem_of_getElem? (i := 38) rfl)), rfl, hnm⟩) (hw _ (List.mem_of_getElem? (i := 9) rfl)) (ty := .int) (by decide) rfl rfl (g := (mkF m 34 #[.val (.ref a1), .val (.ref a2), .val (.int u1), .val (.int u2), .val (.int u3), .val (.ref a3), .val (.int u4), .val (.long q1), .second, .val (.long q2), .second, .val (.ref a4)] [(.int u4), (.ref a1)])) rfl rfl (hb hby d4_34)
  refine hG _ _ (fun t₀ k₀ => st7 _ k₀) ?_
  have N7 := Fr.snoc X7 N6 g1
  have ea1_x7 := ea1_x6.wr W7
  have fa1_weight_x7 := fa1_weight_x6.other W7 (Or.inr (slot_ne (Or.inr (hw _ (List.mem_of_getElem? (i := 40) rfl))) (Or.inr (hw _ (List.mem_of_getElem? (i := 38) rfl))) (by decide) (t := .long) (t' := .int) (by decide) (by decide)))
  have fa1_standing_x7 := fa1_standing_x6.other W7 (Or.inr (slot_ne (Or.inr (hw _ (List.mem_of_getElem? (i := 42) rfl))) (Or.inr (hw _ (List.mem_of_getElem? (i := 38) rfl))) (by decide) (t := .long) (t' := .int) (by decide) (by decide)))
  have fa1_content_x7 := fa1_content_x6.other W7 (Or.inr (slot_ne (Or.inr (hw _ (List.mem_of_getElem? (i := 44) rfl))) (Or.inr (hw _ (List.mem_of_getElem? (i := 38) rfl))) (by decide) (t := (.object "com/example/nodex/nodex/records/DataRegion$Content")) (t' := .int) (by decide) (by decide)))
  have k_x7 := k_x6.wr W7 (Or.inl (List.mem_of_getElem? (i := 0) rfl))
  have z_7 : n0 ≤ h7.size := Nat.le_trans z_6 (Keep.of_wr W7).1
  have F7_recordCount := fa1_recordCount_x6.same W7
  show G (T7.setTop (mkF m 37 #[.val (.ref a1), .val (.ref a2), .val (.int u1), .val (.int u2), .val (.int u3), .val (.ref a3), .val (.int u4), .val (.long q1), .second, .val (.long q2), .second, .val (.ref a4)] []))
  refine hG _ (T7.setTop (mkF m 40 #[.val (.ref a1), .val (.ref a2), .val (.int u1), .val (.int u2), .val (.int u3), .val (.ref a3), .val (.int u4), .val (.long q1), .second, .val (.long q2), .second, .val (.ref a4)] [(.long q1), (.ref a1)])) (fun t₀ k₀ => ?_) ?_
  · show Steps p.tables e below (T7.setTop (mkF m 37 #[.val (.ref a1), .val (.ref a2), .val (.int u1), .val (.int u2), .val (.int u3), .val (.ref a3), .val (.int u4), .val (.long q1), .second, .val (.long q2), .second, .val (.ref a4)] [])) t₀
    refine XS.aloadN X7.here hx rfl (hb hby d4_37) rfl rfl ?_
    show Steps p.tables e below (T7.setTop (mkF m 38 #[.val (.ref a1), .val (.ref a2), .val (.int u1), .val (.int u2), .val (.int u3), .val (.ref a3), .val (.int u4), .val (.long q1), .second, .val (.long q2), .second, .val (.ref a4)] [(.ref a1)])) t₀
    refine XS.lload X7.here hx rfl (hb hby d4_38) rfl ?_
    exact k₀
  obtain ⟨T8, h8, X8, e8, W8, st8⟩ := putF X7 hx hZ hown (host := "") (Or.inl (hw _ (List.mem_of_getElem? (i := 39) rfl))) Via.refl e7 fa1_weight_x7 ea1_x7 (Or.inr ⟨(hw _ (List.mem_of_getElem? (i := 40) rfl)), rfl, hnm⟩) (hw _ (List.mem_of_getElem? (i := 9) rfl)) (ty := .long) (by decide) rfl rfl (g := (mkF m 40 #[.val (.ref a1), .val (.ref a2), .val (.int u1), .val (.int u2), .val (.int u3), .val (.ref a3), .val (.int u4), .val (.long q1), .second, .val (.long q2), .second, .val (.ref a4)] [(.long q1), (.ref a1)])) rfl rfl (hb hby d4_40)
  refine hG _ _ (fun t₀ k₀ => st8 _ k₀) ?_
  have N8 := Fr.snoc X8 N7 g1
  have ea1_x8 := ea1_x7.wr W8
  have fa1_recordCount_x8 := F7_recordCount.other W8 (Or.inr (slot_ne (Or.inr (hw _ (List.mem_of_getElem? (i := 38) rfl))) (Or.inr (hw _ (List.mem_of_getElem? (i := 40) rfl))) (by decide) (t := .int) (t' := .long) (by decide) (by decide)))
  have fa1_standing_x8 := fa1_standing_x7.other W8 (Or.inr (slot_ne (Or.inr (hw _ (List.mem_of_getElem? (i := 42) rfl))) (Or.inr (hw _ (List.mem_of_getElem? (i := 40) rfl))) (by decide) (t := .long) (t' := .long) (by decide) (by decide)))
  have fa1_content_x8 := fa1_content_x7.other W8 (Or.inr (slot_ne (Or.inr (hw _ (List.mem_of_getElem? (i := 44) rfl))) (Or.inr (hw _ (List.mem_of_getElem? (i := 40) rfl))) (by decide) (t := (.object "com/example/nodex/nodex/records/DataRegion$Content")) (t' := .long) (by decide) (by decide)))
  have k_x8 := k_x7.wr W8 (Or.inl (List.mem_of_getElem? (i := 0) rfl))
  have z_8 : n0 ≤ h8.size := Nat.le_trans z_7 (Keep.of_wr W8).1
  have F8_weight := fa1_weight_x7.same W8
  show G (T8.setTop (mkF m 43 #[.val (.ref a1), .val (.ref a2), .val (.int u1), .val (.int u2), .val (.int u3), .val (.ref a3), .val (.int u4), .val (.long q1), .second, .val (.long q2), .second, .val (.ref a4)] []))
  refine hG _ (T8.setTop (mkF m 46 #[.val (.ref a1), .val (.ref a2), .val (.int u1), .val (.int u2), .val (.int u3), .val (.ref a3), .val (.int u4), .val (.long q1), .second, .val (.long q2), .second, .val (.ref a4)] [(.long q2), (.ref a1)])) (fun t₀ k₀ => ?_) ?_
  · show Steps p.tables e below (T8.setTop (mkF m 43 #[.val (.ref a1), .val (.ref a2), .val (.int u1), .val (.int u2), .val (.int u3), .val (.ref a3), .val (.int u4), .val (.long q1), .second, .val (.long q2), .second, .val (.ref a4)] [])) t₀
    refine XS.aloadN X8.here hx rfl (hb hby d4_43) rfl rfl ?_
    show Steps p.tables e below (T8.setTop (mkF m 44 #[.val (.ref a1), .val (.ref a2), .val (.int u1), .val (.int u2), .val (.int u3), .val (.ref a3), .val (.int u4), .val (.long q1), .second, .val (.long q2), .second, .val (.ref a4)] [(.ref a1)])) t₀
    refine XS.lload X8.here hx rfl (hb hby d4_44) rfl ?_
    exact k₀
  obtain ⟨T9, h9, X9, e9, W9, st9⟩ := putF X8 hx hZ hown (host := "") (Or.inl (hw _ (List.mem_of_getElem? (i := 41) rfl))) Via.refl e8 fa1_standing_x8 ea1_x8 (Or.inr ⟨(hw _ (List.mem_of_getElem? (i := 42) rfl)), rfl, hnm⟩) (hw _ (List.mem_of_getElem? (i := 9) rfl)) (ty := .long) (by decide) rfl rfl (g := (mkF m 46 #[.val (.ref a1), .val (.ref a2), .val (.int u1), .val (.int u2), .val (.int u3), .val (.ref a3), .val (.int u4), .val (.long q1), .second, .val (.long q2), .second, .val (.ref a4)] [(.long q2), (.ref a1)])) rfl rfl (hb hby d4_46)
  refine hG _ _ (fun t₀ k₀ => st9 _ k₀) ?_
  have N9 := Fr.snoc X9 N8 g1
  have ea1_x9 := ea1_x8.wr W9
  have fa1_recordCount_x9 := fa1_recordCount_x8.other W9 (Or.inr (slot_ne (Or.inr (hw _ (List.mem_of_getElem? (i := 38) rfl))) (Or.inr (hw _ (List.mem_of_getElem? (i := 42) rfl))) (by decide) (t := .int) (t' := .long) (by decide) (by decide)))
  have fa1_content_x9 := fa1_content_x8.other W9 (Or.inr (slot_ne (Or.inr (hw _ (List.mem_of_getElem? (i := 44) rfl))) (Or.inr (hw _ (List.mem_of_getElem? (i := 42) rfl))) (by decide) (t := (.object "com/example/nodex/nodex/records/DataRegion$Content")) (t' := .long) (by decide) (by decide)))
  have k_x9 := k_x8.wr W9 (Or.inl (List.mem_of_getElem? (i := 0) rfl))
  have z_9 : n0 ≤ h9.size := Nat.le_trans z_8 (Keep.of_wr W9).1
  have F9_standing := fa1_standing_x8.same W9
  show G (T9.setTop (mkF m 49 #[.val (.ref a1), .val (.ref a2), .val (.int u1), .val (.int u2), .val (.int u3), .val (.ref a3), .val (.int u4), .val (.long q1), .second, .val (.long q2), .second, .val (.ref a4)] []))
  refine hG _ (T9.setTop (mkF m 52 #[.val (.ref a1), .val (.ref a2), .val (.int u1), .val (.int u2), .val (.int u3), .val (.ref a3), .val (.int u4), .val (.long q1), .second, .val (.long q2), .second, .val (.ref a4)] [(.ref a4), (.ref a1)])) (fun t₀ k₀ => ?_) ?_
  · show Steps p.tables e below (T9.setTop (mkF m 49 #[.val (.ref a1), .val (.ref a2), .val (.int u1), .val (.int u2), .val (.int u3), .val (.ref a3), .val (.int u4), .val (.long q1), .second, .val (.long q2), .second, .val (.ref a4)] [])) t₀
    refine XS.aloadN X9.here hx rfl (hb hby d4_49) rfl rfl ?_
    show Steps p.tables e below (T9.setTop (mkF m 50 #[.val (.ref a1), .val (.ref a2), .val (.int u1), .val (.int u2), .val (.int u3), .val (.ref a3), .val (.int u4), .val (.long q1), .second, .val (.long q2), .second, .val (.ref a4)] [(.ref a1)])) t₀
    refine XS.aload X9.here hx rfl (hb hby d4_50) rfl rfl ?_
    exact k₀
  obtain ⟨T10, h10, X10, e10, W10, st10⟩ := putF X9 hx hZ hown (host := "") (Or.inl (hw _ (List.mem_of_getElem? (i := 43) rfl))) Via.refl e9 fa1_content_x9 ea1_x9 (Or.inr ⟨(hw _ (List.mem_of_getElem? (i := 44) rfl)), rfl, hnm⟩) (hw _ (List.mem_of_getElem? (i := 9) rfl)) (ty := (.object "com/example/nodex/nodex/records/DataRegion$Content")) (by decide) rfl rfl (g := (mkF m 52 #[.val (.ref a1), .val (.ref a2), .val (.int u1), .val (.int u2), .val (.int u3), .val (.ref a3), .val (.int u4), .val (.long q1), .second, .val (.long q2), .second, .val (.ref a4)] [(.ref a4), (.ref a1)])) rfl rfl (hb hby d4_52)
  refine hG _ _ (fun t₀ k₀ => st10 _ k₀) ?_
  have N10 := Fr.snoc X10 N9 g1
  have ea1_x10 := ea1_x9.wr W10
  have fa1_recordCount_x10 := fa1_recordCount_x9.other W10 (Or.inr (slot_ne (Or.inr (hw _ (List.mem_of_getElem? (i := 38) rfl))) (Or.inr (hw _ (List.mem_of_getElem? (i := 44) rfl))) (by decide) (t := .int) (t' := (.object "com/example/nodex/nodex/records/DataRegion$Content")) (by decide) (by decide)))
  have fa1_standing_x10 := F9_standing.other W10 (Or.inr (slot_ne (Or.inr (hw _ (List.mem_of_getElem? (i := 42) rfl))) (Or.inr (hw _ (List.mem_of_getElem? (i := 44) rfl))) (by decide) (t := .long) (t' := (.object "com/example/nodex/nodex/records/DataRegion$Content")) (by decide) (by decide)))
  have k_x10 := k_x9.wr W10 (Or.inl (List.mem_of_getElem? (i := 0) rfl))
  have z_10 : n0 ≤ h10.size := Nat.le_trans z_9 (Keep.of_wr W10).1
  have F10_content := fa1_content_x9.same W10
  show G (T10.setTop (mkF m 55 #[.val (.ref a1), .val (.ref a2), .val (.int u1), .val (.int u2), .val (.int u3), .val (.ref a3), .val (.int u4), .val (.long q1), .second, .val (.long q2), .second, .val (.ref a4)] []))
  refine hF _ T10 _ _ _ none _ X10 e10 (fun _ => rfl) (by decide) (by decide) ?_ (fun fs hr => X10.returnOut hx hrt (hb hby d4_55) hr)
  exact ⟨rfl, N10, k_x10, fa1_recordCount_x10, fa1_standing_x10⟩
theorem d2_0 : decode prog_22_method_1_code 0 = .ok (.aload_n 0, 1) := by decide +kernel
theorem d2_1 : decode prog_22_method_1_code 1 = .ok (.aload_n 1, 1) := by decide +kernel
theorem d2_2 : decode prog_22_method_1_code 2 = .ok (.iload_n 2, 1) := by decide +kernel
theorem d2_3 : decode prog_22_method_1_code 3 = .ok (.iload_n 3, 1) := by decide +kernel
theorem d2_4 : decode prog_22_method_1_code 4 = .ok (.iload 4, 2) := by decide +kernel
theorem d2_6 : decode prog_22_method_1_code 6 = .ok (.invokestatic 1, 3) := by decide +kernel
theorem d2_9 : decode prog_22_method_1_code 9 = .ok (.iload 4, 2) := by decide +kernel
theorem d2_11 : decode prog_22_method_1_code 11 = .ok (.lload 5, 2) := by decide +kernel
theorem d2_13 : decode prog_22_method_1_code 13 = .ok (.lload 5, 2) := by decide +kernel
theorem d2_15 : decode prog_22_method_1_code 15 = .ok (.aload 7, 2) := by decide +kernel
theorem d2_17 : decode prog_22_method_1_code 17 = .ok (.invokespecial 7, 3) := by decide +kernel
theorem d2_20 : decode prog_22_method_1_code 20 = .ok (.return_, 1) := by decide +kernel
theorem pn_2 : plainFor (⟨"com/example/nodex/nodex/records/DataRegion", "<init>", "([IIIIJLcom/example/nodex/nodex/records/DataRegion$Content;)V"⟩ : MethodName) = true := plainFor_of_name (by first | (simp [plainName, overriddenIn]; done) | decide +kernel)
theorem ef_rm1 (m : MethodId) (x0 : Addr) (x1 : Addr) (x2 : Int32) (x3 : Int32) (x4 : Int32) (x5 : Int64) (x6 : Addr) : entryFrame m #[(.ref x0), (.ref x1), (.int x2), (.int x3), (.int x4), (.long x5), (.ref x6)] 8 = mkF m 0 #[.val (.ref x0), .val (.ref x1), .val (.int x2), .val (.int x3), .val (.int x4), .val (.long x5), .second, .val (.ref x6)] [] := by first | (simp [entryFrame, mkF, argsToLocals, Value.category]; done) | rfl
def Q_rm1 (Z : State) (a1 a2 : Addr) (u1 u2 u3 : Int32) (q1 : Int64) (a4 wE : Addr) (h0 : Heap) (n0 : Nat) (v : Option Value) (h : Heap) (L : List Loc) : Prop := v = none ∧ Fr n0 L ∧ Keep h0 h [a1] ∧ Fld Z h a1 "com/example/nodex/nodex/records/DataRegion" "recordCount" "I" (.int u3) ∧ Fld Z h a1 "com/example/nodex/nodex/records/DataRegion" "standing" "J" (.long q1)
set_option maxRecDepth 65536 in
set_option maxHeartbeats 40000000 in
theorem rm1 (l : Launch) (Z : State) (a0 : Array Value) (hw : ∀ d ∈ tables_1, d.before a0 Z = true) (ws : List Jvm.Cond) (a1 a2 : Addr) (u1 u2 u3 : Int32) (q1 : Int64) (a4 wE : Addr) (h0 : Heap) (n0 : Nat) (Z0 : n0 ≤ h0.size) (O0 : Old Z n0 h0) (S_EMPTY : Sta Z Z.heap "java/util/ImmutableCollections" "EMPTY_LIST" "Ljava/util/ImmutableCollections$ListN;" (.ref wE)) (E1 : Exa Z h0 a1 "com/example/nodex/nodex/records/DataRegion") (g1 : n0 ≤ a1) (F_children : Fld Z h0 a1 "com/example/nodex/nodex/records/DataRegion" "children" "[I" .null) (F_first : Fld Z h0 a1 "com/example/nodex/nodex/records/DataRegion" "first" "I" (.int (0 : Int32))) (F_span : Fld Z h0 a1 "com/example/nodex/nodex/records/DataRegion" "span" "I" (.int (0 : Int32))) (F_count : Fld Z h0 a1 "com/example/nodex/nodex/records/DataRegion" "count" "I" (.int (0 : Int32))) (F_parts : Fld Z h0 a1 "com/example/nodex/nodex/records/DataRegion" "parts" "Ljava/util/List;" .null) (F_recordCount : Fld Z h0 a1 "com/example/nodex/nodex/records/DataRegion" "recordCount" "I" (.int (0 : Int32))) (F_weight : Fld Z h0 a1 "com/example/nodex/nodex/records/DataRegion" "weight" "J" (.long (0 : Int64))) (F_standing : Fld Z h0 a1 "com/example/nodex/nodex/records/DataRegion" "standing" "J" (.long (0 : Int64))) (F_content : Fld Z h0 a1 "com/example/nodex/nodex/records/DataRegion" "content" "Lcom/example/nodex/nodex/records/DataRegion$Content;" .null) :
    MetFree l (⟨"com/example/nodex/nodex/records/DataRegion", "<init>", "([IIIIJLcom/example/nodex/nodex/records/DataRegion$Content;)V"⟩ : MethodName) (head1 (Jvm.Cond.code (⟨"com/example/nodex/nodex/records/DataRegion", "<init>", "([IIIIJLcom/example/nodex/nodex/records/DataRegion$Content;)V"⟩ : MethodName) prog_22_method_1_code 8 none :: ws) ({ frames := 2, cells := 0, slots := 0, locals := 35 } : Room)) (fun a U => a = #[(.ref a1), (.ref a2), (.int u1), (.int u2), (.int u3), (.long q1), (.ref a4)] ∧ Z.Warmed39 U.vm ∧ U.heap = h0) (fun _ _ _ _ _ => True) (fun _ U o U' => ∃ v L, o = .returned v ∧ Q_rm1 Z a1 a2 u1 u2 u3 q1 a4 wE h0 n0 v U'.heap L ∧ FrameEnd U o U' L ({ frames := 2, cells := 0, slots := 0, locals := 35 } : Room).cells ({ frames := 2, cells := 0, slots := 0, locals := 35 } : Room).slots) := by
  refine own_body (Q := fun v h L => Q_rm1 Z a1 a2 u1 u2 u3 q1 a4 wE h0 n0 v h L) pn_2 ?_
  intro p e s m below meth c s₁ G X0 hx hZ hby hml hown hnm hrt e0 hG hF
  have hown : s.vm.findClass "com/example/nodex/nodex/records/DataRegion" = some m.cls := hown
  have hnm : meth.name = "<init>" := hnm
  have N0 := Fr.nil n0
  rw [ef_rm1 m a1 a2 u1 u2 u3 q1 a4]
  show G (s₁.setTop (mkF m 0 #[.val (.ref a1), .val (.ref a2), .val (.int u1), .val (.int u2), .val (.int u3), .val (.long q1), .second, .val (.ref a4)] []))
  refine hG _ (s₁.setTop (mkF m 6 #[.val (.ref a1), .val (.ref a2), .val (.int u1), .val (.int u2), .val (.int u3), .val (.long q1), .second, .val (.ref a4)] [(.int u3), (.int u2), (.int u1), (.ref a2), (.ref a1)])) (fun t₀ k₀ => ?_) ?_
  · show Steps p.tables e below (s₁.setTop (mkF m 0 #[.val (.ref a1), .val (.ref a2), .val (.int u1), .val (.int u2), .val (.int u3), .val (.long q1), .second, .val (.ref a4)] [])) t₀
    refine XS.aloadN X0.here hx rfl (hb hby d2_0) rfl rfl ?_
    show Steps p.tables e below (s₁.setTop (mkF m 1 #[.val (.ref a1), .val (.ref a2), .val (.int u1), .val (.int u2), .val (.int u3), .val (.long q1), .second, .val (.ref a4)] [(.ref a1)])) t₀
    refine XS.aloadN X0.here hx rfl (hb hby d2_1) rfl rfl ?_
    show Steps p.tables e below (s₁.setTop (mkF m 2 #[.val (.ref a1), .val (.ref a2), .val (.int u1), .val (.int u2), .val (.int u3), .val (.long q1), .second, .val (.ref a4)] [(.ref a2), (.ref a1)])) t₀
    refine XS.iloadN X0.here hx rfl (hb hby d2_2) rfl ?_
    show Steps p.tables e below (s₁.setTop (mkF m 3 #[.val (.ref a1), .val (.ref a2), .val (.int u1), .val (.int u2), .val (.int u3), .val (.long q1), .second, .val (.ref a4)] [(.int u1), (.ref a2), (.ref a1)])) t₀
    refine XS.iloadN X0.here hx rfl (hb hby d2_3) rfl ?_
    show Steps p.tables e below (s₁.setTop (mkF m 4 #[.val (.ref a1), .val (.ref a2), .val (.int u1), .val (.int u2), .val (.int u3), .val (.long q1), .second, .val (.ref a4)] [(.int u2), (.int u1), (.ref a2), (.ref a1)])) t₀
    refine XS.iload X0.here hx rfl (hb hby d2_4) rfl ?_
    exact k₀
  obtain ⟨_, _, ⟨T1, L1, k1, n1⟩, -, X1, ⟨Lc1, hQ1, l1, y1, z1⟩, st1⟩ := Jvm.LawKit.callS X0 hx (y := (⟨"java/util/List", "of", "()Ljava/util/List;"⟩ : MethodName)) hown (mvT hZ (hw _ (List.mem_of_getElem? (i := 15) rfl))) (mvT hZ (hw _ (List.mem_of_getElem? (i := 16) rfl))) (mvT hZ (hw _ (List.mem_of_getElem? (i := 17) rfl))) (mvT hZ (hw _ (List.mem_of_getElem? (i := 18) rfl))) (by decide) (backOf (W := 5) (rmL l Z a0 hw [] wE h0 n0 Z0 O0 S_EMPTY) hZ (hw _ (List.mem_of_getElem? (i := 18) rfl)) (hw _ (List.mem_of_getElem? (i := 17) rfl)) (by decide) (by decide)) (g := (mkF m 6 #[.val (.ref a1), .val (.ref a2), .val (.int u1), .val (.int u2), .val (.int u3), .val (.long q1), .second, .val (.ref a4)] [(.int u3), (.int u2), (.int u1), (.ref a2), (.ref a1)])) rfl (by rw [hml]; rfl) (argsL := []) (rest := [(.int u3), (.int u2), (.int u1), (.ref a2), (.ref a1)]) (lenOf pd_2 rfl) rfl (by show 2 * 0 + _ ≤ _; exact Nat.le_of_eq rfl) (hb hby d2_6) (fun _ _ => ⟨rfl, e0, (by decide : 0 + 0 ≤ _), (by decide : 0 + 0 ≤ _)⟩)
  dsimp only [Pt.U, Pt.locs, Pt.cells, Pt.slots] at X1 l1 y1 z1 st1 hQ1
  subst l1 y1 z1
  obtain ⟨rfl, N1q, e1⟩ := hQ1
  have N1 := Fr.app N0 N1q
  refine hG _ _ (fun t₀ k₀ => st1 _ k₀) ?_
  show G (T1.setTop (mkF m 9 #[.val (.ref a1), .val (.ref a2), .val (.int u1), .val (.int u2), .val (.int u3), .val (.long q1), .second, .val (.ref a4)] [(.ref wE), (.int u3), (.int u2), (.int u1), (.ref a2), (.ref a1)]))
  refine hG _ (T1.setTop (mkF m 17 #[.val (.ref a1), .val (.ref a2), .val (.int u1), .val (.int u2), .val (.int u3), .val (.long q1), .second, .val (.ref a4)] [(.ref a4), (.long q1), (.long q1), (.int u3), (.ref wE), (.int u3), (.int u2), (.int u1), (.ref a2), (.ref a1)])) (fun t₀ k₀ => ?_) ?_
  · show Steps p.tables e below (T1.setTop (mkF m 9 #[.val (.ref a1), .val (.ref a2), .val (.int u1), .val (.int u2), .val (.int u3), .val (.long q1), .second, .val (.ref a4)] [(.ref wE), (.int u3), (.int u2), (.int u1), (.ref a2), (.ref a1)])) t₀
    refine XS.iload X1.here hx rfl (hb hby d2_9) rfl ?_
    show Steps p.tables e below (T1.setTop (mkF m 11 #[.val (.ref a1), .val (.ref a2), .val (.int u1), .val (.int u2), .val (.int u3), .val (.long q1), .second, .val (.ref a4)] [(.int u3), (.ref wE), (.int u3), (.int u2), (.int u1), (.ref a2), (.ref a1)])) t₀
    refine XS.lload X1.here hx rfl (hb hby d2_11) rfl ?_
    show Steps p.tables e below (T1.setTop (mkF m 13 #[.val (.ref a1), .val (.ref a2), .val (.int u1), .val (.int u2), .val (.int u3), .val (.long q1), .second, .val (.ref a4)] [(.long q1), (.int u3), (.ref wE), (.int u3), (.int u2), (.int u1), (.ref a2), (.ref a1)])) t₀
    refine XS.lload X1.here hx rfl (hb hby d2_13) rfl ?_
    show Steps p.tables e below (T1.setTop (mkF m 15 #[.val (.ref a1), .val (.ref a2), .val (.int u1), .val (.int u2), .val (.int u3), .val (.long q1), .second, .val (.ref a4)] [(.long q1), (.long q1), (.int u3), (.ref wE), (.int u3), (.int u2), (.int u1), (.ref a2), (.ref a1)])) t₀
    refine XS.aload X1.here hx rfl (hb hby d2_15) rfl rfl ?_
    exact k₀
  obtain ⟨_, _, ⟨T2, L2, k2, n2⟩, -, X2, ⟨Lc2, hQ2, l2, y2, z2⟩, st2⟩ := X1.specialBack hx (y := (⟨"com/example/nodex/nodex/records/DataRegion", "<init>", "([IIIILjava/util/List;IJJLcom/example/nodex/nodex/records/DataRegion$Content;)V"⟩ : MethodName)) rfl hown (mvT hZ (hw _ (List.mem_of_getElem? (i := 21) rfl))) (mvT hZ (hw _ (List.mem_of_getElem? (i := 22) rfl))) (mvT hZ (hw _ (List.mem_of_getElem? (i := 23) rfl))) (by decide) (backOf (W := 0) (rm2 l Z a0 hw [] a1 a2 u1 u2 u3 wE u3 q1 q1 a4 h0 n0 Z0 E1 g1 F_children F_first F_span F_count F_parts F_recordCount F_weight F_standing F_content) hZ (hw _ (List.mem_of_getElem? (i := 23) rfl)) (hw _ (List.mem_of_getElem? (i := 10) rfl)) (by decide) (by decide)) (g := (mkF m 17 #[.val (.ref a1), .val (.ref a2), .val (.int u1), .val (.int u2), .val (.int u3), .val (.long q1), .second, .val (.ref a4)] [(.ref a4), (.long q1), (.long q1), (.int u3), (.ref wE), (.int u3), (.int u2), (.int u1), (.ref a2), (.ref a1)])) rfl (by rw [hml]; rfl) (Steps.refl _) (a := a1) (argsL := [(.ref a2), (.int u1), (.int u2), (.int u3), (.ref wE), (.int u3), (.long q1), (.long q1), (.ref a4)]) (rest := []) (lenOf pd_3 rfl) rfl (by show 2 * 0 + _ ≤ _; exact Nat.le_of_eq rfl) (hb hby d2_17) (fun _ _ => ⟨rfl, e1, (by decide : 0 + 0 ≤ _), (by decide : 0 + 0 ≤ _)⟩)
  dsimp only [Pt.U, Pt.locs, Pt.cells, Pt.slots] at X2 l2 y2 z2 st2 hQ2
  subst l2 y2 z2
  obtain ⟨rfl, N2q, K2, Fr2, Fs2⟩ := hQ2
  have N2 := Fr.app N1 N2q
  refine hG _ _ (fun t₀ k₀ => st2.trans k₀) ?_
  show G (T2.setTop (mkF m 20 #[.val (.ref a1), .val (.ref a2), .val (.int u1), .val (.int u2), .val (.int u3), .val (.long q1), .second, .val (.ref a4)] []))
  refine hF _ T2 _ _ _ none _ X2 rfl (fun _ => rfl) (by decide) (by decide) ?_ (fun fs hr => X2.returnOut hx hrt (hb hby d2_20) hr)
  exact ⟨rfl, N2, K2, Fr2, Fs2⟩
theorem d6_0 : decode prog_22_method_9_code 0 = .ok (.aload_n 0, 1) := by decide +kernel
theorem d6_1 : decode prog_22_method_9_code 1 = .ok (.getfield 43, 3) := by decide +kernel
theorem d6_4 : decode prog_22_method_9_code 4 = .ok (.aload_n 1, 1) := by decide +kernel
theorem d6_5 : decode prog_22_method_9_code 5 = .ok (.getfield 43, 3) := by decide +kernel
theorem d6_8 : decode prog_22_method_9_code 8 = .ok (.lcmp, 1) := by decide +kernel
theorem d6_9 : decode prog_22_method_9_code 9 = .ok (.ifCond .gt 26, 3) := by decide +kernel
theorem d6_12 : decode prog_22_method_9_code 12 = .ok (.aload_n 0, 1) := by decide +kernel
theorem d6_13 : decode prog_22_method_9_code 13 = .ok (.getfield 43, 3) := by decide +kernel
theorem d6_16 : decode prog_22_method_9_code 16 = .ok (.aload_n 1, 1) := by decide +kernel
theorem d6_17 : decode prog_22_method_9_code 17 = .ok (.getfield 43, 3) := by decide +kernel
theorem d6_20 : decode prog_22_method_9_code 20 = .ok (.lcmp, 1) := by decide +kernel
theorem d6_21 : decode prog_22_method_9_code 21 = .ok (.ifCond .ne 18, 3) := by decide +kernel
theorem d6_24 : decode prog_22_method_9_code 24 = .ok (.aload_n 0, 1) := by decide +kernel
theorem d6_25 : decode prog_22_method_9_code 25 = .ok (.getfield 36, 3) := by decide +kernel
theorem d6_28 : decode prog_22_method_9_code 28 = .ok (.aload_n 1, 1) := by decide +kernel
theorem d6_29 : decode prog_22_method_9_code 29 = .ok (.getfield 36, 3) := by decide +kernel
theorem d6_32 : decode prog_22_method_9_code 32 = .ok (.if_icmp .le 7, 3) := by decide +kernel
theorem d6_35 : decode prog_22_method_9_code 35 = .ok (.iconst 1, 1) := by decide +kernel
theorem d6_36 : decode prog_22_method_9_code 36 = .ok (.goto 4, 3) := by decide +kernel
theorem d6_39 : decode prog_22_method_9_code 39 = .ok (.iconst 0, 1) := by decide +kernel
theorem d6_40 : decode prog_22_method_9_code 40 = .ok (.ireturn, 1) := by decide +kernel
theorem pn_6 : plainFor (⟨"com/example/nodex/nodex/records/DataRegion", "outranks", "(Lcom/example/nodex/nodex/records/DataRegion;)Z"⟩ : MethodName) = true := plainFor_of_name (by first | (simp [plainName, overriddenIn]; done) | decide +kernel)
theorem ef_rmO (m : MethodId) (x0 : Addr) (x1 : Addr) : entryFrame m #[(.ref x0), (.ref x1)] 2 = mkF m 0 #[.val (.ref x0), .val (.ref x1)] [] := by first | (simp [entryFrame, mkF, argsToLocals, Value.category]; done) | rfl
def Q_rmO (Z : State) (a1 a2 : Addr) (s1 s2 : Int64) (c1 c2 r : Int32) (h0 : Heap) (n0 : Nat) (v : Option Value) (h : Heap) (L : List Loc) : Prop := v = some (.int r) ∧ Fr n0 L ∧ h = h0
set_option maxRecDepth 65536 in
set_option maxHeartbeats 40000000 in
theorem rmO (l : Launch) (Z : State) (a0 : Array Value) (hw : ∀ d ∈ tables_1, d.before a0 Z = true) (ws : List Jvm.Cond) (a1 a2 : Addr) (s1 s2 : Int64) (c1 c2 r : Int32) (h0 : Heap) (n0 : Nat) (Z0 : n0 ≤ h0.size) (Fs1 : Fld Z h0 a1 "com/example/nodex/nodex/records/DataRegion" "standing" "J" (.long s1)) (Fc1 : Fld Z h0 a1 "com/example/nodex/nodex/records/DataRegion" "recordCount" "I" (.int c1)) (Fs2 : Fld Z h0 a2 "com/example/nodex/nodex/records/DataRegion" "standing" "J" (.long s2)) (Fc2 : Fld Z h0 a2 "com/example/nodex/nodex/records/DataRegion" "recordCount" "I" (.int c2)) (hr : own_out s1 s2 c1 c2 = r) :
    MetFree l (⟨"com/example/nodex/nodex/records/DataRegion", "outranks", "(Lcom/example/nodex/nodex/records/DataRegion;)Z"⟩ : MethodName) (head1 (Jvm.Cond.code (⟨"com/example/nodex/nodex/records/DataRegion", "outranks", "(Lcom/example/nodex/nodex/records/DataRegion;)Z"⟩ : MethodName) prog_22_method_9_code 2 (some .boolean) :: ws) ({ frames := 0, cells := 0, slots := 0, locals := 0 } : Room)) (fun a U => a = #[(.ref a1), (.ref a2)] ∧ Z.Warmed39 U.vm ∧ U.heap = h0) (fun _ _ _ _ _ => True) (fun _ U o U' => ∃ v L, o = .returned v ∧ Q_rmO Z a1 a2 s1 s2 c1 c2 r h0 n0 v U'.heap L ∧ FrameEnd U o U' L ({ frames := 0, cells := 0, slots := 0, locals := 0 } : Room).cells ({ frames := 0, cells := 0, slots := 0, locals := 0 } : Room).slots) := by
  refine own_body (Q := fun v h L => Q_rmO Z a1 a2 s1 s2 c1 c2 r h0 n0 v h L) pn_6 ?_
  intro p e s m below meth c s₁ G X0 hx hZ hby hml hown hnm hrt e0 hG hF
  have hown : s.vm.findClass "com/example/nodex/nodex/records/DataRegion" = some m.cls := hown
  have N0 := Fr.nil n0
  rw [ef_rmO m a1 a2]
  show G (s₁.setTop (mkF m 0 #[.val (.ref a1), .val (.ref a2)] []))
  refine hG _ (s₁.setTop (mkF m 1 #[.val (.ref a1), .val (.ref a2)] [(.ref a1)])) (fun t₀ k₀ => ?_) ?_
  · show Steps p.tables e below (s₁.setTop (mkF m 0 #[.val (.ref a1), .val (.ref a2)] [])) t₀
    refine XS.aloadN X0.here hx rfl (hb hby d6_0) rfl rfl ?_
    exact k₀
  obtain ⟨T1, X1, e1, st1⟩ := getF X0 hx hZ hown (host := "") (Or.inl (hw _ (List.mem_of_getElem? (i := 41) rfl))) Via.refl e0 Fs1 (g := (mkF m 1 #[.val (.ref a1), .val (.ref a2)] [(.ref a1)])) rfl rfl (hb hby d6_1)
  refine hG _ _ (fun t₀ k₀ => st1 _ k₀) ?_
  show G (T1.setTop (mkF m 4 #[.val (.ref a1), .val (.ref a2)] [(.long s1)]))
  refine hG _ (T1.setTop (mkF m 5 #[.val (.ref a1), .val (.ref a2)] [(.ref a2), (.long s1)])) (fun t₀ k₀ => ?_) ?_
  · show Steps p.tables e below (T1.setTop (mkF m 4 #[.val (.ref a1), .val (.ref a2)] [(.long s1)])) t₀
    refine XS.aloadN X1.here hx rfl (hb hby d6_4) rfl rfl ?_
    exact k₀
  obtain ⟨T2, X2, e2, st2⟩ := getF X1 hx hZ hown (host := "") (Or.inl (hw _ (List.mem_of_getElem? (i := 41) rfl))) Via.refl e1 Fs2 (g := (mkF m 5 #[.val (.ref a1), .val (.ref a2)] [(.ref a2), (.long s1)])) rfl rfl (hb hby d6_5)
  refine hG _ _ (fun t₀ k₀ => st2 _ k₀) ?_
  show G (T2.setTop (mkF m 8 #[.val (.ref a1), .val (.ref a2)] [(.long s2), (.long s1)]))
  refine hG _ (T2.setTop (mkF m 9 #[.val (.ref a1), .val (.ref a2)] [(.int (lcmpW s1 s2))])) (fun t₀ k₀ => ?_) ?_
  · show Steps p.tables e below (T2.setTop (mkF m 8 #[.val (.ref a1), .val (.ref a2)] [(.long s2), (.long s1)])) t₀
    refine XS.lcmp X2.here hx rfl (hb hby d6_8) rfl ?_
    exact k₀
  by_cases hc9 : s2 < s1
  ·
    refine hG _ (T2.setTop (mkF m 40 #[.val (.ref a1), .val (.ref a2)] [(.int (1 : Int32))])) (fun t₀ k₀ => ?_) ?_
    · show Steps p.tables e below (T2.setTop (mkF m 9 #[.val (.ref a1), .val (.ref a2)] [(.int (lcmpW s1 s2))])) t₀
      refine XS.ifYes X2.here hx rfl (pc0 := 9) (pc' := 35) rfl (hb hby d6_9) rfl ((if0 _ _).trans (tlt ((lw_gt s1 s2).mpr hc9)).2.2.1) (by decide) (by decide) ?_
      show Steps p.tables e below (T2.setTop (mkF m 35 #[.val (.ref a1), .val (.ref a2)] [])) t₀
      refine XS.iconst X2.here hx rfl (hb hby d6_35) ?_
      show Steps p.tables e below (T2.setTop (mkF m 36 #[.val (.ref a1), .val (.ref a2)] [(.int (1 : Int32))])) t₀
      refine XS.goto X2.here hx rfl (pc0 := 36) (pc' := 40) rfl (hb hby d6_36) (by decide) (by decide) ?_
      exact k₀
    refine hF _ T2 _ _ _ (some (.int (1 : Int32))) _ X2 e2 (fun h => by rw [hrt] at h; cases h) (by decide) (by decide) ?_ (fun fs hr => retN X2 hx (t := .boolean) hrt (by simp) (hb hby d6_40) hr)
    exact ⟨by rw [← hr, own_out1 hc9], N0, rfl⟩
  ·
    refine hG _ (T2.setTop (mkF m 13 #[.val (.ref a1), .val (.ref a2)] [(.ref a1)])) (fun t₀ k₀ => ?_) ?_
    · show Steps p.tables e below (T2.setTop (mkF m 9 #[.val (.ref a1), .val (.ref a2)] [(.int (lcmpW s1 s2))])) t₀
      refine XS.ifNo X2.here hx rfl (hb hby d6_9) rfl ((if0 _ _).trans (flt (fun z => hc9 ((lw_gt s1 s2).mp z))).2.2.1) ?_
      show Steps p.tables e below (T2.setTop (mkF m 12 #[.val (.ref a1), .val (.ref a2)] [])) t₀
      refine XS.aloadN X2.here hx rfl (hb hby d6_12) rfl rfl ?_
      exact k₀
    obtain ⟨T3, X3, e3, st3⟩ := getF X2 hx hZ hown (host := "") (Or.inl (hw _ (List.mem_of_getElem? (i := 41) rfl))) Via.refl e2 Fs1 (g := (mkF m 13 #[.val (.ref a1), .val (.ref a2)] [(.ref a1)])) rfl rfl (hb hby d6_13)
    refine hG _ _ (fun t₀ k₀ => st3 _ k₀) ?_
    show G (T3.setTop (mkF m 16 #[.val (.ref a1), .val (.ref a2)] [(.long s1)]))
    refine hG _ (T3.setTop (mkF m 17 #[.val (.ref a1), .val (.ref a2)] [(.ref a2), (.long s1)])) (fun t₀ k₀ => ?_) ?_
    · show Steps p.tables e below (T3.setTop (mkF m 16 #[.val (.ref a1), .val (.ref a2)] [(.long s1)])) t₀
      refine XS.aloadN X3.here hx rfl (hb hby d6_16) rfl rfl ?_
      exact k₀
    obtain ⟨T4, X4, e4, st4⟩ := getF X3 hx hZ hown (host := "") (Or.inl (hw _ (List.mem_of_getElem? (i := 41) rfl))) Via.refl e3 Fs2 (g := (mkF m 17 #[.val (.ref a1), .val (.ref a2)] [(.ref a2), (.long s1)])) rfl rfl (hb hby d6_17)
    refine hG _ _ (fun t₀ k₀ => st4 _ k₀) ?_
    show G (T4.setTop (mkF m 20 #[.val (.ref a1), .val (.ref a2)] [(.long s2), (.long s1)]))
    refine hG _ (T4.setTop (mkF m 21 #[.val (.ref a1), .val (.ref a2)] [(.int (lcmpW s1 s2))])) (fun t₀ k₀ => ?_) ?_
    · show Steps p.tables e below (T4.setTop (mkF m 20 #[.val (.ref a1), .val (.ref a2)] [(.long s2), (.long s1)])) t₀
      refine XS.lcmp X4.here hx rfl (hb hby d6_20) rfl ?_
      exact k₀
    by_cases hc21 : s1 = s2
    ·
      refine hG _ (T4.setTop (mkF m 25 #[.val (.ref a1), .val (.ref a2)] [(.ref a1)])) (fun t₀ k₀ => ?_) ?_
      · show Steps p.tables e below (T4.setTop (mkF m 21 #[.val (.ref a1), .val (.ref a2)] [(.int (lcmpW s1 s2))])) t₀
        refine XS.ifNo X4.here hx rfl (hb hby d6_21) rfl ((if0 _ _).trans (teq ((lw_eq s1 s2).mpr hc21)).2) ?_
        show Steps p.tables e below (T4.setTop (mkF m 24 #[.val (.ref a1), .val (.ref a2)] [])) t₀
        refine XS.aloadN X4.here hx rfl (hb hby d6_24) rfl rfl ?_
        exact k₀
      obtain ⟨T5, X5, e5, st5⟩ := getF X4 hx hZ hown (host := "") (Or.inl (hw _ (List.mem_of_getElem? (i := 37) rfl))) Via.refl e4 Fc1 (g := (mkF m 25 #[.val (.ref a1), .val (.ref a2)] [(.ref a1)])) rfl rfl (hb hby d6_25)
      refine hG _ _ (fun t₀ k₀ => st5 _ k₀) ?_
      show G (T5.setTop (mkF m 28 #[.val (.ref a1), .val (.ref a2)] [(.int c1)]))
      refine hG _ (T5.setTop (mkF m 29 #[.val (.ref a1), .val (.ref a2)] [(.ref a2), (.int c1)])) (fun t₀ k₀ => ?_) ?_
      · show Steps p.tables e below (T5.setTop (mkF m 28 #[.val (.ref a1), .val (.ref a2)] [(.int c1)])) t₀
        refine XS.aloadN X5.here hx rfl (hb hby d6_28) rfl rfl ?_
        exact k₀
      obtain ⟨T6, X6, e6, st6⟩ := getF X5 hx hZ hown (host := "") (Or.inl (hw _ (List.mem_of_getElem? (i := 37) rfl))) Via.refl e5 Fc2 (g := (mkF m 29 #[.val (.ref a1), .val (.ref a2)] [(.ref a2), (.int c1)])) rfl rfl (hb hby d6_29)
      refine hG _ _ (fun t₀ k₀ => st6 _ k₀) ?_
      show G (T6.setTop (mkF m 32 #[.val (.ref a1), .val (.ref a2)] [(.int c2), (.int c1)]))
      by_cases hc32 : c2 < c1
      ·
        refine hG _ (T6.setTop (mkF m 40 #[.val (.ref a1), .val (.ref a2)] [(.int (1 : Int32))])) (fun t₀ k₀ => ?_) ?_
        · show Steps p.tables e below (T6.setTop (mkF m 32 #[.val (.ref a1), .val (.ref a2)] [(.int c2), (.int c1)])) t₀
          refine XS.icmpNo X6.here hx rfl (hb hby d6_32) rfl (tlt hc32).2.2.2 ?_
          show Steps p.tables e below (T6.setTop (mkF m 35 #[.val (.ref a1), .val (.ref a2)] [])) t₀
          refine XS.iconst X6.here hx rfl (hb hby d6_35) ?_
          show Steps p.tables e below (T6.setTop (mkF m 36 #[.val (.ref a1), .val (.ref a2)] [(.int (1 : Int32))])) t₀
          refine XS.goto X6.here hx rfl (pc0 := 36) (pc' := 40) rfl (hb hby d6_36) (by decide) (by decide) ?_
          exact k₀
        refine hF _ T6 _ _ _ (some (.int (1 : Int32))) _ X6 e6 (fun h => by rw [hrt] at h; cases h) (by decide) (by decide) ?_ (fun fs hr => retN X6 hx (t := .boolean) hrt (by simp) (hb hby d6_40) hr)
        exact ⟨by rw [← hr, own_out2 hc21 hc32], N0, rfl⟩
      ·
        refine hG _ (T6.setTop (mkF m 40 #[.val (.ref a1), .val (.ref a2)] [(.int (0 : Int32))])) (fun t₀ k₀ => ?_) ?_
        · show Steps p.tables e below (T6.setTop (mkF m 32 #[.val (.ref a1), .val (.ref a2)] [(.int c2), (.int c1)])) t₀
          refine XS.icmpYes X6.here hx rfl (pc0 := 32) (pc' := 39) rfl (hb hby d6_32) rfl (flt hc32).2.2.2 (by decide) (by decide) ?_
          show Steps p.tables e below (T6.setTop (mkF m 39 #[.val (.ref a1), .val (.ref a2)] [])) t₀
          refine XS.iconst X6.here hx rfl (hb hby d6_39) ?_
          exact k₀
        refine hF _ T6 _ _ _ (some (.int (0 : Int32))) _ X6 e6 (fun h => by rw [hrt] at h; cases h) (by decide) (by decide) ?_ (fun fs hr => retN X6 hx (t := .boolean) hrt (by simp) (hb hby d6_40) hr)
        exact ⟨by rw [← hr, own_out4 hc9 hc32], N0, rfl⟩
    ·
      refine hG _ (T4.setTop (mkF m 40 #[.val (.ref a1), .val (.ref a2)] [(.int (0 : Int32))])) (fun t₀ k₀ => ?_) ?_
      · show Steps p.tables e below (T4.setTop (mkF m 21 #[.val (.ref a1), .val (.ref a2)] [(.int (lcmpW s1 s2))])) t₀
        refine XS.ifYes X4.here hx rfl (pc0 := 21) (pc' := 39) rfl (hb hby d6_21) rfl ((if0 _ _).trans (feq (fun z => hc21 ((lw_eq s1 s2).mp z))).2) (by decide) (by decide) ?_
        show Steps p.tables e below (T4.setTop (mkF m 39 #[.val (.ref a1), .val (.ref a2)] [])) t₀
        refine XS.iconst X4.here hx rfl (hb hby d6_39) ?_
        exact k₀
      refine hF _ T4 _ _ _ (some (.int (0 : Int32))) _ X4 e4 (fun h => by rw [hrt] at h; cases h) (by decide) (by decide) ?_ (fun fs hr => retN X4 hx (t := .boolean) hrt (by simp) (hb hby d6_40) hr)
      exact ⟨by rw [← hr, own_out3 hc9 hc21], N0, rfl⟩
theorem d7_0 : decode method_3_code 0 = .ok (.lload_n 0, 1) := by decide +kernel
theorem d7_1 : decode method_3_code 1 = .ok (.lload_n 3, 1) := by decide +kernel
theorem d7_2 : decode method_3_code 2 = .ok (.lcmp, 1) := by decide +kernel
theorem d7_3 : decode method_3_code 3 = .ok (.ifCond .ge 5, 3) := by decide +kernel
theorem d7_6 : decode method_3_code 6 = .ok (.iconst 0, 1) := by decide +kernel
theorem d7_7 : decode method_3_code 7 = .ok (.ireturn, 1) := by decide +kernel
theorem d7_8 : decode method_3_code 8 = .ok (.lload_n 0, 1) := by decide +kernel
theorem d7_9 : decode method_3_code 9 = .ok (.lload_n 3, 1) := by decide +kernel
theorem d7_10 : decode method_3_code 10 = .ok (.lcmp, 1) := by decide +kernel
theorem d7_11 : decode method_3_code 11 = .ok (.ifCond .le 5, 3) := by decide +kernel
theorem d7_14 : decode method_3_code 14 = .ok (.iconst 1, 1) := by decide +kernel
theorem d7_15 : decode method_3_code 15 = .ok (.ireturn, 1) := by decide +kernel
theorem d7_16 : decode method_3_code 16 = .ok (.iload_n 2, 1) := by decide +kernel
theorem d7_17 : decode method_3_code 17 = .ok (.iload 5, 2) := by decide +kernel
theorem d7_19 : decode method_3_code 19 = .ok (.if_icmp .le 7, 3) := by decide +kernel
theorem d7_22 : decode method_3_code 22 = .ok (.iconst 1, 1) := by decide +kernel
theorem d7_23 : decode method_3_code 23 = .ok (.goto 4, 3) := by decide +kernel
theorem d7_26 : decode method_3_code 26 = .ok (.iconst 0, 1) := by decide +kernel
theorem d7_27 : decode method_3_code 27 = .ok (.ireturn, 1) := by decide +kernel
theorem pn_7 : plainFor (⟨"com/example/nodex/nodex/records/DataRegionOutranksPinLaw", "expected", "(JIJI)Z"⟩ : MethodName) = true := plainFor_of_name (by first | (simp [plainName, overriddenIn]; done) | decide +kernel)
theorem ef_rmX (m : MethodId) (x0 : Int64) (x1 : Int32) (x2 : Int64) (x3 : Int32) : entryFrame m #[(.long x0), (.int x1), (.long x2), (.int x3)] 6 = mkF m 0 #[.val (.long x0), .second, .val (.int x1), .val (.long x2), .second, .val (.int x3)] [] := by first | (simp [entryFrame, mkF, argsToLocals, Value.category]; done) | rfl
def Q_rmX (Z : State) (s1 : Int64) (c1 : Int32) (s2 : Int64) (c2 : Int32) (h0 : Heap) (n0 : Nat) (v : Option Value) (h : Heap) (L : List Loc) : Prop := v = some (.int (own_out s1 s2 c1 c2)) ∧ Fr n0 L ∧ h = h0
set_option maxRecDepth 65536 in
set_option maxHeartbeats 40000000 in
theorem rmX (l : Launch) (Z : State) (a0 : Array Value) (hw : ∀ d ∈ tables_1, d.before a0 Z = true) (ws : List Jvm.Cond) (s1 : Int64) (c1 : Int32) (s2 : Int64) (c2 : Int32) (h0 : Heap) (n0 : Nat) (Z0 : n0 ≤ h0.size)  :
    MetFree l (⟨"com/example/nodex/nodex/records/DataRegionOutranksPinLaw", "expected", "(JIJI)Z"⟩ : MethodName) (head1 (Jvm.Cond.code (⟨"com/example/nodex/nodex/records/DataRegionOutranksPinLaw", "expected", "(JIJI)Z"⟩ : MethodName) method_3_code 6 (some .boolean) :: ws) ({ frames := 0, cells := 0, slots := 0, locals := 0 } : Room)) (fun a U => a = #[(.long s1), (.int c1), (.long s2), (.int c2)] ∧ Z.Warmed39 U.vm ∧ U.heap = h0) (fun _ _ _ _ _ => True) (fun _ U o U' => ∃ v L, o = .returned v ∧ Q_rmX Z s1 c1 s2 c2 h0 n0 v U'.heap L ∧ FrameEnd U o U' L ({ frames := 0, cells := 0, slots := 0, locals := 0 } : Room).cells ({ frames := 0, cells := 0, slots := 0, locals := 0 } : Room).slots) := by
  refine own_body (Q := fun v h L => Q_rmX Z s1 c1 s2 c2 h0 n0 v h L) pn_7 ?_
  intro p e s m below meth c s₁ G X0 hx hZ hby hml hown hnm hrt e0 hG hF
  have hown : s.vm.findClass "com/example/nodex/nodex/records/DataRegionOutranksPinLaw" = some m.cls := hown
  have N0 := Fr.nil n0
  rw [ef_rmX m s1 c1 s2 c2]
  show G (s₁.setTop (mkF m 0 #[.val (.long s1), .second, .val (.int c1), .val (.long s2), .second, .val (.int c2)] []))
  refine hG _ (s₁.setTop (mkF m 3 #[.val (.long s1), .second, .val (.int c1), .val (.long s2), .second, .val (.int c2)] [(.int (lcmpW s1 s2))])) (fun t₀ k₀ => ?_) ?_
  · show Steps p.tables e below (s₁.setTop (mkF m 0 #[.val (.long s1), .second, .val (.int c1), .val (.long s2), .second, .val (.int c2)] [])) t₀
    refine XS.lloadN X0.here hx rfl (hb hby d7_0) rfl ?_
    show Steps p.tables e below (s₁.setTop (mkF m 1 #[.val (.long s1), .second, .val (.int c1), .val (.long s2), .second, .val (.int c2)] [(.long s1)])) t₀
    refine XS.lloadN X0.here hx rfl (hb hby d7_1) rfl ?_
    show Steps p.tables e below (s₁.setTop (mkF m 2 #[.val (.long s1), .second, .val (.int c1), .val (.long s2), .second, .val (.int c2)] [(.long s2), (.long s1)])) t₀
    refine XS.lcmp X0.here hx rfl (hb hby d7_2) rfl ?_
    exact k₀
  by_cases hc3 : s1 < s2
  ·
    refine hG _ (s₁.setTop (mkF m 7 #[.val (.long s1), .second, .val (.int c1), .val (.long s2), .second, .val (.int c2)] [(.int (0 : Int32))])) (fun t₀ k₀ => ?_) ?_
    · show Steps p.tables e below (s₁.setTop (mkF m 3 #[.val (.long s1), .second, .val (.int c1), .val (.long s2), .second, .val (.int c2)] [(.int (lcmpW s1 s2))])) t₀
      refine XS.ifNo X0.here hx rfl (hb hby d7_3) rfl ((if0 _ _).trans (tlt ((lw_lt s1 s2).mpr hc3)).2.1) ?_
      show Steps p.tables e below (s₁.setTop (mkF m 6 #[.val (.long s1), .second, .val (.int c1), .val (.long s2), .second, .val (.int c2)] [])) t₀
      refine XS.iconst X0.here hx rfl (hb hby d7_6) ?_
      exact k₀
    refine hF _ s₁ _ _ _ (some (.int (0 : Int32))) _ X0 e0 (fun h => by rw [hrt] at h; cases h) (by decide) (by decide) ?_ (fun fs hr => retN X0 hx (t := .boolean) hrt (by simp) (hb hby d7_7) hr)
    exact ⟨by rw [own_lt hc3], N0, rfl⟩
  ·
    refine hG _ (s₁.setTop (mkF m 11 #[.val (.long s1), .second, .val (.int c1), .val (.long s2), .second, .val (.int c2)] [(.int (lcmpW s1 s2))])) (fun t₀ k₀ => ?_) ?_
    · show Steps p.tables e below (s₁.setTop (mkF m 3 #[.val (.long s1), .second, .val (.int c1), .val (.long s2), .second, .val (.int c2)] [(.int (lcmpW s1 s2))])) t₀
      refine XS.ifYes X0.here hx rfl (pc0 := 3) (pc' := 8) rfl (hb hby d7_3) rfl ((if0 _ _).trans (flt (fun z => hc3 ((lw_lt s1 s2).mp z))).2.1) (by decide) (by decide) ?_
      show Steps p.tables e below (s₁.setTop (mkF m 8 #[.val (.long s1), .second, .val (.int c1), .val (.long s2), .second, .val (.int c2)] [])) t₀
      refine XS.lloadN X0.here hx rfl (hb hby d7_8) rfl ?_
      show Steps p.tables e below (s₁.setTop (mkF m 9 #[.val (.long s1), .second, .val (.int c1), .val (.long s2), .second, .val (.int c2)] [(.long s1)])) t₀
      refine XS.lloadN X0.here hx rfl (hb hby d7_9) rfl ?_
      show Steps p.tables e below (s₁.setTop (mkF m 10 #[.val (.long s1), .second, .val (.int c1), .val (.long s2), .second, .val (.int c2)] [(.long s2), (.long s1)])) t₀
      refine XS.lcmp X0.here hx rfl (hb hby d7_10) rfl ?_
      exact k₀
    by_cases hc11 : s2 < s1
    ·
      refine hG _ (s₁.setTop (mkF m 15 #[.val (.long s1), .second, .val (.int c1), .val (.long s2), .second, .val (.int c2)] [(.int (1 : Int32))])) (fun t₀ k₀ => ?_) ?_
      · show Steps p.tables e below (s₁.setTop (mkF m 11 #[.val (.long s1), .second, .val (.int c1), .val (.long s2), .second, .val (.int c2)] [(.int (lcmpW s1 s2))])) t₀
        refine XS.ifNo X0.here hx rfl (hb hby d7_11) rfl ((if0 _ _).trans (tlt ((lw_gt s1 s2).mpr hc11)).2.2.2) ?_
        show Steps p.tables e below (s₁.setTop (mkF m 14 #[.val (.long s1), .second, .val (.int c1), .val (.long s2), .second, .val (.int c2)] [])) t₀
        refine XS.iconst X0.here hx rfl (hb hby d7_14) ?_
        exact k₀
      refine hF _ s₁ _ _ _ (some (.int (1 : Int32))) _ X0 e0 (fun h => by rw [hrt] at h; cases h) (by decide) (by decide) ?_ (fun fs hr => retN X0 hx (t := .boolean) hrt (by simp) (hb hby d7_15) hr)
      exact ⟨by rw [own_out1 hc11], N0, rfl⟩
    ·
      refine hG _ (s₁.setTop (mkF m 19 #[.val (.long s1), .second, .val (.int c1), .val (.long s2), .second, .val (.int c2)] [(.int c2), (.int c1)])) (fun t₀ k₀ => ?_) ?_
      · show Steps p.tables e below (s₁.setTop (mkF m 11 #[.val (.long s1), .second, .val (.int c1), .val (.long s2), .second, .val (.int c2)] [(.int (lcmpW s1 s2))])) t₀
        refine XS.ifYes X0.here hx rfl (pc0 := 11) (pc' := 16) rfl (hb hby d7_11) rfl ((if0 _ _).trans (flt (fun z => hc11 ((lw_gt s1 s2).mp z))).2.2.2) (by decide) (by decide) ?_
        show Steps p.tables e below (s₁.setTop (mkF m 16 #[.val (.long s1), .second, .val (.int c1), .val (.long s2), .second, .val (.int c2)] [])) t₀
        refine XS.iloadN X0.here hx rfl (hb hby d7_16) rfl ?_
        show Steps p.tables e below (s₁.setTop (mkF m 17 #[.val (.long s1), .second, .val (.int c1), .val (.long s2), .second, .val (.int c2)] [(.int c1)])) t₀
        refine XS.iload X0.here hx rfl (hb hby d7_17) rfl ?_
        exact k₀
      by_cases hc19 : c2 < c1
      ·
        refine hG _ (s₁.setTop (mkF m 27 #[.val (.long s1), .second, .val (.int c1), .val (.long s2), .second, .val (.int c2)] [(.int (1 : Int32))])) (fun t₀ k₀ => ?_) ?_
        · show Steps p.tables e below (s₁.setTop (mkF m 19 #[.val (.long s1), .second, .val (.int c1), .val (.long s2), .second, .val (.int c2)] [(.int c2), (.int c1)])) t₀
          refine XS.icmpNo X0.here hx rfl (hb hby d7_19) rfl (tlt hc19).2.2.2 ?_
          show Steps p.tables e below (s₁.setTop (mkF m 22 #[.val (.long s1), .second, .val (.int c1), .val (.long s2), .second, .val (.int c2)] [])) t₀
          refine XS.iconst X0.here hx rfl (hb hby d7_22) ?_
          show Steps p.tables e below (s₁.setTop (mkF m 23 #[.val (.long s1), .second, .val (.int c1), .val (.long s2), .second, .val (.int c2)] [(.int (1 : Int32))])) t₀
          refine XS.goto X0.here hx rfl (pc0 := 23) (pc' := 27) rfl (hb hby d7_23) (by decide) (by decide) ?_
          exact k₀
        refine hF _ s₁ _ _ _ (some (.int (1 : Int32))) _ X0 e0 (fun h => by rw [hrt] at h; cases h) (by decide) (by decide) ?_ (fun fs hr => retN X0 hx (t := .boolean) hrt (by simp) (hb hby d7_27) hr)
        exact ⟨by rw [own_out2 (own_eq hc3 hc11) hc19], N0, rfl⟩
      ·
        refine hG _ (s₁.setTop (mkF m 27 #[.val (.long s1), .second, .val (.int c1), .val (.long s2), .second, .val (.int c2)] [(.int (0 : Int32))])) (fun t₀ k₀ => ?_) ?_
        · show Steps p.tables e below (s₁.setTop (mkF m 19 #[.val (.long s1), .second, .val (.int c1), .val (.long s2), .second, .val (.int c2)] [(.int c2), (.int c1)])) t₀
          refine XS.icmpYes X0.here hx rfl (pc0 := 19) (pc' := 26) rfl (hb hby d7_19) rfl (flt hc19).2.2.2 (by decide) (by decide) ?_
          show Steps p.tables e below (s₁.setTop (mkF m 26 #[.val (.long s1), .second, .val (.int c1), .val (.long s2), .second, .val (.int c2)] [])) t₀
          refine XS.iconst X0.here hx rfl (hb hby d7_26) ?_
          exact k₀
        refine hF _ s₁ _ _ _ (some (.int (0 : Int32))) _ X0 e0 (fun h => by rw [hrt] at h; cases h) (by decide) (by decide) ?_ (fun fs hr => retN X0 hx (t := .boolean) hrt (by simp) (hb hby d7_27) hr)
        exact ⟨by rw [own_out4 hc11 hc19], N0, rfl⟩
theorem pn_0 : plainFor (⟨"com/example/nodex/nodex/records/DataRegionOutranksPinLaw", "law", "(JJIII)Z"⟩ : MethodName) = true := plainFor_of_name (by first | (simp [plainName, overriddenIn]; done) | decide +kernel)
theorem ef_rm0 (m : MethodId) (x0 : Int64) (x1 : Int64) (x2 : Int32) (x3 : Int32) (x4 : Int32) : entryFrame m #[(.long x0), (.long x1), (.int x2), (.int x3), (.int x4)] maxLocals = mkF m 0 #[.val (.long x0), .second, .val (.long x1), .second, .val (.int x2), .val (.int x3), .val (.int x4), .unset, .unset, .unset, .unset, .unset, .unset, .unset, .unset, .unset, .unset, .unset] [] := by first | (simp [entryFrame, mkF, argsToLocals, Value.category, maxLocals]; done) | rfl
def Q_rm0 (Z : State) (p1 p2 : Int64) (p3 p4 p5 : Int32) (wI wL wF wE : Addr) (h0 : Heap) (n0 : Nat) (v : Option Value) (h : Heap) (L : List Loc) : Prop := v = some (.int (1 : Int32)) ∧ Fr n0 L
set_option maxRecDepth 65536 in
set_option maxHeartbeats 40000000 in
theorem rm0 (l : Launch) (Z : State) (a0 : Array Value) (hw : ∀ d ∈ tables_1, d.before a0 Z = true) (ws : List Jvm.Cond) (p1 p2 : Int64) (p3 p4 p5 : Int32) (wI wL wF wE : Addr) (h0 : Heap) (n0 : Nat) (Z0 : n0 ≤ h0.size) (O0 : Old Z n0 h0) (S_ITEMS : Sta Z Z.heap "com/example/nodex/nodex/records/DataRegion$Content" "ITEMS" "Lcom/example/nodex/nodex/records/DataRegion$Content;" (.ref wI)) (S_LINKS : Sta Z Z.heap "com/example/nodex/nodex/records/DataRegion$Content" "LINKS" "Lcom/example/nodex/nodex/records/DataRegion$Content;" (.ref wL)) (S_FIELDS : Sta Z Z.heap "com/example/nodex/nodex/records/DataRegion$Content" "FIELDS" "Lcom/example/nodex/nodex/records/DataRegion$Content;" (.ref wF)) (S_EMPTY : Sta Z Z.heap "java/util/ImmutableCollections" "EMPTY_LIST" "Ljava/util/ImmutableCollections$ListN;" (.ref wE)) :
    MetFree l x (head1 (Jvm.Cond.code x code maxLocals ret :: ws) room_1) (fun a U => a = #[(.long p1), (.long p2), (.int p3), (.int p4), (.int p5)] ∧ Z.Warmed39 U.vm ∧ U.heap = h0) (fun _ _ _ _ _ => True) (fun _ U o U' => ∃ v L, o = .returned v ∧ Q_rm0 Z p1 p2 p3 p4 p5 wI wL wF wE h0 n0 v U'.heap L ∧ FrameEnd U o U' L room_1.cells room_1.slots) := by
  refine own_body (Q := fun v h L => Q_rm0 Z p1 p2 p3 p4 p5 wI wL wF wE h0 n0 v h L) pn_0 ?_
  intro p e s m below meth c s₁ G X0 hx hZ hby hml hown hnm hrt e0 hG hF
  have hml : c.maxLocals = 18 := hml
  have hrt : meth.sig.returnType = some .boolean := hrt
  have hown : s.vm.findClass "com/example/nodex/nodex/records/DataRegionOutranksPinLaw" = some m.cls := hown
  have N0 := Fr.nil n0
  rw [ef_rm0 m p1 p2 p3 p4 p5]
  show G (s₁.setTop (mkF m 0 #[.val (.long p1), .second, .val (.long p2), .second, .val (.int p3), .val (.int p4), .val (.int p5), .unset, .unset, .unset, .unset, .unset, .unset, .unset, .unset, .unset, .unset, .unset] []))
  have tl2 : ∀  (wb : Int64) (cb : Int32), G (s₁.setTop (mkF m 40 #[.val (.long p1), .second, .val (.long p2), .second, .val (.int p3), .val (.int p4), .val (.int p5), .val (.long wb), .second, .val (.int (p3 &&& (2147483647 : Int32))), .val (.int cb), .unset, .unset, .unset, .unset, .unset, .unset, .unset] [])) := by
    intro wb cb
    refine hG _ (s₁.setTop (mkF m 44 #[.val (.long p1), .second, .val (.long p2), .second, .val (.int p3), .val (.int p4), .val (.int p5), .val (.long wb), .second, .val (.int (p3 &&& (2147483647 : Int32))), .val (.int cb), .unset, .unset, .unset, .unset, .unset, .unset, .unset] [(.int ((p5.toUInt32 >>> ((2 : Int32) &&& 31).toUInt32).toInt32))])) (fun t₀ k₀ => ?_) ?_
    · show Steps p.tables e below (s₁.setTop (mkF m 40 #[.val (.long p1), .second, .val (.long p2), .second, .val (.int p3), .val (.int p4), .val (.int p5), .val (.long wb), .second, .val (.int (p3 &&& (2147483647 : Int32))), .val (.int cb), .unset, .unset, .unset, .unset, .unset, .unset, .unset] [])) t₀
      refine XS.iload X0.here hx rfl (hb hby at_40) rfl ?_
      show Steps p.tables e below (s₁.setTop (mkF m 42 #[.val (.long p1), .second, .val (.long p2), .second, .val (.int p3), .val (.int p4), .val (.int p5), .val (.long wb), .second, .val (.int (p3 &&& (2147483647 : Int32))), .val (.int cb), .unset, .unset, .unset, .unset, .unset, .unset, .unset] [(.int p5)])) t₀
      refine XS.iconst X0.here hx rfl (hb hby at_42) ?_
      show Steps p.tables e below (s₁.setTop (mkF m 43 #[.val (.long p1), .second, .val (.long p2), .second, .val (.int p3), .val (.int p4), .val (.int p5), .val (.long wb), .second, .val (.int (p3 &&& (2147483647 : Int32))), .val (.int cb), .unset, .unset, .unset, .unset, .unset, .unset, .unset] [(.int (2 : Int32)), (.int p5)])) t₀
      refine XS.iushr X0.here hx rfl (hb hby at_43) rfl ?_
      exact k₀
    obtain ⟨_, _, ⟨T1, L1, k1, n1⟩, -, X1, ⟨Lc1, hQ1, l1, y1, z1⟩, st1⟩ := Jvm.LawKit.callS X0 hx (y := (⟨"com/example/nodex/nodex/records/DataRegionOutranksPinLaw", "pick", "(I)Lcom/example/nodex/nodex/records/DataRegion$Content;"⟩ : MethodName)) hown (mvT hZ (hw _ (List.mem_of_getElem? (i := 1) rfl))) (mvT hZ (hw _ (List.mem_of_getElem? (i := 2) rfl))) (mvT hZ (hw _ (List.mem_of_getElem? (i := 3) rfl))) (mvT hZ (hw _ (List.mem_of_getElem? (i := 4) rfl))) (by decide) (backOf (W := 0) (rmP l Z a0 hw [] ((p5.toUInt32 >>> ((2 : Int32) &&& 31).toUInt32).toInt32) wI wL wF h0 n0 Z0 O0 S_ITEMS S_LINKS S_FIELDS) hZ (hw _ (List.mem_of_getElem? (i := 4) rfl)) (hw _ (List.mem_of_getElem? (i := 3) rfl)) (by decide) (by decide)) (g := (mkF m 44 #[.val (.long p1), .second, .val (.long p2), .second, .val (.int p3), .val (.int p4), .val (.int p5), .val (.long wb), .second, .val (.int (p3 &&& (2147483647 : Int32))), .val (.int cb), .unset, .unset, .unset, .unset, .unset, .unset, .unset] [(.int ((p5.toUInt32 >>> ((2 : Int32) &&& 31).toUInt32).toInt32))])) rfl (by rw [hml]; rfl) (argsL := [(.int ((p5.toUInt32 >>> ((2 : Int32) &&& 31).toUInt32).toInt32))]) (rest := []) (lenOf pd_0 rfl) rfl (by show 2 * 0 + _ ≤ _; exact Nat.le_of_eq rfl) (hb hby at_44) (fun _ _ => ⟨rfl, e0, (by decide : 0 + 0 ≤ _), (by decide : 0 + 0 ≤ _)⟩)
    dsimp only [Pt.U, Pt.locs, Pt.cells, Pt.slots] at X1 l1 y1 z1 st1 hQ1
    subst l1 y1 z1
    obtain ⟨ct1, rfl, N1q, e1⟩ := hQ1
    have N1 := Fr.app N0 N1q
    refine hG _ _ (fun t₀ k₀ => st1 _ k₀) ?_
    show G (T1.setTop (mkF m 47 #[.val (.long p1), .second, .val (.long p2), .second, .val (.int p3), .val (.int p4), .val (.int p5), .val (.long wb), .second, .val (.int (p3 &&& (2147483647 : Int32))), .val (.int cb), .unset, .unset, .unset, .unset, .unset, .unset, .unset] [(.ref ct1)]))
    refine hG _ (T1.setTop (mkF m 53 #[.val (.long p1), .second, .val (.long p2), .second, .val (.int p3), .val (.int p4), .val (.int p5), .val (.long wb), .second, .val (.int (p3 &&& (2147483647 : Int32))), .val (.int cb), .val (.ref ct1), .unset, .unset, .unset, .unset, .unset, .unset] [(.int ((p5.toUInt32 >>> ((4 : Int32) &&& 31).toUInt32).toInt32))])) (fun t₀ k₀ => ?_) ?_
    · show Steps p.tables e below (T1.setTop (mkF m 47 #[.val (.long p1), .second, .val (.long p2), .second, .val (.int p3), .val (.int p4), .val (.int p5), .val (.long wb), .second, .val (.int (p3 &&& (2147483647 : Int32))), .val (.int cb), .unset, .unset, .unset, .unset, .unset, .unset, .unset] [(.ref ct1)])) t₀
      refine XS.astore X1.here hx rfl (hb hby at_47) rfl rfl (l' := #[.val (.long p1), .second, .val (.long p2), .second, .val (.int p3), .val (.int p4), .val (.int p5), .val (.long wb), .second, .val (.int (p3 &&& (2147483647 : Int32))), .val (.int cb), .val (.ref ct1), .unset, .unset, .unset, .unset, .unset, .unset]) rfl ?_
      show Steps p.tables e below (T1.setTop (mkF m 49 #[.val (.long p1), .second, .val (.long p2), .second, .val (.int p3), .val (.int p4), .val (.int p5), .val (.long wb), .second, .val (.int (p3 &&& (2147483647 : Int32))), .val (.int cb), .val (.ref ct1), .unset, .unset, .unset, .unset, .unset, .unset] [])) t₀
      refine XS.iload X1.here hx rfl (hb hby at_49) rfl ?_
      show Steps p.tables e below (T1.setTop (mkF m 51 #[.val (.long p1), .second, .val (.long p2), .second, .val (.int p3), .val (.int p4), .val (.int p5), .val (.long wb), .second, .val (.int (p3 &&& (2147483647 : Int32))), .val (.int cb), .val (.ref ct1), .unset, .unset, .unset, .unset, .unset, .unset] [(.int p5)])) t₀
      refine XS.iconst X1.here hx rfl (hb hby at_51) ?_
      show Steps p.tables e below (T1.setTop (mkF m 52 #[.val (.long p1), .second, .val (.long p2), .second, .val (.int p3), .val (.int p4), .val (.int p5), .val (.long wb), .second, .val (.int (p3 &&& (2147483647 : Int32))), .val (.int cb), .val (.ref ct1), .unset, .unset, .unset, .unset, .unset, .unset] [(.int (4 : Int32)), (.int p5)])) t₀
      refine XS.iushr X1.here hx rfl (hb hby at_52) rfl ?_
      exact k₀
    obtain ⟨_, _, ⟨T2, L2, k2, n2⟩, -, X2, ⟨Lc2, hQ2, l2, y2, z2⟩, st2⟩ := Jvm.LawKit.callS X1 hx (y := (⟨"com/example/nodex/nodex/records/DataRegionOutranksPinLaw", "pick", "(I)Lcom/example/nodex/nodex/records/DataRegion$Content;"⟩ : MethodName)) hown (mvT hZ (hw _ (List.mem_of_getElem? (i := 1) rfl))) (mvT hZ (hw _ (List.mem_of_getElem? (i := 2) rfl))) (mvT hZ (hw _ (List.mem_of_getElem? (i := 3) rfl))) (mvT hZ (hw _ (List.mem_of_getElem? (i := 4) rfl))) (by decide) (backOf (W := 0) (rmP l Z a0 hw [] ((p5.toUInt32 >>> ((4 : Int32) &&& 31).toUInt32).toInt32) wI wL wF h0 n0 Z0 O0 S_ITEMS S_LINKS S_FIELDS) hZ (hw _ (List.mem_of_getElem? (i := 4) rfl)) (hw _ (List.mem_of_getElem? (i := 3) rfl)) (by decide) (by decide)) (g := (mkF m 53 #[.val (.long p1), .second, .val (.long p2), .second, .val (.int p3), .val (.int p4), .val (.int p5), .val (.long wb), .second, .val (.int (p3 &&& (2147483647 : Int32))), .val (.int cb), .val (.ref ct1), .unset, .unset, .unset, .unset, .unset, .unset] [(.int ((p5.toUInt32 >>> ((4 : Int32) &&& 31).toUInt32).toInt32))])) rfl (by rw [hml]; rfl) (argsL := [(.int ((p5.toUInt32 >>> ((4 : Int32) &&& 31).toUInt32).toInt32))]) (rest := []) (lenOf pd_0 rfl) rfl (by show 2 * 0 + _ ≤ _; exact Nat.le_of_eq rfl) (hb hby at_53) (fun _ _ => ⟨rfl, e1, (by decide : 0 + 0 ≤ _), (by decide : 0 + 0 ≤ _)⟩)
    dsimp only [Pt.U, Pt.locs, Pt.cells, Pt.slots] at X2 l2 y2 z2 st2 hQ2
    subst l2 y2 z2
    obtain ⟨ct2, rfl, N2q, e2⟩ := hQ2
    have N2 := Fr.app N1 N2q
    refine hG _ _ (fun t₀ k₀ => st2 _ k₀) ?_
    show G (T2.setTop (mkF m 56 #[.val (.long p1), .second, .val (.long p2), .second, .val (.int p3), .val (.int p4), .val (.int p5), .val (.long wb), .second, .val (.int (p3 &&& (2147483647 : Int32))), .val (.int cb), .val (.ref ct1), .unset, .unset, .unset, .unset, .unset, .unset] [(.ref ct2)]))
    refine hG _ (T2.setTop (mkF m 58 #[.val (.long p1), .second, .val (.long p2), .second, .val (.int p3), .val (.int p4), .val (.int p5), .val (.long wb), .second, .val (.int (p3 &&& (2147483647 : Int32))), .val (.int cb), .val (.ref ct1), .val (.ref ct2), .unset, .unset, .unset, .unset, .unset] [])) (fun t₀ k₀ => ?_) ?_
    · show Steps p.tables e below (T2.setTop (mkF m 56 #[.val (.long p1), .second, .val (.long p2), .second, .val (.int p3), .val (.int p4), .val (.int p5), .val (.long wb), .second, .val (.int (p3 &&& (2147483647 : Int32))), .val (.int cb), .val (.ref ct1), .unset, .unset, .unset, .unset, .unset, .unset] [(.ref ct2)])) t₀
      refine XS.astore X2.here hx rfl (hb hby at_56) rfl rfl (l' := #[.val (.long p1), .second, .val (.long p2), .second, .val (.int p3), .val (.int p4), .val (.int p5), .val (.long wb), .second, .val (.int (p3 &&& (2147483647 : Int32))), .val (.int cb), .val (.ref ct1), .val (.ref ct2), .unset, .unset, .unset, .unset, .unset]) rfl ?_
      exact k₀
    obtain ⟨T3, h3, X3, e3, E3, A3, D3, -, st3⟩ := newO X2 hx hZ hown (hw _ (List.mem_of_getElem? (i := 8) rfl)) (hw _ (List.mem_of_getElem? (i := 9) rfl)) (hw _ (List.mem_of_getElem? (i := 10) rfl)) e2 (g := (mkF m 58 #[.val (.long p1), .second, .val (.long p2), .second, .val (.int p3), .val (.int p4), .val (.int p5), .val (.long wb), .second, .val (.int (p3 &&& (2147483647 : Int32))), .val (.int cb), .val (.ref ct1), .val (.ref ct2), .unset, .unset, .unset, .unset, .unset] [])) rfl (hb hby at_58) (by decide) (by decide)
    obtain ⟨ob3, g3⟩ : ∃ z, z = h0.size := ⟨_, rfl⟩
    rw [← g3] at A3 D3 st3
    have g_ob3 : n0 ≤ ob3 := Nat.le_trans Z0 (Nat.le_of_eq g3.symm)
    have z_3 : n0 ≤ h3.size := Nat.le_trans Z0 E3.1
    have o_x3 := O0.ext E3
    have F_children_ob3 : Fld Z h3 ob3 "com/example/nodex/nodex/records/DataRegion" "children" "[I" .null := D3 (Or.inr (hw _ (List.mem_of_getElem? (i := 28) rfl))) (ty := (.array .int)) (by decide)
    have F_first_ob3 : Fld Z h3 ob3 "com/example/nodex/nodex/records/DataRegion" "first" "I" (.int (0 : Int32)) := D3 (Or.inr (hw _ (List.mem_of_getElem? (i := 30) rfl))) (ty := .int) (by decide)
    have F_span_ob3 : Fld Z h3 ob3 "com/example/nodex/nodex/records/DataRegion" "span" "I" (.int (0 : Int32)) := D3 (Or.inr (hw _ (List.mem_of_getElem? (i := 32) rfl))) (ty := .int) (by decide)
    have F_count_ob3 : Fld Z h3 ob3 "com/example/nodex/nodex/records/DataRegion" "count" "I" (.int (0 : Int32)) := D3 (Or.inr (hw _ (List.mem_of_getElem? (i := 34) rfl))) (ty := .int) (by decide)
    have F_parts_ob3 : Fld Z h3 ob3 "com/example/nodex/nodex/records/DataRegion" "parts" "Ljava/util/List;" .null := D3 (Or.inr (hw _ (List.mem_of_getElem? (i := 36) rfl))) (ty := (.object "java/util/List")) (by decide)
    have F_recordCount_ob3 : Fld Z h3 ob3 "com/example/nodex/nodex/records/DataRegion" "recordCount" "I" (.int (0 : Int32)) := D3 (Or.inr (hw _ (List.mem_of_getElem? (i := 38) rfl))) (ty := .int) (by decide)
    have F_weight_ob3 : Fld Z h3 ob3 "com/example/nodex/nodex/records/DataRegion" "weight" "J" (.long (0 : Int64)) := D3 (Or.inr (hw _ (List.mem_of_getElem? (i := 40) rfl))) (ty := .long) (by decide)
    have F_standing_ob3 : Fld Z h3 ob3 "com/example/nodex/nodex/records/DataRegion" "standing" "J" (.long (0 : Int64)) := D3 (Or.inr (hw _ (List.mem_of_getElem? (i := 42) rfl))) (ty := .long) (by decide)
    have F_content_ob3 : Fld Z h3 ob3 "com/example/nodex/nodex/records/DataRegion" "content" "Lcom/example/nodex/nodex/records/DataRegion$Content;" .null := D3 (Or.inr (hw _ (List.mem_of_getElem? (i := 44) rfl))) (ty := (.object "com/example/nodex/nodex/records/DataRegion$Content")) (by decide)
    refine hG _ _ (fun t₀ k₀ => st3 _ k₀) ?_
    show G (T3.setTop (mkF m 61 #[.val (.long p1), .second, .val (.long p2), .second, .val (.int p3), .val (.int p4), .val (.int p5), .val (.long wb), .second, .val (.int (p3 &&& (2147483647 : Int32))), .val (.int cb), .val (.ref ct1), .val (.ref ct2), .unset, .unset, .unset, .unset, .unset] [(.ref ob3)]))
    refine hG _ (T3.setTop (mkF m 63 #[.val (.long p1), .second, .val (.long p2), .second, .val (.int p3), .val (.int p4), .val (.int p5), .val (.long wb), .second, .val (.int (p3 &&& (2147483647 : Int32))), .val (.int cb), .val (.ref ct1), .val (.ref ct2), .unset, .unset, .unset, .unset, .unset] [(.int (0 : Int32)), (.ref ob3), (.ref ob3)])) (fun t₀ k₀ => ?_) ?_
    · show Steps p.tables e below (T3.setTop (mkF m 61 #[.val (.long p1), .second, .val (.long p2), .second, .val (.int p3), .val (.int p4), .val (.int p5), .val (.long wb), .second, .val (.int (p3 &&& (2147483647 : Int32))), .val (.int cb), .val (.ref ct1), .val (.ref ct2), .unset, .unset, .unset, .unset, .unset] [(.ref ob3)])) t₀
      refine XS.dup X3.here hx rfl (hb hby at_61) rfl rfl ?_
      show Steps p.tables e below (T3.setTop (mkF m 62 #[.val (.long p1), .second, .val (.long p2), .second, .val (.int p3), .val (.int p4), .val (.int p5), .val (.long wb), .second, .val (.int (p3 &&& (2147483647 : Int32))), .val (.int cb), .val (.ref ct1), .val (.ref ct2), .unset, .unset, .unset, .unset, .unset] [(.ref ob3), (.ref ob3)])) t₀
      refine XS.iconst X3.here hx rfl (hb hby at_62) ?_
      exact k₀
    obtain ⟨T4, h4, k4, X4, e4, E4, A4, st4⟩ := newP X3 hx hZ (hw _ (List.mem_of_getElem? (i := 11) rfl)) e3 (g := (mkF m 63 #[.val (.long p1), .second, .val (.long p2), .second, .val (.int p3), .val (.int p4), .val (.int p5), .val (.long wb), .second, .val (.int (p3 &&& (2147483647 : Int32))), .val (.int cb), .val (.ref ct1), .val (.ref ct2), .unset, .unset, .unset, .unset, .unset] [(.int (0 : Int32)), (.ref ob3), (.ref ob3)])) rfl (hb hby at_63) rfl (by decide) (cap := 0) (by decide) (by decide) (by decide) (by decide)
    obtain ⟨ob4, g4⟩ : ∃ z, z = h3.size := ⟨_, rfl⟩
    rw [← g4] at A4 st4
    have g_ob4 : n0 ≤ ob4 := Nat.le_trans z_3 (Nat.le_of_eq g4.symm)
    have ne_ob3_ob4 : ob3 ≠ ob4 := Nat.ne_of_lt (Nat.lt_of_lt_of_le A3.lt (Nat.le_of_eq g4.symm))
    have z_4 : n0 ≤ h4.size := Nat.le_trans z_3 E4.1
    have o_x4 := o_x3.ext E4
    have eob3_x4 := A3.ext E4
    have fob3_children_x4 := F_children_ob3.ext E4
    have fob3_first_x4 := F_first_ob3.ext E4
    have fob3_span_x4 := F_span_ob3.ext E4
    have fob3_count_x4 := F_count_ob3.ext E4
    have fob3_parts_x4 := F_parts_ob3.ext E4
    have fob3_recordCount_x4 := F_recordCount_ob3.ext E4
    have fob3_weight_x4 := F_weight_ob3.ext E4
    have fob3_standing_x4 := F_standing_ob3.ext E4
    have fob3_content_x4 := F_content_ob3.ext E4
    have V_ob4 : Arv Z h4 ob4 k4 .int (0 : Int32) [] (.int (0 : Int32)) := (Arv.new A4 (by decide)).pad (pad_rep [] (.int (0 : Int32)) 0)
    refine hG _ _ (fun t₀ k₀ => st4 _ k₀) ?_
    show G (T4.setTop (mkF m 65 #[.val (.long p1), .second, .val (.long p2), .second, .val (.int p3), .val (.int p4), .val (.int p5), .val (.long wb), .second, .val (.int (p3 &&& (2147483647 : Int32))), .val (.int cb), .val (.ref ct1), .val (.ref ct2), .unset, .unset, .unset, .unset, .unset] [(.ref ob4), (.ref ob3), (.ref ob3)]))
    refine hG _ (T4.setTop (mkF m 72 #[.val (.long p1), .second, .val (.long p2), .second, .val (.int p3), .val (.int p4), .val (.int p5), .val (.long wb), .second, .val (.int (p3 &&& (2147483647 : Int32))), .val (.int cb), .val (.ref ct1), .val (.ref ct2), .unset, .unset, .unset, .unset, .unset] [(.ref ct1), (.long p1), (.int (p3 &&& (2147483647 : Int32))), (.int (0 : Int32)), (.int (0 : Int32)), (.ref ob4), (.ref ob3), (.ref ob3)])) (fun t₀ k₀ => ?_) ?_
    · show Steps p.tables e below (T4.setTop (mkF m 65 #[.val (.long p1), .second, .val (.long p2), .second, .val (.int p3), .val (.int p4), .val (.int p5), .val (.long wb), .second, .val (.int (p3 &&& (2147483647 : Int32))), .val (.int cb), .val (.ref ct1), .val (.ref ct2), .unset, .unset, .unset, .unset, .unset] [(.ref ob4), (.ref ob3), (.ref ob3)])) t₀
      refine XS.iconst X4.here hx rfl (hb hby at_65) ?_
      show Steps p.tables e below (T4.setTop (mkF m 66 #[.val (.long p1), .second, .val (.long p2), .second, .val (.int p3), .val (.int p4), .val (.int p5), .val (.long wb), .second, .val (.int (p3 &&& (2147483647 : Int32))), .val (.int cb), .val (.ref ct1), .val (.ref ct2), .unset, .unset, .unset, .unset, .unset] [(.int (0 : Int32)), (.ref ob4), (.ref ob3), (.ref ob3)])) t₀
      refine XS.iconst X4.here hx rfl (hb hby at_66) ?_
      show Steps p.tables e below (T4.setTop (mkF m 67 #[.val (.long p1), .second, .val (.long p2), .second, .val (.int p3), .val (.int p4), .val (.int p5), .val (.long wb), .second, .val (.int (p3 &&& (2147483647 : Int32))), .val (.int cb), .val (.ref ct1), .val (.ref ct2), .unset, .unset, .unset, .unset, .unset] [(.int (0 : Int32)), (.int (0 : Int32)), (.ref ob4), (.ref ob3), (.ref ob3)])) t₀
      refine XS.iload X4.here hx rfl (hb hby at_67) rfl ?_
      show Steps p.tables e below (T4.setTop (mkF m 69 #[.val (.long p1), .second, .val (.long p2), .second, .val (.int p3), .val (.int p4), .val (.int p5), .val (.long wb), .second, .val (.int (p3 &&& (2147483647 : Int32))), .val (.int cb), .val (.ref ct1), .val (.ref ct2), .unset, .unset, .unset, .unset, .unset] [(.int (p3 &&& (2147483647 : Int32))), (.int (0 : Int32)), (.int (0 : Int32)), (.ref ob4), (.ref ob3), (.ref ob3)])) t₀
      refine XS.lloadN X4.here hx rfl (hb hby at_69) rfl ?_
      show Steps p.tables e below (T4.setTop (mkF m 70 #[.val (.long p1), .second, .val (.long p2), .second, .val (.int p3), .val (.int p4), .val (.int p5), .val (.long wb), .second, .val (.int (p3 &&& (2147483647 : Int32))), .val (.int cb), .val (.ref ct1), .val (.ref ct2), .unset, .unset, .unset, .unset, .unset] [(.long p1), (.int (p3 &&& (2147483647 : Int32))), (.int (0 : Int32)), (.int (0 : Int32)), (.ref ob4), (.ref ob3), (.ref ob3)])) t₀
      refine XS.aload X4.here hx rfl (hb hby at_70) rfl rfl ?_
      exact k₀
    obtain ⟨_, _, ⟨T5, L5, k5, n5⟩, -, X5, ⟨Lc5, hQ5, l5, y5, z5⟩, st5⟩ := X4.specialBack hx (y := (⟨"com/example/nodex/nodex/records/DataRegion", "<init>", "([IIIIJLcom/example/nodex/nodex/records/DataRegion$Content;)V"⟩ : MethodName)) rfl hown (mvT hZ (hw _ (List.mem_of_getElem? (i := 12) rfl))) (mvT hZ (hw _ (List.mem_of_getElem? (i := 13) rfl))) (mvT hZ (hw _ (List.mem_of_getElem? (i := 14) rfl))) (by decide) (backOf (W := 1) (rm1 l Z a0 hw [] ob3 ob4 (0 : Int32) (0 : Int32) (p3 &&& (2147483647 : Int32)) p1 ct1 wE h4 n0 z_4 o_x4 S_EMPTY eob3_x4 g_ob3 fob3_children_x4 fob3_first_x4 fob3_span_x4 fob3_count_x4 fob3_parts_x4 fob3_recordCount_x4 fob3_weight_x4 fob3_standing_x4 fob3_content_x4) hZ (hw _ (List.mem_of_getElem? (i := 14) rfl)) (hw _ (List.mem_of_getElem? (i := 10) rfl)) (by decide) (by decide)) (g := (mkF m 72 #[.val (.long p1), .second, .val (.long p2), .second, .val (.int p3), .val (.int p4), .val (.int p5), .val (.long wb), .second, .val (.int (p3 &&& (2147483647 : Int32))), .val (.int cb), .val (.ref ct1), .val (.ref ct2), .unset, .unset, .unset, .unset, .unset] [(.ref ct1), (.long p1), (.int (p3 &&& (2147483647 : Int32))), (.int (0 : Int32)), (.int (0 : Int32)), (.ref ob4), (.ref ob3), (.ref ob3)])) rfl (by rw [hml]; rfl) (Steps.refl _) (a := ob3) (argsL := [(.ref ob4), (.int (0 : Int32)), (.int (0 : Int32)), (.int (p3 &&& (2147483647 : Int32))), (.long p1), (.ref ct1)]) (rest := [(.ref ob3)]) (lenOf pd_1 rfl) rfl (by show 2 * 0 + _ ≤ _; exact Nat.le_of_eq rfl) (hb hby at_72) (fun _ _ => ⟨rfl, e4, (by decide : 2 + 0 ≤ _), (by decide : 9 + 0 ≤ _)⟩)
    dsimp only [Pt.U, Pt.locs, Pt.cells, Pt.slots] at X5 l5 y5 z5 st5 hQ5
    subst l5 y5 z5
    obtain ⟨rfl, N5q, K5, Fr5, Fs5⟩ := hQ5
    have N5 := Fr.app N2 N5q
    refine hG _ _ (fun t₀ k₀ => st5.trans k₀) ?_
    have z_x5 := Nat.le_trans z_4 K5.1
    have o_x5 := o_x4.keep K5 (allS g_ob3 all0)
    have eob3_x5 := eob3_x4.keep K5
    have vob4_x5 := V_ob4.keep K5 (ninS (Ne.symm ne_ob3_ob4) nin0)
    show G (T5.setTop (mkF m 75 #[.val (.long p1), .second, .val (.long p2), .second, .val (.int p3), .val (.int p4), .val (.int p5), .val (.long wb), .second, .val (.int (p3 &&& (2147483647 : Int32))), .val (.int cb), .val (.ref ct1), .val (.ref ct2), .unset, .unset, .unset, .unset, .unset] [(.ref ob3)]))
    refine hG _ (T5.setTop (mkF m 77 #[.val (.long p1), .second, .val (.long p2), .second, .val (.int p3), .val (.int p4), .val (.int p5), .val (.long wb), .second, .val (.int (p3 &&& (2147483647 : Int32))), .val (.int cb), .val (.ref ct1), .val (.ref ct2), .val (.ref ob3), .unset, .unset, .unset, .unset] [])) (fun t₀ k₀ => ?_) ?_
    · show Steps p.tables e below (T5.setTop (mkF m 75 #[.val (.long p1), .second, .val (.long p2), .second, .val (.int p3), .val (.int p4), .val (.int p5), .val (.long wb), .second, .val (.int (p3 &&& (2147483647 : Int32))), .val (.int cb), .val (.ref ct1), .val (.ref ct2), .unset, .unset, .unset, .unset, .unset] [(.ref ob3)])) t₀
      refine XS.astore X5.here hx rfl (hb hby at_75) rfl rfl (l' := #[.val (.long p1), .second, .val (.long p2), .second, .val (.int p3), .val (.int p4), .val (.int p5), .val (.long wb), .second, .val (.int (p3 &&& (2147483647 : Int32))), .val (.int cb), .val (.ref ct1), .val (.ref ct2), .val (.ref ob3), .unset, .unset, .unset, .unset]) rfl ?_
      exact k₀
    obtain ⟨T6, h6, X6, e6, E6, A6, D6, -, st6⟩ := newO X5 hx hZ hown (hw _ (List.mem_of_getElem? (i := 8) rfl)) (hw _ (List.mem_of_getElem? (i := 9) rfl)) (hw _ (List.mem_of_getElem? (i := 10) rfl)) rfl (g := (mkF m 77 #[.val (.long p1), .second, .val (.long p2), .second, .val (.int p3), .val (.int p4), .val (.int p5), .val (.long wb), .second, .val (.int (p3 &&& (2147483647 : Int32))), .val (.int cb), .val (.ref ct1), .val (.ref ct2), .val (.ref ob3), .unset, .unset, .unset, .unset] [])) rfl (hb hby at_77) (by decide) (by decide)
    obtain ⟨ob6, g6⟩ : ∃ z, z = T5.heap.size := ⟨_, rfl⟩
    rw [← g6] at A6 D6 st6
    have g_ob6 : n0 ≤ ob6 := Nat.le_trans z_x5 (Nat.le_of_eq g6.symm)
    have ne_ob3_ob6 : ob3 ≠ ob6 := Nat.ne_of_lt (Nat.lt_of_lt_of_le eob3_x5.lt (Nat.le_of_eq g6.symm))
    have ne_ob4_ob6 : ob4 ≠ ob6 := Nat.ne_of_lt (Nat.lt_of_lt_of_le vob4_x5.lt (Nat.le_of_eq g6.symm))
    have z_6 : n0 ≤ h6.size := Nat.le_trans z_x5 E6.1
    have o_x6 := o_x5.ext E6
    have eob3_x6 := eob3_x5.ext E6
    have vob4_x6 := vob4_x5.ext E6
    have fob3_recordCount_x6 := Fr5.ext E6
    have fob3_standing_x6 := Fs5.ext E6
    have F_children_ob6 : Fld Z h6 ob6 "com/example/nodex/nodex/records/DataRegion" "children" "[I" .null := D6 (Or.inr (hw _ (List.mem_of_getElem? (i := 28) rfl))) (ty := (.array .int)) (by decide)
    have F_first_ob6 : Fld Z h6 ob6 "com/example/nodex/nodex/records/DataRegion" "first" "I" (.int (0 : Int32)) := D6 (Or.inr (hw _ (List.mem_of_getElem? (i := 30) rfl))) (ty := .int) (by decide)
    have F_span_ob6 : Fld Z h6 ob6 "com/example/nodex/nodex/records/DataRegion" "span" "I" (.int (0 : Int32)) := D6 (Or.inr (hw _ (List.mem_of_getElem? (i := 32) rfl))) (ty := .int) (by decide)
    have F_count_ob6 : Fld Z h6 ob6 "com/example/nodex/nodex/records/DataRegion" "count" "I" (.int (0 : Int32)) := D6 (Or.inr (hw _ (List.mem_of_getElem? (i := 34) rfl))) (ty := .int) (by decide)
    have F_parts_ob6 : Fld Z h6 ob6 "com/example/nodex/nodex/records/DataRegion" "parts" "Ljava/util/List;" .null := D6 (Or.inr (hw _ (List.mem_of_getElem? (i := 36) rfl))) (ty := (.object "java/util/List")) (by decide)
    have F_recordCount_ob6 : Fld Z h6 ob6 "com/example/nodex/nodex/records/DataRegion" "recordCount" "I" (.int (0 : Int32)) := D6 (Or.inr (hw _ (List.mem_of_getElem? (i := 38) rfl))) (ty := .int) (by decide)
    have F_weight_ob6 : Fld Z h6 ob6 "com/example/nodex/nodex/records/DataRegion" "weight" "J" (.long (0 : Int64)) := D6 (Or.inr (hw _ (List.mem_of_getElem? (i := 40) rfl))) (ty := .long) (by decide)
    have F_standing_ob6 : Fld Z h6 ob6 "com/example/nodex/nodex/records/DataRegion" "standing" "J" (.long (0 : Int64)) := D6 (Or.inr (hw _ (List.mem_of_getElem? (i := 42) rfl))) (ty := .long) (by decide)
    have F_content_ob6 : Fld Z h6 ob6 "com/example/nodex/nodex/records/DataRegion" "content" "Lcom/example/nodex/nodex/records/DataRegion$Content;" .null := D6 (Or.inr (hw _ (List.mem_of_getElem? (i := 44) rfl))) (ty := (.object "com/example/nodex/nodex/records/DataRegion$Content")) (by decide)
    refine hG _ _ (fun t₀ k₀ => st6 _ k₀) ?_
    show G (T6.setTop (mkF m 80 #[.val (.long p1), .second, .val (.long p2), .second, .val (.int p3), .val (.int p4), .val (.int p5), .val (.long wb), .second, .val (.int (p3 &&& (2147483647 : Int32))), .val (.int cb), .val (.ref ct1), .val (.ref ct2), .val (.ref ob3), .unset, .unset, .unset, .unset] [(.ref ob6)]))
    refine hG _ (T6.setTop (mkF m 82 #[.val (.long p1), .second, .val (.long p2), .second, .val (.int p3), .val (.int p4), .val (.int p5), .val (.long wb), .second, .val (.int (p3 &&& (2147483647 : Int32))), .val (.int cb), .val (.ref ct1), .val (.ref ct2), .val (.ref ob3), .unset, .unset, .unset, .unset] [(.int (0 : Int32)), (.ref ob6), (.ref ob6)])) (fun t₀ k₀ => ?_) ?_
    · show Steps p.tables e below (T6.setTop (mkF m 80 #[.val (.long p1), .second, .val (.long p2), .second, .val (.int p3), .val (.int p4), .val (.int p5), .val (.long wb), .second, .val (.int (p3 &&& (2147483647 : Int32))), .val (.int cb), .val (.ref ct1), .val (.ref ct2), .val (.ref ob3), .unset, .unset, .unset, .unset] [(.ref ob6)])) t₀
      refine XS.dup X6.here hx rfl (hb hby at_80) rfl rfl ?_
      show Steps p.tables e below (T6.setTop (mkF m 81 #[.val (.long p1), .second, .val (.long p2), .second, .val (.int p3), .val (.int p4), .val (.int p5), .val (.long wb), .second, .val (.int (p3 &&& (2147483647 : Int32))), .val (.int cb), .val (.ref ct1), .val (.ref ct2), .val (.ref ob3), .unset, .unset, .unset, .unset] [(.ref ob6), (.ref ob6)])) t₀
      refine XS.iconst X6.here hx rfl (hb hby at_81) ?_
      exact k₀
    obtain ⟨T7, h7, k7, X7, e7, E7, A7, st7⟩ := newP X6 hx hZ (hw _ (List.mem_of_getElem? (i := 11) rfl)) e6 (g := (mkF m 82 #[.val (.long p1), .second, .val (.long p2), .second, .val (.int p3), .val (.int p4), .val (.int p5), .val (.long wb), .second, .val (.int (p3 &&& (2147483647 : Int32))), .val (.int cb), .val (.ref ct1), .val (.ref ct2), .val (.ref ob3), .unset, .unset, .unset, .unset] [(.int (0 : Int32)), (.ref ob6), (.ref ob6)])) rfl (hb hby at_82) rfl (by decide) (cap := 0) (by decide) (by decide) (by decide) (by decide)
    obtain ⟨ob7, g7⟩ : ∃ z, z = h6.size := ⟨_, rfl⟩
    rw [← g7] at A7 st7
    have g_ob7 : n0 ≤ ob7 := Nat.le_trans z_6 (Nat.le_of_eq g7.symm)
    have ne_ob3_ob7 : ob3 ≠ ob7 := Nat.ne_of_lt (Nat.lt_of_lt_of_le eob3_x6.lt (Nat.le_of_eq g7.symm))
    have ne_ob4_ob7 : ob4 ≠ ob7 := Nat.ne_of_lt (Nat.lt_of_lt_of_le vob4_x6.lt (Nat.le_of_eq g7.symm))
    have ne_ob6_ob7 : ob6 ≠ ob7 := Nat.ne_of_lt (Nat.lt_of_lt_of_le A6.lt (Nat.le_of_eq g7.symm))
    have z_7 : n0 ≤ h7.size := Nat.le_trans z_6 E7.1
    have o_x7 := o_x6.ext E7
    have eob3_x7 := eob3_x6.ext E7
    have vob4_x7 := vob4_x6.ext E7
    have fob3_recordCount_x7 := fob3_recordCount_x6.ext E7
    have fob3_standing_x7 := fob3_standing_x6.ext E7
    have eob6_x7 := A6.ext E7
    have fob6_children_x7 := F_children_ob6.ext E7
    have fob6_first_x7 := F_first_ob6.ext E7
    have fob6_span_x7 := F_span_ob6.ext E7
    have fob6_count_x7 := F_count_ob6.ext E7
    have fob6_parts_x7 := F_parts_ob6.ext E7
    have fob6_recordCount_x7 := F_recordCount_ob6.ext E7
    have fob6_weight_x7 := F_weight_ob6.ext E7
    have fob6_standing_x7 := F_standing_ob6.ext E7
    have fob6_content_x7 := F_content_ob6.ext E7
    have V_ob7 : Arv Z h7 ob7 k7 .int (0 : Int32) [] (.int (0 : Int32)) := (Arv.new A7 (by decide)).pad (pad_rep [] (.int (0 : Int32)) 0)
    refine hG _ _ (fun t₀ k₀ => st7 _ k₀) ?_
    show G (T7.setTop (mkF m 84 #[.val (.long p1), .second, .val (.long p2), .second, .val (.int p3), .val (.int p4), .val (.int p5), .val (.long wb), .second, .val (.int (p3 &&& (2147483647 : Int32))), .val (.int cb), .val (.ref ct1), .val (.ref ct2), .val (.ref ob3), .unset, .unset, .unset, .unset] [(.ref ob7), (.ref ob6), (.ref ob6)]))
    refine hG _ (T7.setTop (mkF m 92 #[.val (.long p1), .second, .val (.long p2), .second, .val (.int p3), .val (.int p4), .val (.int p5), .val (.long wb), .second, .val (.int (p3 &&& (2147483647 : Int32))), .val (.int cb), .val (.ref ct1), .val (.ref ct2), .val (.ref ob3), .unset, .unset, .unset, .unset] [(.ref ct2), (.long wb), (.int cb), (.int (0 : Int32)), (.int (0 : Int32)), (.ref ob7), (.ref ob6), (.ref ob6)])) (fun t₀ k₀ => ?_) ?_
    · show Steps p.tables e below (T7.setTop (mkF m 84 #[.val (.long p1), .second, .val (.long p2), .second, .val (.int p3), .val (.int p4), .val (.int p5), .val (.long wb), .second, .val (.int (p3 &&& (2147483647 : Int32))), .val (.int cb), .val (.ref ct1), .val (.ref ct2), .val (.ref ob3), .unset, .unset, .unset, .unset] [(.ref ob7), (.ref ob6), (.ref ob6)])) t₀
      refine XS.iconst X7.here hx rfl (hb hby at_84) ?_
      show Steps p.tables e below (T7.setTop (mkF m 85 #[.val (.long p1), .second, .val (.long p2), .second, .val (.int p3), .val (.int p4), .val (.int p5), .val (.long wb), .second, .val (.int (p3 &&& (2147483647 : Int32))), .val (.int cb), .val (.ref ct1), .val (.ref ct2), .val (.ref ob3), .unset, .unset, .unset, .unset] [(.int (0 : Int32)), (.ref ob7), (.ref ob6), (.ref ob6)])) t₀
      refine XS.iconst X7.here hx rfl (hb hby at_85) ?_
      show Steps p.tables e below (T7.setTop (mkF m 86 #[.val (.long p1), .second, .val (.long p2), .second, .val (.int p3), .val (.int p4), .val (.int p5), .val (.long wb), .second, .val (.int (p3 &&& (2147483647 : Int32))), .val (.int cb), .val (.ref ct1), .val (.ref ct2), .val (.ref ob3), .unset, .unset, .unset, .unset] [(.int (0 : Int32)), (.int (0 : Int32)), (.ref ob7), (.ref ob6), (.ref ob6)])) t₀
      refine XS.iload X7.here hx rfl (hb hby at_86) rfl ?_
      show Steps p.tables e below (T7.setTop (mkF m 88 #[.val (.long p1), .second, .val (.long p2), .second, .val (.int p3), .val (.int p4), .val (.int p5), .val (.long wb), .second, .val (.int (p3 &&& (2147483647 : Int32))), .val (.int cb), .val (.ref ct1), .val (.ref ct2), .val (.ref ob3), .unset, .unset, .unset, .unset] [(.int cb), (.int (0 : Int32)), (.int (0 : Int32)), (.ref ob7), (.ref ob6), (.ref ob6)])) t₀
      refine XS.lload X7.here hx rfl (hb hby at_88) rfl ?_
      show Steps p.tables e below (T7.setTop (mkF m 90 #[.val (.long p1), .second, .val (.long p2), .second, .val (.int p3), .val (.int p4), .val (.int p5), .val (.long wb), .second, .val (.int (p3 &&& (2147483647 : Int32))), .val (.int cb), .val (.ref ct1), .val (.ref ct2), .val (.ref ob3), .unset, .unset, .unset, .unset] [(.long wb), (.int cb), (.int (0 : Int32)), (.int (0 : Int32)), (.ref ob7), (.ref ob6), (.ref ob6)])) t₀
      refine XS.aload X7.here hx rfl (hb hby at_90) rfl rfl ?_
      exact k₀
    obtain ⟨_, _, ⟨T8, L8, k8, n8⟩, -, X8, ⟨Lc8, hQ8, l8, y8, z8⟩, st8⟩ := X7.specialBack hx (y := (⟨"com/example/nodex/nodex/records/DataRegion", "<init>", "([IIIIJLcom/example/nodex/nodex/records/DataRegion$Content;)V"⟩ : MethodName)) rfl hown (mvT hZ (hw _ (List.mem_of_getElem? (i := 12) rfl))) (mvT hZ (hw _ (List.mem_of_getElem? (i := 13) rfl))) (mvT hZ (hw _ (List.mem_of_getElem? (i := 14) rfl))) (by decide) (backOf (W := 1) (rm1 l Z a0 hw [] ob6 ob7 (0 : Int32) (0 : Int32) cb wb ct2 wE h7 n0 z_7 o_x7 S_EMPTY eob6_x7 g_ob6 fob6_children_x7 fob6_first_x7 fob6_span_x7 fob6_count_x7 fob6_parts_x7 fob6_recordCount_x7 fob6_weight_x7 fob6_standing_x7 fob6_content_x7) hZ (hw _ (List.mem_of_getElem? (i := 14) rfl)) (hw _ (List.mem_of_getElem? (i := 10) rfl)) (by decide) (by decide)) (g := (mkF m 92 #[.val (.long p1), .second, .val (.long p2), .second, .val (.int p3), .val (.int p4), .val (.int p5), .val (.long wb), .second, .val (.int (p3 &&& (2147483647 : Int32))), .val (.int cb), .val (.ref ct1), .val (.ref ct2), .val (.ref ob3), .unset, .unset, .unset, .unset] [(.ref ct2), (.long wb), (.int cb), (.int (0 : Int32)), (.int (0 : Int32)), (.ref ob7), (.ref ob6), (.ref ob6)])) rfl (by rw [hml]; rfl) (Steps.refl _) (a := ob6) (argsL := [(.ref ob7), (.int (0 : Int32)), (.int (0 : Int32)), (.int cb), (.long wb), (.ref ct2)]) (rest := [(.ref ob6)]) (lenOf pd_1 rfl) rfl (by show 2 * 0 + _ ≤ _; exact Nat.le_of_eq rfl) (hb hby at_92) (fun _ _ => ⟨rfl, e7, (by decide : 4 + 0 ≤ _), (by decide : 18 + 0 ≤ _)⟩)
    dsimp only [Pt.U, Pt.locs, Pt.cells, Pt.slots] at X8 l8 y8 z8 st8 hQ8
    subst l8 y8 z8
    obtain ⟨rfl, N8q, K8, Fr8, Fs8⟩ := hQ8
    have N8 := Fr.app N5 N8q
    refine hG _ _ (fun t₀ k₀ => st8.trans k₀) ?_
    have z_x8 := Nat.le_trans z_7 K8.1
    have o_x8 := o_x7.keep K8 (allS g_ob6 all0)
    have eob3_x8 := eob3_x7.keep K8
    have vob4_x8 := vob4_x7.keep K8 (ninS ne_ob4_ob6 nin0)
    have fob3_recordCount_x8 := fob3_recordCount_x7.keep K8 (ninS ne_ob3_ob6 nin0)
    have fob3_standing_x8 := fob3_standing_x7.keep K8 (ninS ne_ob3_ob6 nin0)
    have eob6_x8 := eob6_x7.keep K8
    have vob7_x8 := V_ob7.keep K8 (ninS (Ne.symm ne_ob6_ob7) nin0)
    show G (T8.setTop (mkF m 95 #[.val (.long p1), .second, .val (.long p2), .second, .val (.int p3), .val (.int p4), .val (.int p5), .val (.long wb), .second, .val (.int (p3 &&& (2147483647 : Int32))), .val (.int cb), .val (.ref ct1), .val (.ref ct2), .val (.ref ob3), .unset, .unset, .unset, .unset] [(.ref ob6)]))
    refine hG _ (T8.setTop (mkF m 101 #[.val (.long p1), .second, .val (.long p2), .second, .val (.int p3), .val (.int p4), .val (.int p5), .val (.long wb), .second, .val (.int (p3 &&& (2147483647 : Int32))), .val (.int cb), .val (.ref ct1), .val (.ref ct2), .val (.ref ob3), .val (.ref ob6), .unset, .unset, .unset] [(.ref ob6), (.ref ob3)])) (fun t₀ k₀ => ?_) ?_
    · show Steps p.tables e below (T8.setTop (mkF m 95 #[.val (.long p1), .second, .val (.long p2), .second, .val (.int p3), .val (.int p4), .val (.int p5), .val (.long wb), .second, .val (.int (p3 &&& (2147483647 : Int32))), .val (.int cb), .val (.ref ct1), .val (.ref ct2), .val (.ref ob3), .unset, .unset, .unset, .unset] [(.ref ob6)])) t₀
      refine XS.astore X8.here hx rfl (hb hby at_95) rfl rfl (l' := #[.val (.long p1), .second, .val (.long p2), .second, .val (.int p3), .val (.int p4), .val (.int p5), .val (.long wb), .second, .val (.int (p3 &&& (2147483647 : Int32))), .val (.int cb), .val (.ref ct1), .val (.ref ct2), .val (.ref ob3), .val (.ref ob6), .unset, .unset, .unset]) rfl ?_
      show Steps p.tables e below (T8.setTop (mkF m 97 #[.val (.long p1), .second, .val (.long p2), .second, .val (.int p3), .val (.int p4), .val (.int p5), .val (.long wb), .second, .val (.int (p3 &&& (2147483647 : Int32))), .val (.int cb), .val (.ref ct1), .val (.ref ct2), .val (.ref ob3), .val (.ref ob6), .unset, .unset, .unset] [])) t₀
      refine XS.aload X8.here hx rfl (hb hby at_97) rfl rfl ?_
      show Steps p.tables e below (T8.setTop (mkF m 99 #[.val (.long p1), .second, .val (.long p2), .second, .val (.int p3), .val (.int p4), .val (.int p5), .val (.long wb), .second, .val (.int (p3 &&& (2147483647 : Int32))), .val (.int cb), .val (.ref ct1), .val (.ref ct2), .val (.ref ob3), .val (.ref ob6), .unset, .unset, .unset] [(.ref ob3)])) t₀
      refine XS.aload X8.here hx rfl (hb hby at_99) rfl rfl ?_
      exact k₀
    obtain ⟨cq9, kq9, q9a, q9b, q9c⟩ := isOf hZ rfl eob3_x8
    obtain ⟨_, _, ⟨T9, L9, k9, n9⟩, -, X9, ⟨Lc9, hQ9, l9, y9, z9⟩, st9⟩ := X8.virtualBack hx (y := (⟨"com/example/nodex/nodex/records/DataRegion", "outranks", "(Lcom/example/nodex/nodex/records/DataRegion;)Z"⟩ : MethodName)) (z := (⟨"com/example/nodex/nodex/records/DataRegion", "outranks", "(Lcom/example/nodex/nodex/records/DataRegion;)Z"⟩ : MethodName)) hown (mvT hZ (hw _ (List.mem_of_getElem? (i := 45) rfl))) (mvT hZ (hw _ (List.mem_of_getElem? (i := 46) rfl))) (notFace_of_selects (args := #[]) (mvT hZ (hw _ (List.mem_of_getElem? (i := 48) rfl)))) (mvT hZ (hw _ (List.mem_of_getElem? (i := 48) rfl))) (mvT hZ (hw _ (List.mem_of_getElem? (i := 47) rfl))) (by decide) (backOf (W := 0) (rmO l Z a0 hw [] ob3 ob6 p1 wb (p3 &&& (2147483647 : Int32)) cb (own_out p1 wb (p3 &&& (2147483647 : Int32)) cb) T8.heap n0 z_x8 fob3_standing_x8 fob3_recordCount_x8 Fs8 Fr8 rfl) hZ (hw _ (List.mem_of_getElem? (i := 49) rfl)) (hw _ (List.mem_of_getElem? (i := 10) rfl)) (by decide) (by decide)) q9a q9c (g := (mkF m 101 #[.val (.long p1), .second, .val (.long p2), .second, .val (.int p3), .val (.int p4), .val (.int p5), .val (.long wb), .second, .val (.int (p3 &&& (2147483647 : Int32))), .val (.int cb), .val (.ref ct1), .val (.ref ct2), .val (.ref ob3), .val (.ref ob6), .unset, .unset, .unset] [(.ref ob6), (.ref ob3)])) rfl (by rw [hml]; rfl) (Steps.refl _) (argsL := [(.ref ob6)]) (rest := []) (lenOf pd_5 rfl) rfl (by show 2 * 0 + _ ≤ _; exact Nat.le_of_eq rfl) (hb hby at_101) (fun _ _ => ⟨rfl, rfl, (by decide : 4 + 0 ≤ _), (by decide : 18 + 0 ≤ _)⟩)
    dsimp only [Pt.U, Pt.locs, Pt.cells, Pt.slots] at X9 l9 y9 z9 st9 hQ9
    subst l9 y9 z9
    obtain ⟨rfl, N9q, e9⟩ := hQ9
    have N9 := Fr.app N8 N9q
    refine hG _ _ (fun t₀ k₀ => st9.trans k₀) ?_
    show G (T9.setTop (mkF m 104 #[.val (.long p1), .second, .val (.long p2), .second, .val (.int p3), .val (.int p4), .val (.int p5), .val (.long wb), .second, .val (.int (p3 &&& (2147483647 : Int32))), .val (.int cb), .val (.ref ct1), .val (.ref ct2), .val (.ref ob3), .val (.ref ob6), .unset, .unset, .unset] [(.int (own_out p1 wb (p3 &&& (2147483647 : Int32)) cb))]))
    refine hG _ (T9.setTop (mkF m 110 #[.val (.long p1), .second, .val (.long p2), .second, .val (.int p3), .val (.int p4), .val (.int p5), .val (.long wb), .second, .val (.int (p3 &&& (2147483647 : Int32))), .val (.int cb), .val (.ref ct1), .val (.ref ct2), .val (.ref ob3), .val (.ref ob6), .val (.int (own_out p1 wb (p3 &&& (2147483647 : Int32)) cb)), .unset, .unset] [(.ref ob3), (.ref ob6)])) (fun t₀ k₀ => ?_) ?_
    · show Steps p.tables e below (T9.setTop (mkF m 104 #[.val (.long p1), .second, .val (.long p2), .second, .val (.int p3), .val (.int p4), .val (.int p5), .val (.long wb), .second, .val (.int (p3 &&& (2147483647 : Int32))), .val (.int cb), .val (.ref ct1), .val (.ref ct2), .val (.ref ob3), .val (.ref ob6), .unset, .unset, .unset] [(.int (own_out p1 wb (p3 &&& (2147483647 : Int32)) cb))])) t₀
      refine XS.istore X9.here hx rfl (hb hby at_104) rfl (l' := #[.val (.long p1), .second, .val (.long p2), .second, .val (.int p3), .val (.int p4), .val (.int p5), .val (.long wb), .second, .val (.int (p3 &&& (2147483647 : Int32))), .val (.int cb), .val (.ref ct1), .val (.ref ct2), .val (.ref ob3), .val (.ref ob6), .val (.int (own_out p1 wb (p3 &&& (2147483647 : Int32)) cb)), .unset, .unset]) rfl ?_
      show Steps p.tables e below (T9.setTop (mkF m 106 #[.val (.long p1), .second, .val (.long p2), .second, .val (.int p3), .val (.int p4), .val (.int p5), .val (.long wb), .second, .val (.int (p3 &&& (2147483647 : Int32))), .val (.int cb), .val (.ref ct1), .val (.ref ct2), .val (.ref ob3), .val (.ref ob6), .val (.int (own_out p1 wb (p3 &&& (2147483647 : Int32)) cb)), .unset, .unset] [])) t₀
      refine XS.aload X9.here hx rfl (hb hby at_106) rfl rfl ?_
      show Steps p.tables e below (T9.setTop (mkF m 108 #[.val (.long p1), .second, .val (.long p2), .second, .val (.int p3), .val (.int p4), .val (.int p5), .val (.long wb), .second, .val (.int (p3 &&& (2147483647 : Int32))), .val (.int cb), .val (.ref ct1), .val (.ref ct2), .val (.ref ob3), .val (.ref ob6), .val (.int (own_out p1 wb (p3 &&& (2147483647 : Int32)) cb)), .unset, .unset] [(.ref ob6)])) t₀
      refine XS.aload X9.here hx rfl (hb hby at_108) rfl rfl ?_
      exact k₀
    obtain ⟨cq10, kq10, q10a, q10b, q10c⟩ := isOf hZ e9 eob6_x8
    obtain ⟨_, _, ⟨T10, L10, k10, n10⟩, -, X10, ⟨Lc10, hQ10, l10, y10, z10⟩, st10⟩ := X9.virtualBack hx (y := (⟨"com/example/nodex/nodex/records/DataRegion", "outranks", "(Lcom/example/nodex/nodex/records/DataRegion;)Z"⟩ : MethodName)) (z := (⟨"com/example/nodex/nodex/records/DataRegion", "outranks", "(Lcom/example/nodex/nodex/records/DataRegion;)Z"⟩ : MethodName)) hown (mvT hZ (hw _ (List.mem_of_getElem? (i := 45) rfl))) (mvT hZ (hw _ (List.mem_of_getElem? (i := 46) rfl))) (notFace_of_selects (args := #[]) (mvT hZ (hw _ (List.mem_of_getElem? (i := 48) rfl)))) (mvT hZ (hw _ (List.mem_of_getElem? (i := 48) rfl))) (mvT hZ (hw _ (List.mem_of_getElem? (i := 47) rfl))) (by decide) (backOf (W := 0) (rmO l Z a0 hw [] ob6 ob3 wb p1 cb (p3 &&& (2147483647 : Int32)) (own_out wb p1 cb (p3 &&& (2147483647 : Int32))) T8.heap n0 z_x8 Fs8 Fr8 fob3_standing_x8 fob3_recordCount_x8 rfl) hZ (hw _ (List.mem_of_getElem? (i := 49) rfl)) (hw _ (List.mem_of_getElem? (i := 10) rfl)) (by decide) (by decide)) q10a q10c (g := (mkF m 110 #[.val (.long p1), .second, .val (.long p2), .second, .val (.int p3), .val (.int p4), .val (.int p5), .val (.long wb), .second, .val (.int (p3 &&& (2147483647 : Int32))), .val (.int cb), .val (.ref ct1), .val (.ref ct2), .val (.ref ob3), .val (.ref ob6), .val (.int (own_out p1 wb (p3 &&& (2147483647 : Int32)) cb)), .unset, .unset] [(.ref ob3), (.ref ob6)])) rfl (by rw [hml]; rfl) (Steps.refl _) (argsL := [(.ref ob3)]) (rest := []) (lenOf pd_5 rfl) rfl (by show 2 * 0 + _ ≤ _; exact Nat.le_of_eq rfl) (hb hby at_110) (fun _ _ => ⟨rfl, e9, (by decide : 4 + 0 ≤ _), (by decide : 18 + 0 ≤ _)⟩)
    dsimp only [Pt.U, Pt.locs, Pt.cells, Pt.slots] at X10 l10 y10 z10 st10 hQ10
    subst l10 y10 z10
    obtain ⟨rfl, N10q, e10⟩ := hQ10
    have N10 := Fr.app N9 N10q
    refine hG _ _ (fun t₀ k₀ => st10.trans k₀) ?_
    show G (T10.setTop (mkF m 113 #[.val (.long p1), .second, .val (.long p2), .second, .val (.int p3), .val (.int p4), .val (.int p5), .val (.long wb), .second, .val (.int (p3 &&& (2147483647 : Int32))), .val (.int cb), .val (.ref ct1), .val (.ref ct2), .val (.ref ob3), .val (.ref ob6), .val (.int (own_out p1 wb (p3 &&& (2147483647 : Int32)) cb)), .unset, .unset] [(.int (own_out wb p1 cb (p3 &&& (2147483647 : Int32))))]))
    refine hG _ (T10.setTop (mkF m 119 #[.val (.long p1), .second, .val (.long p2), .second, .val (.int p3), .val (.int p4), .val (.int p5), .val (.long wb), .second, .val (.int (p3 &&& (2147483647 : Int32))), .val (.int cb), .val (.ref ct1), .val (.ref ct2), .val (.ref ob3), .val (.ref ob6), .val (.int (own_out p1 wb (p3 &&& (2147483647 : Int32)) cb)), .val (.int (own_out wb p1 cb (p3 &&& (2147483647 : Int32)))), .unset] [(.ref ob3), (.ref ob3)])) (fun t₀ k₀ => ?_) ?_
    · show Steps p.tables e below (T10.setTop (mkF m 113 #[.val (.long p1), .second, .val (.long p2), .second, .val (.int p3), .val (.int p4), .val (.int p5), .val (.long wb), .second, .val (.int (p3 &&& (2147483647 : Int32))), .val (.int cb), .val (.ref ct1), .val (.ref ct2), .val (.ref ob3), .val (.ref ob6), .val (.int (own_out p1 wb (p3 &&& (2147483647 : Int32)) cb)), .unset, .unset] [(.int (own_out wb p1 cb (p3 &&& (2147483647 : Int32))))])) t₀
      refine XS.istore X10.here hx rfl (hb hby at_113) rfl (l' := #[.val (.long p1), .second, .val (.long p2), .second, .val (.int p3), .val (.int p4), .val (.int p5), .val (.long wb), .second, .val (.int (p3 &&& (2147483647 : Int32))), .val (.int cb), .val (.ref ct1), .val (.ref ct2), .val (.ref ob3), .val (.ref ob6), .val (.int (own_out p1 wb (p3 &&& (2147483647 : Int32)) cb)), .val (.int (own_out wb p1 cb (p3 &&& (2147483647 : Int32)))), .unset]) rfl ?_
      show Steps p.tables e below (T10.setTop (mkF m 115 #[.val (.long p1), .second, .val (.long p2), .second, .val (.int p3), .val (.int p4), .val (.int p5), .val (.long wb), .second, .val (.int (p3 &&& (2147483647 : Int32))), .val (.int cb), .val (.ref ct1), .val (.ref ct2), .val (.ref ob3), .val (.ref ob6), .val (.int (own_out p1 wb (p3 &&& (2147483647 : Int32)) cb)), .val (.int (own_out wb p1 cb (p3 &&& (2147483647 : Int32)))), .unset] [])) t₀
      refine XS.aload X10.here hx rfl (hb hby at_115) rfl rfl ?_
      show Steps p.tables e below (T10.setTop (mkF m 117 #[.val (.long p1), .second, .val (.long p2), .second, .val (.int p3), .val (.int p4), .val (.int p5), .val (.long wb), .second, .val (.int (p3 &&& (2147483647 : Int32))), .val (.int cb), .val (.ref ct1), .val (.ref ct2), .val (.ref ob3), .val (.ref ob6), .val (.int (own_out p1 wb (p3 &&& (2147483647 : Int32)) cb)), .val (.int (own_out wb p1 cb (p3 &&& (2147483647 : Int32)))), .unset] [(.ref ob3)])) t₀
      refine XS.aload X10.here hx rfl (hb hby at_117) rfl rfl ?_
      exact k₀
    obtain ⟨cq11, kq11, q11a, q11b, q11c⟩ := isOf hZ e10 eob3_x8
    obtain ⟨_, _, ⟨T11, L11, k11, n11⟩, -, X11, ⟨Lc11, hQ11, l11, y11, z11⟩, st11⟩ := X10.virtualBack hx (y := (⟨"com/example/nodex/nodex/records/DataRegion", "outranks", "(Lcom/example/nodex/nodex/records/DataRegion;)Z"⟩ : MethodName)) (z := (⟨"com/example/nodex/nodex/records/DataRegion", "outranks", "(Lcom/example/nodex/nodex/records/DataRegion;)Z"⟩ : MethodName)) hown (mvT hZ (hw _ (List.mem_of_getElem? (i := 45) rfl))) (mvT hZ (hw _ (List.mem_of_getElem? (i := 46) rfl))) (notFace_of_selects (args := #[]) (mvT hZ (hw _ (List.mem_of_getElem? (i := 48) rfl)))) (mvT hZ (hw _ (List.mem_of_getElem? (i := 48) rfl))) (mvT hZ (hw _ (List.mem_of_getElem? (i := 47) rfl))) (by decide) (backOf (W := 0) (rmO l Z a0 hw [] ob3 ob3 p1 p1 (p3 &&& (2147483647 : Int32)) (p3 &&& (2147483647 : Int32)) (0 : Int32) T8.heap n0 z_x8 fob3_standing_x8 fob3_recordCount_x8 fob3_standing_x8 fob3_recordCount_x8 (own_self _ _)) hZ (hw _ (List.mem_of_getElem? (i := 49) rfl)) (hw _ (List.mem_of_getElem? (i := 10) rfl)) (by decide) (by decide)) q11a q11c (g := (mkF m 119 #[.val (.long p1), .second, .val (.long p2), .second, .val (.int p3), .val (.int p4), .val (.int p5), .val (.long wb), .second, .val (.int (p3 &&& (2147483647 : Int32))), .val (.int cb), .val (.ref ct1), .val (.ref ct2), .val (.ref ob3), .val (.ref ob6), .val (.int (own_out p1 wb (p3 &&& (2147483647 : Int32)) cb)), .val (.int (own_out wb p1 cb (p3 &&& (2147483647 : Int32)))), .unset] [(.ref ob3), (.ref ob3)])) rfl (by rw [hml]; rfl) (Steps.refl _) (argsL := [(.ref ob3)]) (rest := []) (lenOf pd_5 rfl) rfl (by show 2 * 0 + _ ≤ _; exact Nat.le_of_eq rfl) (hb hby at_119) (fun _ _ => ⟨rfl, e10, (by decide : 4 + 0 ≤ _), (by decide : 18 + 0 ≤ _)⟩)
    dsimp only [Pt.U, Pt.locs, Pt.cells, Pt.slots] at X11 l11 y11 z11 st11 hQ11
    subst l11 y11 z11
    obtain ⟨rfl, N11q, e11⟩ := hQ11
    have N11 := Fr.app N10 N11q
    refine hG _ _ (fun t₀ k₀ => st11.trans k₀) ?_
    show G (T11.setTop (mkF m 122 #[.val (.long p1), .second, .val (.long p2), .second, .val (.int p3), .val (.int p4), .val (.int p5), .val (.long wb), .second, .val (.int (p3 &&& (2147483647 : Int32))), .val (.int cb), .val (.ref ct1), .val (.ref ct2), .val (.ref ob3), .val (.ref ob6), .val (.int (own_out p1 wb (p3 &&& (2147483647 : Int32)) cb)), .val (.int (own_out wb p1 cb (p3 &&& (2147483647 : Int32)))), .unset] [(.int (0 : Int32))]))
    refine hG _ (T11.setTop (mkF m 133 #[.val (.long p1), .second, .val (.long p2), .second, .val (.int p3), .val (.int p4), .val (.int p5), .val (.long wb), .second, .val (.int (p3 &&& (2147483647 : Int32))), .val (.int cb), .val (.ref ct1), .val (.ref ct2), .val (.ref ob3), .val (.ref ob6), .val (.int (own_out p1 wb (p3 &&& (2147483647 : Int32)) cb)), .val (.int (own_out wb p1 cb (p3 &&& (2147483647 : Int32)))), .val (.int (0 : Int32))] [(.int cb), (.long wb), (.int (p3 &&& (2147483647 : Int32))), (.long p1), (.int (own_out p1 wb (p3 &&& (2147483647 : Int32)) cb))])) (fun t₀ k₀ => ?_) ?_
    · show Steps p.tables e below (T11.setTop (mkF m 122 #[.val (.long p1), .second, .val (.long p2), .second, .val (.int p3), .val (.int p4), .val (.int p5), .val (.long wb), .second, .val (.int (p3 &&& (2147483647 : Int32))), .val (.int cb), .val (.ref ct1), .val (.ref ct2), .val (.ref ob3), .val (.ref ob6), .val (.int (own_out p1 wb (p3 &&& (2147483647 : Int32)) cb)), .val (.int (own_out wb p1 cb (p3 &&& (2147483647 : Int32)))), .unset] [(.int (0 : Int32))])) t₀
      refine XS.istore X11.here hx rfl (hb hby at_122) rfl (l' := #[.val (.long p1), .second, .val (.long p2), .second, .val (.int p3), .val (.int p4), .val (.int p5), .val (.long wb), .second, .val (.int (p3 &&& (2147483647 : Int32))), .val (.int cb), .val (.ref ct1), .val (.ref ct2), .val (.ref ob3), .val (.ref ob6), .val (.int (own_out p1 wb (p3 &&& (2147483647 : Int32)) cb)), .val (.int (own_out wb p1 cb (p3 &&& (2147483647 : Int32)))), .val (.int (0 : Int32))]) rfl ?_
      show Steps p.tables e below (T11.setTop (mkF m 124 #[.val (.long p1), .second, .val (.long p2), .second, .val (.int p3), .val (.int p4), .val (.int p5), .val (.long wb), .second, .val (.int (p3 &&& (2147483647 : Int32))), .val (.int cb), .val (.ref ct1), .val (.ref ct2), .val (.ref ob3), .val (.ref ob6), .val (.int (own_out p1 wb (p3 &&& (2147483647 : Int32)) cb)), .val (.int (own_out wb p1 cb (p3 &&& (2147483647 : Int32)))), .val (.int (0 : Int32))] [])) t₀
      refine XS.iload X11.here hx rfl (hb hby at_124) rfl ?_
      show Steps p.tables e below (T11.setTop (mkF m 126 #[.val (.long p1), .second, .val (.long p2), .second, .val (.int p3), .val (.int p4), .val (.int p5), .val (.long wb), .second, .val (.int (p3 &&& (2147483647 : Int32))), .val (.int cb), .val (.ref ct1), .val (.ref ct2), .val (.ref ob3), .val (.ref ob6), .val (.int (own_out p1 wb (p3 &&& (2147483647 : Int32)) cb)), .val (.int (own_out wb p1 cb (p3 &&& (2147483647 : Int32)))), .val (.int (0 : Int32))] [(.int (own_out p1 wb (p3 &&& (2147483647 : Int32)) cb))])) t₀
      refine XS.lloadN X11.here hx rfl (hb hby at_126) rfl ?_
      show Steps p.tables e below (T11.setTop (mkF m 127 #[.val (.long p1), .second, .val (.long p2), .second, .val (.int p3), .val (.int p4), .val (.int p5), .val (.long wb), .second, .val (.int (p3 &&& (2147483647 : Int32))), .val (.int cb), .val (.ref ct1), .val (.ref ct2), .val (.ref ob3), .val (.ref ob6), .val (.int (own_out p1 wb (p3 &&& (2147483647 : Int32)) cb)), .val (.int (own_out wb p1 cb (p3 &&& (2147483647 : Int32)))), .val (.int (0 : Int32))] [(.long p1), (.int (own_out p1 wb (p3 &&& (2147483647 : Int32)) cb))])) t₀
      refine XS.iload X11.here hx rfl (hb hby at_127) rfl ?_
      show Steps p.tables e below (T11.setTop (mkF m 129 #[.val (.long p1), .second, .val (.long p2), .second, .val (.int p3), .val (.int p4), .val (.int p5), .val (.long wb), .second, .val (.int (p3 &&& (2147483647 : Int32))), .val (.int cb), .val (.ref ct1), .val (.ref ct2), .val (.ref ob3), .val (.ref ob6), .val (.int (own_out p1 wb (p3 &&& (2147483647 : Int32)) cb)), .val (.int (own_out wb p1 cb (p3 &&& (2147483647 : Int32)))), .val (.int (0 : Int32))] [(.int (p3 &&& (2147483647 : Int32))), (.long p1), (.int (own_out p1 wb (p3 &&& (2147483647 : Int32)) cb))])) t₀
      refine XS.lload X11.here hx rfl (hb hby at_129) rfl ?_
      show Steps p.tables e below (T11.setTop (mkF m 131 #[.val (.long p1), .second, .val (.long p2), .second, .val (.int p3), .val (.int p4), .val (.int p5), .val (.long wb), .second, .val (.int (p3 &&& (2147483647 : Int32))), .val (.int cb), .val (.ref ct1), .val (.ref ct2), .val (.ref ob3), .val (.ref ob6), .val (.int (own_out p1 wb (p3 &&& (2147483647 : Int32)) cb)), .val (.int (own_out wb p1 cb (p3 &&& (2147483647 : Int32)))), .val (.int (0 : Int32))] [(.long wb), (.int (p3 &&& (2147483647 : Int32))), (.long p1), (.int (own_out p1 wb (p3 &&& (2147483647 : Int32)) cb))])) t₀
      refine XS.iload X11.here hx rfl (hb hby at_131) rfl ?_
      exact k₀
    obtain ⟨_, _, ⟨T12, L12, k12, n12⟩, -, X12, ⟨Lc12, hQ12, l12, y12, z12⟩, st12⟩ := Jvm.LawKit.callS X11 hx (y := (⟨"com/example/nodex/nodex/records/DataRegionOutranksPinLaw", "expected", "(JIJI)Z"⟩ : MethodName)) hown (mvT hZ (hw _ (List.mem_of_getElem? (i := 50) rfl))) (mvT hZ (hw _ (List.mem_of_getElem? (i := 51) rfl))) (mvT hZ (hw _ (List.mem_of_getElem? (i := 3) rfl))) (mvT hZ (hw _ (List.mem_of_getElem? (i := 52) rfl))) (by decide) (backOf (W := 1) (rmX l Z a0 hw [] p1 (p3 &&& (2147483647 : Int32)) wb cb T8.heap n0 z_x8) hZ (hw _ (List.mem_of_getElem? (i := 52) rfl)) (hw _ (List.mem_of_getElem? (i := 3) rfl)) (by decide) (by decide)) (g := (mkF m 133 #[.val (.long p1), .second, .val (.long p2), .second, .val (.int p3), .val (.int p4), .val (.int p5), .val (.long wb), .second, .val (.int (p3 &&& (2147483647 : Int32))), .val (.int cb), .val (.ref ct1), .val (.ref ct2), .val (.ref ob3), .val (.ref ob6), .val (.int (own_out p1 wb (p3 &&& (2147483647 : Int32)) cb)), .val (.int (own_out wb p1 cb (p3 &&& (2147483647 : Int32)))), .val (.int (0 : Int32))] [(.int cb), (.long wb), (.int (p3 &&& (2147483647 : Int32))), (.long p1), (.int (own_out p1 wb (p3 &&& (2147483647 : Int32)) cb))])) rfl (by rw [hml]; rfl) (argsL := [(.long p1), (.int (p3 &&& (2147483647 : Int32))), (.long wb), (.int cb)]) (rest := [(.int (own_out p1 wb (p3 &&& (2147483647 : Int32)) cb))]) (lenOf pd_6 rfl) rfl (by show 2 * 0 + _ ≤ _; exact Nat.le_of_eq rfl) (hb hby at_133) (fun _ _ => ⟨rfl, e11, (by decide : 4 + 0 ≤ _), (by decide : 18 + 0 ≤ _)⟩)
    dsimp only [Pt.U, Pt.locs, Pt.cells, Pt.slots] at X12 l12 y12 z12 st12 hQ12
    subst l12 y12 z12
    obtain ⟨rfl, N12q, e12⟩ := hQ12
    have N12 := Fr.app N11 N12q
    refine hG _ _ (fun t₀ k₀ => st12 _ k₀) ?_
    show G (T12.setTop (mkF m 136 #[.val (.long p1), .second, .val (.long p2), .second, .val (.int p3), .val (.int p4), .val (.int p5), .val (.long wb), .second, .val (.int (p3 &&& (2147483647 : Int32))), .val (.int cb), .val (.ref ct1), .val (.ref ct2), .val (.ref ob3), .val (.ref ob6), .val (.int (own_out p1 wb (p3 &&& (2147483647 : Int32)) cb)), .val (.int (own_out wb p1 cb (p3 &&& (2147483647 : Int32)))), .val (.int (0 : Int32))] [(.int (own_out p1 wb (p3 &&& (2147483647 : Int32)) cb)), (.int (own_out p1 wb (p3 &&& (2147483647 : Int32)) cb))]))
    refine hG _ (T12.setTop (mkF m 148 #[.val (.long p1), .second, .val (.long p2), .second, .val (.int p3), .val (.int p4), .val (.int p5), .val (.long wb), .second, .val (.int (p3 &&& (2147483647 : Int32))), .val (.int cb), .val (.ref ct1), .val (.ref ct2), .val (.ref ob3), .val (.ref ob6), .val (.int (own_out p1 wb (p3 &&& (2147483647 : Int32)) cb)), .val (.int (own_out wb p1 cb (p3 &&& (2147483647 : Int32)))), .val (.int (0 : Int32))] [(.int (p3 &&& (2147483647 : Int32))), (.long p1), (.int cb), (.long wb), (.int (own_out wb p1 cb (p3 &&& (2147483647 : Int32))))])) (fun t₀ k₀ => ?_) ?_
    · show Steps p.tables e below (T12.setTop (mkF m 136 #[.val (.long p1), .second, .val (.long p2), .second, .val (.int p3), .val (.int p4), .val (.int p5), .val (.long wb), .second, .val (.int (p3 &&& (2147483647 : Int32))), .val (.int cb), .val (.ref ct1), .val (.ref ct2), .val (.ref ob3), .val (.ref ob6), .val (.int (own_out p1 wb (p3 &&& (2147483647 : Int32)) cb)), .val (.int (own_out wb p1 cb (p3 &&& (2147483647 : Int32)))), .val (.int (0 : Int32))] [(.int (own_out p1 wb (p3 &&& (2147483647 : Int32)) cb)), (.int (own_out p1 wb (p3 &&& (2147483647 : Int32)) cb))])) t₀
      refine XS.icmpNo X12.here hx rfl (hb hby at_136) rfl (teq rfl).2 ?_
      show Steps p.tables e below (T12.setTop (mkF m 139 #[.val (.long p1), .second, .val (.long p2), .second, .val (.int p3), .val (.int p4), .val (.int p5), .val (.long wb), .second, .val (.int (p3 &&& (2147483647 : Int32))), .val (.int cb), .val (.ref ct1), .val (.ref ct2), .val (.ref ob3), .val (.ref ob6), .val (.int (own_out p1 wb (p3 &&& (2147483647 : Int32)) cb)), .val (.int (own_out wb p1 cb (p3 &&& (2147483647 : Int32)))), .val (.int (0 : Int32))] [])) t₀
      refine XS.iload X12.here hx rfl (hb hby at_139) rfl ?_
      show Steps p.tables e below (T12.setTop (mkF m 141 #[.val (.long p1), .second, .val (.long p2), .second, .val (.int p3), .val (.int p4), .val (.int p5), .val (.long wb), .second, .val (.int (p3 &&& (2147483647 : Int32))), .val (.int cb), .val (.ref ct1), .val (.ref ct2), .val (.ref ob3), .val (.ref ob6), .val (.int (own_out p1 wb (p3 &&& (2147483647 : Int32)) cb)), .val (.int (own_out wb p1 cb (p3 &&& (2147483647 : Int32)))), .val (.int (0 : Int32))] [(.int (own_out wb p1 cb (p3 &&& (2147483647 : Int32))))])) t₀
      refine XS.lload X12.here hx rfl (hb hby at_141) rfl ?_
      show Steps p.tables e below (T12.setTop (mkF m 143 #[.val (.long p1), .second, .val (.long p2), .second, .val (.int p3), .val (.int p4), .val (.int p5), .val (.long wb), .second, .val (.int (p3 &&& (2147483647 : Int32))), .val (.int cb), .val (.ref ct1), .val (.ref ct2), .val (.ref ob3), .val (.ref ob6), .val (.int (own_out p1 wb (p3 &&& (2147483647 : Int32)) cb)), .val (.int (own_out wb p1 cb (p3 &&& (2147483647 : Int32)))), .val (.int (0 : Int32))] [(.long wb), (.int (own_out wb p1 cb (p3 &&& (2147483647 : Int32))))])) t₀
      refine XS.iload X12.here hx rfl (hb hby at_143) rfl ?_
      show Steps p.tables e below (T12.setTop (mkF m 145 #[.val (.long p1), .second, .val (.long p2), .second, .val (.int p3), .val (.int p4), .val (.int p5), .val (.long wb), .second, .val (.int (p3 &&& (2147483647 : Int32))), .val (.int cb), .val (.ref ct1), .val (.ref ct2), .val (.ref ob3), .val (.ref ob6), .val (.int (own_out p1 wb (p3 &&& (2147483647 : Int32)) cb)), .val (.int (own_out wb p1 cb (p3 &&& (2147483647 : Int32)))), .val (.int (0 : Int32))] [(.int cb), (.long wb), (.int (own_out wb p1 cb (p3 &&& (2147483647 : Int32))))])) t₀
      refine XS.lloadN X12.here hx rfl (hb hby at_145) rfl ?_
      show Steps p.tables e below (T12.setTop (mkF m 146 #[.val (.long p1), .second, .val (.long p2), .second, .val (.int p3), .val (.int p4), .val (.int p5), .val (.long wb), .second, .val (.int (p3 &&& (2147483647 : Int32))), .val (.int cb), .val (.ref ct1), .val (.ref ct2), .val (.ref ob3), .val (.ref ob6), .val (.int (own_out p1 wb (p3 &&& (2147483647 : Int32)) cb)), .val (.int (own_out wb p1 cb (p3 &&& (2147483647 : Int32)))), .val (.int (0 : Int32))] [(.long p1), (.int cb), (.long wb), (.int (own_out wb p1 cb (p3 &&& (2147483647 : Int32))))])) t₀
      refine XS.iload X12.here hx rfl (hb hby at_146) rfl ?_
      exact k₀
    obtain ⟨_, _, ⟨T13, L13, k13, n13⟩, -, X13, ⟨Lc13, hQ13, l13, y13, z13⟩, st13⟩ := Jvm.LawKit.callS X12 hx (y := (⟨"com/example/nodex/nodex/records/DataRegionOutranksPinLaw", "expected", "(JIJI)Z"⟩ : MethodName)) hown (mvT hZ (hw _ (List.mem_of_getElem? (i := 50) rfl))) (mvT hZ (hw _ (List.mem_of_getElem? (i := 51) rfl))) (mvT hZ (hw _ (List.mem_of_getElem? (i := 3) rfl))) (mvT hZ (hw _ (List.mem_of_getElem? (i := 52) rfl))) (by decide) (backOf (W := 1) (rmX l Z a0 hw [] wb cb p1 (p3 &&& (2147483647 : Int32)) T8.heap n0 z_x8) hZ (hw _ (List.mem_of_getElem? (i := 52) rfl)) (hw _ (List.mem_of_getElem? (i := 3) rfl)) (by decide) (by decide)) (g := (mkF m 148 #[.val (.long p1), .second, .val (.long p2), .second, .val (.int p3), .val (.int p4), .val (.int p5), .val (.long wb), .second, .val (.int (p3 &&& (2147483647 : Int32))), .val (.int cb), .val (.ref ct1), .val (.ref ct2), .val (.ref ob3), .val (.ref ob6), .val (.int (own_out p1 wb (p3 &&& (2147483647 : Int32)) cb)), .val (.int (own_out wb p1 cb (p3 &&& (2147483647 : Int32)))), .val (.int (0 : Int32))] [(.int (p3 &&& (2147483647 : Int32))), (.long p1), (.int cb), (.long wb), (.int (own_out wb p1 cb (p3 &&& (2147483647 : Int32))))])) rfl (by rw [hml]; rfl) (argsL := [(.long wb), (.int cb), (.long p1), (.int (p3 &&& (2147483647 : Int32)))]) (rest := [(.int (own_out wb p1 cb (p3 &&& (2147483647 : Int32))))]) (lenOf pd_6 rfl) rfl (by show 2 * 0 + _ ≤ _; exact Nat.le_of_eq rfl) (hb hby at_148) (fun _ _ => ⟨rfl, e12, (by decide : 4 + 0 ≤ _), (by decide : 18 + 0 ≤ _)⟩)
    dsimp only [Pt.U, Pt.locs, Pt.cells, Pt.slots] at X13 l13 y13 z13 st13 hQ13
    subst l13 y13 z13
    obtain ⟨rfl, N13q, e13⟩ := hQ13
    have N13 := Fr.app N12 N13q
    refine hG _ _ (fun t₀ k₀ => st13 _ k₀) ?_
    show G (T13.setTop (mkF m 151 #[.val (.long p1), .second, .val (.long p2), .second, .val (.int p3), .val (.int p4), .val (.int p5), .val (.long wb), .second, .val (.int (p3 &&& (2147483647 : Int32))), .val (.int cb), .val (.ref ct1), .val (.ref ct2), .val (.ref ob3), .val (.ref ob6), .val (.int (own_out p1 wb (p3 &&& (2147483647 : Int32)) cb)), .val (.int (own_out wb p1 cb (p3 &&& (2147483647 : Int32)))), .val (.int (0 : Int32))] [(.int (own_out wb p1 cb (p3 &&& (2147483647 : Int32)))), (.int (own_out wb p1 cb (p3 &&& (2147483647 : Int32))))]))
    refine hG _ (T13.setTop (mkF m 164 #[.val (.long p1), .second, .val (.long p2), .second, .val (.int p3), .val (.int p4), .val (.int p5), .val (.long wb), .second, .val (.int (p3 &&& (2147483647 : Int32))), .val (.int cb), .val (.ref ct1), .val (.ref ct2), .val (.ref ob3), .val (.ref ob6), .val (.int (own_out p1 wb (p3 &&& (2147483647 : Int32)) cb)), .val (.int (own_out wb p1 cb (p3 &&& (2147483647 : Int32)))), .val (.int (0 : Int32))] [(.int (1 : Int32))])) (fun t₀ k₀ => ?_) ?_
    · show Steps p.tables e below (T13.setTop (mkF m 151 #[.val (.long p1), .second, .val (.long p2), .second, .val (.int p3), .val (.int p4), .val (.int p5), .val (.long wb), .second, .val (.int (p3 &&& (2147483647 : Int32))), .val (.int cb), .val (.ref ct1), .val (.ref ct2), .val (.ref ob3), .val (.ref ob6), .val (.int (own_out p1 wb (p3 &&& (2147483647 : Int32)) cb)), .val (.int (own_out wb p1 cb (p3 &&& (2147483647 : Int32)))), .val (.int (0 : Int32))] [(.int (own_out wb p1 cb (p3 &&& (2147483647 : Int32)))), (.int (own_out wb p1 cb (p3 &&& (2147483647 : Int32))))])) t₀
      refine XS.icmpNo X13.here hx rfl (hb hby at_151) rfl (teq rfl).2 ?_
      show Steps p.tables e below (T13.setTop (mkF m 154 #[.val (.long p1), .second, .val (.long p2), .second, .val (.int p3), .val (.int p4), .val (.int p5), .val (.long wb), .second, .val (.int (p3 &&& (2147483647 : Int32))), .val (.int cb), .val (.ref ct1), .val (.ref ct2), .val (.ref ob3), .val (.ref ob6), .val (.int (own_out p1 wb (p3 &&& (2147483647 : Int32)) cb)), .val (.int (own_out wb p1 cb (p3 &&& (2147483647 : Int32)))), .val (.int (0 : Int32))] [])) t₀
      refine XS.iload X13.here hx rfl (hb hby at_154) rfl ?_
      show Steps p.tables e below (T13.setTop (mkF m 156 #[.val (.long p1), .second, .val (.long p2), .second, .val (.int p3), .val (.int p4), .val (.int p5), .val (.long wb), .second, .val (.int (p3 &&& (2147483647 : Int32))), .val (.int cb), .val (.ref ct1), .val (.ref ct2), .val (.ref ob3), .val (.ref ob6), .val (.int (own_out p1 wb (p3 &&& (2147483647 : Int32)) cb)), .val (.int (own_out wb p1 cb (p3 &&& (2147483647 : Int32)))), .val (.int (0 : Int32))] [(.int (0 : Int32))])) t₀
      refine XS.ifNo X13.here hx rfl (hb hby at_156) rfl ((if0 _ _).trans (teq (by decide : ((0 : Int32) = (0 : Int32)))).2) ?_
      show Steps p.tables e below (T13.setTop (mkF m 159 #[.val (.long p1), .second, .val (.long p2), .second, .val (.int p3), .val (.int p4), .val (.int p5), .val (.long wb), .second, .val (.int (p3 &&& (2147483647 : Int32))), .val (.int cb), .val (.ref ct1), .val (.ref ct2), .val (.ref ob3), .val (.ref ob6), .val (.int (own_out p1 wb (p3 &&& (2147483647 : Int32)) cb)), .val (.int (own_out wb p1 cb (p3 &&& (2147483647 : Int32)))), .val (.int (0 : Int32))] [])) t₀
      refine XS.iconst X13.here hx rfl (hb hby at_159) ?_
      show Steps p.tables e below (T13.setTop (mkF m 160 #[.val (.long p1), .second, .val (.long p2), .second, .val (.int p3), .val (.int p4), .val (.int p5), .val (.long wb), .second, .val (.int (p3 &&& (2147483647 : Int32))), .val (.int cb), .val (.ref ct1), .val (.ref ct2), .val (.ref ob3), .val (.ref ob6), .val (.int (own_out p1 wb (p3 &&& (2147483647 : Int32)) cb)), .val (.int (own_out wb p1 cb (p3 &&& (2147483647 : Int32)))), .val (.int (0 : Int32))] [(.int (1 : Int32))])) t₀
      refine XS.goto X13.here hx rfl (pc0 := 160) (pc' := 164) rfl (hb hby at_160) (by decide) (by decide) ?_
      exact k₀
    refine hF _ T13 _ _ _ (some (.int (1 : Int32))) _ X13 e13 (fun h => by rw [hrt] at h; cases h) (by decide) (by decide) ?_ (fun fs hr => retN X13 hx (t := .boolean) hrt (by simp) (hb hby at_164) hr)
    exact ⟨rfl, N13⟩
  have tl1 : ∀  (wb : Int64), G (s₁.setTop (mkF m 14 #[.val (.long p1), .second, .val (.long p2), .second, .val (.int p3), .val (.int p4), .val (.int p5), .val (.long wb), .second, .unset, .unset, .unset, .unset, .unset, .unset, .unset, .unset, .unset] [])) := by
    intro wb
    refine hG _ (s₁.setTop (mkF m 25 #[.val (.long p1), .second, .val (.long p2), .second, .val (.int p3), .val (.int p4), .val (.int p5), .val (.long wb), .second, .val (.int (p3 &&& (2147483647 : Int32))), .unset, .unset, .unset, .unset, .unset, .unset, .unset, .unset] [(.int (p5 &&& (2 : Int32)))])) (fun t₀ k₀ => ?_) ?_
    · show Steps p.tables e below (s₁.setTop (mkF m 14 #[.val (.long p1), .second, .val (.long p2), .second, .val (.int p3), .val (.int p4), .val (.int p5), .val (.long wb), .second, .unset, .unset, .unset, .unset, .unset, .unset, .unset, .unset, .unset] [])) t₀
      refine XS.iload X0.here hx rfl (hb hby at_14) rfl ?_
      show Steps p.tables e below (s₁.setTop (mkF m 16 #[.val (.long p1), .second, .val (.long p2), .second, .val (.int p3), .val (.int p4), .val (.int p5), .val (.long wb), .second, .unset, .unset, .unset, .unset, .unset, .unset, .unset, .unset, .unset] [(.int p3)])) t₀
      refine X0.ldcInt hx hown (mvT hZ (hw _ (List.mem_of_getElem? (i := 0) rfl))) (g := (mkF m 16 #[.val (.long p1), .second, .val (.long p2), .second, .val (.int p3), .val (.int p4), .val (.int p5), .val (.long wb), .second, .unset, .unset, .unset, .unset, .unset, .unset, .unset, .unset, .unset] [(.int p3)])) rfl (hb hby at_16) _ ?_
      show Steps p.tables e below (s₁.setTop (mkF m 18 #[.val (.long p1), .second, .val (.long p2), .second, .val (.int p3), .val (.int p4), .val (.int p5), .val (.long wb), .second, .unset, .unset, .unset, .unset, .unset, .unset, .unset, .unset, .unset] [(.int (2147483647 : Int32)), (.int p3)])) t₀
      refine XS.iand X0.here hx rfl (hb hby at_18) rfl ?_
      show Steps p.tables e below (s₁.setTop (mkF m 19 #[.val (.long p1), .second, .val (.long p2), .second, .val (.int p3), .val (.int p4), .val (.int p5), .val (.long wb), .second, .unset, .unset, .unset, .unset, .unset, .unset, .unset, .unset, .unset] [(.int (p3 &&& (2147483647 : Int32)))])) t₀
      refine XS.istore X0.here hx rfl (hb hby at_19) rfl (l' := #[.val (.long p1), .second, .val (.long p2), .second, .val (.int p3), .val (.int p4), .val (.int p5), .val (.long wb), .second, .val (.int (p3 &&& (2147483647 : Int32))), .unset, .unset, .unset, .unset, .unset, .unset, .unset, .unset]) rfl ?_
      show Steps p.tables e below (s₁.setTop (mkF m 21 #[.val (.long p1), .second, .val (.long p2), .second, .val (.int p3), .val (.int p4), .val (.int p5), .val (.long wb), .second, .val (.int (p3 &&& (2147483647 : Int32))), .unset, .unset, .unset, .unset, .unset, .unset, .unset, .unset] [])) t₀
      refine XS.iload X0.here hx rfl (hb hby at_21) rfl ?_
      show Steps p.tables e below (s₁.setTop (mkF m 23 #[.val (.long p1), .second, .val (.long p2), .second, .val (.int p3), .val (.int p4), .val (.int p5), .val (.long wb), .second, .val (.int (p3 &&& (2147483647 : Int32))), .unset, .unset, .unset, .unset, .unset, .unset, .unset, .unset] [(.int p5)])) t₀
      refine XS.iconst X0.here hx rfl (hb hby at_23) ?_
      show Steps p.tables e below (s₁.setTop (mkF m 24 #[.val (.long p1), .second, .val (.long p2), .second, .val (.int p3), .val (.int p4), .val (.int p5), .val (.long wb), .second, .val (.int (p3 &&& (2147483647 : Int32))), .unset, .unset, .unset, .unset, .unset, .unset, .unset, .unset] [(.int (2 : Int32)), (.int p5)])) t₀
      refine XS.iand X0.here hx rfl (hb hby at_24) rfl ?_
      exact k₀
    by_cases hc25 : (p5 &&& (2 : Int32)) = (0 : Int32)
    ·
      refine hG _ (s₁.setTop (mkF m 40 #[.val (.long p1), .second, .val (.long p2), .second, .val (.int p3), .val (.int p4), .val (.int p5), .val (.long wb), .second, .val (.int (p3 &&& (2147483647 : Int32))), .val (.int (p4 &&& (2147483647 : Int32))), .unset, .unset, .unset, .unset, .unset, .unset, .unset] [])) (fun t₀ k₀ => ?_) ?_
      · show Steps p.tables e below (s₁.setTop (mkF m 25 #[.val (.long p1), .second, .val (.long p2), .second, .val (.int p3), .val (.int p4), .val (.int p5), .val (.long wb), .second, .val (.int (p3 &&& (2147483647 : Int32))), .unset, .unset, .unset, .unset, .unset, .unset, .unset, .unset] [(.int (p5 &&& (2 : Int32)))])) t₀
        refine XS.ifYes X0.here hx rfl (pc0 := 25) (pc' := 33) rfl (hb hby at_25) rfl ((if0 _ _).trans (teq hc25).1) (by decide) (by decide) ?_
        show Steps p.tables e below (s₁.setTop (mkF m 33 #[.val (.long p1), .second, .val (.long p2), .second, .val (.int p3), .val (.int p4), .val (.int p5), .val (.long wb), .second, .val (.int (p3 &&& (2147483647 : Int32))), .unset, .unset, .unset, .unset, .unset, .unset, .unset, .unset] [])) t₀
        refine XS.iload X0.here hx rfl (hb hby at_33) rfl ?_
        show Steps p.tables e below (s₁.setTop (mkF m 35 #[.val (.long p1), .second, .val (.long p2), .second, .val (.int p3), .val (.int p4), .val (.int p5), .val (.long wb), .second, .val (.int (p3 &&& (2147483647 : Int32))), .unset, .unset, .unset, .unset, .unset, .unset, .unset, .unset] [(.int p4)])) t₀
        refine X0.ldcInt hx hown (mvT hZ (hw _ (List.mem_of_getElem? (i := 0) rfl))) (g := (mkF m 35 #[.val (.long p1), .second, .val (.long p2), .second, .val (.int p3), .val (.int p4), .val (.int p5), .val (.long wb), .second, .val (.int (p3 &&& (2147483647 : Int32))), .unset, .unset, .unset, .unset, .unset, .unset, .unset, .unset] [(.int p4)])) rfl (hb hby at_35) _ ?_
        show Steps p.tables e below (s₁.setTop (mkF m 37 #[.val (.long p1), .second, .val (.long p2), .second, .val (.int p3), .val (.int p4), .val (.int p5), .val (.long wb), .second, .val (.int (p3 &&& (2147483647 : Int32))), .unset, .unset, .unset, .unset, .unset, .unset, .unset, .unset] [(.int (2147483647 : Int32)), (.int p4)])) t₀
        refine XS.iand X0.here hx rfl (hb hby at_37) rfl ?_
        show Steps p.tables e below (s₁.setTop (mkF m 38 #[.val (.long p1), .second, .val (.long p2), .second, .val (.int p3), .val (.int p4), .val (.int p5), .val (.long wb), .second, .val (.int (p3 &&& (2147483647 : Int32))), .unset, .unset, .unset, .unset, .unset, .unset, .unset, .unset] [(.int (p4 &&& (2147483647 : Int32)))])) t₀
        refine XS.istore X0.here hx rfl (hb hby at_38) rfl (l' := #[.val (.long p1), .second, .val (.long p2), .second, .val (.int p3), .val (.int p4), .val (.int p5), .val (.long wb), .second, .val (.int (p3 &&& (2147483647 : Int32))), .val (.int (p4 &&& (2147483647 : Int32))), .unset, .unset, .unset, .unset, .unset, .unset, .unset]) rfl ?_
        exact k₀
      exact tl2 wb (p4 &&& (2147483647 : Int32))
    ·
      refine hG _ (s₁.setTop (mkF m 40 #[.val (.long p1), .second, .val (.long p2), .second, .val (.int p3), .val (.int p4), .val (.int p5), .val (.long wb), .second, .val (.int (p3 &&& (2147483647 : Int32))), .val (.int (p3 &&& (2147483647 : Int32))), .unset, .unset, .unset, .unset, .unset, .unset, .unset] [])) (fun t₀ k₀ => ?_) ?_
      · show Steps p.tables e below (s₁.setTop (mkF m 25 #[.val (.long p1), .second, .val (.long p2), .second, .val (.int p3), .val (.int p4), .val (.int p5), .val (.long wb), .second, .val (.int (p3 &&& (2147483647 : Int32))), .unset, .unset, .unset, .unset, .unset, .unset, .unset, .unset] [(.int (p5 &&& (2 : Int32)))])) t₀
        refine XS.ifNo X0.here hx rfl (hb hby at_25) rfl ((if0 _ _).trans (feq hc25).1) ?_
        show Steps p.tables e below (s₁.setTop (mkF m 28 #[.val (.long p1), .second, .val (.long p2), .second, .val (.int p3), .val (.int p4), .val (.int p5), .val (.long wb), .second, .val (.int (p3 &&& (2147483647 : Int32))), .unset, .unset, .unset, .unset, .unset, .unset, .unset, .unset] [])) t₀
        refine XS.iload X0.here hx rfl (hb hby at_28) rfl ?_
        show Steps p.tables e below (s₁.setTop (mkF m 30 #[.val (.long p1), .second, .val (.long p2), .second, .val (.int p3), .val (.int p4), .val (.int p5), .val (.long wb), .second, .val (.int (p3 &&& (2147483647 : Int32))), .unset, .unset, .unset, .unset, .unset, .unset, .unset, .unset] [(.int (p3 &&& (2147483647 : Int32)))])) t₀
        refine XS.goto X0.here hx rfl (pc0 := 30) (pc' := 38) rfl (hb hby at_30) (by decide) (by decide) ?_
        show Steps p.tables e below (s₁.setTop (mkF m 38 #[.val (.long p1), .second, .val (.long p2), .second, .val (.int p3), .val (.int p4), .val (.int p5), .val (.long wb), .second, .val (.int (p3 &&& (2147483647 : Int32))), .unset, .unset, .unset, .unset, .unset, .unset, .unset, .unset] [(.int (p3 &&& (2147483647 : Int32)))])) t₀
        refine XS.istore X0.here hx rfl (hb hby at_38) rfl (l' := #[.val (.long p1), .second, .val (.long p2), .second, .val (.int p3), .val (.int p4), .val (.int p5), .val (.long wb), .second, .val (.int (p3 &&& (2147483647 : Int32))), .val (.int (p3 &&& (2147483647 : Int32))), .unset, .unset, .unset, .unset, .unset, .unset, .unset]) rfl ?_
        exact k₀
      exact tl2 wb (p3 &&& (2147483647 : Int32))
  refine hG _ (s₁.setTop (mkF m 4 #[.val (.long p1), .second, .val (.long p2), .second, .val (.int p3), .val (.int p4), .val (.int p5), .unset, .unset, .unset, .unset, .unset, .unset, .unset, .unset, .unset, .unset, .unset] [(.int (p5 &&& (1 : Int32)))])) (fun t₀ k₀ => ?_) ?_
  · show Steps p.tables e below (s₁.setTop (mkF m 0 #[.val (.long p1), .second, .val (.long p2), .second, .val (.int p3), .val (.int p4), .val (.int p5), .unset, .unset, .unset, .unset, .unset, .unset, .unset, .unset, .unset, .unset, .unset] [])) t₀
    refine XS.iload X0.here hx rfl (hb hby at_0) rfl ?_
    show Steps p.tables e below (s₁.setTop (mkF m 2 #[.val (.long p1), .second, .val (.long p2), .second, .val (.int p3), .val (.int p4), .val (.int p5), .unset, .unset, .unset, .unset, .unset, .unset, .unset, .unset, .unset, .unset, .unset] [(.int p5)])) t₀
    refine XS.iconst X0.here hx rfl (hb hby at_2) ?_
    show Steps p.tables e below (s₁.setTop (mkF m 3 #[.val (.long p1), .second, .val (.long p2), .second, .val (.int p3), .val (.int p4), .val (.int p5), .unset, .unset, .unset, .unset, .unset, .unset, .unset, .unset, .unset, .unset, .unset] [(.int (1 : Int32)), (.int p5)])) t₀
    refine XS.iand X0.here hx rfl (hb hby at_3) rfl ?_
    exact k₀
  by_cases hc4 : (p5 &&& (1 : Int32)) = (0 : Int32)
  ·
    refine hG _ (s₁.setTop (mkF m 14 #[.val (.long p1), .second, .val (.long p2), .second, .val (.int p3), .val (.int p4), .val (.int p5), .val (.long p2), .second, .unset, .unset, .unset, .unset, .unset, .unset, .unset, .unset, .unset] [])) (fun t₀ k₀ => ?_) ?_
    · show Steps p.tables e below (s₁.setTop (mkF m 4 #[.val (.long p1), .second, .val (.long p2), .second, .val (.int p3), .val (.int p4), .val (.int p5), .unset, .unset, .unset, .unset, .unset, .unset, .unset, .unset, .unset, .unset, .unset] [(.int (p5 &&& (1 : Int32)))])) t₀
      refine XS.ifYes X0.here hx rfl (pc0 := 4) (pc' := 11) rfl (hb hby at_4) rfl ((if0 _ _).trans (teq hc4).1) (by decide) (by decide) ?_
      show Steps p.tables e below (s₁.setTop (mkF m 11 #[.val (.long p1), .second, .val (.long p2), .second, .val (.int p3), .val (.int p4), .val (.int p5), .unset, .unset, .unset, .unset, .unset, .unset, .unset, .unset, .unset, .unset, .unset] [])) t₀
      refine XS.lloadN X0.here hx rfl (hb hby at_11) rfl ?_
      show Steps p.tables e below (s₁.setTop (mkF m 12 #[.val (.long p1), .second, .val (.long p2), .second, .val (.int p3), .val (.int p4), .val (.int p5), .unset, .unset, .unset, .unset, .unset, .unset, .unset, .unset, .unset, .unset, .unset] [(.long p2)])) t₀
      refine XS.lstore X0.here hx rfl (hb hby at_12) rfl (l' := #[.val (.long p1), .second, .val (.long p2), .second, .val (.int p3), .val (.int p4), .val (.int p5), .val (.long p2), .second, .unset, .unset, .unset, .unset, .unset, .unset, .unset, .unset, .unset]) rfl ?_
      exact k₀
    exact tl1 p2
  ·
    refine hG _ (s₁.setTop (mkF m 14 #[.val (.long p1), .second, .val (.long p2), .second, .val (.int p3), .val (.int p4), .val (.int p5), .val (.long p1), .second, .unset, .unset, .unset, .unset, .unset, .unset, .unset, .unset, .unset] [])) (fun t₀ k₀ => ?_) ?_
    · show Steps p.tables e below (s₁.setTop (mkF m 4 #[.val (.long p1), .second, .val (.long p2), .second, .val (.int p3), .val (.int p4), .val (.int p5), .unset, .unset, .unset, .unset, .unset, .unset, .unset, .unset, .unset, .unset, .unset] [(.int (p5 &&& (1 : Int32)))])) t₀
      refine XS.ifNo X0.here hx rfl (hb hby at_4) rfl ((if0 _ _).trans (feq hc4).1) ?_
      show Steps p.tables e below (s₁.setTop (mkF m 7 #[.val (.long p1), .second, .val (.long p2), .second, .val (.int p3), .val (.int p4), .val (.int p5), .unset, .unset, .unset, .unset, .unset, .unset, .unset, .unset, .unset, .unset, .unset] [])) t₀
      refine XS.lloadN X0.here hx rfl (hb hby at_7) rfl ?_
      show Steps p.tables e below (s₁.setTop (mkF m 8 #[.val (.long p1), .second, .val (.long p2), .second, .val (.int p3), .val (.int p4), .val (.int p5), .unset, .unset, .unset, .unset, .unset, .unset, .unset, .unset, .unset, .unset, .unset] [(.long p1)])) t₀
      refine XS.goto X0.here hx rfl (pc0 := 8) (pc' := 12) rfl (hb hby at_8) (by decide) (by decide) ?_
      show Steps p.tables e below (s₁.setTop (mkF m 12 #[.val (.long p1), .second, .val (.long p2), .second, .val (.int p3), .val (.int p4), .val (.int p5), .unset, .unset, .unset, .unset, .unset, .unset, .unset, .unset, .unset, .unset, .unset] [(.long p1)])) t₀
      refine XS.lstore X0.here hx rfl (hb hby at_12) rfl (l' := #[.val (.long p1), .second, .val (.long p2), .second, .val (.int p3), .val (.int p4), .val (.int p5), .val (.long p1), .second, .unset, .unset, .unset, .unset, .unset, .unset, .unset, .unset, .unset]) rfl ?_
      exact k₀
    exact tl1 p1
set_option maxRecDepth 65536 in
set_option maxHeartbeats 40000000 in
theorem comes_1 {Post : Tables → Env → Array Value → State → Outcome → State → Prop} (hpost : ∀ tb e args s v u, (limb_1_1.after args s (.returned v) u = true ∧ limb_1_2.after args s (.returned v) u = true ∧ True) → FrameEnd s (.returned v) u (Jvm.fieldLocs frame_1_writes args s ++ Jvm.arrayLocs frame_1_arrays args s ++ Jvm.staticLocs frame_1_statics s) 16 128 → Post tb e args s (.returned v) u) :
    ArmFor flags0 classFile x code maxLocals ret World_1 tables_1 room_1 Calls_1 rest_1 Pre_1 Post := by
  intro l hfl _ _ p e ha hc hk s m args below hf hA hF happ hP
  obtain ⟨hcalls, hrest, hpre⟩ := hP
  obtain ⟨-, -, -, hnamed, -, -, -, hat⟩ := (Spec.applies_iff hf).mp happ
  obtain ⟨hg, hn⟩ := and_e (Cond.before_iff.mp (show (Jvm.Cond.and given_1 narrow_1).before args s = true from hpre))
  obtain ⟨hcount, gg⟩ := and_e hg
  obtain ⟨ga0, gg⟩ := and_e gg
  obtain ⟨ga1, gg⟩ := and_e gg
  obtain ⟨ga2, gg⟩ := and_e gg
  obtain ⟨ga3, gg⟩ := and_e gg
  have ga4 := gg
  obtain ⟨w0, w1, w2, w3, w4, rfl⟩ : ∃ w0 w1 w2 w3 w4 : Value, args = #[w0, w1, w2, w3, w4] := by
    have hs : args.size = 5 := by simpa [Cond.value, given_1] using hcount
    obtain ⟨L⟩ := args
    match L, hs with
    | [w0, w1, w2, w3, w4], _ => exact ⟨w0, w1, w2, w3, w4, rfl⟩
  have hw := fun d (hd : d ∈ tables_1) => atoms_spec (ws := Jvm.Cond.code x code maxLocals ret :: tables_1) hat d (List.mem_cons_of_mem _ hd)
  have hfit : Fit s := fun {y c} hc i hi => by
    obtain ⟨ha, rfl⟩ := Array.getElem?_eq_some_iff.mp hc
    have q := List.all_eq_true.mp ((Array.all_eq_true_iff_forall_mem.mp hF) _ (Array.getElem_mem ha)) i (List.mem_range.mpr hi)
    simpa [Array.getElem?_eq_getElem hi] using q
  obtain ⟨hsets, hown0⟩ := atoms_of _ (rest_1_c_eq ▸ (show rest_1_c.before _ s = true from hrest))
  obtain ⟨i0, ei0⟩ := isL_v ga0
  obtain rfl : w0 = (.long i0) := Option.some.inj ei0
  obtain ⟨i1, ei1⟩ := isL_v ga1
  obtain rfl : w1 = (.long i1) := Option.some.inj ei1
  obtain ⟨i2, ei2⟩ := is_v ga2
  obtain rfl : w2 = (.int i2) := Option.some.inj ei2
  obtain ⟨i3, ei3⟩ := is_v ga3
  obtain rfl : w3 = (.int i3) := Option.some.inj ei3
  obtain ⟨i4, ei4⟩ := is_v ga4
  obtain rfl : w4 = (.int i4) := Option.some.inj ei4
  obtain ⟨n0, hn⟩ := and_e hn
  obtain ⟨wI, ev0⟩ := exa_v n0
  have S_ITEMS := Sta.start ev0 (Or.inr ⟨(hw _ (List.mem_of_getElem? (i := 6) rfl)), (hw _ (List.mem_of_getElem? (i := 7) rfl))⟩)
  obtain ⟨n1, hn⟩ := and_e hn
  obtain ⟨wF, ev1⟩ := exa_v n1
  have S_FIELDS := Sta.start ev1 (Or.inr ⟨(hw _ (List.mem_of_getElem? (i := 6) rfl)), (hw _ (List.mem_of_getElem? (i := 54) rfl))⟩)
  have n2 := hn
  obtain ⟨wL, ev2⟩ := exa_v n2
  have S_LINKS := Sta.start ev2 (Or.inr ⟨(hw _ (List.mem_of_getElem? (i := 6) rfl)), (hw _ (List.mem_of_getElem? (i := 56) rfl))⟩)
  obtain ⟨wE, evE⟩ := exa_v (Cond.before_iff.mp (hsets _ (List.mem_of_getElem? (i := 2) rfl)))
  have S_EMPTY := Sta.start evE (Or.inl (hsets _ (List.mem_of_getElem? (i := 1) rfl)))
  obtain ⟨n, o, h1, h2, h3, _, L, rfl, ⟨rfl, N⟩, hq⟩ := rm0 l s _ hw tables_1 i0 i1 i2 i3 i4 wI wL wF wE s.heap s.heap.size (Nat.le_refl _) (Old.start s) S_ITEMS S_LINKS S_FIELDS S_EMPTY p e ha hc hk s m _ below hf ((Spec.applies_iff_loose hf).mp happ).1 ⟨rfl, State.Warmed39.refl s, rfl⟩ trivial
  refine ⟨n, _, h1, h2, h3, hpost _ _ _ _ _ _ ⟨Cond.after_iff.mpr rfl, Cond.after_iff.mpr (eq_i res_at (Term.int_eval (1)) rfl), trivial⟩ ⟨hq.1, hq.2.1, (hq.2.2.sift fun y hy => Or.inr (N y hy)).mono (by decide) (by decide)⟩⟩
theorem main_1_1 : Claimed_1_1 := comes_1 fun _ _ _ _ _ _ h hF => ⟨h.1, hF⟩
theorem main_1_2 : Claimed_1_2 := comes_1 fun _ _ _ _ _ _ h hF => ⟨h.2.1, hF⟩
end Jvm.Pilot.@@N@@
namespace Jvm.Pilot.@@N@@
open Jvm Jvm.ClassFile Sem Op Lib Jvm.Free Jvm.Stand Jvm.Pilot.@@N@@.Jvm.D
/-! MADE BY PROGRAM (witnessworld.py) out of the Statement's table words and the real class files: 24 classes; the members and pool entries that the words name. The judged class is class 1, her method 1. -/
namespace start1
open Jvm.ClassFile
def u (s : String) : CpInfo := .utf8 (stringToUtf16 s)
/-- a pool by its gaps: so many unusable entries, then the entry; so many at the end -/
def gap : Nat → List CpInfo → List CpInfo
  | 0, r => r
  | n + 1, r => .unusable :: gap n r
def poolList (es : List (Nat × CpInfo)) (last : Nat) : List CpInfo := es.foldr (fun e r => gap e.1 (e.2 :: r)) (gap last [])
def pool (es : List (Nat × CpInfo)) (last : Nat) : Array CpInfo := ⟨poolList es last⟩
def fileOf (pool : Array CpInfo) (this : Nat) (attrs : Array Attribute := #[]) (ms : Array MethodInfo := #[]) (fl : Nat := 33) (sup : Nat := 0) (ifs : Array Nat := #[]) (fds : Array FieldInfo := #[]) : ClassFile where
  minorVersion := 0
  majorVersion := 65
  constantPool := pool
  accessFlags := fl
  thisClass := this
  superClass := sup
  interfaces := ifs
  fields := fds
  methods := ms
  attributes := attrs
def plain (name : String) (sup : Option ClassId) : Class where
  name := name
  kind := .ordinary
  loader := none
  accessFlags := 33
  super := sup
  interfaces := #[]
  cf := none
  fields := #[]
  methods := #[]
  instanceTypes := #[]
  staticTypes := #[]
  resolved := #[]
  callSites := []
  init := .initialized
  statics := none
  mirror := none

def pool0 : Array CpInfo := pool [(5, u "<init>"), (0, u "()V"), (1, .class_ 10), (1, u "java/lang/Object")] 113

def k0c0 : Code := { maxStack := 0, maxLocals := 1, code := object_method_1_code, exceptionTable := #[], attributes := #[] }
def k0m0 : Method := { name := "<init>", desc := "()V", sig := { parameters := [], returnType := none }, accessFlags := 1, code := some k0c0 }
/-- java/lang/Object -/
def k0 : Class := { plain "java/lang/Object" none with
  accessFlags := 33
  interfaces := #[]
  cf := some (fileOf pool0 8 #[] #[{ accessFlags := 1, nameIndex := 5, descriptorIndex := 6, attributes := #[] }] 33 0 #[] #[])
  fields := #[]
  methods := #[k0m0]
  instanceTypes := #[]
  staticTypes := #[]
  resolved := Array.replicate 124 none
  statics := none }

def pool1 : Array CpInfo := pool [(2, .class_ 4), (1, u "java/lang/Object"), (0, u "<init>"), (0, u "()V"), (0, .integer 2147483647), (0, .methodref 9 10), (0, .class_ 11), (0, .nameAndType 12 13), (0, u "com/example/nodex/nodex/records/DataRegionOutranksPinLaw"), (0, u "pick"), (0, u "(I)Lcom/example/nodex/nodex/records/DataRegion$Content;"), (0, .class_ 15), (0, u "com/example/nodex/nodex/records/DataRegion"), (0, .methodref 14 17), (0, .nameAndType 5 18), (0, u "([IIIIJLcom/example/nodex/nodex/records/DataRegion$Content;)V"), (0, .methodref 14 20), (0, .nameAndType 21 22), (0, u "outranks"), (0, u "(Lcom/example/nodex/nodex/records/DataRegion;)Z"), (0, .methodref 9 24), (0, .nameAndType 25 26), (0, u "expected"), (0, u "(JIJI)Z"), (0, .fieldref 28 29), (0, .class_ 30), (0, .nameAndType 31 32), (0, u "com/example/nodex/nodex/records/DataRegion$Content"), (0, u "ITEMS"), (0, u "Lcom/example/nodex/nodex/records/DataRegion$Content;"), (0, .fieldref 28 34), (0, .nameAndType 35 32), (0, u "LINKS"), (0, .fieldref 28 37), (0, .nameAndType 38 32), (0, u "FIELDS"), (2, u "law"), (0, u "(JJIII)Z")] 5

def k1m0 : Method := { name := "<init>", desc := "()V", sig := { parameters := [], returnType := none }, accessFlags := 1, code := none }
def k1c1 : Code := { maxStack := 9, maxLocals := 18, code := code, exceptionTable := #[], attributes := #[] }
def k1m1 : Method := { name := "law", desc := "(JJIII)Z", sig := { parameters := [.long, .long, .int, .int, .int], returnType := some .boolean }, accessFlags := 9, code := some k1c1 }
def k1c2 : Code := { maxStack := 4, maxLocals := 6, code := method_3_code, exceptionTable := #[], attributes := #[] }
def k1m2 : Method := { name := "expected", desc := "(JIJI)Z", sig := { parameters := [.long, .int, .long, .int], returnType := some .boolean }, accessFlags := 10, code := some k1c2 }
def k1c3 : Code := { maxStack := 2, maxLocals := 2, code := method_4_code, exceptionTable := #[], attributes := #[] }
def k1m3 : Method := { name := "pick", desc := "(I)Lcom/example/nodex/nodex/records/DataRegion$Content;", sig := { parameters := [.int], returnType := some (.object "com/example/nodex/nodex/records/DataRegion$Content") }, accessFlags := 10, code := some k1c3 }
/-- com/example/nodex/nodex/records/DataRegionOutranksPinLaw -/
def k1 : Class := { plain "com/example/nodex/nodex/records/DataRegionOutranksPinLaw" (some 0) with
  accessFlags := 49
  interfaces := #[]
  cf := some (fileOf pool1 9 #[] #[{ accessFlags := 1, nameIndex := 5, descriptorIndex := 6, attributes := #[] }, { accessFlags := 9, nameIndex := 41, descriptorIndex := 42, attributes := #[] }, { accessFlags := 10, nameIndex := 25, descriptorIndex := 26, attributes := #[] }, { accessFlags := 10, nameIndex := 12, descriptorIndex := 13, attributes := #[] }] 49 2 #[] #[])
  fields := #[]
  methods := #[k1m0, k1m1, k1m2, k1m3]
  instanceTypes := #[]
  staticTypes := #[]
  resolved := Array.replicate 48 none
  statics := none }

def pool2 : Array CpInfo := pool [(1, .class_ 2), (0, u "java/lang/constant/Constable"), (0, .class_ 4), (0, u "java/lang/Object")] 6

/-- java/lang/constant/Constable -/
def k2 : Class := { plain "java/lang/constant/Constable" (some 0) with
  accessFlags := 1537
  interfaces := #[]
  cf := some (fileOf pool2 1 #[] #[] 1537 3 #[] #[])
  fields := #[]
  methods := #[]
  instanceTypes := #[]
  staticTypes := #[]
  resolved := Array.replicate 11 none
  statics := none }

def pool3 : Array CpInfo := pool [(1, .class_ 2), (0, u "java/lang/Comparable"), (0, .class_ 4), (0, u "java/lang/Object")] 7

/-- java/lang/Comparable -/
def k3 : Class := { plain "java/lang/Comparable" (some 0) with
  accessFlags := 1537
  interfaces := #[]
  cf := some (fileOf pool3 1 #[] #[] 1537 3 #[] #[])
  fields := #[]
  methods := #[]
  instanceTypes := #[]
  staticTypes := #[]
  resolved := Array.replicate 12 none
  statics := none }

def pool4 : Array CpInfo := pool [(1, .class_ 2), (0, u "java/io/Serializable"), (0, .class_ 4), (0, u "java/lang/Object")] 2

/-- java/io/Serializable -/
def k4 : Class := { plain "java/io/Serializable" (some 0) with
  accessFlags := 1537
  interfaces := #[]
  cf := some (fileOf pool4 1 #[] #[] 1537 3 #[] #[])
  fields := #[]
  methods := #[]
  instanceTypes := #[]
  staticTypes := #[]
  resolved := Array.replicate 7 none
  statics := none }

def pool5 : Array CpInfo := pool [(2, .class_ 4), (1, u "java/lang/Enum"), (0, u "name"), (0, u "Ljava/lang/String;"), (2, u "ordinal"), (0, u "I"), (1, .class_ 14), (1, u "java/lang/Object"), (4, u "hash"), (86, .class_ 108), (1, u "java/lang/Enum$EnumDesc"), (2, .class_ 112), (0, u "java/lang/constant/Constable"), (0, .class_ 114), (0, u "java/lang/Comparable"), (0, .class_ 116), (0, u "java/io/Serializable")] 87

/-- java/lang/Enum -/
def k5 : Class := { plain "java/lang/Enum" (some 0) with
  accessFlags := 1057
  interfaces := #[2, 3, 4]
  cf := some (fileOf pool5 2 #[.nestMembers #[106]] #[] 1057 12 #[111, 113, 115] #[{ accessFlags := 18, nameIndex := 5, descriptorIndex := 6, attributes := #[] }, { accessFlags := 18, nameIndex := 9, descriptorIndex := 10, attributes := #[] }, { accessFlags := 2, nameIndex := 19, descriptorIndex := 10, attributes := #[] }])
  fields := #[{ name := "name", type := (.object "java/lang/String"), accessFlags := 18, slot := 0, constantValue := 0 }, { name := "ordinal", type := .int, accessFlags := 18, slot := 1, constantValue := 0 }, { name := "hash", type := .int, accessFlags := 2, slot := 2, constantValue := 0 }]
  methods := #[]
  instanceTypes := #[(.object "java/lang/String"), .int, .int]
  staticTypes := #[]
  resolved := Array.replicate 204 none
  statics := none }

def pool6 : Array CpInfo := pool [(1, .class_ 2), (0, u "com/example/nodex/nodex/records/DataRegion$Content"), (2, u "ITEMS"), (0, u "Lcom/example/nodex/nodex/records/DataRegion$Content;"), (2, u "LINKS"), (2, u "FIELDS"), (2, u "$VALUES"), (0, u "[Lcom/example/nodex/nodex/records/DataRegion$Content;"), (6, .class_ 25), (1, u "java/lang/Enum"), (26, .class_ 53), (0, u "com/example/nodex/nodex/records/DataRegion")] 2

/-- com/example/nodex/nodex/records/DataRegion$Content -/
def k6 : Class := { plain "com/example/nodex/nodex/records/DataRegion$Content" (some 5) with
  accessFlags := 16432
  interfaces := #[]
  cf := some (fileOf pool6 1 #[.nestHost 52] #[] 16432 23 #[] #[{ accessFlags := 16409, nameIndex := 5, descriptorIndex := 6, attributes := #[] }, { accessFlags := 16409, nameIndex := 9, descriptorIndex := 6, attributes := #[] }, { accessFlags := 16409, nameIndex := 12, descriptorIndex := 6, attributes := #[] }, { accessFlags := 4122, nameIndex := 15, descriptorIndex := 16, attributes := #[] }])
  fields := #[{ name := "ITEMS", type := (.object "com/example/nodex/nodex/records/DataRegion$Content"), accessFlags := 16409, slot := 0, constantValue := 0 }, { name := "LINKS", type := (.object "com/example/nodex/nodex/records/DataRegion$Content"), accessFlags := 16409, slot := 1, constantValue := 0 }, { name := "FIELDS", type := (.object "com/example/nodex/nodex/records/DataRegion$Content"), accessFlags := 16409, slot := 2, constantValue := 0 }, { name := "$VALUES", type := (.array (.object "com/example/nodex/nodex/records/DataRegion$Content")), accessFlags := 4122, slot := 3, constantValue := 0 }]
  methods := #[]
  instanceTypes := #[(.object "java/lang/String"), .int, .int]
  staticTypes := #[(.object "com/example/nodex/nodex/records/DataRegion$Content"), (.object "com/example/nodex/nodex/records/DataRegion$Content"), (.object "com/example/nodex/nodex/records/DataRegion$Content"), (.array (.object "com/example/nodex/nodex/records/DataRegion$Content"))]
  resolved := Array.replicate 56 none
  statics := some 0 }

def pool7 : Array CpInfo := pool [(1, .interfaceMethodref 2 3), (0, .class_ 4), (0, .nameAndType 5 6), (0, u "java/util/List"), (0, u "of"), (0, u "()Ljava/util/List;"), (0, .methodref 8 9), (0, .class_ 10), (0, .nameAndType 11 12), (0, u "com/example/nodex/nodex/records/DataRegion"), (0, u "<init>"), (0, u "([IIIILjava/util/List;IJJLcom/example/nodex/nodex/records/DataRegion$Content;)V"), (0, .methodref 14 15), (0, .class_ 16), (0, .nameAndType 11 17), (0, u "java/lang/Object"), (0, u "()V"), (0, .fieldref 8 19), (0, .nameAndType 20 21), (0, u "children"), (0, u "[I"), (0, .fieldref 8 23), (0, .nameAndType 24 25), (0, u "first"), (0, u "I"), (0, .fieldref 8 27), (0, .nameAndType 28 25), (0, u "span"), (0, .fieldref 8 30), (0, .nameAndType 31 25), (0, u "count"), (0, .fieldref 8 33), (0, .nameAndType 34 35), (0, u "parts"), (0, u "Ljava/util/List;"), (0, .fieldref 8 37), (0, .nameAndType 38 25), (0, u "recordCount"), (0, .fieldref 8 40), (0, .nameAndType 41 42), (0, u "weight"), (0, u "J"), (0, .fieldref 8 44), (0, .nameAndType 45 42), (0, u "standing"), (0, .fieldref 8 47), (0, .nameAndType 48 49), (0, u "content"), (0, u "Lcom/example/nodex/nodex/records/DataRegion$Content;"), (19, .class_ 71), (1, u "com/example/nodex/nodex/records/DataRegion$Content"), (39, u "([IIIIJLcom/example/nodex/nodex/records/DataRegion$Content;)V"), (12, u "outranks"), (0, u "(Lcom/example/nodex/nodex/records/DataRegion;)Z")] 5

def k7c0 : Code := { maxStack := 12, maxLocals := 8, code := prog_22_method_1_code, exceptionTable := #[], attributes := #[] }
def k7m0 : Method := { name := "<init>", desc := "([IIIIJLcom/example/nodex/nodex/records/DataRegion$Content;)V", sig := { parameters := [(.array .int), .int, .int, .int, .long, (.object "com/example/nodex/nodex/records/DataRegion$Content")], returnType := none }, accessFlags := 0, code := some k7c0 }
def k7c1 : Code := { maxStack := 3, maxLocals := 12, code := prog_22_method_2_code, exceptionTable := #[], attributes := #[] }
def k7m1 : Method := { name := "<init>", desc := "([IIIILjava/util/List;IJJLcom/example/nodex/nodex/records/DataRegion$Content;)V", sig := { parameters := [(.array .int), .int, .int, .int, (.object "java/util/List"), .int, .long, .long, (.object "com/example/nodex/nodex/records/DataRegion$Content")], returnType := none }, accessFlags := 2, code := some k7c1 }
def k7c2 : Code := { maxStack := 4, maxLocals := 2, code := prog_22_method_9_code, exceptionTable := #[], attributes := #[] }
def k7m2 : Method := { name := "outranks", desc := "(Lcom/example/nodex/nodex/records/DataRegion;)Z", sig := { parameters := [(.object "com/example/nodex/nodex/records/DataRegion")], returnType := some .boolean }, accessFlags := 0, code := some k7c2 }
/-- com/example/nodex/nodex/records/DataRegion -/
def k7 : Class := { plain "com/example/nodex/nodex/records/DataRegion" (some 0) with
  accessFlags := 48
  interfaces := #[]
  cf := some (fileOf pool7 8 #[.nestMembers #[69]] #[{ accessFlags := 0, nameIndex := 11, descriptorIndex := 111, attributes := #[] }, { accessFlags := 2, nameIndex := 11, descriptorIndex := 12, attributes := #[] }, { accessFlags := 0, nameIndex := 124, descriptorIndex := 125, attributes := #[] }] 48 14 #[] #[{ accessFlags := 18, nameIndex := 20, descriptorIndex := 21, attributes := #[] }, { accessFlags := 18, nameIndex := 24, descriptorIndex := 25, attributes := #[] }, { accessFlags := 18, nameIndex := 28, descriptorIndex := 25, attributes := #[] }, { accessFlags := 18, nameIndex := 31, descriptorIndex := 25, attributes := #[] }, { accessFlags := 18, nameIndex := 34, descriptorIndex := 35, attributes := #[] }, { accessFlags := 18, nameIndex := 38, descriptorIndex := 25, attributes := #[] }, { accessFlags := 18, nameIndex := 41, descriptorIndex := 42, attributes := #[] }, { accessFlags := 18, nameIndex := 45, descriptorIndex := 42, attributes := #[] }, { accessFlags := 18, nameIndex := 48, descriptorIndex := 49, attributes := #[] }])
  fields := #[{ name := "children", type := (.array .int), accessFlags := 18, slot := 0, constantValue := 0 }, { name := "first", type := .int, accessFlags := 18, slot := 1, constantValue := 0 }, { name := "span", type := .int, accessFlags := 18, slot := 2, constantValue := 0 }, { name := "count", type := .int, accessFlags := 18, slot := 3, constantValue := 0 }, { name := "parts", type := (.object "java/util/List"), accessFlags := 18, slot := 4, constantValue := 0 }, { name := "recordCount", type := .int, accessFlags := 18, slot := 5, constantValue := 0 }, { name := "weight", type := .long, accessFlags := 18, slot := 6, constantValue := 0 }, { name := "standing", type := .long, accessFlags := 18, slot := 7, constantValue := 0 }, { name := "content", type := (.object "com/example/nodex/nodex/records/DataRegion$Content"), accessFlags := 18, slot := 8, constantValue := 0 }]
  methods := #[k7m0, k7m1, k7m2]
  instanceTypes := #[(.array .int), .int, .int, .int, (.object "java/util/List"), .int, .long, .long, (.object "com/example/nodex/nodex/records/DataRegion$Content")]
  staticTypes := #[]
  resolved := Array.replicate 131 none
  statics := none }

def pool8 : Array CpInfo := pool [(8, .class_ 10), (1, u "java/lang/Iterable"), (24, .class_ 36), (0, u "java/lang/Object")] 25

/-- java/lang/Iterable -/
def k8 : Class := { plain "java/lang/Iterable" (some 0) with
  accessFlags := 1537
  interfaces := #[]
  cf := some (fileOf pool8 8 #[] #[] 1537 35 #[] #[])
  fields := #[]
  methods := #[]
  instanceTypes := #[]
  staticTypes := #[]
  resolved := Array.replicate 62 none
  statics := none }

def pool9 : Array CpInfo := pool [(10, .class_ 12), (1, u "java/util/Collection"), (47, .class_ 61), (0, u "java/lang/Object"), (0, .class_ 63), (0, u "java/lang/Iterable")] 51

/-- java/util/Collection -/
def k9 : Class := { plain "java/util/Collection" (some 0) with
  accessFlags := 1537
  interfaces := #[8]
  cf := some (fileOf pool9 10 #[] #[] 1537 60 #[62] #[])
  fields := #[]
  methods := #[]
  instanceTypes := #[]
  staticTypes := #[]
  resolved := Array.replicate 115 none
  statics := none }

def pool10 : Array CpInfo := pool [(8, .class_ 10), (1, u "java/util/SequencedCollection"), (15, .class_ 27), (0, u "java/lang/Object"), (0, .class_ 29), (0, u "java/util/Collection")] 27

/-- java/util/SequencedCollection -/
def k10 : Class := { plain "java/util/SequencedCollection" (some 0) with
  accessFlags := 1537
  interfaces := #[9]
  cf := some (fileOf pool10 8 #[] #[] 1537 26 #[28] #[])
  fields := #[]
  methods := #[]
  instanceTypes := #[]
  staticTypes := #[]
  resolved := Array.replicate 57 none
  statics := none }

def pool11 : Array CpInfo := pool [(8, .class_ 10), (1, u "java/util/List"), (77, u "of"), (1, .fieldref 91 92), (0, .class_ 93), (0, .nameAndType 94 95), (0, u "java/util/ImmutableCollections"), (0, u "EMPTY_LIST"), (0, u "Ljava/util/ImmutableCollections$ListN;"), (7, .class_ 104), (0, u "java/lang/Object"), (14, u "()Ljava/util/List;"), (0, .class_ 121), (0, u "java/util/SequencedCollection")] 129

def k11c0 : Code := { maxStack := 1, maxLocals := 0, code := jdk_40_method_36_code, exceptionTable := #[], attributes := #[] }
def k11m0 : Method := { name := "of", desc := "()Ljava/util/List;", sig := { parameters := [], returnType := some (.object "java/util/List") }, accessFlags := 9, code := some k11c0 }
/-- java/util/List -/
def k11 : Class := { plain "java/util/List" (some 0) with
  accessFlags := 1537
  interfaces := #[10]
  cf := some (fileOf pool11 8 #[] #[{ accessFlags := 9, nameIndex := 88, descriptorIndex := 119, attributes := #[] }] 1537 103 #[120] #[])
  fields := #[]
  methods := #[k11m0]
  instanceTypes := #[]
  staticTypes := #[]
  resolved := Array.replicate 251 none
  statics := none }

def pool12 : Array CpInfo := pool [(2, .class_ 4), (1, u "java/lang/Object"), (0, u "<init>"), (0, u "()V"), (3, .class_ 11), (0, u "java/util/ImmutableCollections$List12"), (0, .class_ 13), (0, u "java/util/ImmutableCollections$ListN"), (3, u "Z"), (29, .class_ 49), (1, u "java/util/ImmutableCollections"), (0, u "$assertionsDisabled"), (5, u "[Ljava/lang/Object;"), (5, u "EMPTY_LIST"), (0, u "Ljava/util/ImmutableCollections$ListN;"), (8, u "EMPTY_LIST_NULLS"), (22, u "SALT32L"), (0, u "J"), (2, u "REVERSE"), (6, u "archivedObjects"), (2, u "EMPTY"), (0, u "Ljava/lang/Object;"), (0, .class_ 112), (0, u "java/util/ImmutableCollections$SetN"), (5, u "EMPTY_SET"), (0, u "Ljava/util/ImmutableCollections$SetN;"), (0, .class_ 121), (0, u "java/util/ImmutableCollections$MapN"), (3, u "EMPTY_MAP"), (0, u "Ljava/util/ImmutableCollections$MapN;"), (4, u "EXPAND_FACTOR"), (0, u "I"), (36, .class_ 170), (0, u "java/util/ImmutableCollections$MapN$MapNIterator"), (0, .class_ 172), (0, u "java/util/ImmutableCollections$MapN$1"), (0, .class_ 174), (0, u "java/util/ImmutableCollections$Map1"), (0, .class_ 176), (0, u "java/util/ImmutableCollections$AbstractImmutableMap"), (0, .class_ 178), (0, u "java/util/ImmutableCollections$SetN$SetNIterator"), (0, .class_ 180), (0, u "java/util/ImmutableCollections$Set12"), (0, .class_ 182), (0, u "java/util/ImmutableCollections$Set12$1"), (0, .class_ 184), (0, u "java/util/ImmutableCollections$AbstractImmutableSet"), (0, .class_ 186), (0, u "java/util/ImmutableCollections$SubList"), (0, .class_ 188), (0, u "java/util/ImmutableCollections$ListItr"), (0, .class_ 190), (0, u "java/util/ImmutableCollections$AbstractImmutableList"), (0, .class_ 192), (0, u "java/util/ImmutableCollections$AbstractImmutableCollection"), (0, .class_ 194), (0, u "java/util/ImmutableCollections$Access"), (0, .class_ 196), (0, u "java/util/ImmutableCollections$Access$1")] 16

def k12m0 : Method := { name := "<init>", desc := "()V", sig := { parameters := [], returnType := none }, accessFlags := 2, code := none }
/-- java/util/ImmutableCollections -/
def k12 : Class := { plain "java/util/ImmutableCollections" (some 0) with
  accessFlags := 32
  interfaces := #[]
  cf := some (fileOf pool12 47 #[.nestMembers #[120, 169, 171, 173, 175, 111, 177, 179, 181, 183, 12, 10, 185, 187, 189, 191, 193, 195]] #[{ accessFlags := 2, nameIndex := 5, descriptorIndex := 6, attributes := #[] }] 32 2 #[] #[{ accessFlags := 26, nameIndex := 95, descriptorIndex := 96, attributes := #[] }, { accessFlags := 26, nameIndex := 99, descriptorIndex := 17, attributes := #[] }, { accessFlags := 10, nameIndex := 106, descriptorIndex := 56, attributes := #[] }, { accessFlags := 26, nameIndex := 109, descriptorIndex := 110, attributes := #[] }, { accessFlags := 24, nameIndex := 62, descriptorIndex := 63, attributes := #[] }, { accessFlags := 24, nameIndex := 72, descriptorIndex := 63, attributes := #[] }, { accessFlags := 24, nameIndex := 118, descriptorIndex := 119, attributes := #[] }, { accessFlags := 24, nameIndex := 125, descriptorIndex := 126, attributes := #[] }, { accessFlags := 24, nameIndex := 131, descriptorIndex := 132, attributes := #[] }, { accessFlags := 4120, nameIndex := 50, descriptorIndex := 17, attributes := #[] }])
  fields := #[{ name := "SALT32L", type := .long, accessFlags := 26, slot := 0, constantValue := 0 }, { name := "REVERSE", type := .boolean, accessFlags := 26, slot := 1, constantValue := 0 }, { name := "archivedObjects", type := (.array (.object "java/lang/Object")), accessFlags := 10, slot := 2, constantValue := 0 }, { name := "EMPTY", type := (.object "java/lang/Object"), accessFlags := 26, slot := 3, constantValue := 0 }, { name := "EMPTY_LIST", type := (.object "java/util/ImmutableCollections$ListN"), accessFlags := 24, slot := 4, constantValue := 0 }, { name := "EMPTY_LIST_NULLS", type := (.object "java/util/ImmutableCollections$ListN"), accessFlags := 24, slot := 5, constantValue := 0 }, { name := "EMPTY_SET", type := (.object "java/util/ImmutableCollections$SetN"), accessFlags := 24, slot := 6, constantValue := 0 }, { name := "EMPTY_MAP", type := (.object "java/util/ImmutableCollections$MapN"), accessFlags := 24, slot := 7, constantValue := 0 }, { name := "EXPAND_FACTOR", type := .int, accessFlags := 24, slot := 8, constantValue := 0 }, { name := "$assertionsDisabled", type := .boolean, accessFlags := 4120, slot := 9, constantValue := 0 }]
  methods := #[k12m0]
  instanceTypes := #[]
  staticTypes := #[.long, .boolean, (.array (.object "java/lang/Object")), (.object "java/lang/Object"), (.object "java/util/ImmutableCollections$ListN"), (.object "java/util/ImmutableCollections$ListN"), (.object "java/util/ImmutableCollections$SetN"), (.object "java/util/ImmutableCollections$MapN"), .int, .boolean]
  resolved := Array.replicate 213 none
  statics := some 1 }

def pool13 : Array CpInfo := pool [(2, .class_ 4), (1, u "java/lang/Object"), (0, u "<init>"), (0, u "()V"), (1, .class_ 10), (1, u "java/util/AbstractCollection"), (66, .class_ 78), (0, u "java/util/Collection")] 81

def k13m0 : Method := { name := "<init>", desc := "()V", sig := { parameters := [], returnType := none }, accessFlags := 4, code := none }
/-- java/util/AbstractCollection -/
def k13 : Class := { plain "java/util/AbstractCollection" (some 0) with
  accessFlags := 1057
  interfaces := #[9]
  cf := some (fileOf pool13 8 #[] #[{ accessFlags := 4, nameIndex := 5, descriptorIndex := 6, attributes := #[] }] 1057 2 #[77] #[])
  fields := #[]
  methods := #[k13m0]
  instanceTypes := #[]
  staticTypes := #[]
  resolved := Array.replicate 160 none
  statics := none }

def pool14 : Array CpInfo := pool [(2, .class_ 4), (1, u "java/util/AbstractCollection"), (0, u "<init>"), (0, u "()V"), (1, .class_ 10), (1, u "java/util/ImmutableCollections"), (2, .class_ 14), (0, u "java/util/ImmutableCollections$AbstractImmutableCollection")] 41

def k14m0 : Method := { name := "<init>", desc := "()V", sig := { parameters := [], returnType := none }, accessFlags := 0, code := none }
/-- java/util/ImmutableCollections$AbstractImmutableCollection -/
def k14 : Class := { plain "java/util/ImmutableCollections$AbstractImmutableCollection" (some 13) with
  accessFlags := 1056
  interfaces := #[]
  cf := some (fileOf pool14 13 #[.nestHost 8] #[{ accessFlags := 0, nameIndex := 5, descriptorIndex := 6, attributes := #[] }] 1056 2 #[] #[])
  fields := #[]
  methods := #[k14m0]
  instanceTypes := #[]
  staticTypes := #[]
  resolved := Array.replicate 56 none
  statics := none }

def pool15 : Array CpInfo := pool [(1, .class_ 2), (0, u "java/util/RandomAccess"), (0, .class_ 4), (0, u "java/lang/Object")] 2

/-- java/util/RandomAccess -/
def k15 : Class := { plain "java/util/RandomAccess" (some 0) with
  accessFlags := 1537
  interfaces := #[]
  cf := some (fileOf pool15 1 #[] #[] 1537 3 #[] #[])
  fields := #[]
  methods := #[]
  instanceTypes := #[]
  staticTypes := #[]
  resolved := Array.replicate 7 none
  statics := none }

def pool16 : Array CpInfo := pool [(2, .class_ 4), (1, u "java/util/ImmutableCollections$AbstractImmutableCollection"), (0, u "<init>"), (0, u "()V"), (1, .class_ 10), (1, u "java/util/ImmutableCollections"), (3, .class_ 16), (1, u "java/util/ImmutableCollections$AbstractImmutableList"), (60, .class_ 78), (0, u "java/util/List"), (45, .class_ 125), (0, u "java/util/RandomAccess")] 70

def k16m0 : Method := { name := "<init>", desc := "()V", sig := { parameters := [], returnType := none }, accessFlags := 0, code := none }
/-- java/util/ImmutableCollections$AbstractImmutableList -/
def k16 : Class := { plain "java/util/ImmutableCollections$AbstractImmutableList" (some 14) with
  accessFlags := 1056
  interfaces := #[11, 15]
  cf := some (fileOf pool16 14 #[.nestHost 8] #[{ accessFlags := 0, nameIndex := 5, descriptorIndex := 6, attributes := #[] }] 1056 2 #[77, 124] #[])
  fields := #[]
  methods := #[k16m0]
  instanceTypes := #[]
  staticTypes := #[]
  resolved := Array.replicate 196 none
  statics := none }

def pool17 : Array CpInfo := pool [(2, .class_ 4), (1, u "java/util/ImmutableCollections$AbstractImmutableList"), (3, .class_ 10), (1, u "java/util/ImmutableCollections$ListN"), (0, u "elements"), (0, u "[Ljava/lang/Object;"), (2, u "allowNulls"), (0, u "Z"), (42, .class_ 60), (0, u "java/io/Serializable"), (53, .class_ 115), (0, u "java/util/ImmutableCollections")] 3

/-- java/util/ImmutableCollections$ListN -/
def k17 : Class := { plain "java/util/ImmutableCollections$ListN" (some 16) with
  accessFlags := 48
  interfaces := #[4]
  cf := some (fileOf pool17 8 #[.nestHost 114] #[] 48 2 #[59] #[{ accessFlags := 18, nameIndex := 11, descriptorIndex := 12, attributes := #[] }, { accessFlags := 18, nameIndex := 15, descriptorIndex := 16, attributes := #[] }])
  fields := #[{ name := "elements", type := (.array (.object "java/lang/Object")), accessFlags := 18, slot := 0, constantValue := 0 }, { name := "allowNulls", type := .boolean, accessFlags := 18, slot := 1, constantValue := 0 }]
  methods := #[]
  instanceTypes := #[(.array (.object "java/lang/Object")), .boolean]
  staticTypes := #[]
  resolved := Array.replicate 119 none
  statics := none }

def pool18 : Array CpInfo := pool [(1, u "java/lang/Cloneable"), (0, .class_ 1), (0, u "java/lang/Object"), (0, .class_ 3)] 3

/-- java/lang/Cloneable -/
def k18 : Class := { plain "java/lang/Cloneable" (some 0) with
  accessFlags := 1537
  interfaces := #[]
  cf := some (fileOf pool18 2 #[] #[] 1537 4 #[] #[])
  fields := #[]
  methods := #[]
  instanceTypes := #[]
  staticTypes := #[]
  resolved := Array.replicate 8 none
  statics := none }

/-- the primitive byte -/
def k19 : Class := { plain "byte" none with kind := .primitive 'B', accessFlags := 0x411 }
/-- [B -/
def k20 : Class := { plain "[B" (some 0) with kind := .array 19 .byte, interfaces := #[18, 4], accessFlags := 1041 }

/-- the primitive int -/
def k21 : Class := { plain "int" none with kind := .primitive 'I', accessFlags := 0x411 }
/-- [I -/
def k22 : Class := { plain "[I" (some 0) with kind := .array 21 .int, interfaces := #[18, 4], accessFlags := 1041 }

/-- [Ljava/lang/Object; -/
def k23 : Class := { plain "[Ljava/lang/Object;" (some 0) with kind := .array 0 (.object "java/lang/Object"), interfaces := #[18, 4], accessFlags := 1041 }

def heap : Heap := #[{ cls := 6, slots := #[.ref 4, .ref 5, .ref 6, .null], vm := .statics 6 },
  { cls := 12, slots := #[.long 0, .int 0, .null, .null, .ref 3, .null, .null, .null, .int 0, .int 0], vm := .statics 12 },
  { cls := 23, slots := #[], vm := .none },
  { cls := 17, slots := #[.ref 2, .int 0], vm := .none },
  { cls := 6, slots := #[.null, .int 0, .int 0], vm := .none },
  { cls := 6, slots := #[.null, .int 1, .int 0], vm := .none },
  { cls := 6, slots := #[.null, .int 2, .int 0], vm := .none }]
def classes : Array Class := #[k0, k1, k2, k3, k4, k5, k6, k7, k8, k9, k10, k11, k12, k13, k14, k15, k16, k17, k18, k19, k20, k21, k22, k23]
def interned : List (Array UInt16 × Addr) := []
def slotsUsed : Nat := 25
def theMethod : MethodId := ⟨1, 1⟩
def args0 : Array Value := #[.long 5, .long 4, .int 5, .int 4, .int 0]
def aboutOver (below : List Frame) : State where
  vm := { classes := classes, interned := interned.toArray }
  heap := heap
  slotsUsed := slotsUsed
  threads := #[{ frames := .invoking theMethod args0 :: below }]
def below0 : List Frame := [.native { method := ⟨0, 0⟩, args := #[] }]
def about1 : State := aboutOver below0
def p0 : Program := .bare "" "" ""
def e0 : Env := launch0.env 0 0 0
theorem w_frames : about1.frames = Frame.invoking theMethod args0 :: below0 := rfl
set_option maxRecDepth 65536 in
theorem w_args : argsFit about1.vm theMethod args0 = true := by decide +kernel
set_option maxRecDepth 65536 in
theorem w_heap : heapFits about1 = true := by decide +kernel
set_option maxRecDepth 65536 in
theorem w_runnable : about1.curStatus? = some .runnable := by decide +kernel
set_option maxRecDepth 65536 in
theorem w_alone : about1.alone = true := by decide +kernel
set_option maxRecDepth 65536 in
theorem w_named : about1.methodNamed? x = some theMethod := by decide +kernel
set_option maxRecDepth 65536 in
theorem w_hears : about1.hears theMethod below0 = true := by decide +kernel
set_option maxRecDepth 65536 in
theorem w_ripe : about1.ripe theMethod args0 below0 = true := by decide +kernel
theorem w_running : about1.status = .running := rfl
set_option maxRecDepth 65536 in
theorem w_room : about1.hasRoom e0.platform room_1 = true :=
  launch0.hasRoom_least _ room_1 (by decide +kernel) (by decide +kernel) (by decide +kernel) (by decide +kernel) (by decide +kernel) (by decide +kernel)
theorem allAtoms_all (ts : List Jvm.Cond) (a : Array Jvm.Value) (st : Jvm.State) : (allAtoms ts).before a st = ts.all (fun c => c.before a st) := by
  induction ts with
  | nil => rfl
  | cons c t ih =>
    show (Jvm.Cond.and c (allAtoms t)).before a st = _
    rw [Jvm.Cond.before_and, ih, List.all_cons]
def words1 : List Jvm.Cond := Jvm.Cond.code x code maxLocals ret :: tables_1
/-- a 'code' word, met by the world's own term for the bytes: nothing is compared byte by byte -/
theorem code_word {y : MethodName} {bytes : ByteArray} {mx : Nat} {rt : Option FieldType} {a : Array Value} {s : State} {m : MethodId} {meth : Method} {c : Code} (h1 : s.methodNamed? y = some m) (h2 : s.vm.method? m = some meth) (h3 : meth.code = some c) (h4 : c.code = bytes)
    (h5 : (c.maxLocals == mx && c.exceptionTable.isEmpty && decide (c.maxStack ≤ mostOperands) && decide (meth.sig.returnType = rt) && !meth.locks && decide (parseMethodDescriptor y.desc = some meth.sig)) = true) : (Jvm.Cond.code y bytes mx rt).before a s = true := by
  simp only [Bool.and_eq_true, beq_iff_eq, Bool.not_eq_true', decide_eq_true_eq] at h5
  obtain ⟨⟨⟨⟨⟨g1, g2⟩, g3⟩, g4⟩, g5⟩, g6⟩ := h5
  simp [Cond.before, Cond.holds, Cond.value, h1, h2, h3, h4, g1, g2, g3, g4, g5, g6]
def isCode : Jvm.Cond → Bool
  | .code _ _ _ _ => true
  | _ => false
theorem all_split {L : List Jvm.Cond} {P : Jvm.Cond → Bool} (h1 : L.all (fun c => isCode c || P c) = true) (h2 : ∀ c ∈ L.filter isCode, P c = true) : L.all P = true := by
  refine List.all_eq_true.mpr fun c hc => ?_
  have h := List.all_eq_true.mp h1 c hc
  rcases Bool.eq_false_or_eq_true (isCode c) with hi | hi
  · exact h2 c (List.mem_filter.mpr ⟨hc, hi⟩)
  · simpa [hi] using h
set_option maxRecDepth 65536 in
theorem w_c0 : (Jvm.Cond.code x code maxLocals ret).before args0 about1 = true := code_word (m := ⟨1, 1⟩) (meth := k1m1) (c := k1c1) (by decide +kernel) rfl rfl rfl (by decide +kernel)
set_option maxRecDepth 65536 in
theorem w_c1 : (Jvm.Cond.code ({ cls := "com/example/nodex/nodex/records/DataRegionOutranksPinLaw", name := "pick", desc := "(I)Lcom/example/nodex/nodex/records/DataRegion$Content;" } : Jvm.MethodName) method_4_code (2 : Nat) (Option.some (Jvm.ClassFile.FieldType.object "com/example/nodex/nodex/records/DataRegion$Content"))).before args0 about1 = true := code_word (m := ⟨1, 3⟩) (meth := k1m3) (c := k1c3) (by decide +kernel) rfl rfl rfl (by decide +kernel)
set_option maxRecDepth 65536 in
theorem w_c2 : (Jvm.Cond.code ({ cls := "com/example/nodex/nodex/records/DataRegion", name := "<init>", desc := "([IIIIJLcom/example/nodex/nodex/records/DataRegion$Content;)V" } : Jvm.MethodName) prog_22_method_1_code (8 : Nat) (Option.none : Option Jvm.ClassFile.FieldType)).before args0 about1 = true := code_word (m := ⟨7, 0⟩) (meth := k7m0) (c := k7c0) (by decide +kernel) rfl rfl rfl (by decide +kernel)
set_option maxRecDepth 65536 in
theorem w_c3 : (Jvm.Cond.code ({ cls := "java/util/List", name := "of", desc := "()Ljava/util/List;" } : Jvm.MethodName) jdk_40_method_36_code (0 : Nat) (Option.some (Jvm.ClassFile.FieldType.object "java/util/List"))).before args0 about1 = true := code_word (m := ⟨11, 0⟩) (meth := k11m0) (c := k11c0) (by decide +kernel) rfl rfl rfl (by decide +kernel)
set_option maxRecDepth 65536 in
theorem w_c4 : (Jvm.Cond.code ({ cls := "com/example/nodex/nodex/records/DataRegion", name := "<init>", desc := "([IIIILjava/util/List;IJJLcom/example/nodex/nodex/records/DataRegion$Content;)V" } : Jvm.MethodName) prog_22_method_2_code (12 : Nat) (Option.none : Option Jvm.ClassFile.FieldType)).before args0 about1 = true := code_word (m := ⟨7, 1⟩) (meth := k7m1) (c := k7c1) (by decide +kernel) rfl rfl rfl (by decide +kernel)
set_option maxRecDepth 65536 in
theorem w_c5 : (Jvm.Cond.code ({ cls := "java/lang/Object", name := "<init>", desc := "()V" } : Jvm.MethodName) object_method_1_code (1 : Nat) (Option.none : Option Jvm.ClassFile.FieldType)).before args0 about1 = true := code_word (m := ⟨0, 0⟩) (meth := k0m0) (c := k0c0) (by decide +kernel) rfl rfl rfl (by decide +kernel)
set_option maxRecDepth 65536 in
theorem w_c6 : (Jvm.Cond.code ({ cls := "com/example/nodex/nodex/records/DataRegion", name := "outranks", desc := "(Lcom/example/nodex/nodex/records/DataRegion;)Z" } : Jvm.MethodName) prog_22_method_9_code (2 : Nat) (Option.some Jvm.ClassFile.FieldType.boolean)).before args0 about1 = true := code_word (m := ⟨7, 2⟩) (meth := k7m2) (c := k7c2) (by decide +kernel) rfl rfl rfl (by decide +kernel)
set_option maxRecDepth 65536 in
theorem w_c7 : (Jvm.Cond.code ({ cls := "com/example/nodex/nodex/records/DataRegionOutranksPinLaw", name := "expected", desc := "(JIJI)Z" } : Jvm.MethodName) method_3_code (6 : Nat) (Option.some Jvm.ClassFile.FieldType.boolean)).before args0 about1 = true := code_word (m := ⟨1, 2⟩) (meth := k1m2) (c := k1c2) (by decide +kernel) rfl rfl rfl (by decide +kernel)
def codes1 : List Jvm.Cond := [Jvm.Cond.code x code maxLocals ret, Jvm.Cond.code ({ cls := "com/example/nodex/nodex/records/DataRegionOutranksPinLaw", name := "pick", desc := "(I)Lcom/example/nodex/nodex/records/DataRegion$Content;" } : Jvm.MethodName) method_4_code (2 : Nat) (Option.some (Jvm.ClassFile.FieldType.object "com/example/nodex/nodex/records/DataRegion$Content")), Jvm.Cond.code ({ cls := "com/example/nodex/nodex/records/DataRegion", name := "<init>", desc := "([IIIIJLcom/example/nodex/nodex/records/DataRegion$Content;)V" } : Jvm.MethodName) prog_22_method_1_code (8 : Nat) (Option.none : Option Jvm.ClassFile.FieldType), Jvm.Cond.code ({ cls := "java/util/List", name := "of", desc := "()Ljava/util/List;" } : Jvm.MethodName) jdk_40_method_36_code (0 : Nat) (Option.some (Jvm.ClassFile.FieldType.object "java/util/List")), Jvm.Cond.code ({ cls := "com/example/nodex/nodex/records/DataRegion", name := "<init>", desc := "([IIIILjava/util/List;IJJLcom/example/nodex/nodex/records/DataRegion$Content;)V" } : Jvm.MethodName) prog_22_method_2_code (12 : Nat) (Option.none : Option Jvm.ClassFile.FieldType), Jvm.Cond.code ({ cls := "java/lang/Object", name := "<init>", desc := "()V" } : Jvm.MethodName) object_method_1_code (1 : Nat) (Option.none : Option Jvm.ClassFile.FieldType), Jvm.Cond.code ({ cls := "com/example/nodex/nodex/records/DataRegion", name := "outranks", desc := "(Lcom/example/nodex/nodex/records/DataRegion;)Z" } : Jvm.MethodName) prog_22_method_9_code (2 : Nat) (Option.some Jvm.ClassFile.FieldType.boolean), Jvm.Cond.code ({ cls := "com/example/nodex/nodex/records/DataRegionOutranksPinLaw", name := "expected", desc := "(JIJI)Z" } : Jvm.MethodName) method_3_code (6 : Nat) (Option.some Jvm.ClassFile.FieldType.boolean)]
set_option maxRecDepth 65536 in
theorem codes_eq : words1.filter isCode = codes1 := rfl
theorem w_codes : ∀ c ∈ words1.filter isCode, c.before args0 about1 = true := by
  rw [codes_eq]
  intro c hc
  simp only [codes1, List.mem_cons, List.not_mem_nil, or_false] at hc
  rcases hc with rfl | rfl | rfl | rfl | rfl | rfl | rfl | rfl
  · exact w_c0
  · exact w_c1
  · exact w_c2
  · exact w_c3
  · exact w_c4
  · exact w_c5
  · exact w_c6
  · exact w_c7
set_option maxRecDepth 65536 in
theorem w_t1 : (words1.take 24).all (fun c => isCode c || c.before args0 about1) = true := by decide +kernel
set_option maxRecDepth 65536 in
theorem w_t2 : ((words1.drop 24).take 24).all (fun c => isCode c || c.before args0 about1) = true := by decide +kernel
set_option maxRecDepth 65536 in
theorem w_t3 : ((words1.drop 24).drop 24).all (fun c => isCode c || c.before args0 about1) = true := by decide +kernel
theorem w_tables : (allAtoms (Jvm.Cond.code x code maxLocals ret :: tables_1)).before args0 about1 = true := by
  rw [allAtoms_all]
  show words1.all (fun c => c.before args0 about1) = true
  refine all_split ?_ w_codes
  rw [← List.take_append_drop 24 words1, List.all_append, w_t1, ← List.take_append_drop 24 (words1.drop 24), List.all_append, w_t2, w_t3]
  rfl
set_option maxRecDepth 65536 in
theorem w_rest : rest_1_c.before args0 about1 = true := by decide +kernel
set_option maxRecDepth 65536 in
theorem w_case : (Jvm.Cond.and given_1 narrow_1).before args0 about1 = true := by decide +kernel
theorem w_applies : (headSpec (Jvm.Cond.code x code maxLocals ret :: tables_1) room_1).applies x e0.platform about1 = true :=
  (Spec.applies_iff w_frames).mpr ⟨w_running, w_runnable, w_alone, w_named, w_hears, w_ripe, w_room, w_tables⟩
theorem atStart : AtStart classFile x code maxLocals ret World_1 tables_1 room_1 Calls_1 rest_1 Pre_1 launch0 p0 e0 about1 theMethod args0 below0 :=
  ⟨lists_1, trivial, launch0.admits_env _ _ _, launch0.least_env, fairChoices_fair.cas, fairChoices_fair.clock, w_frames, w_args, w_heap, w_applies, trivial, w_rest, w_case⟩
end start1
theorem witness_1 : WitnessClaimed_1 := ⟨start1.p0, start1.e0, start1.about1, start1.theMethod, start1.args0, start1.below0, start1.atStart⟩
end Jvm.Pilot.@@N@@
